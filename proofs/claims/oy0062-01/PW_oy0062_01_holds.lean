import PyProof.Rows.All
import Wide.All
import OpenK.AllK
import Wide.FinOn
import PySem.Challenge.RW_oy0062_01
set_option Elab.async false
set_option linter.all false
section
open PySem PyProof.Rows
namespace Mine

inductive AV where
  | none
  | bool (b : Bool)
  | int (i : Int)
  | str (s : Str)
  | bytes (b : Array UInt8)
  | type (n : String)
  | tup (vs : List AV)
  | lst (vs : List AV)
  | ref (a : Addr)
  | rdr (w : Str)
  | sset (w : Str)
  | cch (w : Str)
  | scr (ns : List Int)
  | rng (ns : List Int)

abbrev PM := Addr → Option Obj
abbrev CM := Addr → Option Str
abbrev Mut := Addr → Option (List AV)

structure Cfg where
  prog : Program
  w : World
  B : Heap

def ignoreCls : Addr := 137

/-- a set of one word -/
def SetOne (c : Cfg) (o : Obj) (wd : Str) : Prop :=
  ∃ (u : Tok) (ep : Nat) (t : SetTable), o = { cls := .type "set", dict := none, data := .set #[((PySem.strKind c.prog c.w).hash wd, .str wd u)] ep t } ∧ t.fits 1 = true ∧ t.led = !c.w.params.followText "set-order"

/-- a reader's objects: the object, its dict, the set of its one word, its empty list, its cache -/
def RdrAt (c : Cfg) (P : PM) (C : CM) (a : Addr) (wd : Str) : Prop :=
  ∃ (ox od os : Obj) (d m l g : Addr) (mA : Str → Option Value) (h : Heap) (nl : Nat),
    P a = some ox ∧ h.get? a = some ox ∧ ox.dict = some d ∧ P d = some od ∧ h.get? d = some od ∧ h.Inst a ignoreCls mA ∧
    mA "_mods" = some (.ref m) ∧ mA "_dirs" = some (.ref l) ∧ mA "_ignore" = some (.ref g) ∧ mA "names" = Option.none ∧
    P m = some os ∧ SetOne c os wd ∧ P l = some { cls := .type "list", data := .seq #[] nl } ∧ C g = some wd

mutual
inductive Rel (c : Cfg) (P : PM) (C : CM) : AV → Value → Prop
  | none : Rel c P C .none .none
  | bool {b : Bool} : Rel c P C (.bool b) (.bool b)
  | int {i : Int} {t : Tok} : Rel c P C (.int i) (.int i t)
  | str {s : Str} {t : Tok} : Rel c P C (.str s) (.str s t)
  | bytes {b : Array UInt8} {t : Tok} : Rel c P C (.bytes b) (.bytes b t)
  | type {n : String} : Rel c P C (.type n) (.type n)
  | ref {a : Addr} : Rel c P C (.ref a) (.ref a)
  | tup {a : Addr} {its : List Value} {n : Nat} {vs : List AV} : P a = some { cls := .type "tuple", data := .seq its.toArray n } → RelL c P C vs its → Rel c P C (.tup vs) (.ref a)
  | lst {a : Addr} {its : List Value} {n : Nat} {vs : List AV} : P a = some { cls := .type "list", data := .seq its.toArray n } → RelL c P C vs its → Rel c P C (.lst vs) (.ref a)
  | rdr {a : Addr} {wd : Str} : RdrAt c P C a wd → Rel c P C (.rdr wd) (.ref a)
  | sset {a : Addr} {o : Obj} {wd : Str} : P a = some o → SetOne c o wd → Rel c P C (.sset wd) (.ref a)
  | cch {a : Addr} {wd : Str} : C a = some wd → Rel c P C (.cch wd) (.ref a)
  | scr {a : Addr} {o : Obj} {its : List Value} {n : Nat} {ns : List Int} : P a = some o → o.cls = .type "list" → o.data = .seq its.toArray n → IntsAre its ns → Rel c P C (.scr ns) (.ref a)
  | rng {a : Addr} {x y z : Int} {t u v : Tok} {ns : List Int} : P a = some { cls := .type "range", data := .fields #[.int x t, .int y u, .int z v] } → Builtin.Range.small x y z = true →
      ns = (List.range (Builtin.Range.rangeSize x y z).toNat).map (fun k : Nat => x + z * (k : Int)) → Rel c P C (.rng ns) (.ref a)
inductive RelL (c : Cfg) (P : PM) (C : CM) : List AV → List Value → Prop
  | nil : RelL c P C [] []
  | cons {v : AV} {x : Value} {vs : List AV} {xs : List Value} : Rel c P C v x → RelL c P C vs xs → RelL c P C (v :: vs) (x :: xs)
end

def LeP (P P' : PM) : Prop := ∀ a o, P a = some o → P' a = some o
def LeC (C C' : CM) : Prop := ∀ a w, C a = some w → C' a = some w
theorem LeP.rfl {P : PM} : LeP P P := fun _ _ h => h
theorem LeC.rfl {C : CM} : LeC C C := fun _ _ h => h
theorem LeP.trans {P P' P'' : PM} (x : LeP P P') (y : LeP P' P'') : LeP P P'' := fun a o h => y a o (x a o h)
theorem LeC.trans {P P' P'' : CM} (x : LeC P P') (y : LeC P' P'') : LeC P P'' := fun a o h => y a o (x a o h)

section
variable {c : Cfg}
theorem RdrAt.mono {P P' : PM} {C C' : CM} {a : Addr} {wd : Str} (hP : LeP P P') (hC : LeC C C') (x : RdrAt c P C a wd) : RdrAt c P' C' a wd := by
  obtain ⟨ox, od, os, d, m, l, g, mA, h, nl, x1, x2, x3, x4, x5, x6, x7, x8, x9, x10, x11, x12, x13, x14⟩ := x
  exact ⟨ox, od, os, d, m, l, g, mA, h, nl, hP _ _ x1, x2, x3, hP _ _ x4, x5, x6, x7, x8, x9, x10, hP _ _ x11, x12, hP _ _ x13, hC _ _ x14⟩
mutual
theorem Rel.mono {P P' : PM} {C C' : CM} (hP : LeP P P') (hC : LeC C C') : ∀ {v : AV} {x : Value}, Rel c P C v x → Rel c P' C' v x
  | _, _, .none => .none
  | _, _, .bool => .bool
  | _, _, .int => .int
  | _, _, .str => .str
  | _, _, .bytes => .bytes
  | _, _, .type => .type
  | _, _, .ref => .ref
  | _, _, .tup h1 h4 => .tup (hP _ _ h1) (RelL.mono hP hC h4)
  | _, _, .lst h1 h4 => .lst (hP _ _ h1) (RelL.mono hP hC h4)
  | _, _, .rdr h => .rdr (h.mono hP hC)
  | _, _, .sset h1 h2 => .sset (hP _ _ h1) h2
  | _, _, .cch h => .cch (hC _ _ h)
  | _, _, .scr h1 h2 h3 h4 => .scr (hP _ _ h1) h2 h3 h4
  | _, _, .rng h1 h2 h3 => .rng (hP _ _ h1) h2 h3
theorem RelL.mono {P P' : PM} {C C' : CM} (hP : LeP P P') (hC : LeC C C') : ∀ {v : List AV} {x : List Value}, RelL c P C v x → RelL c P' C' v x
  | _, _, .nil => .nil
  | _, _, .cons h1 h2 => .cons (Rel.mono hP hC h1) (RelL.mono hP hC h2)
end
theorem RelL.length {P : PM} {C : CM} : ∀ {v : List AV} {x : List Value}, RelL c P C v x → v.length = x.length
  | _, _, .nil => rfl
  | _, _, .cons _ h => by simp [h.length]
theorem RelL.append {P : PM} {C : CM} : ∀ {v v' : List AV} {x x' : List Value}, RelL c P C v x → RelL c P C v' x' → RelL c P C (v ++ v') (x ++ x')
  | _, _, _, _, .nil, h => h
  | _, _, _, _, .cons a b, h => .cons a (b.append h)
theorem RelL.get {P : PM} {C : CM} : ∀ {vs : List AV} {xs : List Value}, RelL c P C vs xs → ∀ {i : Nat} {v : AV}, vs[i]? = some v → ∃ x, xs[i]? = some x ∧ Rel c P C v x
  | _, _, .nil, _, _, h => by simp at h
  | _, _, .cons a b, 0, _, h => by simp at h; subst h; exact ⟨_, rfl, a⟩
  | _, _, .cons a b, i + 1, _, h => by simp at h; simpa using b.get h
theorem RelL.take {P : PM} {C : CM} : ∀ {vs : List AV} {xs : List Value}, RelL c P C vs xs → ∀ n, RelL c P C (vs.take n) (xs.take n)
  | _, _, .nil, _ => by simpa using RelL.nil
  | _, _, .cons a b, 0 => by simpa using RelL.nil
  | _, _, .cons a b, n + 1 => by simpa using RelL.cons a (b.take n)
theorem RelL.drop {P : PM} {C : CM} : ∀ {vs : List AV} {xs : List Value}, RelL c P C vs xs → ∀ n, RelL c P C (vs.drop n) (xs.drop n)
  | _, _, .nil, _ => by simpa using RelL.nil
  | _, _, .cons a b, 0 => by simpa using RelL.cons a b
  | _, _, .cons a b, n + 1 => by simpa using b.drop n
theorem RelL.set {P : PM} {C : CM} : ∀ {vs : List AV} {xs : List Value}, RelL c P C vs xs → ∀ {i : Nat} {v : AV} {x : Value}, Rel c P C v x → RelL c P C (vs.set i v) (xs.set i x)
  | _, _, .nil, _, _, _, _ => by simpa using RelL.nil
  | _, _, .cons a b, 0, _, _, h => by simpa using RelL.cons h b
  | _, _, .cons a b, i + 1, _, _, h => by simpa using RelL.cons a (b.set h)
theorem RelL.ints {P : PM} {C : CM} : ∀ {ns : List Int} {xs : List Value}, IntsAre xs ns → RelL c P C (ns.map AV.int) xs
  | _, _, .nil => .nil
  | _, _, .cons _ _ h => .cons .int (RelL.ints h)
theorem RelL.toInts {P : PM} {C : CM} : ∀ {ns : List Int} {xs : List Value}, RelL c P C (ns.map AV.int) xs → IntsAre xs ns
  | [], _, h => by cases h; exact .nil
  | n :: ns, _, h => by cases h with | cons a b => cases a; exact .cons _ _ b.toInts
end
end Mine
namespace Mine
/-! the ghost state, its tie to the heap, the steps -/
def sT (s : String) : Str := Str.ofString s
def letT : Nat → Str
  | 0 => Str.ofString ".a"
  | 1 => Str.ofString ".aa"
  | _ => Str.ofString ".b"
def catT : List Str → Str
  | [] => Str.mk #[]
  | x :: r => x ++ catT r
def nameT (l : List Nat) : Str := Str.ofString "o" ++ catT (l.map letT)
def allL : Nat → List (List Nat)
  | 0 => [[]]
  | n + 1 => (allL n).flatMap fun l => [0 :: l, 1 :: l, 2 :: l]
def texts5 : List Str := (allL 5).map nameT
def ansB (wd k : Str) : Bool := decide (k = wd) || (wd ++ Str.ofString ".").cps.toList.isPrefixOf k.cps.toList

def CacheAt (c : Cfg) (h : Heap) (g : Addr) (wd : Str) : Prop :=
  (g == sysModules) = false ∧ ∃ kvs : List (Str × Value), h.DictOf (PySem.strKind c.prog c.w) g kvs ∧ ∀ p ∈ kvs, p.1 = Str.ofString "<string>" ∨ (p.1 ∈ texts5 ∧ ∃ t, p.2 = .int (if ansB wd p.1 then 1 else 0) t)

structure Inv (c : Cfg) (P : PM) (C : CM) (σ : Mut) (h : Heap) : Prop where
  bs : ∀ a o, c.B.get? a = some o → P a = some o
  per : ∀ a o, P a = some o → h.get? a = some o
  cch : ∀ a wd, C a = some wd → CacheAt c h a wd
  own : ∀ a vs, σ a = some vs → ∃ its : List Value, h.PlainList a its.toArray ∧ RelL c P C vs its
  dPC : ∀ a o, P a = some o → C a = none ∧ σ a = none
  dC : ∀ a wd, C a = some wd → σ a = none

structure Step (X : Addr → Prop) (P : PM) (C : CM) (σ : Mut) (s : Shared) (P' : PM) (C' : CM) (σ' : Mut) (s' : Shared) : Prop where
  pm : LeP P P'
  cm : LeC C C'
  frn : ∀ b o, s.heap.get? b = some o → ¬ X b → P b = none → C b = none → σ b = none → s'.heap.get? b = some o ∧ P' b = none ∧ C' b = none ∧ σ' b = none
  lv : ∀ b o, s.heap.get? b = some o → ¬ X b → ∃ o', s'.heap.get? b = some o'
  gens : s'.gens = s.gens
  drawn : s'.drawn = s.drawn
  os : s'.os = s.os

def no : Addr → Prop := fun _ => False

theorem Step.rfl {X : Addr → Prop} {P : PM} {C : CM} {σ : Mut} {s : Shared} : Step X P C σ s P C σ s := ⟨.rfl, .rfl, fun _ _ h _ h1 h2 h3 => ⟨h, h1, h2, h3⟩, fun _ o h _ => ⟨o, h⟩, .refl _, .refl _, .refl _⟩
theorem Step.trans {X : Addr → Prop} {P P1 P2 : PM} {C C1 C2 : CM} {σ σ1 σ2 : Mut} {s s1 s2 : Shared} (x : Step X P C σ s P1 C1 σ1 s1) (y : Step X P1 C1 σ1 s1 P2 C2 σ2 s2) : Step X P C σ s P2 C2 σ2 s2 :=
  ⟨x.pm.trans y.pm, x.cm.trans y.cm, fun b o h hx h1 h2 h3 => let ⟨g, g1, g2, g3⟩ := x.frn b o h hx h1 h2 h3; y.frn b o g hx g1 g2 g3, fun b o h hx => let ⟨o', h'⟩ := x.lv b o h hx; y.lv b o' h' hx, y.gens.trans x.gens, y.drawn.trans x.drawn, y.os.trans x.os⟩
theorem Step.wide {X Y : Addr → Prop} {P P1 : PM} {C C1 : CM} {σ σ1 : Mut} {s s1 : Shared} (x : Step X P C σ s P1 C1 σ1 s1) (h : ∀ b, X b → Y b) : Step Y P C σ s P1 C1 σ1 s1 :=
  ⟨x.pm, x.cm, fun b o g hx => x.frn b o g fun q => hx (h b q), fun b o g hx => x.lv b o g fun q => hx (h b q), x.gens, x.drawn, x.os⟩
theorem Step.wide0 {Y : Addr → Prop} {P P1 : PM} {C C1 : CM} {σ σ1 : Mut} {s s1 : Shared} (x : Step no P C σ s P1 C1 σ1 s1) : Step Y P C σ s P1 C1 σ1 s1 := x.wide fun _ h => h.elim
theorem Step.tok {X : Addr → Prop} {P : PM} {C : CM} {σ : Mut} {s : Shared} (t : Nat) : Step X P C σ s P C σ { s with toks := t } := ⟨.rfl, .rfl, fun _ _ h _ h1 h2 h3 => ⟨h, h1, h2, h3⟩, fun _ o h _ => ⟨o, h⟩, .refl _, .refl _, .refl _⟩

structure Room (A : Around) (n : Nat) : Prop where
  dep : A.depth + n < recursionLimit
  uni : A.units + 20 * n + 100 < cLine
  han : A.handled = none
theorem Room.le {A : Around} {n k : Nat} (x : Room A n) (h : k ≤ n) : Room A k := ⟨by have := x.dep; omega, by have := x.uni; omega, x.han⟩
theorem Room.deeper {A : Around} {n : Nat} {env : Env} (x : Room A (n + 1)) : Room (A.deeper env) n := ⟨by have := x.dep; show A.depth + 1 + n < _; omega, by have := x.uni; show A.units + 3 + _ + _ < _; omega, x.han⟩
theorem Room.depth {A : Around} {n : Nat} (x : Room A n) : A.depth < recursionLimit := by have := x.dep; omega
theorem Room.units {A : Around} {n : Nat} (x : Room A n) : A.units + 100 < cLine := by have := x.uni; omega

abbrev Vars := List (Str × AV)

def VarAt (env : Env) (h : Heap) (x : Str) (v : Value) : Prop :=
  (env.kindOf x = some .local ∧ ∃ m, h.Ns env.locals m ∧ m x = some v) ∨ (env.kindOf x = some .cell ∧ ∃ c, env.cells.lookup x = some c ∧ h.IsCell c (some v))

structure Fm (c : Cfg) (env : Env) (V : Vars) (P : PM) (C : CM) (σ : Mut) (h : Heap) : Prop where
  kind : env.scope.kind = .function
  var : ∀ x v, V.lookup x = some v → ∃ y, Rel c P C v y ∧ VarAt env h x y
  ns : ∃ m, h.Ns env.locals m
  cells : ∀ x k, env.cells.lookup x = some k → ∃ v, h.IsCell k v
  fL : P env.locals = none ∧ C env.locals = none ∧ σ env.locals = none
  fc : ∀ x k, env.cells.lookup x = some k → P k = none ∧ C k = none ∧ σ k = none ∧ k ≠ env.locals
  ap : ∀ x y k, env.cells.lookup x = some k → env.cells.lookup y = some k → x = y
  glb : env.globals = mainGlobals
  blt : env.builtins = builtinsNs

/-- the addresses of one's own frame -/
def ownF (env : Env) : Addr → Prop := fun b => b = env.locals ∨ ∃ x, env.cells.lookup x = some b

def onlyL (env : Env) : Addr → Prop := fun b => b = env.locals

inductive Fl where
  | next | brk | cont
  | ret (v : AV)
inductive RelF (c : Cfg) (P : PM) (C : CM) : Fl → Flow → Prop
  | next : RelF c P C .next .next
  | brk : RelF c P C .brk .brk
  | cont : RelF c P C .cont .cont
  | ret {v : AV} {x : Value} : Rel c P C v x → RelF c P C (.ret v) (.ret x)

/-- a value's end -/
def PostV (c : Cfg) (P : PM) (C : CM) (σ : Mut) (s : Shared) (Φ : AV → Mut → Prop) (Q : Value → Shared → Prop) : Prop :=
  ∀ P' C' σ' v x s', Step no P C σ s P' C' σ' s' → Inv c P' C' σ' s'.heap → Rel c P' C' v x → Φ v σ' → Q x s'
def PostE (c : Cfg) (env : Env) (V : Vars) (P : PM) (C : CM) (σ : Mut) (s : Shared) (Φ : AV → Mut → Prop) (Q : Value → Shared → Prop) : Prop :=
  ∀ P' C' σ' v x s', Step (onlyL env) P C σ s P' C' σ' s' → Inv c P' C' σ' s'.heap → Fm c env V P' C' σ' s'.heap → Rel c P' C' v x → Φ v σ' → Q x s'
def PostB (c : Cfg) (env : Env) (V : Vars) (P : PM) (C : CM) (σ : Mut) (s : Shared) (Φ : Bool → Mut → Prop) (Q : Bool → Shared → Prop) : Prop :=
  ∀ P' C' σ' b s', Step (onlyL env) P C σ s P' C' σ' s' → Inv c P' C' σ' s'.heap → Fm c env V P' C' σ' s'.heap → Φ b σ' → Q b s'
def PostL (c : Cfg) (env : Env) (V : Vars) (P : PM) (C : CM) (σ : Mut) (s : Shared) (Φ : List AV → Mut → Prop) (Q : List Value → Shared → Prop) : Prop :=
  ∀ P' C' σ' v x s', Step (onlyL env) P C σ s P' C' σ' s' → Inv c P' C' σ' s'.heap → Fm c env V P' C' σ' s'.heap → RelL c P' C' v x → Φ v σ' → Q x s'
def PostF (c : Cfg) (env : Env) (P : PM) (C : CM) (σ : Mut) (s : Shared) (Φ : Fl → Vars → Mut → Prop) (Q : Flow → Shared → Prop) : Prop :=
  ∀ P' C' σ' V' f x s', Step (ownF env) P C σ s P' C' σ' s' → Inv c P' C' σ' s'.heap → Fm c env V' P' C' σ' s'.heap → RelF c P' C' f x → Φ f V' σ' → Q x s'
def PostU (c : Cfg) (env : Env) (P : PM) (C : CM) (σ : Mut) (s : Shared) (Φ : Vars → Mut → Prop) (Q : Unit → Shared → Prop) : Prop :=
  ∀ P' C' σ' V' s', Step (ownF env) P C σ s P' C' σ' s' → Inv c P' C' σ' s'.heap → Fm c env V' P' C' σ' s'.heap → Φ V' σ' → Q () s'

def TX (c : Cfg) (n : Nat) (env : Env) (V : Vars) (σ : Mut) (t : Sem Value) (Φ : AV → Mut → Prop) : Prop :=
  ∀ A, Room A n → ∀ P C s Q E, Inv c P C σ s.heap → Fm c env V P C σ s.heap → PostE c env V P C σ s Φ Q → wpAny (model c.prog c.w) A t Q E s
abbrev EX (c : Cfg) (n : Nat) (env : Env) (V : Vars) (σ : Mut) (e : Expr) (Φ : AV → Mut → Prop) : Prop := TX c n env V σ (eval e env) Φ
def BX (c : Cfg) (n : Nat) (env : Env) (V : Vars) (σ : Mut) (t : Sem Bool) (Φ : Bool → Mut → Prop) : Prop :=
  ∀ A, Room A n → ∀ P C s Q E, Inv c P C σ s.heap → Fm c env V P C σ s.heap → PostB c env V P C σ s Φ Q → wpAny (model c.prog c.w) A t Q E s
def LX (c : Cfg) (n : Nat) (env : Env) (V : Vars) (σ : Mut) (t : Sem (List Value)) (Φ : List AV → Mut → Prop) : Prop :=
  ∀ A, Room A n → ∀ P C s Q E, Inv c P C σ s.heap → Fm c env V P C σ s.heap → PostL c env V P C σ s Φ Q → wpAny (model c.prog c.w) A t Q E s
def FX (c : Cfg) (n : Nat) (env : Env) (V : Vars) (σ : Mut) (t : Sem Flow) (Φ : Fl → Vars → Mut → Prop) : Prop :=
  ∀ A, Room A n → ∀ P C s Q E, Inv c P C σ s.heap → Fm c env V P C σ s.heap → PostF c env P C σ s Φ Q → wpAny (model c.prog c.w) A t Q E s
/-- an operation upon values -/
def OX (c : Cfg) (n : Nat) (as : List AV) (σ : Mut) (f : List Value → Sem Value) (Φ : AV → Mut → Prop) : Prop :=
  ∀ A, Room A n → ∀ P C s xs Q E, Inv c P C σ s.heap → RelL c P C as xs → PostV c P C σ s Φ Q → wpAny (model c.prog c.w) A (f xs) Q E s
def UX (c : Cfg) (n : Nat) (env : Env) (V : Vars) (σ : Mut) (as : List AV) (f : List Value → Sem Unit) (Φ : Vars → Mut → Prop) : Prop :=
  ∀ A, Room A n → ∀ P C s xs Q E, Inv c P C σ s.heap → Fm c env V P C σ s.heap → RelL c P C as xs → PostU c env P C σ s Φ Q → wpAny (model c.prog c.w) A (f xs) Q E s

section
variable {c : Cfg} {P P' : PM} {C C' : CM} {σ σ' : Mut} {s s' : Shared} {env : Env} {V : Vars}
theorem PostV.after {Φ : AV → Mut → Prop} {Q : Value → Shared → Prop} (h : PostV c P C σ s Φ Q) (st : Step no P C σ s P' C' σ' s') : PostV c P' C' σ' s' Φ Q :=
  fun P2 C2 σ2 v x s2 st2 I r f => h P2 C2 σ2 v x s2 (st.trans st2) I r f
theorem PostE.after {Φ : AV → Mut → Prop} {Q : Value → Shared → Prop} (h : PostE c env V P C σ s Φ Q) (st : Step (onlyL env) P C σ s P' C' σ' s') : PostE c env V P' C' σ' s' Φ Q :=
  fun P2 C2 σ2 v x s2 st2 I F r f => h P2 C2 σ2 v x s2 (st.trans st2) I F r f
theorem PostB.after {Φ : Bool → Mut → Prop} {Q : Bool → Shared → Prop} (h : PostB c env V P C σ s Φ Q) (st : Step (onlyL env) P C σ s P' C' σ' s') : PostB c env V P' C' σ' s' Φ Q :=
  fun P2 C2 σ2 b s2 st2 I F f => h P2 C2 σ2 b s2 (st.trans st2) I F f
theorem PostL.after {Φ : List AV → Mut → Prop} {Q : List Value → Shared → Prop} (h : PostL c env V P C σ s Φ Q) (st : Step (onlyL env) P C σ s P' C' σ' s') : PostL c env V P' C' σ' s' Φ Q :=
  fun P2 C2 σ2 v x s2 st2 I F r f => h P2 C2 σ2 v x s2 (st.trans st2) I F r f
theorem Step.own {P P' : PM} {C C' : CM} {σ σ' : Mut} {s s' : Shared} {env : Env} (x : Step (onlyL env) P C σ s P' C' σ' s') : Step (ownF env) P C σ s P' C' σ' s' := x.wide fun _ e => .inl e
theorem PostF.after {Φ : Fl → Vars → Mut → Prop} {Q : Flow → Shared → Prop} (h : PostF c env P C σ s Φ Q) (st : Step (ownF env) P C σ s P' C' σ' s') : PostF c env P' C' σ' s' Φ Q :=
  fun P2 C2 σ2 v x f s2 st2 I r f => h P2 C2 σ2 v x _ s2 (st.trans st2) I r f
theorem PostU.after {Φ : Vars → Mut → Prop} {Q : Unit → Shared → Prop} (h : PostU c env P C σ s Φ Q) (st : Step (ownF env) P C σ s P' C' σ' s') : PostU c env P' C' σ' s' Φ Q :=
  fun P2 C2 σ2 v s2 st2 I r f => h P2 C2 σ2 v s2 (st.trans st2) I r f

theorem Ns.of_obj {h h' : Heap} {a : Addr} {m : Str → Option Value} (x : h.Ns a m) (k : ∀ o, h.get? a = some o → h'.get? a = some o) : h'.Ns a m := by
  obtain ⟨o, es, ep, ho, r⟩ := x
  exact ⟨o, es, ep, k o ho, r⟩
theorem IsCell.of_obj {h h' : Heap} {a : Addr} {v : Option Value} (x : h.IsCell a v) (k : ∀ o, h.get? a = some o → h'.get? a = some o) : h'.IsCell a v := by
  obtain ⟨o, ho, r⟩ := x
  exact ⟨o, k o ho, r⟩
theorem Fm.step (F : Fm c env V P C σ s.heap) (st : Step no P C σ s P' C' σ' s') : Fm c env V P' C' σ' s'.heap := by
  obtain ⟨m, oL, es, ep, hL, hr⟩ := F.ns
  have kL := st.frn _ _ hL (fun h => h) F.fL.1 F.fL.2.1 F.fL.2.2
  have kL' : ∀ o, s.heap.get? env.locals = some o → s'.heap.get? env.locals = some o := fun o ho => (st.frn _ _ ho (fun h => h) F.fL.1 F.fL.2.1 F.fL.2.2).1
  have kc : ∀ x k, env.cells.lookup x = some k → ∀ o, s.heap.get? k = some o → s'.heap.get? k = some o := fun x k hk o ho => (st.frn _ _ ho (fun h => h) (F.fc x k hk).1 (F.fc x k hk).2.1 (F.fc x k hk).2.2.1).1
  refine ⟨F.kind, fun x v hv => ?_, ⟨m, Ns.of_obj ⟨oL, es, ep, hL, hr⟩ kL'⟩, fun x k hk => ?_, kL.2, fun x k hk => ?_, F.ap, F.glb, F.blt⟩
  · obtain ⟨y, hy, hva⟩ := F.var x v hv
    refine ⟨y, hy.mono st.pm st.cm, ?_⟩
    rcases hva with ⟨h1, m, hm, hx⟩ | ⟨h1, k, hk, hc⟩
    · exact .inl ⟨h1, m, Ns.of_obj hm kL', hx⟩
    · exact .inr ⟨h1, k, hk, IsCell.of_obj hc (kc x k hk)⟩
  · obtain ⟨v, hv⟩ := F.cells x k hk
    exact ⟨v, IsCell.of_obj hv (kc x k hk)⟩
  · obtain ⟨v, o, ho, _⟩ := F.cells x k hk
    have q := st.frn _ _ ho (fun h => h) (F.fc x k hk).1 (F.fc x k hk).2.1 (F.fc x k hk).2.2.1
    exact ⟨q.2.1, q.2.2.1, q.2.2.2, (F.fc x k hk).2.2.2⟩
theorem PostE.ofV {Φ : AV → Mut → Prop} {Q : Value → Shared → Prop} (h : PostE c env V P C σ s Φ Q) (F : Fm c env V P C σ s.heap) : PostV c P C σ s Φ Q :=
  fun P2 C2 σ2 v x s2 st2 I r f => h P2 C2 σ2 v x s2 st2.wide0 I (F.step st2) r f
theorem Fm.sub {V' : Vars} (F : Fm c env V P C σ s.heap) (h : ∀ p ∈ V', V.lookup p.1 = some p.2) : Fm c env V' P C σ s.heap :=
  { F with var := fun x v hv => F.var x v (h (x, v) (mem_of_lookup hv)) }
end
end Mine
end
section
open PySem PyProof.Rows
namespace Mine
def upd {α : Type} (f : Addr → Option α) (a : Addr) (v : α) : Addr → Option α := fun b => if b = a then some v else f b
def del {α : Type} (f : Addr → Option α) (a : Addr) : Addr → Option α := fun b => if b = a then none else f b
theorem upd_self {α : Type} {f : Addr → Option α} {a : Addr} {v : α} : upd f a v a = some v := if_pos rfl
theorem upd_ne {α : Type} {f : Addr → Option α} {a b : Addr} {v : α} (h : b ≠ a) : upd f a v b = f b := if_neg h
theorem del_self {α : Type} {f : Addr → Option α} {a : Addr} : del f a a = none := if_pos rfl
theorem del_ne {α : Type} {f : Addr → Option α} {a b : Addr} (h : b ≠ a) : del f a b = f b := if_neg h
theorem upd_upd {α : Type} {f : Addr → Option α} {a : Addr} {u v : α} : upd (upd f a u) a v = upd f a v := by
  funext b; unfold upd; split <;> rfl
theorem del_upd {α : Type} {f : Addr → Option α} {a : Addr} {u : α} (h : f a = none) : del (upd f a u) a = f := by
  funext b; unfold del upd; split
  · rename_i e; rw [e, h]
  · rfl

section
variable {c : Cfg} {P P' : PM} {C C' : CM} {σ σ' : Mut} {s s' : Shared} {env : Env} {V : Vars}

theorem Inv.freshP (I : Inv c P C σ s.heap) : P s.heap.objs.size = none := by
  cases h : P s.heap.objs.size with
  | none => rfl
  | some o => exact absurd (Heap.lt_size (I.per _ _ h)) (Nat.lt_irrefl _)
theorem CacheAt.lt {h : Heap} {g : Addr} {wd : Str} (x : CacheAt c h g wd) : g < h.objs.size := by
  obtain ⟨_, _, ⟨o, _, _, ho, _⟩, _⟩ := x
  exact Heap.lt_size ho
theorem Inv.freshC (I : Inv c P C σ s.heap) : C s.heap.objs.size = none := by
  cases h : C s.heap.objs.size with
  | none => rfl
  | some o => exact absurd (I.cch _ _ h).lt (Nat.lt_irrefl _)
theorem Inv.freshS (I : Inv c P C σ s.heap) : σ s.heap.objs.size = none := by
  cases h : σ s.heap.objs.size with
  | none => rfl
  | some vs =>
    obtain ⟨its, ⟨k, ho⟩, _⟩ := I.own _ _ h
    exact absurd (Heap.lt_size ho) (Nat.lt_irrefl _)
theorem CacheAt.of_obj {h h' : Heap} {g : Addr} {wd : Str} (x : CacheAt c h g wd) (k : ∀ o, h.get? g = some o → h'.get? g = some o) : CacheAt c h' g wd := by
  obtain ⟨g1, kvs, ⟨o, es, ep, ho, r⟩, q⟩ := x
  exact ⟨g1, kvs, ⟨o, es, ep, k o ho, r⟩, q⟩
theorem IsList.of_obj {h h' : Heap} {a : Addr} {its : Array Value} (x : h.IsList a its) (k : ∀ o, h.get? a = some o → h'.get? a = some o) : h'.IsList a its := by
  obtain ⟨o, ho, r⟩ := x
  exact ⟨o, k o ho, r⟩
/-- another heap that keeps all that is told -/
theorem Inv.keeps (I : Inv c P C σ s.heap) {h' : Heap} (k : ∀ b o, s.heap.get? b = some o → (P b ≠ none ∨ C b ≠ none ∨ σ b ≠ none) → h'.get? b = some o) : Inv c P C σ h' where
  bs := I.bs
  per := fun a o h => k a o (I.per a o h) (.inl (by rw [h]; exact nofun))
  cch := fun a wd h => (I.cch a wd h).of_obj fun o ho => k a o ho (.inr (.inl (by rw [h]; exact nofun)))
  own := fun a vs h => let ⟨its, hl, hr⟩ := I.own a vs h; ⟨its, hl.at fun o ho => k a o ho (.inr (.inr (by rw [h]; exact nofun))), hr⟩
  dPC := I.dPC
  dC := I.dC
/-- a new object that is not told -/
theorem Inv.push (I : Inv c P C σ s.heap) (o : Obj) : Inv c P C σ (s.heap.push o) := I.keeps fun _ _ h _ => Heap.get?_push_of_some _ h
theorem Step.push {X : Addr → Prop} (o : Obj) : Step X P C σ s P C σ { s with heap := s.heap.push o } := ⟨.rfl, .rfl, fun _ _ h _ h1 h2 h3 => ⟨Heap.get?_push_of_some _ h, h1, h2, h3⟩, fun _ o h _ => ⟨o, Heap.get?_push_of_some _ h⟩, .refl _, .refl _, .refl _⟩
/-- a foreign object turned -/
theorem Inv.turn (I : Inv c P C σ s.heap) {a : Addr} {h' : Heap} (hs : Heap.SameBut a s.heap h') (h1 : P a = none) (h2 : C a = none) (h3 : σ a = none) : Inv c P C σ h' :=
  I.keeps fun b o hb q => (hs.2 b (fun e => by subst e; rcases q with q | q | q <;> contradiction)).trans hb
theorem Step.turn {X : Addr → Prop} {a : Addr} {h' : Heap} {tk : Nat} (hs : Heap.SameBut a s.heap h') (hX : X a) : Step X P C σ s P C σ { s with heap := h', toks := tk } :=
  ⟨.rfl, .rfl, fun b _ h hx h1 h2 h3 => ⟨(hs.2 b (fun e => hx (e ▸ hX))).trans h, h1, h2, h3⟩, fun b o h hx => ⟨o, (hs.2 b (fun e => hx (e ▸ hX))).trans h⟩, .refl _, .refl _, .refl _⟩

/-- a new frozen object -/
theorem Inv.alloc (I : Inv c P C σ s.heap) (o : Obj) (hf : o.isFreed = false) : Inv c (upd P s.heap.objs.size o) C σ (s.heap.push o) where
  bs := fun a x h => (upd_ne (fun e => by have := I.bs a x h; rw [e, I.freshP] at this; cases this)).trans (I.bs a x h)
  per := fun a x h => by
    by_cases e : a = s.heap.objs.size
    · subst e; rw [upd_self] at h; cases h; exact Heap.get?_push_size _ hf
    · rw [upd_ne e] at h; exact Heap.get?_push_of_some _ (I.per a x h)
  cch := fun a wd h => (I.cch a wd h).of_obj fun o ho => Heap.get?_push_of_some _ ho
  own := fun a vs h => let ⟨its, hl, hr⟩ := I.own a vs h
    ⟨its, hl.at fun o ho => Heap.get?_push_of_some _ ho, hr.mono (fun b x hb => (upd_ne (fun e => by rw [e, I.freshP] at hb; cases hb)).trans hb) .rfl⟩
  dPC := fun a x h => by
    by_cases e : a = s.heap.objs.size
    · subst e; exact ⟨I.freshC, I.freshS⟩
    · rw [upd_ne e] at h; exact I.dPC a x h
  dC := I.dC
theorem Step.alloc (I : Inv c P C σ s.heap) (o : Obj) : Step no P C σ s (upd P s.heap.objs.size o) C σ { s with heap := s.heap.push o } :=
  ⟨fun b x hb => (upd_ne (fun e => by rw [e, I.freshP] at hb; cases hb)).trans hb, .rfl,
    fun b x h _ h1 h2 h3 => ⟨Heap.get?_push_of_some _ h, (upd_ne (Nat.ne_of_lt (Heap.lt_size h))).trans h1, h2, h3⟩, fun _ o h _ => ⟨o, Heap.get?_push_of_some _ h⟩, .refl _, .refl _, .refl _⟩
/-- a new owned list -/
theorem Inv.allocOwn (I : Inv c P C σ s.heap) {its : List Value} {vs : List AV} (hr : RelL c P C vs its) : Inv c P C (upd σ s.heap.objs.size vs) (s.heap.push { cls := .type "list", data := .seq its.toArray }) where
  bs := I.bs
  per := fun a x h => Heap.get?_push_of_some _ (I.per a x h)
  cch := fun a wd h => (I.cch a wd h).of_obj fun o ho => Heap.get?_push_of_some _ ho
  own := fun a vs' h => by
    by_cases e : a = s.heap.objs.size
    · subst e; rw [upd_self] at h; cases h
      exact ⟨its, ⟨0, Heap.get?_push_size _ rfl⟩, hr⟩
    · rw [upd_ne e] at h
      obtain ⟨its', hl, hr'⟩ := I.own a vs' h
      exact ⟨its', hl.at fun o ho => Heap.get?_push_of_some _ ho, hr'⟩
  dPC := fun a x h => ⟨(I.dPC a x h).1, (upd_ne (fun e => by rw [e, I.freshP] at h; cases h)).trans (I.dPC a x h).2⟩
  dC := fun a x h => (upd_ne (fun e => by rw [e, I.freshC] at h; cases h)).trans (I.dC a x h)
theorem Step.allocOwn (I : Inv c P C σ s.heap) (o : Obj) (vs : List AV) : Step no P C σ s P C (upd σ s.heap.objs.size vs) { s with heap := s.heap.push o } :=
  ⟨.rfl, .rfl, fun b x h _ h1 h2 h3 => ⟨Heap.get?_push_of_some _ h, h1, h2, (upd_ne (Nat.ne_of_lt (Heap.lt_size h))).trans h3⟩, fun _ o h _ => ⟨o, Heap.get?_push_of_some _ h⟩, .refl _, .refl _, .refl _⟩
/-- an owned list turned -/
theorem Inv.turnOwn (I : Inv c P C σ s.heap) {a : Addr} {vs vs' : List AV} {its' : List Value} {h' : Heap} (ho : σ a = some vs) (hs : Heap.SameBut a s.heap h') (hl : h'.PlainList a its'.toArray) (hr : RelL c P C vs' its') :
    Inv c P C (upd σ a vs') h' where
  bs := I.bs
  per := fun b x h => (hs.2 b (fun e => by have := (I.dPC b x h).2; rw [e, ho] at this; cases this)).trans (I.per b x h)
  cch := fun b wd h => (I.cch b wd h).of_obj fun o q => (hs.2 b (fun e => by have := I.dC b wd h; rw [e, ho] at this; cases this)).trans q
  own := fun b vs₁ h => by
    by_cases e : b = a
    · subst e; rw [upd_self] at h; cases h; exact ⟨its', hl, hr⟩
    · rw [upd_ne e] at h
      obtain ⟨its₁, hl₁, hr₁⟩ := I.own b vs₁ h
      exact ⟨its₁, hl₁.at fun o q => (hs.2 b e).trans q, hr₁⟩
  dPC := fun b x h => ⟨(I.dPC b x h).1, (upd_ne (fun e => by have := (I.dPC b x h).2; rw [e, ho] at this; cases this)).trans (I.dPC b x h).2⟩
  dC := fun b x h => (upd_ne (fun e => by have := I.dC b x h; rw [e, ho] at this; cases this)).trans (I.dC b x h)
theorem Step.turnOwn {X : Addr → Prop} {a : Addr} {vs vs' : List AV} {h' : Heap} {tk : Nat} (ho : σ a = some vs) (hs : Heap.SameBut a s.heap h') (ha : ∃ o, h'.get? a = some o) : Step X P C σ s P C (upd σ a vs') { s with heap := h', toks := tk } :=
  ⟨.rfl, .rfl, fun b x h _ h1 h2 h3 => have e : b ≠ a := fun e => by rw [e, ho] at h3; cases h3
    ⟨(hs.2 b e).trans h, h1, h2, (upd_ne e).trans h3⟩, fun b o h _ => if e : b = a then e ▸ ha else ⟨o, (hs.2 b e).trans h⟩, .refl _, .refl _, .refl _⟩
/-- an owned list frozen -/
theorem Inv.freeze (I : Inv c P C σ s.heap) {a : Addr} {vs : List AV} (ho : σ a = some vs) : ∃ o, Inv c (upd P a o) C (del σ a) s.heap ∧ Step no P C σ s (upd P a o) C (del σ a) s ∧ Rel c (upd P a o) C (.lst vs) (.ref a) := by
  obtain ⟨its, ⟨n, hh⟩, hr⟩ := I.own a vs ho
  generalize hg : ({ cls := .type "list", data := .seq its.toArray n } : Obj) = o at hh
  have hP : P a = none := by
    cases h : P a with
    | none => rfl
    | some x => have := (I.dPC a x h).2; rw [ho] at this; cases this
  have hC : C a = none := by
    cases h : C a with
    | none => rfl
    | some x => have := I.dC a x h; rw [ho] at this; cases this
  have hle : LeP P (upd P a o) := fun b x hb => (upd_ne (fun e => by rw [e, hP] at hb; cases hb)).trans hb
  refine ⟨o, ⟨fun b x h => hle b x (I.bs b x h), fun b x h => ?_, I.cch, fun b vs' h => ?_, fun b x h => ?_, fun b x h => ?_⟩, ⟨hle, .rfl, fun b x h _ h1 h2 h3 => ?_, fun _ o h _ => ⟨o, h⟩, .refl _, .refl _, .refl _⟩, .lst (n := n) (upd_self.trans (by rw [hg])) (hr.mono hle .rfl)⟩
  · by_cases e : b = a
    · subst e; rw [upd_self] at h; cases h; exact hh
    · rw [upd_ne e] at h; exact I.per b x h
  · by_cases e : b = a
    · subst e; rw [del_self] at h; cases h
    · rw [del_ne e] at h
      obtain ⟨its₁, hl₁, hr₁⟩ := I.own b vs' h
      exact ⟨its₁, hl₁, hr₁.mono hle .rfl⟩
  · by_cases e : b = a
    · subst e; exact ⟨hC, del_self⟩
    · rw [upd_ne e] at h; rw [del_ne e]; exact I.dPC b x h
  · by_cases e : b = a
    · subst e; exact del_self
    · rw [del_ne e]; exact I.dC b x h
  · have e : b ≠ a := fun e => by rw [e, ho] at h3; cases h3
    exact ⟨h, (upd_ne e).trans h1, h2, (del_ne e).trans h3⟩
/-- owned lists let go -/
theorem Inv.drop (I : Inv c P C σ s.heap) (h : ∀ a vs, σ' a = some vs → σ a = some vs) : Inv c P C σ' s.heap where
  bs := I.bs
  per := I.per
  cch := I.cch
  own := fun a vs q => I.own a vs (h a vs q)
  dPC := fun a x q => ⟨(I.dPC a x q).1, by
    cases e : σ' a with
    | none => rfl
    | some vs => have := (I.dPC a x q).2; rw [h a vs e] at this; cases this⟩
  dC := fun a x q => by
    cases e : σ' a with
    | none => rfl
    | some vs => have := I.dC a x q; rw [h a vs e] at this; cases this

/-! expressions -/
variable {n : Nat} {Φ : AV → Mut → Prop}
theorem TX.mono {t : Sem Value} {Φ' : AV → Mut → Prop} (h : TX c n env V σ t Φ) (k : ∀ v σ', Φ v σ' → Φ' v σ') : TX c n env V σ t Φ' :=
  fun A R P C s Q E I F q => h A R P C s Q E I F fun P' C' σ' v x s' st I' F' r f => q P' C' σ' v x s' st I' F' r (k v σ' f)
theorem TX.le {t : Sem Value} {k : Nat} (h : TX c k env V σ t Φ) (e : k ≤ n) : TX c n env V σ t Φ := fun A R => h A (R.le e)
/-- what ends at once with a plain value -/
theorem TX.pureTok {t : Sem Value} {v : AV} {f : Shared → Value} {k : Nat} (hf : ∀ s A Q E, Q (f s) { s with toks := s.toks + k } → wpAny (model c.prog c.w) A t Q E s) (hr : ∀ P C s, Rel c P C v (f s)) (h : Φ v σ) : TX c n env V σ t Φ :=
  fun A _ P C s Q E I F q => hf s A Q E (q P C σ v _ _ (.tok _) I F (hr P C s) h)
theorem EX_int {i : Int} {k : Nat} {pos : Pos} (h : Φ (.int i) σ) : EX c n env V σ (.Constant (.int i) k pos) Φ := TX.pureTok (k := 1) (fun _ _ _ _ q => wpAny_Constant_int q) (fun _ _ _ => .int) h
theorem EX_str {x : Str} {k : Nat} {pos : Pos} (h : Φ (.str x) σ) : EX c n env V σ (.Constant (.str x) k pos) Φ := TX.pureTok (k := 1) (fun _ _ _ _ q => wpAny_Constant_str q) (fun _ _ _ => .str) h
theorem EX_none {k : Nat} {pos : Pos} (h : Φ .none σ) : EX c n env V σ (.Constant .none k pos) Φ := TX.pureTok (k := 0) (fun _ _ _ _ q => wpAny_Constant_none q) (fun _ _ _ => .none) h
theorem EX_bool {b : Bool} {k : Nat} {pos : Pos} (h : Φ (.bool b) σ) : EX c n env V σ (.Constant (.bool b) k pos) Φ := TX.pureTok (k := 0) (fun _ _ _ _ q => wpAny_Constant_bool q) (fun _ _ _ => .bool) h

theorem loadVar {A : Around} {x : Str} {y : Value} {Q : Value → Shared → Prop} {E : Value → Shared → Prop} (F : Fm c env V P C σ s.heap) (hv : VarAt env s.heap x y) (h : Q y s) : wpAny (model c.prog c.w) A (loadName env x) Q E s := by
  rcases hv with ⟨h1, m, hm, hx⟩ | ⟨h1, k, hk, hc⟩
  · exact wpAny_loadName_local F.kind h1 hm hx h
  · exact wpAny_loadName_cell F.kind h1 hk hc h
theorem EX_var {x : Str} {pos : Pos} {v : AV} (hv : V.lookup x = some v) (h : Φ v σ) (hd : (x == ("__debug__" : Str)) = false := by rfl) : EX c n env V σ (.Name x pos) Φ :=
  fun A _ P C s Q E I F q => let ⟨y, hy, ha⟩ := F.var x v hv
    wpAny_Name (loadVar F ha (q P C σ v y s .rfl I F hy h)) hd
/-- a name read whose list is frozen by that -/
theorem EX_varF {x : Str} {pos : Pos} {a : Addr} {vs : List AV} (hv : V.lookup x = some (.ref a)) (ho : σ a = some vs) (h : Φ (.lst vs) (del σ a)) (hd : (x == ("__debug__" : Str)) = false := by rfl) : EX c n env V σ (.Name x pos) Φ :=
  fun A _ P C s Q E I F q => let ⟨y, hy, ha⟩ := F.var x _ hv
    let ⟨o, I', st, r⟩ := I.freeze ho
    wpAny_Name (loadVar F ha (q.ofV F _ C _ _ y s st I' (by cases hy; exact r) h)) hd
theorem EX_BinOp {l r : Expr} {op : Operator} {pos : Pos} (h : EX c n env V σ l fun a σ1 => EX c n env V σ1 r fun b σ2 => OX c n [a, b] σ2 (fun xs => binaryOp op (xs.getD 0 .none) (xs.getD 1 .none)) Φ) : EX c n env V σ (.BinOp l op r pos) Φ :=
  fun A R P C s Q E I F q => wpAny_BinOp (h A R P C s _ E I F fun P1 C1 σ1 a x s1 st1 I1 F1 ra h1 => h1 A R P1 C1 s1 _ E I1 F1 fun P2 C2 σ2 b y s2 st2 I2 F2 rb h2 =>
    h2 A R P2 C2 s2 [x, y] Q E I2 (.cons (ra.mono st2.pm st2.cm) (.cons rb .nil)) ((q.after (st1.trans st2)).ofV F2))
theorem EX_Compare {l r : Expr} {op : CmpOp} {pos : Pos} (h : EX c n env V σ l fun a σ1 => EX c n env V σ1 r fun b σ2 => OX c n [a, b] σ2 (fun xs => compareOp op (xs.getD 0 .none) (xs.getD 1 .none)) Φ)
    (hm : behindInMarks op r = false := by with_unfolding_all rfl) : EX c n env V σ (.Compare l [op] [r] pos) Φ :=
  fun A R P C s Q E I F q => wpAny_Compare1 (h A R P C s _ E I F fun P1 C1 σ1 a x s1 st1 I1 F1 ra h1 => h1 A R P1 C1 s1 _ E I1 F1 fun P2 C2 σ2 b y s2 st2 I2 F2 rb h2 =>
    h2 A R P2 C2 s2 [x, y] Q E I2 (.cons (ra.mono st2.pm st2.cm) (.cons rb .nil)) ((q.after (st1.trans st2)).ofV F2)) hm
theorem EX_UnaryOp {l : Expr} {op : UnaryOp} {pos : Pos} (h : EX c n env V σ l fun a σ1 => OX c n [a] σ1 (fun xs => unaryOp op (xs.getD 0 .none)) Φ) : EX c n env V σ (.UnaryOp op l pos) Φ :=
  fun A R P C s Q E I F q => wpAny_UnaryOp (h A R P C s _ E I F fun P1 C1 σ1 a x s1 st1 I1 F1 ra h1 => h1 A R P1 C1 s1 [x] Q E I1 (.cons ra .nil) ((q.after st1).ofV F1))
theorem EX_IfExp {t a b : Expr} {pos : Pos} (h : BX c n env V σ (isTrue t env (eval t env)) fun k σ1 => if k then EX c n env V σ1 a Φ else EX c n env V σ1 b Φ) : EX c n env V σ (.IfExp t a b pos) Φ :=
  fun A R P C s Q E I F q => wpAny_IfExp (h A R P C s _ E I F fun P1 C1 σ1 k s1 st1 I1 F1 h1 => by
    cases k with
    | true => exact h1 A R P1 C1 s1 Q E I1 F1 (q.after st1)
    | false => exact h1 A R P1 C1 s1 Q E I1 F1 (q.after st1))
end
end Mine
end
section
open PySem PyProof.Rows
namespace Mine
section
variable {c : Cfg} {P P' : PM} {C C' : CM} {σ σ' : Mut} {s s' : Shared} {env : Env} {V : Vars} {n : Nat}

/-! tests -/
inductive Truth : AV → Bool → Prop
  | bool {b : Bool} : Truth (.bool b) b
  | none : Truth .none false
  | lst {vs : List AV} : vs.length < 100000 → Truth (.lst vs) (!vs.isEmpty)
theorem truth_wp {A : Around} {v : AV} {x : Value} {b : Bool} {Q : Bool → Shared → Prop} {E : Value → Shared → Prop} (I : Inv c P C σ s.heap) (r : Rel c P C v x) (t : Truth v b) (h : ∀ tk, Q b { s with toks := tk }) : wpAny (model c.prog c.w) A (truthy x) Q E s := by
  cases t with
  | bool => cases r; exact wpAny_truthy_bool (h s.toks)
  | none => cases r; exact fun _ _ _ => h s.toks
  | lst hlen => cases r with
    | lst h1 h4 =>
      rename_i vs a its k
      have e : (!vs.isEmpty) = (!its.toArray.isEmpty) := by
        have := h4.length
        cases vs <;> cases its <;> simp_all
      rw [e] at h
      have hl : s.heap.IsList a its.toArray := ⟨_, I.per _ _ h1, rfl, k, rfl⟩
      have hz : its.length < 100000 := h4.length ▸ hlen
      have hz' : (its.toArray.size : Int) < 2 ^ 63 := by simp; omega
      refine wpAny_truthy_list hl ?_ ?_
      · simpa using hz'
      · exact h _
variable {Ψ : Bool → Mut → Prop}
theorem BX_Compare {l r : Expr} {op : CmpOp} {pos : Pos} {whole : Sem Value} (h : EX c n env V σ l fun a σ1 => EX c n env V σ1 r fun b σ2 => OX c n [a, b] σ2 (fun xs => compareOp op (xs.getD 0 .none) (xs.getD 1 .none)) fun v σ3 => ∃ k, v = .bool k ∧ Ψ k σ3)
    (hm : behindInMarks op r = false := by with_unfolding_all rfl) : BX c n env V σ (isTrue (.Compare l [op] [r] pos) env whole) Ψ :=
  fun A R P C s Q E I F q => wpAny_isTrue_Compare1 (h A R P C s _ E I F fun P1 C1 σ1 a x s1 st1 I1 F1 ra h1 => h1 A R P1 C1 s1 _ E I1 F1 fun P2 C2 σ2 b y s2 st2 I2 F2 rb h2 =>
    h2 A R P2 C2 s2 [x, y] _ E I2 (.cons (ra.mono st2.pm st2.cm) (.cons rb .nil)) fun P3 C3 σ3 v z s3 st3 I3 rz ⟨k, e, hk⟩ => by
      subst e; cases rz
      exact wpAny_truthy_bool (q P3 C3 σ3 k s3 ((st1.trans st2).trans st3.wide0) I3 (F2.step st3) hk)) hm
theorem BX_value {e : Expr} {whole : Sem Value} (h : TX c n env V σ whole fun v σ1 => ∃ b, Truth v b ∧ Ψ b σ1) (he : isTrue e env whole = (do let v ← whole; standAt e.pos; holding [v] (truthy v)) := by rfl) : BX c n env V σ (isTrue e env whole) Ψ :=
  fun A R P C s Q E I F q => wpAny_isTrue_value (h A R P C s _ E I F fun P1 C1 σ1 a x s1 st1 I1 F1 ra ⟨b, t, hb⟩ => truth_wp I1 ra t fun tk => q P1 C1 σ1 b _ (st1.trans (.tok tk)) I1 F1 hb) he
theorem BX_Not {x : Expr} {pos : Pos} {whole : Sem Value} (h : BX c n env V σ (isTrue x env (eval x env)) fun b σ1 => Ψ (!b) σ1) : BX c n env V σ (isTrue (.UnaryOp .Not x pos) env whole) Ψ :=
  fun A R P C s Q E I F q => wpAny_isTrue_Not (h A R P C s _ E I F fun P1 C1 σ1 b s1 st1 I1 F1 hb => q P1 C1 σ1 _ s1 st1 I1 F1 hb)
theorem BX_And2 {x y : Expr} {pos : Pos} {whole : Sem Value} (h : BX c n env V σ (isTrue x env (eval x env)) fun b σ1 => if b then BX c n env V σ1 (isTrue y env (eval y env)) Ψ else Ψ false σ1) : BX c n env V σ (isTrue (.BoolOp .And [x, y] pos) env whole) Ψ :=
  fun A R P C s Q E I F q => wpAny_isTrue_BoolOp (wpAny_allTrue_And_cons (h A R P C s _ E I F fun P1 C1 σ1 b s1 st1 I1 F1 hb => by
    cases b with
    | false => exact q P1 C1 σ1 _ s1 st1 I1 F1 hb
    | true => exact wpAny_allTrue_And_cons (hb A R P1 C1 s1 _ E I1 F1 fun P2 C2 σ2 b s2 st2 I2 F2 hb => by
      cases b with
      | false => exact q P2 C2 σ2 _ s2 (st1.trans st2) I2 F2 hb
      | true => exact wpAny_allTrue_And_nil (q P2 C2 σ2 _ s2 (st1.trans st2) I2 F2 hb))))
/-- «or» of several: the first that is so ends it -/
def AnyX (c : Cfg) (n : Nat) (env : Env) (V : Vars) (Ψ : Bool → Mut → Prop) : List Expr → Mut → Prop
  | [], σ => Ψ false σ
  | x :: r, σ => BX c n env V σ (isTrue x env (eval x env)) fun b σ1 => if b then Ψ true σ1 else AnyX c n env V Ψ r σ1
theorem anyX_wp {A : Around} (R : Room A n) : ∀ (l : List Expr) {P C σ s Q E}, AnyX c n env V Ψ l σ → Inv c P C σ s.heap → Fm c env V P C σ s.heap → PostB c env V P C σ s Ψ Q → wpAny (model c.prog c.w) A (allTrue .Or l env) Q E s
  | [], P, C, σ, s, Q, E, h, I, F, q => wpAny_allTrue_Or_nil (q P C σ _ s .rfl I F h)
  | x :: r, P, C, σ, s, Q, E, h, I, F, q => wpAny_allTrue_Or_cons (h A R P C s _ E I F fun P1 C1 σ1 b s1 st1 I1 F1 hb => by
    cases b with
    | true => exact q P1 C1 σ1 _ s1 st1 I1 F1 hb
    | false => exact anyX_wp R r hb I1 F1 (q.after st1))
theorem BX_Or {l : List Expr} {pos : Pos} {whole : Sem Value} (h : AnyX c n env V Ψ l σ) : BX c n env V σ (isTrue (.BoolOp .Or l pos) env whole) Ψ :=
  fun A R P C s Q E I F q => wpAny_isTrue_BoolOp (anyX_wp R l h I F q)

/-! stores -/
theorem ns_uniq {h : Heap} {a : Addr} {m m' : Str → Option Value} (x : h.Ns a m) (y : h.Ns a m') : m = m' := by
  obtain ⟨o, es, ep, ho, hd, _, hm⟩ := x
  obtain ⟨o', es', ep', ho', hd', _, hm'⟩ := y
  rw [ho] at ho'; cases ho'
  rw [hd] at hd'; cases hd'
  funext k
  rw [← hm, ← hm']
def storable (env : Env) (x : Str) : Bool := match env.kindOf x with
  | some .local => true
  | some .cell => (env.cells.lookup x).isSome
  | _ => false
theorem storeVarL {A : Around} {x : Str} {v : AV} {y : Value} {Q : Unit → Shared → Prop} {E : Value → Shared → Prop} (I : Inv c P C σ s.heap) (F : Fm c env V P C σ s.heap) (r : Rel c P C v y) (hl : env.kindOf x = some .local)
    (h : ∀ s', Step (fun b => b = env.locals) P C σ s P C σ s' → Inv c P C σ s'.heap → Fm c env ((x, v) :: V) P C σ s'.heap → Q () s') : wpAny (model c.prog c.w) A (storeName env x y) Q E s := by
  obtain ⟨m, hn⟩ := F.ns
  refine wpAny_storeName_local hl hn (fun h' hn' hs => h _ (.turn hs rfl) (I.turn hs F.fL.1 F.fL.2.1 F.fL.2.2) ⟨F.kind, fun x' v' hv => ?_, ⟨_, hn'⟩, fun x' k hk => ?_, F.fL, F.fc, F.ap, F.glb, F.blt⟩) (by rw [F.kind]; rfl)
  · rw [List.lookup_cons] at hv
    by_cases e : x' = x
    · subst e
      rw [beq_self_eq_true] at hv; cases hv
      exact ⟨y, r, .inl ⟨hl, _, hn', if_pos rfl⟩⟩
    · rw [beq_eq_false_iff_ne.mpr e] at hv
      obtain ⟨y', r', hva⟩ := F.var x' v' hv
      refine ⟨y', r', ?_⟩
      rcases hva with ⟨h1, m', hm', hx'⟩ | ⟨h1, k, hk, hc⟩
      · rw [ns_uniq hm' hn] at hx'
        exact .inl ⟨h1, _, hn', (if_neg e).trans hx'⟩
      · exact .inr ⟨h1, k, hk, hc.sameBut hs (F.fc _ _ hk).2.2.2⟩
  · obtain ⟨v', hv'⟩ := F.cells x' k hk
    exact ⟨v', hv'.sameBut hs (F.fc _ _ hk).2.2.2⟩
theorem storeVar {A : Around} {x : Str} {v : AV} {y : Value} {Q : Unit → Shared → Prop} {E : Value → Shared → Prop} (I : Inv c P C σ s.heap) (F : Fm c env V P C σ s.heap) (r : Rel c P C v y) (hk : storable env x = true)
    (h : ∀ s', Step (ownF env) P C σ s P C σ s' → Inv c P C σ s'.heap → Fm c env ((x, v) :: V) P C σ s'.heap → Q () s') : wpAny (model c.prog c.w) A (storeName env x y) Q E s := by
  unfold storable at hk
  split at hk
  · rename_i hl
    exact storeVarL I F r hl fun s' st I' F' => h s' (st.wide fun b e => .inl e) I' F'
  · rename_i hl
    obtain ⟨k, hck⟩ := Option.isSome_iff_exists.mp hk
    have hm := hck
    obtain ⟨v₀, hv₀⟩ := F.cells x k hm
    refine wpAny_storeName_cell F.kind hl hck hv₀ (fun h' hc' hs => h _ (.turn hs (.inr ⟨x, hm⟩)) (I.turn hs (F.fc _ _ hm).1 (F.fc _ _ hm).2.1 (F.fc _ _ hm).2.2.1) ⟨F.kind, fun x' v' hv => ?_, ?_, fun x' k' hk' => ?_, F.fL, F.fc, F.ap, F.glb, F.blt⟩)
    · rw [List.lookup_cons] at hv
      by_cases e : x' = x
      · subst e
        rw [beq_self_eq_true] at hv; cases hv
        exact ⟨y, r, .inr ⟨hl, k, hck, hc'⟩⟩
      · rw [beq_eq_false_iff_ne.mpr e] at hv
        obtain ⟨y', r', hva⟩ := F.var x' v' hv
        refine ⟨y', r', ?_⟩
        rcases hva with ⟨h1, m', hm', hx'⟩ | ⟨h1, k', hk', hc⟩
        · exact .inl ⟨h1, m', hm'.sameBut hs (Ne.symm (F.fc _ _ hm).2.2.2), hx'⟩
        · refine .inr ⟨h1, k', hk', hc.sameBut hs fun q => e ?_⟩
          subst q
          exact F.ap _ _ _ hk' hm
    · obtain ⟨m, hn⟩ := F.ns
      exact ⟨m, hn.sameBut hs (Ne.symm (F.fc _ _ hm).2.2.2)⟩
    · by_cases e : k' = k
      · subst e; exact ⟨_, hc'⟩
      · obtain ⟨v', hv'⟩ := F.cells x' k' hk'
        exact ⟨v', hv'.sameBut hs e⟩
  · cases hk

/-! statements -/
variable {Θ : Fl → Vars → Mut → Prop}
theorem FX.mono {t : Sem Flow} {Θ' : Fl → Vars → Mut → Prop} (h : FX c n env V σ t Θ) (k : ∀ f V' σ', Θ f V' σ' → Θ' f V' σ') : FX c n env V σ t Θ' :=
  fun A R P C s Q E I F q => h A R P C s Q E I F fun P' C' σ' V' f x s' st I' F' r t => q P' C' σ' V' f x s' st I' F' r (k f V' σ' t)
theorem FX.sub {t : Sem Flow} {V' : Vars} (h : FX c n env V' σ t Θ) (k : ∀ p ∈ V', V.lookup p.1 = some p.2) : FX c n env V σ t Θ :=
  fun A R P C s Q E I F q => h A R P C s Q E I (F.sub k) q
theorem FX_nil (h : Θ .next V σ) : FX c n env V σ (execs [] env) Θ := fun A R P C s Q E I F q => wpAny_execs_nil (q P C σ V _ _ s .rfl I F .next h)
/-- what goes on behind a statement -/
def Then (c : Cfg) (n : Nat) (env : Env) (rest : List Stmt) (Θ : Fl → Vars → Mut → Prop) (f : Fl) (V : Vars) (σ : Mut) : Prop := match f with
  | .next => FX c n env V σ (execs rest env) Θ
  | f => Θ f V σ
theorem FX_cons {st : Stmt} {rest : List Stmt} (h : FX c n env V σ (exec st env) (Then c n env rest Θ)) : FX c n env V σ (execs (st :: rest) env) Θ :=
  fun A R P C s Q E I F q => wpAny_execs_cons (h A R P C s _ E I F fun P1 C1 σ1 V1 f x s1 st1 I1 F1 r h1 => by
    cases r with
    | next => exact h1 A R P1 C1 s1 Q E I1 F1 (q.after st1)
    | brk => exact q P1 C1 σ1 V1 _ _ s1 st1 I1 F1 .brk h1
    | cont => exact q P1 C1 σ1 V1 _ _ s1 st1 I1 F1 .cont h1
    | ret r => exact q P1 C1 σ1 V1 _ _ s1 st1 I1 F1 (.ret r) h1)
theorem FX_Assign {x : Str} {p pos : Pos} {e : Expr} (h : EX c n env V σ e fun v σ1 => Θ .next ((x, v) :: V) σ1) (hk : storable env x = true := by rfl) (hs : swapsWith e (some (.Name x p)) pos.line env = pure false := by rfl) : FX c n env V σ (exec (.Assign [.Name x p] e pos) env) Θ :=
  fun A R P C s Q E I F q => wpAny_Assign_Name (h A R P C s _ E I F fun P1 C1 σ1 v y s1 st1 I1 F1 ry h1 => storeVar I1 F1 ry hk fun s2 st2 I2 F2 => q P1 C1 σ1 _ _ _ s2 (st1.own.trans st2) I2 F2 .next h1) hs
theorem FX_If {t : Expr} {a b : List Stmt} {pos : Pos} (h : BX c n env V σ (isTrue t env (eval t env)) fun k σ1 => if k then FX c n env V σ1 (execs a env) Θ else FX c n env V σ1 (execs b env) Θ) : FX c n env V σ (exec (.If t a b pos) env) Θ :=
  fun A R P C s Q E I F q => wpAny_If (h A R P C s _ E I F fun P1 C1 σ1 k s1 st1 I1 F1 h1 => by
    cases k with
    | true => exact h1 A R P1 C1 s1 Q E I1 F1 (q.after st1.own)
    | false => exact h1 A R P1 C1 s1 Q E I1 F1 (q.after st1.own))
theorem FX_Return {e : Expr} {pos : Pos} (h : EX c n env V σ e fun v σ1 => Θ (.ret v) V σ1) : FX c n env V σ (exec (.Return (some e) pos) env) Θ :=
  fun A R P C s Q E I F q => wpAny_Return_some (h A R P C s _ E I F fun P1 C1 σ1 v y s1 st1 I1 F1 ry h1 => q P1 C1 σ1 V _ _ s1 st1.own I1 F1 (.ret ry) h1)
theorem FX_Break {pos : Pos} (h : Θ .brk V σ) : FX c n env V σ (exec (.Break pos) env) Θ := fun A R P C s Q E I F q => wpAny_Break (q P C σ V _ _ s .rfl I F .brk h)
theorem FX_Continue {pos : Pos} (h : Θ .cont V σ) : FX c n env V σ (exec (.Continue pos) env) Θ := fun A R P C s Q E I F q => wpAny_Continue (q P C σ V _ _ s .rfl I F .cont h)
theorem FX_Expr {e : Expr} {pos : Pos} (h : EX c n env V σ e fun _ σ1 => Θ .next V σ1) (hi : interactive env = false := by rfl) (hs : swapsWith e none pos.line env = pure false := by rfl) : FX c n env V σ (exec (.Expr e pos) env) Θ :=
  fun A R P C s Q E I F q => wpAny_Expr_any (h A R P C s _ E I F fun P1 C1 σ1 v y s1 st1 I1 F1 ry h1 => q P1 C1 σ1 V _ _ s1 st1.own I1 F1 .next h1) hi hs
theorem FX_AssignSub {o i : Expr} {p pos : Pos} {e : Expr} (h : EX c n env V σ e fun v σ1 => EX c n env V σ1 o fun ov σ2 => EX c n env V σ2 i fun iv σ3 =>
      OX c n [ov, iv, v] σ3 (fun xs => (do setItem (xs.getD 0 .none) (xs.getD 1 .none) (xs.getD 2 .none); pure .none)) fun _ σ4 => Θ .next V σ4)
    (hs : swapsWith e (some (.Subscript o i p)) pos.line env = pure false := by rfl) : FX c n env V σ (exec (.Assign [.Subscript o i p] e pos) env) Θ :=
  fun A R P C s Q E I F q => wpAny_Assign_Subscript (h A R P C s _ E I F fun P1 C1 σ1 v x s1 st1 I1 F1 rx h1 => h1 A R P1 C1 s1 _ E I1 F1 fun P2 C2 σ2 ov y s2 st2 I2 F2 ry h2 =>
    h2 A R P2 C2 s2 _ E I2 F2 fun P3 C3 σ3 iv z s3 st3 I3 F3 rz h3 => by
      have := h3 A R P3 C3 s3 [y, z, x] (fun _ => Q .next) E I3 (.cons (ry.mono st3.pm st3.cm) (.cons rz (.cons (rx.mono (st2.trans st3).pm (st2.trans st3).cm) .nil))) fun P4 C4 σ4 u k s4 st4 I4 rk h4 =>
        q P4 C4 σ4 V _ _ s4 (((st1.trans st2).trans st3).own.trans st4.wide0) I4 (F3.step st4) .next h4
      intro Γ p hΓ
      have t := this Γ p hΓ
      simp only [Sem.wp_bind', List.getD_cons_zero, List.getD_cons_succ] at t
      exact t) hs
theorem FX_Aug {x : Str} {p pos : Pos} {op : Operator} {e : Expr} {v : AV} (hv : V.lookup x = some v) (h : EX c n env V σ e fun u σ1 => OX c n [v, u] σ1 (fun xs => inplaceOp op (xs.getD 0 .none) (xs.getD 1 .none)) fun r σ2 => Θ .next ((x, r) :: V) σ2)
    (hk : storable env x = true := by rfl) : FX c n env V σ (exec (.AugAssign (.Name x p) op e pos) env) Θ :=
  fun A R P C s Q E I F q => let ⟨y, hy, ha⟩ := F.var x v hv
    wpAny_AugAssign_Name (loadVar F ha (h A R P C s _ E I F fun P1 C1 σ1 u z s1 st1 I1 F1 rz h1 => h1 A R P1 C1 s1 [y, z] _ E I1 (.cons (hy.mono st1.pm st1.cm) (.cons rz .nil)) fun P2 C2 σ2 r k s2 st2 I2 rk h2 =>
      storeVar I2 (F1.step st2) rk hk fun s3 st3 I3 F3 => q P2 C2 σ2 _ _ _ s3 ((st1.own.trans st2.wide0).trans st3) I3 F3 .next h2))

/-! while -/
def Turn (J : Vars → Mut → Prop) (Θ : Fl → Vars → Mut → Prop) (f : Fl) (V : Vars) (σ : Mut) : Prop := match f with
  | .next => J V σ
  | .cont => J V σ
  | .brk => Θ .next V σ
  | .ret v => Θ (.ret v) V σ
theorem FX_While {t : Expr} {body : List Stmt} {pos : Pos} (J : Nat → Vars → Mut → Prop) (k : Nat) (h0 : J k V σ)
    (turn : ∀ k V' σ', J k V' σ' → BX c n env V' σ' (isTrue t env (eval t env)) fun b σ1 => if b then FX c n env V' σ1 (execs body env) (Turn (fun V2 σ2 => ∃ j, j < k ∧ J j V2 σ2) Θ) else Θ .next V' σ1) :
    FX c n env V σ (exec (.While t body [] pos) env) Θ :=
  fun A R P C s Q E I F q => wpAny_While (codeAny_whileLoop (fun k s1 => ∃ P1 C1 σ1 V1, Step (ownF env) P C σ s P1 C1 σ1 s1 ∧ Inv c P1 C1 σ1 s1.heap ∧ Fm c env V1 P1 C1 σ1 s1.heap ∧ J k V1 σ1) (fun k s1 ⟨P1, C1, σ1, V1, st1, I1, F1, j1⟩ =>
    turn k V1 σ1 j1 A R P1 C1 s1 _ _ I1 F1 fun P2 C2 σ2 b s2 st2 I2 F2 h2 => by
      cases b with
      | false => exact wpAny_execs_nil (q P2 C2 σ2 V1 _ _ s2 (st1.trans st2.own) I2 F2 .next h2)
      | true =>
        refine h2 A R P2 C2 s2 _ _ I2 F2 fun P3 C3 σ3 V3 f x s3 st3 I3 F3 r h3 => ?_
        have st := (st1.trans st2.own).trans st3
        cases r with
        | next => exact let ⟨j, hj, h3⟩ := h3; ⟨j, hj, P3, C3, σ3, V3, st, I3, F3, h3⟩
        | cont => exact let ⟨j, hj, h3⟩ := h3; ⟨j, hj, P3, C3, σ3, V3, st, I3, F3, h3⟩
        | brk => exact q P3 C3 σ3 V3 _ _ s3 st I3 F3 .next h3
        | ret r => exact q P3 C3 σ3 V3 _ _ s3 st I3 F3 (.ret r) h3) k ⟨P, C, σ, V, .rfl, I, F, h0⟩)
end
end Mine
end
section
open PySem PyProof.Rows PySem.Calls
namespace Mine
/-- what the base holds: names of the text and of the built-ins -/
structure BaseOK (c : Cfg) (G : List (Str × Value)) (M : List (Str × Value)) : Prop where
  glb : ∃ mg, c.B.Ns mainGlobals mg ∧ (∀ p ∈ G, mg p.1 = some p.2) ∧ (∀ p ∈ M, mg p.1 = none)
  blt : ∃ mb, c.B.Ns builtinsNs mb ∧ (∀ p ∈ M, mb p.1 = some p.2)
  lim : c.B.NoLimit

section
variable {c : Cfg} {P P' : PM} {C C' : CM} {σ σ' : Mut} {s s' : Shared} {env : Env} {V : Vars} {n : Nat} {Φ : AV → Mut → Prop} {G M : List (Str × Value)}
theorem Inv.base (I : Inv c P C σ s.heap) : ∀ b o, c.B.get? b = some o → s.heap.get? b = some o := fun b o h => I.per b o (I.bs b o h)
theorem mem_lookup {x : Str} {v : Value} {l : List (Str × Value)} (h : l.lookup x = some v) : (x, v) ∈ l := mem_of_lookup h
/-- a name of the text's -/
theorem gname_wp {A : Around} {x : Str} {pos : Pos} {v : Value} {Q : Value → Shared → Prop} {E : Value → Shared → Prop} (hB : BaseOK c G M) (I : Inv c P C σ s.heap) (F : Fm c env V P C σ s.heap) (hk : env.kindOf x = some .globalImplicit) (hx : G.lookup x = some v) (h : Q v s)
    (hd : (x == ("__debug__" : Str)) = false := by rfl) : wpAny (model c.prog c.w) A (eval (.Name x pos) env) Q E s := by
  obtain ⟨mg, hg, hG, _⟩ := hB.glb
  exact Name_function_global F.kind hk (loadGlobal_global (mg := mg) (by rw [F.glb]; exact hg.keeps I.base) (hG _ (mem_lookup hx)) h) hd
theorem bname_wp {A : Around} {x : Str} {pos : Pos} {v : Value} {Q : Value → Shared → Prop} {E : Value → Shared → Prop} (hB : BaseOK c G M) (I : Inv c P C σ s.heap) (F : Fm c env V P C σ s.heap) (hk : env.kindOf x = some .globalImplicit) (hx : M.lookup x = some v) (h : Q v s)
    (hd : (x == ("__debug__" : Str)) = false := by rfl) : wpAny (model c.prog c.w) A (eval (.Name x pos) env) Q E s := by
  obtain ⟨mg, hg, _, hM⟩ := hB.glb
  obtain ⟨mb, hb, hb'⟩ := hB.blt
  exact Name_function_global F.kind hk (loadGlobal_builtin (mg := mg) (mb := mb) (by rw [F.glb]; exact hg.keeps I.base) (hM _ (mem_lookup hx)) (by rw [F.blt]; exact hb.keeps I.base) (hb' _ (mem_lookup hx)) h) hd
theorem EX_glob {x : Str} {pos : Pos} {y : Value} {v : AV} (hB : BaseOK c G M) (hx : G.lookup x = some y) (hr : ∀ P C, Rel c P C v y) (h : Φ v σ) (hk : env.kindOf x = some .globalImplicit := by rfl) (hd : (x == ("__debug__" : Str)) = false := by rfl) : EX c n env V σ (.Name x pos) Φ :=
  fun A R P C s Q E I F q => gname_wp hB I F hk hx (q P C σ v y s .rfl I F (hr P C) h) hd
theorem EX_blt {x : Str} {pos : Pos} {y : Value} {v : AV} (hB : BaseOK c G M) (hx : M.lookup x = some y) (hr : ∀ P C, Rel c P C v y) (h : Φ v σ) (hk : env.kindOf x = some .globalImplicit := by rfl) (hd : (x == ("__debug__" : Str)) = false := by rfl) : EX c n env V σ (.Name x pos) Φ :=
  fun A R P C s Q E I F q => bname_wp hB I F hk hx (q P C σ v y s .rfl I F (hr P C) h) hd

/-! arguments, displays -/
variable {Λ : List AV → Mut → Prop}
theorem LX_nil {pos : Pos} (h : Λ [] σ) : LX c n env V σ (spliced (backTo pos (starEach [] env))) Λ := fun A R P C s Q E I F q => args_nil (q P C σ [] [] s .rfl I F .nil h)
theorem LX_cons {pos : Pos} {e : Expr} {rest : List Expr} (h : EX c n env V σ e fun v σ1 => LX c n env V σ1 (spliced (backTo pos (starEach rest env))) fun vs σ2 => Λ (v :: vs) σ2)
    (he : starEach (e :: rest) env = (false, eval e env) :: starEach rest env := by rfl) : LX c n env V σ (spliced (backTo pos (starEach (e :: rest) env))) Λ :=
  fun A R P C s Q E I F q => args_cons (h A R P C s _ E I F fun P1 C1 σ1 v x s1 st1 I1 F1 r1 h1 => h1 A R P1 C1 s1 _ E I1 F1 fun P2 C2 σ2 vs xs s2 st2 I2 F2 r2 h2 =>
    q P2 C2 σ2 _ _ s2 (st1.trans st2) I2 F2 (.cons (r1.mono st2.pm st2.cm) r2) h2) he
theorem small {vs : List AV} {xs : List Value} (r : RelL c P C vs xs) (h : vs.length < 100000) : xs.length ≤ sizeLine := by
  have := r.length
  show _ ≤ 2 ^ 24
  omega
theorem EX_Tuple {elts : List Expr} {k : Nat} {pos : Pos} (h : LX c n env V σ (spliced (backTo pos (starEach elts env))) fun vs σ1 => vs.length < 100000 ∧ Φ (.tup vs) σ1) : EX c n env V σ (.Tuple elts k pos) Φ :=
  fun A R P C s Q E I F q => wpAny_Tuple_spliced (h A R P C s _ E I F fun P1 C1 σ1 vs xs s1 st1 I1 F1 r1 ⟨hl, h1⟩ => ⟨small r1 hl,
    (q.after st1).ofV F1 _ C1 σ1 (.tup vs) _ _ (.alloc I1 _) (I1.alloc _ rfl) (.tup (n := 0) upd_self (r1.mono (Step.alloc I1 _).pm .rfl)) h1⟩)
theorem EX_List {elts : List Expr} {pos : Pos} (h : LX c n env V σ (spliced (backTo pos (starEach elts env))) fun vs σ1 => vs.length < 100000 ∧ Φ (.lst vs) σ1) : EX c n env V σ (.List elts pos) Φ :=
  fun A R P C s Q E I F q => wpAny_List_spliced (h A R P C s _ E I F fun P1 C1 σ1 vs xs s1 st1 I1 F1 r1 ⟨hl, h1⟩ => ⟨small r1 hl,
    (q.after st1).ofV F1 _ C1 σ1 (.lst vs) _ _ (.alloc I1 _) (I1.alloc _ rfl) (.lst (n := 0) upd_self (r1.mono (Step.alloc I1 _).pm .rfl)) h1⟩)
/-- a list display that one owns -/
theorem EX_ListO {elts : List Expr} {pos : Pos} (h : LX c n env V σ (spliced (backTo pos (starEach elts env))) fun vs σ1 => vs.length < 100000 ∧ ∀ a, σ1 a = none → Φ (.ref a) (upd σ1 a vs)) : EX c n env V σ (.List elts pos) Φ :=
  fun A R P C s Q E I F q => wpAny_List_spliced (h A R P C s _ E I F fun P1 C1 σ1 vs xs s1 st1 I1 F1 r1 ⟨hl, h1⟩ => ⟨small r1 hl,
    (q.after st1).ofV F1 P1 C1 _ (.ref _) _ _ (.allocOwn I1 _ vs) (I1.allocOwn r1) .ref (h1 _ I1.freshS)⟩)

/-! calls -/
/-- a def at an address of the base -/
def FnAt (B : Heap) (a : Addr) (name qual : Str) (params : Arguments) (body : List Stmt) (scope : Scope) (dV kV : Value) : Prop :=
  ∃ o doc pm an cdv ct, B.get? a = some o ∧ o.data = .func (W.fnOf name qual params body scope dV kV doc pm an cdv ct) ∧ B.CodeRec cdv qual
/-- the contract of a call of it -/
def CX (c : Cfg) (n : Nat) (a : Addr) (args : List AV) (kn : List Str) (kargs : List AV) (σ : Mut) (Φ : AV → Mut → Prop) : Prop :=
  ∀ A, Room A n → ∀ P C s xs ys R, Inv c P C σ s.heap → RelL c P C args xs → RelL c P C kargs ys → PostV c P C σ s Φ (fun v s' => R (.ok (.ret v)) s') →
    codeAny (model c.prog c.w) A (.call (.ref a) ⟨xs, kn.zip ys⟩) R s
theorem CX.mono {a : Addr} {args kargs : List AV} {kn : List Str} {Φ' : AV → Mut → Prop} (h : CX c n a args kn kargs σ Φ) (k : ∀ v σ', Φ v σ' → Φ' v σ') : CX c n a args kn kargs σ Φ' :=
  fun A R P C s xs ys Q I r1 r2 q => h A R P C s xs ys Q I r1 r2 fun P' C' σ' v x s' st I' r f => q P' C' σ' v x s' st I' r (k v σ' f)
theorem CX.le {a : Addr} {args kargs : List AV} {kn : List Str} {k : Nat} (h : CX c k a args kn kargs σ Φ) (e : k ≤ n) : CX c n a args kn kargs σ Φ := fun A R => h A (R.le e)

theorem EX_Call {x : Str} {p pos : Pos} {a : Addr} {e : Expr} {rest : List Expr} {name qual : Str} {params : Arguments} {body : List Stmt} {scope : Scope} {dV kV : Value} (hB : BaseOK c G M) (hx : G.lookup x = some (.ref a)) (hf : FnAt c.B a name qual params body scope dV kV)
    (h : LX c n env V σ (spliced (backTo pos (starEach (e :: rest) env))) fun vs σ1 => CX c n a vs [] [] σ1 Φ) (hk : env.kindOf x = some .globalImplicit := by rfl)
    (he : starEach (e :: rest) env = (false, eval e env) :: starEach rest env := by rfl) (hd : (x == ("__debug__" : Str)) = false := by rfl) : EX c n env V σ (.Call (.Name x p) (e :: rest) [] pos) Φ :=
  fun A R P C s Q E I F q => by
    obtain ⟨o, doc, pm, an, cdv, ct, ho, hdat, _⟩ := hf
    refine wpAny_Call_NameR (gname_wp hB I F hk hx (callWith_def hdat (h A R P C s _ E I F fun P1 C1 σ1 vs xs s1 st1 I1 F1 r1 h1 => ⟨I1.base _ _ ho, wpAny_call ?_⟩) he) hd)
    exact h1 A R P1 C1 s1 xs [] _ I1 r1 .nil ((q.after st1).ofV F1)
theorem EX_CallB {x : Str} {p pos : Pos} {id : String} {e : Expr} {rest : List Expr} (hB : BaseOK c G M) (hx : M.lookup x = some (.builtin id))
    (h : LX c n env V σ (spliced (backTo pos (starEach (e :: rest) env))) fun vs σ1 => OX c n vs σ1 (fun xs => call (.builtin id) xs) Φ) (hk : env.kindOf x = some .globalImplicit := by rfl)
    (he : starEach (e :: rest) env = (false, eval e env) :: starEach rest env := by rfl) (hplain : (backTo pos (starEach rest env)).any (·.1) = false := by rfl) (hd : (x == ("__debug__" : Str)) = false := by rfl) : EX c n env V σ (.Call (.Name x p) (e :: rest) [] pos) Φ :=
  fun A R P C s Q E I F q => wpAny_Call_NameR (bname_wp hB I F hk hx (callWith_builtin1 (h A R P C s _ E I F fun P1 C1 σ1 vs xs s1 st1 I1 F1 r1 h1 => h1 A R P1 C1 s1 xs Q E I1 r1 ((q.after st1).ofV F1)) he hplain) hd)
theorem EX_CallT {x : Str} {p pos : Pos} {T : String} {e : Expr} {rest : List Expr} (hB : BaseOK c G M) (hx : M.lookup x = some (.type T))
    (h : LX c n env V σ (spliced (backTo pos (starEach (e :: rest) env))) fun vs σ1 => OX c n vs σ1 (fun xs => call (.type T) xs) Φ) (hk : env.kindOf x = some .globalImplicit := by rfl)
    (he : starEach (e :: rest) env = (false, eval e env) :: starEach rest env := by rfl) (hplain : (backTo pos (starEach rest env)).any (·.1) = false := by rfl) (hd : (x == ("__debug__" : Str)) = false := by rfl) : EX c n env V σ (.Call (.Name x p) (e :: rest) [] pos) Φ :=
  fun A R P C s Q E I F q => wpAny_Call_NameR (bname_wp hB I F hk hx (PyProof.Rows.callWith_type1 (h A R P C s _ E I F fun P1 C1 σ1 vs xs s1 st1 I1 F1 r1 h1 => h1 A R P1 C1 s1 xs Q E I1 r1 ((q.after st1).ofV F1)) he hplain) hd)

/-! a def entered -/
theorem bindL_at {k : Str → Option NameKind} {x : Str} (hx : k x = some .local) : ∀ (l : List (Str × Value)) (m : Str → Option Value), bindL k l m x = (l.reverse.lookup x).or (m x)
  | [], m => by simp [bindL]
  | (y, v) :: r, m => by
    rw [bindL, bindL_at hx r, List.reverse_cons, List.lookup_append, Option.or_assoc]
    congr 1
    by_cases e : x = y
    · subst e; simp [hx, List.lookup]
    · have : (x == y) = false := beq_eq_false_iff_ne.mpr e
      by_cases q : k y = some .local <;> simp [q, e, List.lookup, this]
theorem bindC_at {k : Str → Option NameKind} {x : Str} (hx : k x = some .cell) : ∀ (l : List (Str × Value)) (m : Str → Option Value), bindC k l m x = (l.reverse.lookup x).or (m x)
  | [], m => by simp [bindC]
  | (y, v) :: r, m => by
    rw [bindC, bindC_at hx r, List.reverse_cons, List.lookup_append, Option.or_assoc]
    congr 1
    by_cases e : x = y
    · subst e; simp [hx, List.lookup]
    · have : (x == y) = false := beq_eq_false_iff_ne.mpr e
      by_cases q : k y = some .local <;> simp [q, e, List.lookup, this]
theorem zip_lookup {x : Str} {v : AV} : ∀ {names : List Str} {args : List AV} {xs : List Value}, RelL c P C args xs → (names.zip args).lookup x = some v → ∃ y, (names.zip xs).lookup x = some y ∧ Rel c P C v y
  | [], _, _, _, h => by simp at h
  | _ :: _, _, _, .nil, h => by simp at h
  | k :: names, _, _, .cons (v := a) (x := b) r1 r2, h => by
    simp only [List.zip_cons_cons, List.lookup_cons] at h ⊢
    cases e : x == k with
    | true => rw [e] at h; cases h; exact ⟨b, rfl, r1⟩
    | false => rw [e] at h; exact zip_lookup r2 h
theorem RelL.reverse : ∀ {vs : List AV} {xs : List Value}, RelL c P C vs xs → RelL c P C vs.reverse xs.reverse
  | _, _, .nil => by simpa using RelL.nil
  | _, _, .cons a b => by simpa using b.reverse.append (.cons a .nil)
theorem lookup_rev {x : Str} : ∀ {l : List (Str × Value)}, (l.map (·.1)).Nodup → l.reverse.lookup x = l.lookup x
  | [], _ => rfl
  | (k, v) :: r, h => by
    rw [List.map_cons, List.nodup_cons] at h
    rw [List.reverse_cons, List.lookup_append, lookup_rev h.2, List.lookup_cons]
    cases e : x == k with
    | false => simp [List.lookup, e]
    | true =>
      have : r.lookup x = none := by
        cases q : r.lookup x with
        | none => rfl
        | some y => exact absurd (List.mem_map_of_mem (f := (·.1)) (mem_of_lookup q)) (by rw [beq_iff_eq.mp e]; exact h.1)
      rw [this]; simp [List.lookup, e]
theorem CX_fn {a : Addr} {name qual : Str} {params : Arguments} {body : List Stmt} {scope : Scope} {dV kV : Value} {args : List AV} {names : List Str} (hB : BaseOK c G M) (hf : FnAt c.B a name qual params body scope dV kV)
    (hlen : names.length = args.length)
    (hbind : ∀ doc pm an cdv ct (xs : List Value), xs.length = names.length → bindArgs (W.fnOf name qual params body scope dV kV doc pm an cdv ct) ⟨xs, []⟩ = pure (names.zip xs))
    (hkind : ∀ x ∈ names, scope.names.lookup x = some .local ∨ scope.names.lookup x = some .cell)
    (hnod : names.Nodup)
    (h : ∀ L doc pm an cdv ct, FX c n (callEnvC (W.fnOf name qual params body scope dV kV doc pm an cdv ct) L a) ((names.zip args)) σ (execs body (callEnvC (W.fnOf name qual params body scope dV kV doc pm an cdv ct) L a))
      fun f _ σ' => match f with | .ret v => Φ v σ' | _ => Φ .none σ')
    (hco : scope.isCoroutine = false := by rfl) (hgen : scope.isGenerator = false := by rfl) (hk : scope.kind = .function := by rfl) : CX c (n + 1) a args [] [] σ Φ := by
  intro A R P C s xs ys Rr I r1 r2 q
  obtain ⟨o, doc, pm, an, cdv, ct, ho, hdat, hcr⟩ := hf
  have hxs : xs.length = names.length := by rw [hlen, r1.length]
  have hsome : ∀ x, scope.names.lookup x = some .cell → ((cellsFrom (s.heap.objs.size + 1) scope.names []).lookup x).isSome = true := fun x hx => W.cellsFrom_some _ _ _ (.inl hx)
  refine codeAny_call_cells (fd := W.fnOf name qual params body scope dV kV doc pm an cdv ct) (body := body) (vals := xs) (binds := names.zip xs) R.depth (I.base _ _ ho) hdat (hB.lim.keeps I.base) ?_ rfl (hbind doc pm an cdv ct xs hxs) rfl (fun x hx => ?_) (fun s₁ IC => ?_) hco hgen hk
  · exact hcr.keeps I.base
  · have := hkind x.1 (List.of_mem_zip hx).1
    exact this.imp id fun e => ⟨e, hsome _ e⟩
  · obtain ⟨h₁, tk, e⟩ := IC.toInCall.same
    have st : Step no P C σ s P C σ s₁ := by
      subst e
      exact ⟨.rfl, .rfl, fun b o hb _ h1 h2 h3 => ⟨IC.toInCall.keep b o hb, h1, h2, h3⟩, fun b o hb _ => ⟨o, IC.toInCall.keep b o hb⟩, .refl _, .refl _, .refl _⟩
    have I1 : Inv c P C σ s₁.heap := I.keeps fun b o hb _ => IC.toInCall.keep b o hb
    have fr : ∀ b, s.heap.objs.size ≤ b → P b = none ∧ C b = none ∧ σ b = none := fun b hb => by
      refine ⟨?_, ?_, ?_⟩
      · cases q : P b with
        | none => rfl
        | some o => exact absurd (Heap.lt_size (I.per b o q)) (Nat.not_lt.mpr hb)
      · cases q : C b with
        | none => rfl
        | some o => exact absurd (I.cch b o q).lt (Nat.not_lt.mpr hb)
      · cases q : σ b with
        | none => rfl
        | some vs => obtain ⟨its, ⟨k, ho⟩, _⟩ := I.own b vs q; exact absurd (Heap.lt_size ho) (Nat.not_lt.mpr hb)
    have hcell : ∀ x k, (callEnvC (W.fnOf name qual params body scope dV kV doc pm an cdv ct) s.heap.objs.size a).cells.lookup x = some k → s.heap.objs.size < k := fun x k hk => IC.above x k (mem_of_lookup hk)
    have F1 : Fm c (callEnvC (W.fnOf name qual params body scope dV kV doc pm an cdv ct) s.heap.objs.size a) (names.zip args) P C σ s₁.heap := by
      refine ⟨hk, fun x v hv => ?_, ⟨_, IC.toInCall.ns⟩, fun x k hk => ?_, fr _ (Nat.le_refl _), fun x k hk => ?_, fun x y k hx hy => name_of_addr IC.apart (mem_of_lookup hx) (mem_of_lookup hy), rfl, rfl⟩
      · obtain ⟨y, hy, ry⟩ := zip_lookup r1 hv
        have hrev : (names.zip xs).reverse.lookup x = some y := by
          rw [lookup_rev (by rw [List.map_fst_zip (by omega)]; exact hnod)]
          exact hy
        refine ⟨y, ry, ?_⟩
        have hm := (List.of_mem_zip (mem_of_lookup hy)).1
        rcases hkind x hm with hl | hl
        · exact .inl ⟨hl, _, IC.toInCall.ns, (bindL_at (k := (callEnvC (W.fnOf name qual params body scope dV kV doc pm an cdv ct) s.heap.objs.size a).kindOf) hl _ _).trans (by rw [hrev]; rfl)⟩
        · obtain ⟨k, hk⟩ := Option.isSome_iff_exists.mp (hsome x hl)
          refine .inr ⟨hl, k, hk, ?_⟩
          have := IC.cell x k hk
          rw [bindC_at (k := (callEnvC (W.fnOf name qual params body scope dV kV doc pm an cdv ct) s.heap.objs.size a).kindOf) hl, hrev] at this
          exact this
      · exact ⟨_, IC.cell x k hk⟩
      · have := hcell x k hk
        exact ⟨(fr k (by omega)).1, (fr k (by omega)).2.1, (fr k (by omega)).2.2, Nat.ne_of_gt this⟩
    refine wpAny_mono (h s.heap.objs.size doc pm an cdv ct _ R.deeper P C s₁ _ (fun _ _ => False) I1 F1 fun P2 C2 σ2 V2 f x s2 st2 I2 F2 rf h2 => ?_) (fun _ _ y => y) fun _ _ y => y.elim
    have st' : Step no P C σ s P2 C2 σ2 s2 := by
      have hnew : ∀ b o, s.heap.get? b = some o → ¬ ownF (callEnvC (W.fnOf name qual params body scope dV kV doc pm an cdv ct) s.heap.objs.size a) b := fun b o hb hx => by
        have hlt := Heap.lt_size hb
        rcases hx with e | ⟨x, hx⟩
        · exact absurd (e : b = s.heap.objs.size) (Nat.ne_of_lt hlt)
        · have := hcell x b hx
          exact absurd hlt (Nat.not_lt.mpr (Nat.le_of_lt this))
      exact ⟨st2.pm, st2.cm, fun b o hb _ h1 h2 h3 => st2.frn b o (IC.toInCall.keep b o hb) (hnew b o hb) h1 h2 h3, fun b o hb _ => st2.lv b o (IC.toInCall.keep b o hb) (hnew b o hb), st2.gens.trans st.gens, st2.drawn.trans st.drawn, st2.os.trans st.os⟩
    cases rf with
    | next => exact q P2 C2 σ2 _ _ s2 st' I2 .none h2
    | brk => exact q P2 C2 σ2 _ _ s2 st' I2 .none h2
    | cont => exact q P2 C2 σ2 _ _ s2 st' I2 .none h2
    | ret r => exact q P2 C2 σ2 _ _ s2 st' I2 r h2
end
end Mine
end
section
open PySem PyProof.Rows PySem.Calls
namespace Mine
/-! iterators -/
structure IterAt (c : Cfg) (it : Addr) (vs : List AV) (At : PM → CM → Heap → Nat → Prop) : Prop where
  keep : ∀ {P C P' C' h h' k}, At P C h k → LeP P P' → LeC C C' → (∀ o, h.get? it = some o → h'.get? it = some o) → At P' C' h' k
  live : ∀ {P C h k}, At P C h k → ∃ o, h.get? it = some o
  again : ∀ {A : Around} {P C} {s : Shared} {k} {Q : Value → Shared → Prop} {E : Value → Shared → Prop}, At P C s.heap k → Q (.ref it) s → wpAny (model c.prog c.w) A (pyIter (.ref it)) Q E s
  owned : ∀ {A : Around} {P C} {s : Shared} {k} {target : Expr} {v : Value} {Q : Unit → Shared → Prop} {E : Value → Shared → Prop}, At P C s.heap k → Q () s → wpAny (model c.prog c.w) A (letOwnedTupleGo target (.ref it) v) Q E s
  next : ∀ {A : Around} {P C σ} {s : Shared} {k v} {Q : Option Value → Shared → Prop} {E : Value → Shared → Prop}, Inv c P C σ s.heap → At P C s.heap k → vs[k]? = some v →
    (∀ x h' tk, Rel c P C v x → At P C h' (k + 1) → Heap.SameBut it s.heap h' → Q (some x) { s with heap := h', toks := tk }) → wpAny (model c.prog c.w) A (pyNext (.ref it)) Q E s
  fin : ∀ {A : Around} {P C σ} {s : Shared} {k} {Q : Option Value → Shared → Prop} {E : Value → Shared → Prop}, A.handled = none → Inv c P C σ s.heap → At P C s.heap k → vs[k]? = none →
    (∀ h', Heap.ExtBut it s.heap h' → Q none { s with heap := h' }) → wpAny (model c.prog c.w) A (pyNext (.ref it)) Q E s
def Iters (c : Cfg) (v : AV) (vs : List AV) : Prop :=
  ∀ (A : Around) P C σ (s : Shared) x (Q : Value → Shared → Prop) (E : Value → Shared → Prop), Inv c P C σ s.heap → Rel c P C v x →
    (∀ At o, IterAt c s.heap.objs.size vs At → o.isFreed = false → At P C (s.heap.push o) 0 → Q (.ref s.heap.objs.size) { s with heap := s.heap.push o }) → wpAny (model c.prog c.w) A (pyIter x) Q E s

section
variable {c : Cfg} {P P' : PM} {C C' : CM} {σ σ' : Mut} {s s' : Shared} {env : Env} {V : Vars} {n : Nat} {Φ : AV → Mut → Prop} {G M : List (Str × Value)} {Θ : Fl → Vars → Mut → Prop}
theorem letOwned_of {A : Around} {it : Addr} {o : Obj} {T : String} {fs : Array Value} {target : Expr} {v : Value} {Q : Unit → Shared → Prop} {E : Value → Shared → Prop} (ho : s.heap.get? it = some o) (hc : o.cls = .type T) (hd : o.data = .fields fs)
    (hT : (["enumerate", "zip", "dict_itemiterator", "dict_reverseitemiterator", "odict_iterator", "itertools.zip_longest", "itertools.pairwise"] : List String).contains T = false) (h : Q () s) :
    wpAny (model c.prog c.w) A (letOwnedTupleGo target (.ref it) v) Q E s := by
  unfold letOwnedTupleGo
  split
  · split
    · rename_i e
      cases e
      refine wpAny_bind (wpAny_load ho ?_)
      rw [hc, hd]
      simp only [hT, Bool.false_and, Bool.false_eq_true, if_false]
      exact wpAny_pure h
    · exact wpAny_pure h
  · split
    · rename_i e
      cases e
      refine wpAny_bind (wpAny_load ho ?_)
      rw [hc, hd]
      simp only [hT, Bool.false_and, Bool.false_eq_true, if_false]
      exact wpAny_pure h
    · exact wpAny_pure h
  · exact wpAny_pure h
theorem Iters_lst {vs : List AV} : Iters c (.lst vs) vs := by
  intro A P C σ s x Q E I r q
  cases r with
  | lst hp hr =>
    rename_i l its k
    have hl : s.heap.IsList l its.toArray := ⟨_, I.per _ _ hp, rfl, k, rfl⟩
    refine wpAny_pyIter_list hl (q (fun P C h i => h.IsListIter s.heap.objs.size l i ∧ P l = some { cls := .type "list", data := .seq its.toArray k } ∧ RelL c P C vs its) _ ⟨?_, ?_, ?_, ?_, ?_, ?_⟩ rfl ⟨⟨_, Heap.get?_push_size _ rfl, rfl, rfl⟩, hp, hr⟩)
    · rintro P C P' C' h h' i ⟨⟨o, ho, r⟩, hp, hr⟩ hP hC hk
      exact ⟨⟨o, hk o ho, r⟩, hP _ _ hp, hr.mono hP hC⟩
    · rintro P C h i ⟨⟨o, ho, _⟩, _⟩; exact ⟨o, ho⟩
    · rintro A P C s i Q E ⟨hit, _⟩ q; exact wpAny_pyIter_listiter hit q
    · rintro A P C s i tg v Q E ⟨⟨o, ho, hc, hd⟩, _⟩ q; exact letOwned_of ho hc hd (by decide) q
    · rintro A P C σ s i v Q E I ⟨hit, hp, hr⟩ hv q
      obtain ⟨x, hx, rx⟩ := hr.get hv
      exact wpAny_pyNext_list_item hit ⟨_, I.per _ _ hp, rfl, k, rfl⟩ (by simpa using hx) fun h' hit' hs => q x h' s.toks rx ⟨hit', hp, hr⟩ hs
    · rintro A P C σ s i Q E hh I ⟨hit, hp, hr⟩ hv q
      refine wpAny_pyNext_list_end hh hit ⟨_, I.per _ _ hp, rfl, k, rfl⟩ ?_ fun h' hs => q h' hs
      have := hr.length
      rw [List.getElem?_eq_none_iff] at hv
      simp; omega
theorem Iters_bytes {b : Array UInt8} : Iters c (.bytes b) (b.toList.map fun u => AV.int (u.toNat : Int)) := by
  intro A P C σ s x Q E I r q
  cases r with
  | bytes =>
    rename_i t
    refine W.KBw.pyIter_bytes (q (fun P C h i => W.KBw.IsBytesIter h s.heap.objs.size b t i) _ ⟨?_, ?_, ?_, ?_, ?_, ?_⟩ rfl ⟨_, Heap.get?_push_size _ rfl, rfl, rfl⟩)
    · rintro P C P' C' h h' i ⟨o, ho, r⟩ hP hC hk
      exact ⟨o, hk o ho, r⟩
    · rintro P C h i ⟨o, ho, _⟩; exact ⟨o, ho⟩
    · rintro A P C s i Q E hit q; exact W.KBw.pyIter_self hit q
    · rintro A P C s i tg v Q E ⟨o, ho, hc, hd⟩ q; exact letOwned_of ho hc hd (by decide) q
    · rintro A P C σ s i v Q E I hit hv q
      rw [List.getElem?_map] at hv
      cases hb : b.toList[i]? with
      | none => rw [hb] at hv; cases hv
      | some u =>
        rw [hb] at hv; cases hv
        exact W.KBw.next_item hit (by simpa using hb) fun h' hit' hs => q _ h' _ .int hit' hs
    · rintro A P C σ s i Q E hh I hit hv q
      exact W.KBw.next_end hh hit (by simpa using hv) fun h' hs => q h' hs
theorem Iters_rng {ns : List Int} : Iters c (.rng ns) (ns.map AV.int) := by
  intro A P C σ s x Q E I r q
  cases r with
  | rng hp hs hn =>
    rename_i a x y z t u v
    have hr : IsRange s.heap a x y z t u v := I.per _ _ hp
    subst hn
    refine wpAny_pyIter_range hr hs (q (fun P C h i => IsRangeIter h s.heap.objs.size (x + z * (i : Int)) (Builtin.Range.rangeSize x y z - i) z) _ ⟨?_, ?_, ?_, ?_, ?_, ?_⟩ rfl ?_)
    · rintro P C P' C' h h' i ho hP hC hk
      exact hk _ ho
    · rintro P C h i ho; exact ⟨_, ho⟩
    · rintro A P C s i Q E hit q; exact wpAny_pyIter_rangeiter hit q
    · rintro A P C s i tg v Q E ho q; exact letOwned_of ho rfl rfl (by decide) q
    · rintro A P C σ s i v Q E I hit hv q
      rw [List.map_map, List.getElem?_map] at hv
      cases hb : (List.range (Builtin.Range.rangeSize x y z).toNat)[i]? with
      | none => rw [hb] at hv; cases hv
      | some j =>
        rw [hb] at hv; cases hv
        have hj := List.getElem?_eq_some_iff.mp hb
        obtain ⟨h1, h2⟩ := hj
        rw [List.getElem_range] at h2
        subst h2
        rw [List.length_range] at h1
        refine wpAny_pyNext_range_item hit (by omega) fun h' hit' hs => q _ h' _ .int ?_ hs
        have e1 : x + z * ((i + 1 : Nat) : Int) = x + z * (i : Int) + z := by rw [Int.natCast_add, Int.mul_add]; simp; omega
        have e2 : Builtin.Range.rangeSize x y z - ((i + 1 : Nat) : Int) = Builtin.Range.rangeSize x y z - i - 1 := by omega
        show IsRangeIter h' _ _ _ z
        rw [e1, e2]
        exact hit'
    · rintro A P C σ s i Q E hh I hit hv q
      refine wpAny_pyNext_range_end hh hit ?_ fun h' hs => q h' hs
      simp at hv
      omega
    · show IsRangeIter _ _ _ _ z
      rw [show x + z * ((0 : Nat) : Int) = x by simp, show Builtin.Range.rangeSize x y z - ((0 : Nat) : Int) = Builtin.Range.rangeSize x y z by simp]
      exact Heap.get?_push_size _ rfl
end
end Mine
end
section
open PySem PyProof.Rows PySem.Calls
namespace Mine
section
variable {c : Cfg} {P P' : PM} {C C' : CM} {σ σ' : Mut} {s s' : Shared} {env : Env} {V : Vars} {n : Nat} {Φ : AV → Mut → Prop} {G M : List (Str × Value)} {Θ : Fl → Vars → Mut → Prop}
theorem Fm.change {h h' : Heap} (F : Fm c env V P C σ h) (hP : LeP P P') (hC : LeC C C') (k : ∀ b, ownF env b → (∀ o, h.get? b = some o → h'.get? b = some o) ∧ P' b = none ∧ C' b = none ∧ σ' b = none) : Fm c env V P' C' σ' h' := by
  obtain ⟨m, hm⟩ := F.ns
  refine ⟨F.kind, fun x v hv => ?_, ⟨m, Ns.of_obj hm (k _ (.inl rfl)).1⟩, fun x a ha => ?_, (k _ (.inl rfl)).2, fun x a ha => ?_, F.ap, F.glb, F.blt⟩
  · obtain ⟨y, hy, hva⟩ := F.var x v hv
    refine ⟨y, hy.mono hP hC, ?_⟩
    rcases hva with ⟨h1, m, hm, hx⟩ | ⟨h1, a, ha, hc⟩
    · exact .inl ⟨h1, m, Ns.of_obj hm (k _ (.inl rfl)).1, hx⟩
    · exact .inr ⟨h1, a, ha, IsCell.of_obj hc (k _ (.inr ⟨x, ha⟩)).1⟩
  · obtain ⟨v, hv⟩ := F.cells x a ha
    exact ⟨v, IsCell.of_obj hv (k _ (.inr ⟨x, ha⟩)).1⟩
  · have q := k _ (.inr ⟨x, ha⟩)
    exact ⟨q.2.1, q.2.2.1, q.2.2.2, (F.fc x a ha).2.2.2⟩
theorem Fm.foreign {h : Heap} (F : Fm c env V P C σ h) : ∀ b, ownF env b → P b = none ∧ C b = none ∧ σ b = none := fun b hb => by
  rcases hb with rfl | ⟨x, hx⟩
  · exact F.fL
  · exact ⟨(F.fc x b hx).1, (F.fc x b hx).2.1, (F.fc x b hx).2.2.1⟩
theorem Fm.live {h : Heap} (F : Fm c env V P C σ h) : ∀ b, ownF env b → ∃ o, h.get? b = some o := fun b hb => by
  rcases hb with rfl | ⟨x, hx⟩
  · obtain ⟨m, o, _, _, ho, _⟩ := F.ns; exact ⟨o, ho⟩
  · obtain ⟨v, o, ho, _⟩ := F.cells x b hx; exact ⟨o, ho⟩
theorem Fm.keeps {h h' : Heap} (F : Fm c env V P C σ h) (k : ∀ b, ownF env b → ∀ o, h.get? b = some o → h'.get? b = some o) : Fm c env V P C σ h' :=
  F.change .rfl .rfl fun b hb => ⟨k b hb, F.foreign b hb⟩
/-- a step, and then a turn of what was not there at its start -/
theorem Step.later {X : Addr → Prop} {P1 : PM} {C1 : CM} {σ1 : Mut} {s1 : Shared} {it : Addr} {h' : Heap} {tk : Nat} (x : Step X P C σ s P1 C1 σ1 s1) (hit : s.heap.get? it = none) (hs : Heap.ExtBut it s1.heap h') : Step X P C σ s P1 C1 σ1 { s1 with heap := h', toks := tk } :=
  ⟨x.pm, x.cm, fun b o hb hx h1 h2 h3 => let ⟨g, r⟩ := x.frn b o hb hx h1 h2 h3; ⟨hs b o (fun e => by rw [e, hit] at hb; cases hb) g, r⟩, fun b o hb hx => let ⟨o', h'⟩ := x.lv b o hb hx; ⟨o', hs b o' (fun e => by rw [e, hit] at hb; cases hb) h'⟩, x.gens, x.drawn, x.os⟩

theorem FX_For {x : Str} {px pos : Pos} {iter : Expr} {body : List Stmt}
    (h : EX c n env V σ iter fun v σ1 => ∃ (vs : List AV) (J : Nat → Vars → Mut → Prop), Iters c v vs ∧ J 0 V σ1 ∧
      (∀ k u V' σ', vs[k]? = some u → J k V' σ' → FX c n env ((x, u) :: V') σ' (execs body env) (Turn (J (k + 1)) Θ)) ∧ (∀ V' σ', J vs.length V' σ' → Θ .next V' σ'))
    (hk : storable env x = true := by rfl) (hs : ∀ x, foldedSetIterable iter env x = pure x := by intro _; rfl) : FX c n env V σ (exec (.For (.Name x px) iter body [] pos) env) Θ := by
  intro A R P C s Q E I F q
  refine wpAny_For (h A R P C s _ E I F fun P1 C1 σ1 v y s1 st1 I1 F1 ry h1 => ?_) hs
  obtain ⟨vs, J, hit, j0, turn, fin⟩ := h1
  refine hit A P1 C1 σ1 s1 y _ E I1 ry fun At o IA hof at0 => ?_
  have hnone : s1.heap.get? s1.heap.objs.size = none := Heap.get?_none_of_le (Nat.le_refl _)
  have hno : ¬ ownF env s1.heap.objs.size := fun hb => by
    obtain ⟨o, ho⟩ := F1.live _ hb
    rw [hnone] at ho; cases ho
  refine codeAny_forLoop (fun m s2 => ∃ k P2 C2 σ2 V2, m = vs.length - k ∧ k ≤ vs.length ∧ Step (ownF env) P1 C1 σ1 s1 P2 C2 σ2 s2 ∧ Inv c P2 C2 σ2 s2.heap ∧ Fm c env V2 P2 C2 σ2 s2.heap ∧ At P2 C2 s2.heap k ∧
    (P2 s1.heap.objs.size = none ∧ C2 s1.heap.objs.size = none ∧ σ2 s1.heap.objs.size = none) ∧ J k V2 σ2) ?_ vs.length ⟨0, P1, C1, σ1, V, by simp, Nat.zero_le _, .push _, I1.push o, F1.keeps (fun b hb o ho => Heap.get?_push_of_some _ ho), at0, ⟨I1.freshP, I1.freshC, I1.freshS⟩, j0⟩ (by intro _; rfl)
  rintro m s2 ⟨k, P2, C2, σ2, V2, hm, hkl, st2, I2, F2, at2, fr2, j2⟩
  cases hv : vs[k]? with
  | none =>
    refine IA.fin R.han I2 at2 hv fun h' hs' => ?_
    refine wpAny_execs_nil ?_
    have hk' : k = vs.length := by
      rw [List.getElem?_eq_none_iff] at hv; omega
    subst hk'
    refine q P2 C2 σ2 V2 .next .next _ (st1.own.trans (st2.later hnone hs' (tk := s2.toks))) (I2.keeps fun b o hb hq => hs' b o (fun e => ?_) hb) (F2.keeps fun b hb o ho => hs' b o (fun e => hno (e ▸ hb)) ho) .next (fin V2 σ2 j2)
    subst e
    rcases hq with hq | hq | hq
    · exact hq fr2.1
    · exact hq fr2.2.1
    · exact hq fr2.2.2
  | some u =>
    refine IA.next I2 at2 hv fun y h' tk ry at3 hs' => ?_
    have I3 : Inv c P2 C2 σ2 h' := I2.turn hs' fr2.1 fr2.2.1 fr2.2.2
    have F3 : Fm c env V2 P2 C2 σ2 h' := F2.keeps fun b hb o ho => (hs'.2 b (fun e => hno (e ▸ hb))).trans ho
    have st3 : Step (ownF env) P1 C1 σ1 s1 P2 C2 σ2 { s2 with heap := h', toks := tk } := st2.later hnone hs'.extBut
    refine wpAny_assign_Name (storeVar (s := { s2 with heap := h', toks := tk }) I3 F3 ry hk fun s4 st4 I4 F4 => ?_)
    have at4 : At P2 C2 s4.heap (k + 1) := IA.keep at3 .rfl .rfl fun o ho => (st4.frn _ o ho hno fr2.1 fr2.2.1 fr2.2.2).1
    refine turn k u V2 σ2 hv j2 A R P2 C2 s4 _ _ I4 F4 fun P5 C5 σ5 V5 f z s5 st5 I5 F5 rf h5 => ?_
    have st := (st3.trans st4).trans st5
    have hkv : k < vs.length := (List.getElem?_eq_some_iff.mp hv).1
    obtain ⟨oi, hoi⟩ := IA.live at4
    have fr5 := st5.frn _ oi hoi hno fr2.1 fr2.2.1 fr2.2.2
    have at5 : At P5 C5 s5.heap (k + 1) := IA.keep at4 st5.pm st5.cm fun o ho => (st5.frn _ o ho hno fr2.1 fr2.2.1 fr2.2.2).1
    cases rf with
    | next => exact ⟨vs.length - (k + 1), by omega, k + 1, P5, C5, σ5, V5, rfl, hkv, st, I5, F5, at5, fr5.2, h5⟩
    | cont => exact ⟨vs.length - (k + 1), by omega, k + 1, P5, C5, σ5, V5, rfl, hkv, st, I5, F5, at5, fr5.2, h5⟩
    | brk => exact q P5 C5 σ5 V5 _ _ s5 (st1.own.trans st) I5 F5 .next h5
    | ret r => exact q P5 C5 σ5 V5 _ _ s5 (st1.own.trans st) I5 F5 (.ret r) h5

/-! targets -/
/-- what an assignment to a target makes of the names -/
def AsgX (c : Cfg) (X : Addr → Prop) (env : Env) (target : Expr) (V : Vars) (u : AV) (V' : Vars) : Prop :=
  ∀ (A : Around) P C σ (s : Shared) x (Q : Unit → Shared → Prop) (E : Value → Shared → Prop), A.handled = none → Inv c P C σ s.heap → Fm c env V P C σ s.heap → Rel c P C u x →
    (∀ s', Step X P C σ s P C σ s' → Inv c P C σ s'.heap → Fm c env V' P C σ s'.heap → Q () s') → wpAny (model c.prog c.w) A (assign target env x) Q E s
theorem Asg_Name {x : Str} {px : Pos} {u : AV} (hk : storable env x = true := by rfl) : AsgX c (ownF env) env (.Name x px) V u ((x, u) :: V) :=
  fun A P C σ s y Q E _ I F r q => wpAny_assign_Name (storeVar I F r hk q)
theorem ext_step {h' : Heap} (hs : Heap.ExtBut s.heap.objs.size s.heap h') (I : Inv c P C σ s.heap) (F : Fm c env V P C σ s.heap) : Step no P C σ s P C σ { s with heap := h' } ∧ Inv c P C σ h' ∧ Fm c env V P C σ h' :=
  have k : ∀ b o, s.heap.get? b = some o → h'.get? b = some o := fun b o hb => hs b o (Nat.ne_of_lt (Heap.lt_size hb)) hb
  ⟨⟨.rfl, .rfl, fun b o hb _ h1 h2 h3 => ⟨k b o hb, h1, h2, h3⟩, fun b o hb _ => ⟨o, k b o hb⟩, .refl _, .refl _, .refl _⟩, I.keeps fun b o hb _ => k b o hb, F.keeps fun b _ o ho => k b o ho⟩
theorem Asg_Tuple2 {x y : Str} {px py pt : Pos} {k : Nat} {u v : AV} (hx : storable env x = true := by rfl) (hy : storable env y = true := by rfl) : AsgX c (ownF env) env (.Tuple [.Name x px, .Name y py] k pt) V (.tup [u, v]) ((y, v) :: (x, u) :: V) := by
  intro A P C σ s z Q E hh I F r q
  cases r with
  | tup hp hr =>
    rename_i a its m
    obtain ⟨x1, x2, rfl⟩ : ∃ x1 x2, its = [x1, x2] := by
      cases hr with | cons _ hr => cases hr with | cons _ hr => cases hr; exact ⟨_, _, rfl⟩
    have ht : s.heap.IsTuple a [x1, x2].toArray := ⟨_, I.per _ _ hp, rfl, m, rfl⟩
    refine wpAny_assign_Tuple hh ht rfl rfl fun h' hs => ?_
    obtain ⟨st, I1, F1⟩ := ext_step hs I F
    cases hr with | cons r1 hr => cases hr with | cons r2 hr =>
    refine wpAny_assignInOrder_more (wpAny_assign_Name (storeVar (s := { s with heap := h' }) I1 F1 r1 hx fun s2 st2 I2 F2 => wpAny_assignInOrder_more (wpAny_assign_Name (storeVar I2 F2 r2 hy fun s3 st3 I3 F3 => wpAny_assignInOrder_none ?_))))
    exact q s3 ((st.wide0.trans st2).trans st3) I3 F3
theorem Asg_NameL {x : Str} {px : Pos} {u : AV} (hk : env.kindOf x = some .local := by rfl) : AsgX c (onlyL env) env (.Name x px) V u ((x, u) :: V) :=
  fun A P C σ s y Q E _ I F r q => wpAny_assign_Name (storeVarL I F r hk q)
theorem Asg_Tuple2L {x y : Str} {px py pt : Pos} {k : Nat} {u v : AV} (hx : env.kindOf x = some .local := by rfl) (hy : env.kindOf y = some .local := by rfl) : AsgX c (onlyL env) env (.Tuple [.Name x px, .Name y py] k pt) V (.tup [u, v]) ((y, v) :: (x, u) :: V) := by
  intro A P C σ s z Q E hh I F r q
  cases r with
  | tup hp hr =>
    rename_i a its m
    obtain ⟨x1, x2, rfl⟩ : ∃ x1 x2, its = [x1, x2] := by
      cases hr with | cons _ hr => cases hr with | cons _ hr => cases hr; exact ⟨_, _, rfl⟩
    have ht : s.heap.IsTuple a [x1, x2].toArray := ⟨_, I.per _ _ hp, rfl, m, rfl⟩
    refine wpAny_assign_Tuple hh ht rfl rfl fun h' hs => ?_
    obtain ⟨st, I1, F1⟩ := ext_step hs I F
    cases hr with | cons r1 hr => cases hr with | cons r2 hr =>
    refine wpAny_assignInOrder_more (wpAny_assign_Name (storeVarL (s := { s with heap := h' }) I1 F1 r1 hx fun s2 st2 I2 F2 => wpAny_assignInOrder_more (wpAny_assign_Name (storeVarL I2 F2 r2 hy fun s3 st3 I3 F3 => wpAny_assignInOrder_none ?_))))
    exact q s3 ((st.wide0.trans st2).trans st3) I3 F3
theorem unpackL {A : Around} {a : Addr} {its : List Value} {k : Nat} {Q : List Value → Shared → Prop} {E : Value → Shared → Prop} (hh : A.handled = none) (hl : s.heap.IsList a its.toArray) (hk : its.toArray.size = k)
    (h : ∀ h', Heap.ExtBut s.heap.objs.size s.heap h' → Q its { s with heap := h' }) : wpAny (model c.prog c.w) A (unpackItems (.ref a) k none) Q E s := by
  subst hk
  exact W.kun_itemsOf hh hl (by simpa using h)
theorem unpackT {A : Around} {a : Addr} {its : List Value} {k : Nat} {Q : List Value → Shared → Prop} {E : Value → Shared → Prop} (hh : A.handled = none) (hl : s.heap.IsTuple a its.toArray) (hk : its.toArray.size = k)
    (h : ∀ h', Heap.ExtBut s.heap.objs.size s.heap h' → Q its { s with heap := h' }) : wpAny (model c.prog c.w) A (unpackItems (.ref a) k none) Q E s := by
  subst hk
  exact wpAny_unpackItems_tuple hh hl (by simpa using h)
theorem assign_Tuple_eq (elts : List Expr) (k : Nat) (pos : Pos) (env : Env) (v : Value) : assign (.Tuple elts k pos) env v = (standAt pos >>= fun _ => unpack v (assignEach elts env)) := rfl
theorem Asg_Tuple3L {x y z : Str} {px py pz pt : Pos} {k : Nat} {u v w : AV} (hx : storable env x = true := by rfl) (hy : storable env y = true := by rfl) (hz : storable env z = true := by rfl) : AsgX c (ownF env) env (.Tuple [.Name x px, .Name y py, .Name z pz] k pt) V (.lst [u, v, w]) ((z, w) :: (y, v) :: (x, u) :: V) := by
  intro A P C σ s r' Q E hh I F r q
  cases r with
  | lst hp hr =>
    rename_i a its m
    obtain ⟨x1, x2, x3, rfl⟩ : ∃ x1 x2 x3, its = [x1, x2, x3] := by
      cases hr with | cons _ hr => cases hr with | cons _ hr => cases hr with | cons _ hr => cases hr; exact ⟨_, _, _, rfl⟩
    have hl : s.heap.IsList a [x1, x2, x3].toArray := ⟨_, I.per _ _ hp, rfl, m, rfl⟩
    rw [assign_Tuple_eq]
    refine wpAny_bind (wpAny_standAt ?_)
    unfold unpack
    refine wpAny_bind (wpAny_holding (unpackL hh hl rfl fun h' hs => ?_))
    obtain ⟨st, I1, F1⟩ := ext_step hs I F
    cases hr with | cons r1 hr => cases hr with | cons r2 hr => cases hr with | cons r3 hr =>
    refine wpAny_assignInOrder_more (wpAny_assign_Name (storeVar (s := { s with heap := h' }) I1 F1 r1 hx fun s2 st2 I2 F2 => wpAny_assignInOrder_more (wpAny_assign_Name (storeVar I2 F2 r2 hy fun s3 st3 I3 F3 =>
      wpAny_assignInOrder_more (wpAny_assign_Name (storeVar I3 F3 r3 hz fun s4 st4 I4 F4 => wpAny_assignInOrder_none ?_))))))
    exact q s4 (((st.wide0.trans st2).trans st3).trans st4) I4 F4
theorem FX_AssignT {elts : List Expr} {k : Nat} {tp pos : Pos} {e : Expr} (h : EX c n env V σ e fun v σ1 => ∃ V', AsgX c (ownF env) env (.Tuple elts k tp) V v V' ∧ Θ .next V' σ1)
    (hs : swapsWithSole [.Tuple elts k tp] e pos.line env = pure false := by rfl) (hw : swappedStores [.Tuple elts k tp] e env = pure none := by rfl) : FX c n env V σ (exec (.Assign [.Tuple elts k tp] e pos) env) Θ :=
  fun A R P C s Q E I F q => Assign_Tuple (h A R P C s _ E I F fun P1 C1 σ1 v y s1 st1 I1 F1 ry ⟨V', ha, h1⟩ => ha A P1 C1 σ1 s1 y _ E R.han I1 F1 ry fun s2 st2 I2 F2 =>
    q P1 C1 σ1 V' _ _ s2 (st1.own.trans st2) I2 F2 .next h1) hs hw
theorem FX_AssignSw {elts : List Expr} {k : Nat} {tp pos : Pos} {e : Expr} {x y : Str} (h : EX c n env V σ e fun v σ1 => ∃ u w, v = .tup [u, w] ∧ Θ .next ((x, u) :: (y, w) :: V) σ1) (hx : storable env x = true := by rfl) (hy : storable env y = true := by rfl)
    (hs : swapsWithSole [.Tuple elts k tp] e pos.line env = pure false := by rfl) (hw : swappedStores [.Tuple elts k tp] e env = pure (some [x, y]) := by rfl) : FX c n env V σ (exec (.Assign [.Tuple elts k tp] e pos) env) Θ :=
  fun A R P C s Q E I F q => Assign_Tuple_swapped (h A R P C s _ E I F fun P1 C1 σ1 v z s1 st1 I1 F1 rz ⟨u, w, hv, h1⟩ => by
    subst hv
    cases rz with
    | tup hp hr =>
      rename_i a its m
      obtain ⟨x1, x2, rfl⟩ : ∃ x1 x2, its = [x1, x2] := by
        cases hr with | cons _ hr => cases hr with | cons _ hr => cases hr; exact ⟨_, _, rfl⟩
      have ht : s1.heap.IsTuple a [x1, x2].toArray := ⟨_, I1.per _ _ hp, rfl, m, rfl⟩
      refine unpackT R.han ht rfl fun h' hs => ?_
      obtain ⟨st, I2, F2⟩ := ext_step hs I1 F1
      cases hr with | cons r1 hr => cases hr with | cons r2 hr =>
      refine wpAny_assignInOrder_more (wpAny_bindName (storeVar (s := { s1 with heap := h' }) I2 F2 r2 hy fun s3 st3 I3 F3 => wpAny_assignInOrder_more (wpAny_bindName (storeVar I3 F3 r1 hx fun s4 st4 I4 F4 => wpAny_assignInOrder_none ?_))))
      exact q P1 C1 σ1 _ _ _ s4 ((st1.own.trans st.wide0).trans (st3.trans st4)) I4 F4 .next h1) hs hw
end
end Mine
end
section
open PySem PyProof.Rows PySem.Calls
namespace Mine
section
variable {c : Cfg} {P P' : PM} {C C' : CM} {σ σ' : Mut} {s s' : Shared} {env : Env} {V : Vars} {n : Nat} {Φ : AV → Mut → Prop} {Θ : Fl → Vars → Mut → Prop}

/-! comprehensions -/
def closL (env : Env) : List (Str × NameKind) → List (Str × Addr) → List (Str × Addr)
  | [], acc => acc
  | (x, k) :: r, acc => if k == .free then (match env.cells.lookup x with | some a => closL env r ((x, a) :: acc) | none => closL env r acc) else closL env r acc
theorem closL_forIn (f : Str × NameKind → List (Str × Addr) → Sem (ForInStep (List (Str × Addr)))) (hf : ∀ x k acc, f (x, k) acc = if k == .free then (do let a ← cellOf env x; pure (.yield ((x, a) :: acc))) else pure (.yield acc)) :
    ∀ (l : List (Str × NameKind)) (acc : List (Str × Addr)), (l.all fun p => p.2 != .free || (env.cells.lookup p.1).isSome) = true → forIn l acc f = pure (closL env l acc)
  | [], acc, _ => rfl
  | (x, k) :: r, acc, h => by
    rw [List.all_cons, Bool.and_eq_true] at h
    rw [List.forIn_cons, hf, closL]
    by_cases hk : (k == NameKind.free) = true
    · rw [if_pos hk, if_pos hk]
      obtain ⟨a, ha⟩ : ∃ a, env.cells.lookup x = some a := Option.isSome_iff_exists.mp (by
        have := h.1
        have hk' : k = .free := by simpa using hk
        subst hk'
        simpa using this)
      rw [ha]
      unfold cellOf
      rw [ha]
      exact closL_forIn f hf r _ h.2
    · rw [if_neg hk, if_neg hk]
      exact closL_forIn f hf r _ h.2
theorem closure_is {scope : Scope} (h : (scope.names.all fun p => p.2 != .free || (env.cells.lookup p.1).isSome) = true) : closureFor scope env = pure (closL env scope.names []) := by
  simp only [closureFor]
  rw [closL_forIn (env := env) _ (fun x k acc => by first | rfl | (simp only; rfl)) scope.names [] h]
  rfl
theorem closL_sub : ∀ (l : List (Str × NameKind)) (acc : List (Str × Addr)), (∀ x k, acc.lookup x = some k → env.cells.lookup x = some k) → ∀ x k, (closL env l acc).lookup x = some k → env.cells.lookup x = some k
  | [], acc, h => h
  | (y, kd) :: r, acc, h => by
    unfold closL
    split
    · split
      · rename_i a ha
        refine closL_sub r _ fun x k hx => ?_
        rw [List.lookup_cons] at hx
        cases e : x == y with
        | true => rw [e] at hx; cases hx; rw [beq_iff_eq.mp e]; exact ha
        | false => rw [e] at hx; exact h x k hx
      · exact closL_sub r _ h
    · exact closL_sub r _ h
theorem closL_has {x : Str} : ∀ (l : List (Str × NameKind)) (acc : List (Str × Addr)), (l.all fun p => p.2 != .free || (env.cells.lookup p.1).isSome) = true → ((x, NameKind.free) ∈ l ∨ (acc.lookup x).isSome = true) → ((closL env l acc).lookup x).isSome = true
  | [], acc, _, h => h.elim (fun q => nomatch q) id
  | (y, kd) :: r, acc, ha, h => by
    rw [List.all_cons, Bool.and_eq_true] at ha
    unfold closL
    by_cases hk : (kd == NameKind.free) = true
    · rw [if_pos hk]
      have hk' : kd = .free := by simpa using hk
      subst hk'
      obtain ⟨a, hy⟩ : ∃ a, env.cells.lookup y = some a := Option.isSome_iff_exists.mp (by simpa using ha.1)
      rw [hy]
      refine closL_has r _ ha.2 ?_
      rw [List.lookup_cons]
      cases e : x == y with
      | true => exact .inr rfl
      | false =>
        refine h.imp (fun q => ?_) fun q => q
        rcases List.mem_cons.mp q with q | q
        · cases q; rw [beq_self_eq_true] at e; cases e
        · exact q
    · rw [if_neg hk]
      refine closL_has r _ ha.2 (h.imp (fun q => ?_) id)
      rcases List.mem_cons.mp q with q | q
      · cases q; exact absurd rfl hk
      · exact q

/-- the environment of a comprehension -/
abbrev cEnv (scope : Scope) (L : Addr) (env : Env) : Env := compEnvC scope (closL env scope.names []) L env
/-- a name of the frame around that a comprehension sees -/
def compVis (scope : Scope) (env : Env) (x : Str) : Bool := decide ((x, NameKind.free) ∈ scope.names) && ((relabel scope env).names.lookup x == some .cell) && (env.kindOf x == some .cell)
theorem Fm.comp {scope : Scope} {L : Addr} {h : Heap} {Vf : Vars} {m : Str → Option Value} (F : Fm c env V P C σ h) (hsc : scope.kind = .function) (hfree : (scope.names.all fun p => p.2 != .free || (env.cells.lookup p.1).isSome) = true)
    (hVf : ∀ p ∈ Vf, V.lookup p.1 = some p.2 ∧ compVis scope env p.1 = true) (hL : h.Ns L m) (fL : P L = none ∧ C L = none ∧ σ L = none) (hLo : ¬ ownF env L) : Fm c (cEnv scope L env) Vf P C σ h := by
  have hsub : ∀ x k, (cEnv scope L env).cells.lookup x = some k → env.cells.lookup x = some k := closL_sub scope.names [] fun x k hx => by simp at hx
  refine ⟨hsc, fun x v hv => ?_, ⟨m, hL⟩, fun x k hk => F.cells x k (hsub x k hk), fL, fun x k hk => ?_, fun x y k hx hy => F.ap x y k (hsub x k hx) (hsub y k hy), F.glb, F.blt⟩
  · obtain ⟨h1, h2⟩ := hVf (x, v) (mem_of_lookup hv)
    simp only [compVis, Bool.and_eq_true, decide_eq_true_eq, beq_iff_eq] at h2
    obtain ⟨y, hy, hva⟩ := F.var x v h1
    refine ⟨y, hy, ?_⟩
    rcases hva with ⟨h3, _⟩ | ⟨h3, k, hk, hc⟩
    · rw [h2.2] at h3; cases h3
    · obtain ⟨k', hk'⟩ := Option.isSome_iff_exists.mp (closL_has (env := env) (x := x) scope.names [] hfree (.inl h2.1.1))
      have := hsub x k' hk'
      rw [hk] at this; cases this
      exact .inr ⟨h2.1.2, k, hk', hc⟩
  · have q := F.fc x k (hsub x k hk)
    exact ⟨q.1, q.2.1, q.2.2.1, fun e => hLo (.inr ⟨x, by have e' : k = L := e; rw [← e']; exact hsub x k hk⟩)⟩

def LoopOK (c : Cfg) (n : Nat) (cenv : Env) (V : Vars) (e : Expr) (d : Nat) (vs outs : List AV) : Prop :=
  ∀ A, Room A n → ∀ P C σ (s : Shared) it At D out (Rr : Result → Shared → Prop), IterAt c it vs At → Inv c P C σ s.heap → Fm c cenv V P C σ s.heap → At P C s.heap 0 → (P it = none ∧ C it = none ∧ σ it = none) → ¬ ownF cenv it → σ D = some out → out.length + outs.length < 100000 →
    (∀ P' C' s', Step (fun b => onlyL cenv b ∨ b = it) P C σ s P' C' (upd σ D (out ++ outs)) s' → Inv c P' C' (upd σ D (out ++ outs)) s'.heap → Fm c cenv V P' C' (upd σ D (out ++ outs)) s'.heap → Rr (.ok .next) s') →
    codeAny (model c.prog c.w) A (.compLoop e d (.ref it) (.ref D) cenv) Rr s

theorem upd_id {α : Type} {f : Addr → Option α} {a : Addr} {v : α} (h : f a = some v) : upd f a v = f := by
  funext b; unfold upd; split
  · rename_i e; rw [e, h]
  · rfl
/-- the loop, by its turn -/
theorem loop_of {cenv : Env} {e : Expr} {d : Nat} {vs : List AV} {p : Pos} (g : AV → List AV) (tail : Value → Value → Value → Sem PySem.Fin)
    (hct : ∀ it acc, compTurn e d it acc cenv = (standAt p >>= fun _ => pyNext it >>= fun r => match r with | none => pure (.done .next) | some v => tail it acc v))
    (hq : ∀ it acc, (Code.compLoop e d it acc cenv).quiet = true)
    (hden : ∀ it acc, denote table (.compLoop e d it acc cenv) = (compTurn e d it acc cenv).onRaise (fun x => do noteFrame x cenv; theTreesLotGoes x))
    (hund : ∀ (A : Around) it acc, A.under (.compLoop e d it acc cenv) = A)
    (hturn : ∀ A, Room A n → ∀ P C σ (s : Shared) it At k u x D out (Q : PySem.Fin → Shared → Prop) (E : Value → Shared → Prop), u ∈ vs → IterAt c it vs At → Inv c P C σ s.heap → Fm c cenv V P C σ s.heap → At P C s.heap k → (P it = none ∧ C it = none ∧ σ it = none) → ¬ ownF cenv it → σ D = some out → out.length + (g u).length < 100000 →
      Rel c P C u x → (∀ P' C' s', Step (onlyL cenv) P C σ s P' C' (upd σ D (out ++ g u)) s' → Inv c P' C' (upd σ D (out ++ g u)) s'.heap → Fm c cenv V P' C' (upd σ D (out ++ g u)) s'.heap → Q (.again (.compLoop e d (.ref it) (.ref D) cenv)) s') → wpAny (model c.prog c.w) A (tail (.ref it) (.ref D) x) Q E s) :
    LoopOK c n cenv V e d vs (vs.flatMap g) := by
  intro A R P C σ s it At D out Rr IA I F at0 fr hno hD hlen q
  refine codeAny_loop (hq _ _) (fun m s2 => ∃ k P2 C2, m = vs.length - k ∧ k ≤ vs.length ∧ Step (fun b => onlyL cenv b ∨ b = it) P C σ s P2 C2 (upd σ D (out ++ (vs.take k).flatMap g)) s2 ∧ Inv c P2 C2 (upd σ D (out ++ (vs.take k).flatMap g)) s2.heap ∧
    Fm c cenv V P2 C2 (upd σ D (out ++ (vs.take k).flatMap g)) s2.heap ∧ At P2 C2 s2.heap k ∧ (P2 it = none ∧ C2 it = none)) ?_ vs.length ⟨0, P, C, by simp, Nat.zero_le _, by simp only [List.take_zero, List.flatMap_nil, List.append_nil]; rw [upd_id hD]; exact .rfl, by simp only [List.take_zero, List.flatMap_nil, List.append_nil]; rw [upd_id hD]; exact I, by simp only [List.take_zero, List.flatMap_nil, List.append_nil]; rw [upd_id hD]; exact F, at0, fr.1, fr.2.1⟩
  rintro m s2 ⟨k, P2, C2, hm, hkl, st2, I2, F2, at2, fr2⟩
  have hDit : it ≠ D := fun e => by rw [← e, fr.2.2] at hD; cases hD
  have fr3 : upd σ D (out ++ (vs.take k).flatMap g) it = none := (upd_ne hDit).trans fr.2.2
  rw [hund, show (model c.prog c.w).den (Code.compLoop e d (Value.ref it) (Value.ref D) cenv) = denote table (Code.compLoop e d (Value.ref it) (Value.ref D) cenv) from rfl, hden]
  refine wpAny_noted ?_
  rw [hct]
  refine wpAny_bind (wpAny_standAt (wpAny_bind ?_))
  cases hv : vs[k]? with
  | none =>
    refine IA.fin R.han I2 at2 hv fun h' hs' => ?_
    have hk' : k = vs.length := by
      rw [List.getElem?_eq_none_iff] at hv; omega
    subst hk'
    simp only [List.take_length] at st2 I2 F2 fr3 ⊢
    refine wpAny_pure (q P2 C2 _ ⟨st2.pm, st2.cm, fun b o hb hx h1 h2 h3 => ?_, fun b o hb hx => let ⟨o', h'⟩ := st2.lv b o hb hx; ⟨o', hs' b o' (fun e => hx (.inr e)) h'⟩, st2.gens, st2.drawn, st2.os⟩ (I2.keeps fun b o hb hq => hs' b o (fun e => ?_) hb) (F2.keeps fun b hb o ho => hs' b o (fun e => hno (e ▸ hb)) ho))
    · obtain ⟨y1, y2⟩ := st2.frn b o hb hx h1 h2 h3
      exact ⟨hs' b o (fun e => hx (.inr e)) y1, y2⟩
    · subst e
      rcases hq with hq | hq | hq
      · exact hq fr2.1
      · exact hq fr2.2
      · exact hq fr3
  | some u =>
    have hkv : k < vs.length := (List.getElem?_eq_some_iff.mp hv).1
    have hmem : u ∈ vs := List.mem_of_getElem? hv
    have htk : vs.take (k + 1) = vs.take k ++ [u] := by rw [List.take_add_one, hv]; rfl
    refine IA.next I2 at2 hv fun y h' tk ry at3 hs' => ?_
    have hl2 : (out ++ (vs.take k).flatMap g).length + (g u).length < 100000 := by
      have e1 : (vs.flatMap g).length = ((vs.take k).flatMap g).length + ((vs.drop k).flatMap g).length := by
        rw [← List.length_append, ← List.flatMap_append, List.take_append_drop]
      have e2 : vs.drop k = u :: vs.drop (k + 1) := by
        rw [← List.getElem_cons_drop hkv]
        congr 1
        have := List.getElem?_eq_some_iff.mp hv
        exact this.2
      have e3 : ((vs.drop k).flatMap g).length = (g u).length + ((vs.drop (k + 1)).flatMap g).length := by rw [e2, List.flatMap_cons, List.length_append]
      simp only [List.length_append]
      omega
    refine hturn A R P2 C2 _ { s2 with heap := h', toks := tk } it At (k + 1) u y D _ _ _ hmem IA (I2.turn hs' fr2.1 fr2.2 fr3) (F2.keeps fun b hb o ho => (hs'.2 b (fun e => hno (e ▸ hb))).trans ho) at3 ⟨fr2.1, fr2.2, fr3⟩ hno upd_self hl2 ry fun P5 C5 s5 st5 I5 F5 => ?_
    rw [upd_upd] at st5 I5 F5
    obtain ⟨oi, hoi⟩ := IA.live at3
    have hnl : ¬ onlyL cenv it := fun e => hno (.inl e)
    have fr5 := st5.frn it oi hoi hnl fr2.1 fr2.2 fr3
    have e5 : out ++ (vs.take k).flatMap g ++ g u = out ++ (vs.take (k + 1)).flatMap g := by rw [htk, List.flatMap_append, List.append_assoc]; simp
    rw [e5] at st5 I5 F5
    refine ⟨rfl, vs.length - (k + 1), by omega, k + 1, P5, C5, rfl, hkv, ?_, I5, F5, IA.keep at3 st5.pm st5.cm fun o ho => (st5.frn it o ho hnl fr2.1 fr2.2 fr3).1, fr5.2.1, fr5.2.2.1⟩
    refine ⟨st2.pm.trans st5.pm, st2.cm.trans st5.cm, fun b o hb hx h1 h2 h3 => ?_, fun b o hb hx => let ⟨o', h'⟩ := st2.lv b o hb hx; st5.lv b o' ((hs'.2 b fun e => hx (.inr e)).trans h') (fun q => hx (.inl q)), st5.gens.trans st2.gens, st5.drawn.trans st2.drawn, st5.os.trans st2.os⟩
    obtain ⟨y1, y2, y3, y4⟩ := st2.frn b o hb hx h1 h2 h3
    exact st5.frn b o ((hs'.2 b fun e => hx (.inr e)).trans y1) (fun q => hx (.inl q)) y2 y3 y4
end
end Mine
end
section
open PySem PyProof.Rows PySem.Calls
namespace Mine
section
variable {c : Cfg} {P P' : PM} {C C' : CM} {σ σ' : Mut} {s s' : Shared} {env : Env} {V : Vars} {n : Nat} {Φ : AV → Mut → Prop} {Θ : Fl → Vars → Mut → Prop}

/-- an element put onto the list that is made -/
theorem emit_wp {cenv : Env} {Va : Vars} {elt : Expr} {y : AV} {A : Around} {D : Addr} {out : List AV} {Q : Unit → Shared → Prop} {E : Value → Shared → Prop} (R : Room A n) (I : Inv c P C σ s.heap) (F : Fm c cenv Va P C σ s.heap) (hD : σ D = some out) (hlen : out.length + 1 < 100000)
    (he : ∀ σ', EX c n cenv Va σ' elt fun z σ2 => z = y ∧ σ2 = σ')
    (h : ∀ P' C' s', Step (onlyL cenv) P C σ s P' C' (upd σ D (out ++ [y])) s' → Inv c P' C' (upd σ D (out ++ [y])) s'.heap → Fm c cenv Va P' C' (upd σ D (out ++ [y])) s'.heap → Q () s') :
    wpAny (model c.prog c.w) A (eval elt cenv >>= fun x => call (.builtin "list.append") [.ref D, x] >>= fun _ => pure ()) Q E s := by
  refine wpAny_bind (he σ A R P C s _ E I F fun P1 C1 σ1 z x s1 st1 I1 F1 rx hz => ?_)
  obtain ⟨rfl, rfl⟩ := hz
  obtain ⟨its, hl, hr⟩ := I1.own D out hD
  have hz : its.toArray.size ≤ sizeLine := by
    have := hr.length
    have h2 : (its.toArray.size : Nat) = its.length := by simp
    show _ ≤ 2 ^ 24
    omega
  refine wpAny_bind (wpAny_list_append_plain (hsz := hz) hl fun h' hl' hs => wpAny_pure ?_)
  have hl2 : h'.PlainList D (its ++ [x]).toArray := by simpa using hl'
  have st2 : Step no P1 C1 σ1 s1 P1 C1 (upd σ1 D (out ++ [z])) { s1 with heap := h' } := Step.turnOwn (tk := s1.toks) hD hs (let ⟨k, e⟩ := hl2; ⟨_, e⟩)
  exact h P1 C1 { s1 with heap := h' } (st1.trans st2.wide0) (I1.turnOwn hD hs hl2 (hr.append (.cons rx .nil))) (F1.step st2)

theorem loop1 {cenv : Env} {elt target iter : Expr} {scope : Scope} {pos : Pos} {vs : List AV} {Va : AV → Vars} {f : AV → AV}
    (hasg : ∀ u ∈ vs, AsgX c (onlyL cenv) cenv target V u (Va u)) (hsub : ∀ u ∈ vs, ∀ p ∈ V, (Va u).lookup p.1 = some p.2) (helt : ∀ u ∈ vs, ∀ σ', EX c n cenv (Va u) σ' elt fun y σ2 => y = f u ∧ σ2 = σ') :
    LoopOK c n cenv V (.ListComp elt [⟨target, iter, [], 0⟩] scope pos) 0 vs (vs.map f) := by
  have e : vs.map f = vs.flatMap fun u => [f u] := by induction vs <;> simp_all
  rw [e]
  refine loop_of (fun u => [f u]) _ (fun it acc => compTurn_list1 elt target iter scope pos it acc cenv) (fun _ _ => rfl) (fun _ _ => rfl) (fun _ _ _ => rfl) ?_
  intro A R P C σ s it At k u x D out Q E hu IA I F at0 fr hno hD hlen rx q
  refine wpAny_bind (IA.owned at0 ?_)
  refine wpAny_bind (hasg u hu A P C σ s x _ E R.han I F rx fun s1 st1 I1 F1 => ?_)
  refine wpAny_bind (emit_wp R I1 F1 hD hlen (helt u hu) fun P2 C2 s2 st2 I2 F2 => wpAny_pure (q P2 C2 s2 (st1.trans st2) I2 (F2.sub (hsub u hu))))

theorem loop1if {cenv : Env} {elt target iter t : Expr} {scope : Scope} {pos : Pos} {vs : List AV} {Va : AV → Vars} {f : AV → AV} {p : AV → Bool}
    (hasg : ∀ u ∈ vs, AsgX c (onlyL cenv) cenv target V u (Va u)) (hsub : ∀ u ∈ vs, ∀ p ∈ V, (Va u).lookup p.1 = some p.2)
    (htest : ∀ u ∈ vs, ∀ σ', BX c n cenv (Va u) σ' (isTrue t cenv (eval t cenv)) fun b σ2 => b = p u ∧ σ2 = σ')
    (helt : ∀ u ∈ vs, p u = true → ∀ σ', EX c n cenv (Va u) σ' elt fun y σ2 => y = f u ∧ σ2 = σ') :
    LoopOK c n cenv V (.ListComp elt [⟨target, iter, [t], 0⟩] scope pos) 0 vs ((vs.filter p).map f) := by
  have e : (vs.filter p).map f = vs.flatMap fun u => if p u then [f u] else [] := by
    clear hasg hsub htest helt
    induction vs with
    | nil => rfl
    | cons a l ih => by_cases h : p a <;> simp_all
  rw [e]
  refine loop_of (fun u => if p u then [f u] else []) _ (fun it acc => compTurn_list elt target iter [t] scope pos it acc cenv) (fun _ _ => rfl) (fun _ _ => rfl) (fun _ _ _ => rfl) ?_
  intro A R P C σ s it At k u x D out Q E hu IA I F at0 fr hno hD hlen rx q
  refine wpAny_bind (IA.owned at0 ?_)
  refine wpAny_bind (hasg u hu A P C σ s x _ E R.han I F rx fun s1 st1 I1 F1 => ?_)
  refine wpAny_bind (wpAny_tests_one (htest u hu σ A R P C s1 _ E I1 F1 fun P2 C2 σ2 b s2 st2 I2 F2 hb => ?_))
  obtain ⟨rfl, rfl⟩ := hb
  cases hp : p u with
  | true =>
    simp only [hp, if_true] at q hlen ⊢
    refine wpAny_bind (emit_wp R I2 F2 hD hlen (helt u hu hp) fun P3 C3 s3 st3 I3 F3 => wpAny_pure (q P3 C3 s3 ((st1.trans st2).trans st3) I3 (F3.sub (hsub u hu))))
  | false =>
    simp only [hp, Bool.false_eq_true, if_false, List.append_nil] at q ⊢
    rw [upd_id hD] at q
    exact wpAny_pure (q P2 C2 s2 (st1.trans st2) I2 (F2.sub (hsub u hu)))

theorem compTurn_two (elt t1 i1 t2 i2 : Expr) (scope : Scope) (pos : Pos) (it acc : Value) (env : Env) :
    compTurn (.ListComp elt [⟨t1, i1, [], 0⟩, ⟨t2, i2, [], 0⟩] scope pos) 0 it acc env = (standAt i1.pos >>= fun _ => pyNext it >>= fun r => match r with
      | none => pure (.done .next)
      | some v => letOwnedTupleGo t1 it v >>= fun _ => assign t1 env v >>= fun _ => eval i2 env >>= fun x => standAt i2.pos >>= fun _ => foldedSetIterable i2 env x >>= fun x => holding [x] (pyIter x) >>= fun it2 =>
        runOwn (.compStart (.ListComp elt [⟨t1, i1, [], 0⟩, ⟨t2, i2, [], 0⟩] scope pos) 1 it2 acc env) env >>= fun _ =>
          again (.compLoop (.ListComp elt [⟨t1, i1, [], 0⟩, ⟨t2, i2, [], 0⟩] scope pos) 0 it acc env)) := by rfl
theorem compTurn_snd (elt t1 i1 t2 i2 : Expr) (scope : Scope) (pos : Pos) (it acc : Value) (env : Env) :
    compTurn (.ListComp elt [⟨t1, i1, [], 0⟩, ⟨t2, i2, [], 0⟩] scope pos) 1 it acc env = (standAt i2.pos >>= fun _ => pyNext it >>= fun r => match r with
      | none => pure (.done .next)
      | some v => letOwnedTupleGo t2 it v >>= fun _ => assign t2 env v >>= fun _ =>
        (eval elt env >>= fun x => call (.builtin "list.append") [acc, x] >>= fun _ => pure ()) >>= fun _ =>
          again (.compLoop (.ListComp elt [⟨t1, i1, [], 0⟩, ⟨t2, i2, [], 0⟩] scope pos) 1 it acc env)) := by rfl
theorem compStart_snd {A : Around} {elt t1 i1 t2 i2 : Expr} {scope : Scope} {pos : Pos} {it acc : Value} {R : Result → Shared → Prop}
    (h0 : codeAny (model c.prog c.w) A (.compLoop (.ListComp elt [⟨t1, i1, [], 0⟩, ⟨t2, i2, [], 0⟩] scope pos) 1 it acc env) R s)
    (h : wpAny (model c.prog c.w) A (pyIter it) (fun it' s' => codeAny (model c.prog c.w) A (.compLoop (.ListComp elt [⟨t1, i1, [], 0⟩, ⟨t2, i2, [], 0⟩] scope pos) 1 it' acc env) R s') (notedBy (model c.prog c.w) A env fun x s' => R (.error x) s') s) :
    codeAny (model c.prog c.w) A (.compStart (.ListComp elt [⟨t1, i1, [], 0⟩, ⟨t2, i2, [], 0⟩] scope pos) 1 it acc env) R s := by
  refine codeAny_of_tree ?_
  show wpAny (model c.prog c.w) A ((compStart (.ListComp elt [⟨t1, i1, [], 0⟩, ⟨t2, i2, [], 0⟩] scope pos) 1 it acc env).onRaise (fun x => do noteFrame x env; standAt theWindowsPlace)) _ _ s
  refine wpAny_notedAt ?_
  unfold compStart
  show wpAny _ _ (ask >>= _) _ _ s
  refine wpAny_bind (wpAny_askSetting (wpAny_ite ?_))
  split
  · exact wpAny_bind (wpAny_pure (wpAny_pure (And.intro rfl h0)))
  · refine wpAny_bind (wpAny_rule ?_)
    show wpAny _ _ (standAt i2.pos >>= _) _ _ s
    exact wpAny_bind (wpAny_standAt (wpAny_bind (wpAny_mono h (fun it' s' h' => wpAny_pure (And.intro rfl h')) fun _ _ x => x)))
end
end Mine
end
section
open PySem PyProof.Rows PySem.Calls
namespace Mine
section
variable {c : Cfg} {P P' : PM} {C C' : CM} {σ σ' : Mut} {s s' : Shared} {env : Env} {V : Vars} {n : Nat} {Φ : AV → Mut → Prop} {Θ : Fl → Vars → Mut → Prop}
theorem Step.narrow {X : Addr → Prop} {it : Addr} {o : Obj} (hit : s.heap.get? it = none) (h : Step (fun b => X b ∨ b = it) P C σ { s with heap := s.heap.push o } P' C' σ' s') : Step X P C σ s P' C' σ' s' :=
  ⟨h.pm, h.cm, fun b x hb hx h1 h2 h3 => h.frn b x (Heap.get?_push_of_some _ hb) (fun q => q.elim hx fun e => by rw [e, hit] at hb; cases hb) h1 h2 h3, fun b x hb hx => h.lv b x (Heap.get?_push_of_some _ hb) (fun q => q.elim hx fun e => by rw [e, hit] at hb; cases hb), h.gens, h.drawn, h.os⟩

theorem loopSnd {cenv : Env} {elt t1 i1 t2 i2 : Expr} {scope : Scope} {pos : Pos} {vs : List AV} {Va : AV → Vars} {f : AV → AV}
    (hasg : ∀ u ∈ vs, AsgX c (onlyL cenv) cenv t2 V u (Va u)) (hsub : ∀ u ∈ vs, ∀ p ∈ V, (Va u).lookup p.1 = some p.2) (helt : ∀ u ∈ vs, ∀ σ', EX c n cenv (Va u) σ' elt fun y σ2 => y = f u ∧ σ2 = σ') :
    LoopOK c n cenv V (.ListComp elt [⟨t1, i1, [], 0⟩, ⟨t2, i2, [], 0⟩] scope pos) 1 vs (vs.map f) := by
  have e : vs.map f = vs.flatMap fun u => [f u] := by induction vs <;> simp_all
  rw [e]
  refine loop_of (fun u => [f u]) _ (fun it acc => compTurn_snd elt t1 i1 t2 i2 scope pos it acc cenv) (fun _ _ => rfl) (fun _ _ => rfl) (fun _ _ _ => rfl) ?_
  intro A R P C σ s it At k u x D out Q E hu IA I F at0 fr hno hD hlen rx q
  refine wpAny_bind (IA.owned at0 ?_)
  refine wpAny_bind (hasg u hu A P C σ s x _ E R.han I F rx fun s1 st1 I1 F1 => ?_)
  refine wpAny_bind (emit_wp R I1 F1 hD hlen (helt u hu) fun P2 C2 s2 st2 I2 F2 => wpAny_pure (q P2 C2 s2 (st1.trans st2) I2 (F2.sub (hsub u hu))))
theorem loop2 {cenv : Env} {elt t1 i1 t2 i2 : Expr} {scope : Scope} {pos : Pos} {vs : List AV} {Va : AV → Vars} {g : AV → List AV}
    (hasg : ∀ u ∈ vs, AsgX c (onlyL cenv) cenv t1 V u (Va u)) (hsub : ∀ u ∈ vs, ∀ p ∈ V, (Va u).lookup p.1 = some p.2)
    (hin : ∀ u ∈ vs, ∀ σ', EX c n cenv (Va u) σ' i2 fun v σ2 => σ2 = σ' ∧ ∃ ws, Iters c v ws ∧ LoopOK c n cenv (Va u) (.ListComp elt [⟨t1, i1, [], 0⟩, ⟨t2, i2, [], 0⟩] scope pos) 1 ws (g u))
    (hfs : ∀ x, foldedSetIterable i2 cenv x = pure x := by intro _; rfl) :
    LoopOK c n cenv V (.ListComp elt [⟨t1, i1, [], 0⟩, ⟨t2, i2, [], 0⟩] scope pos) 0 vs (vs.flatMap g) := by
  refine loop_of g _ (fun it acc => compTurn_two elt t1 i1 t2 i2 scope pos it acc cenv) (fun _ _ => rfl) (fun _ _ => rfl) (fun _ _ _ => rfl) ?_
  intro A R P C σ s it At k u x D out Q E hu IA I F at0 fr hno hD hlen rx q
  refine wpAny_bind (IA.owned at0 ?_)
  refine wpAny_bind (hasg u hu A P C σ s x _ E R.han I F rx fun s1 st1 I1 F1 => ?_)
  refine wpAny_bind (hin u hu σ A R P C s1 _ E I1 F1 fun P2 C2 σ2 v y s2 st2 I2 F2 ry h2 => ?_)
  obtain ⟨rfl, ws, hit, hloop⟩ := h2
  refine wpAny_bind (wpAny_standAt (wpAny_bind (wpAny_of_eq (hfs y) (wpAny_bind (wpAny_holding (hit A P2 C2 σ2 s2 y _ E I2 ry fun At2 o IA2 hof at2 => ?_))))))
  have hnone : s2.heap.get? s2.heap.objs.size = none := Heap.get?_none_of_le (Nat.le_refl _)
  have hno2 : ¬ ownF cenv s2.heap.objs.size := fun hb => by
    obtain ⟨o, ho⟩ := F2.live _ hb
    rw [hnone] at ho; cases ho
  have lp : ∀ Rr, (∀ P' C' s', Step (fun b => onlyL cenv b ∨ b = s2.heap.objs.size) P2 C2 σ2 { s2 with heap := s2.heap.push o } P' C' (upd σ2 D (out ++ g u)) s' → Inv c P' C' (upd σ2 D (out ++ g u)) s'.heap → Fm c cenv (Va u) P' C' (upd σ2 D (out ++ g u)) s'.heap → Rr (.ok .next) s') →
      codeAny (model c.prog c.w) A (.compLoop (.ListComp elt [⟨t1, i1, [], 0⟩, ⟨t2, i2, [], 0⟩] scope pos) 1 (.ref s2.heap.objs.size) (.ref D) cenv) Rr { s2 with heap := s2.heap.push o } :=
    fun Rr => hloop A R P2 C2 σ2 { s2 with heap := s2.heap.push o } _ At2 D out Rr IA2 (I2.push o) (F2.keeps fun b _ o ho => Heap.get?_push_of_some _ ho) at2 ⟨I2.freshP, I2.freshC, I2.freshS⟩ hno2 hD hlen
  have fin : ∀ P' C' s', Step (fun b => onlyL cenv b ∨ b = s2.heap.objs.size) P2 C2 σ2 { s2 with heap := s2.heap.push o } P' C' (upd σ2 D (out ++ g u)) s' → Inv c P' C' (upd σ2 D (out ++ g u)) s'.heap → Fm c cenv (Va u) P' C' (upd σ2 D (out ++ g u)) s'.heap →
      wpAny (model c.prog c.w) A (again (.compLoop (.ListComp elt [⟨t1, i1, [], 0⟩, ⟨t2, i2, [], 0⟩] scope pos) 0 (.ref it) (.ref D) cenv)) Q E s' :=
    fun P' C' s' st I' F' => wpAny_pure (q P' C' s' ((st1.trans st2).trans (st.narrow hnone)) I' (F'.sub (hsub u hu)))
  refine wpAny_bind (wpAny_runOwn ?_)
  exact compStart_snd (lp _ fun P' C' s' st I' F' => fin P' C' s' st I' F') (IA2.again at2 (lp _ fun P' C' s' st I' F' => fin P' C' s' st I' F'))

/-- the whole of a comprehension, up to what is done with its list -/
theorem comp_core {A : Around} {elt target iter : Expr} {ifs : List Expr} {rest : List Comprehension} {scope : Scope} {pos pos' : Pos} {Vf : Vars} {use : Option (Value → Sem Unit)} {Q : Value → Shared → Prop} {E : Value → Shared → Prop} {Ψ : List AV → Mut → Prop}
    (R : Room A n) (I : Inv c P C σ s.heap) (F : Fm c env V P C σ s.heap)
    (h : EX c n env V σ iter fun v σ1 => ∃ vs outs, Iters c v vs ∧ outs.length < 100000 ∧ (∀ L, LoopOK c n (cEnv scope L env) Vf (.ListComp elt (⟨target, iter, ifs, 0⟩ :: rest) scope pos) 0 vs outs) ∧ Ψ outs σ1)
    (hVf : ∀ p ∈ Vf, V.lookup p.1 = some p.2 ∧ compVis scope env p.1 = true) (hfree : (scope.names.all fun p => p.2 != .free || (env.cells.lookup p.1).isSome) = true) (hcell : ∀ x ∈ scope.names, x.2 ≠ .cell) (hkind : scope.kind = .function)
    (hnames : ∀ x ∈ scope.names, x.2 = .local → scope.names.lookup x.1 = some .local) (hs : ∀ x, foldedSetIterable iter env x = pure x)
    (fin : ∀ P' C' σ1 D L outs s', Step (onlyL env) P C σ s P' C' (upd σ1 D outs) s' → Inv c P' C' (upd σ1 D outs) s'.heap → Fm c env V P' C' (upd σ1 D outs) s'.heap → (∃ m, s'.heap.Ns L m) → s.heap.get? L = none → (P' L = none ∧ C' L = none ∧ upd σ1 D outs L = none) → ¬ ownF env L → σ1 D = none → Ψ outs σ1 →
      compPost (model c.prog c.w) A E use Q (.ref D) L (.ok .next) s') :
    wpAny (model c.prog c.w) A (comprehension (.ListComp elt (⟨target, iter, ifs, 0⟩ :: rest) scope pos) scope env pos' (newList []) false (eval iter env) use) Q E s := by
  refine wpAny_comprehension_free (cl := closL env scope.names []) rfl hs (closure_is hfree) hkind hnames (h A R P C s _ E I F fun P1 C1 σ1 v y s1 st1 I1 F1 ry h1 => ?_)
  obtain ⟨vs, outs, hit, hlen, hloop, hΨ⟩ := h1
  refine hit A P1 C1 σ1 s1 y _ E I1 ry fun At o IA hof at0 => ?_
  have hn1 : s1.heap.get? s1.heap.objs.size = none := Heap.get?_none_of_le (Nat.le_refl _)
  have I2 := I1.push o
  have st2 : Step no P1 C1 σ1 s1 P1 C1 σ1 { s1 with heap := s1.heap.push o } := .push o
  refine wpAny_newList (s := { s1 with heap := s1.heap.push o }) ?_ (Nat.zero_le _)
  have st3 := Step.allocOwn (s := { s1 with heap := s1.heap.push o }) I2 { cls := .type "list", data := .seq ([] : List Value).toArray } []
  have I3 := Inv.allocOwn (s := { s1 with heap := s1.heap.push o }) I2 (its := []) (vs := []) .nil
  have hD1 : σ1 (s1.heap.push o).objs.size = none := I2.freshS (s := { s1 with heap := s1.heap.push o })
  have hDit : s1.heap.objs.size ≠ (s1.heap.push o).objs.size := by rw [Heap.size_push]; omega
  have F3 := (F1.step st2).step st3
  refine wpAny_newFunctionEnv hcell (fun x hx => nomatch hx) (fun h4 hn4 hs4 => ?_) hkind
  have hL3 : ((s1.heap.push o).push { cls := .type "list", data := .seq ([] : List Value).toArray }).get? ((s1.heap.push o).push { cls := .type "list", data := .seq ([] : List Value).toArray }).objs.size = none := Heap.get?_none_of_le (Nat.le_refl _)
  have k4 : ∀ b x, ((s1.heap.push o).push { cls := .type "list", data := .seq ([] : List Value).toArray }).get? b = some x → h4.get? b = some x := fun b x hb =>
    hs4.extBut b x (Nat.ne_of_lt (Heap.lt_size hb)) (Heap.get?_push_of_some _ hb)
  have I4 : Inv c P1 C1 (upd σ1 (s1.heap.push o).objs.size []) h4 := Inv.keeps (s := { s1 with heap := (s1.heap.push o).push { cls := .type "list", data := .seq ([] : List Value).toArray } }) I3 fun b x hb _ => k4 b x hb
  have F4 : Fm c env V P1 C1 (upd σ1 (s1.heap.push o).objs.size []) h4 := F3.keeps fun b _ x hx => k4 b x hx
  have frL : P1 ((s1.heap.push o).push { cls := .type "list", data := .seq ([] : List Value).toArray }).objs.size = none ∧ C1 ((s1.heap.push o).push { cls := .type "list", data := .seq ([] : List Value).toArray }).objs.size = none ∧
      upd σ1 (s1.heap.push o).objs.size [] ((s1.heap.push o).push { cls := .type "list", data := .seq ([] : List Value).toArray }).objs.size = none :=
    ⟨Inv.freshP (s := { s1 with heap := (s1.heap.push o).push { cls := .type "list", data := .seq ([] : List Value).toArray } }) I3, Inv.freshC (s := { s1 with heap := (s1.heap.push o).push { cls := .type "list", data := .seq ([] : List Value).toArray } }) I3,
      Inv.freshS (s := { s1 with heap := (s1.heap.push o).push { cls := .type "list", data := .seq ([] : List Value).toArray } }) I3⟩
  have hLo : ¬ ownF env ((s1.heap.push o).push { cls := .type "list", data := .seq ([] : List Value).toArray }).objs.size := fun hb => by
    obtain ⟨x, hx⟩ := F3.live _ hb
    have hx' : ((s1.heap.push o).push { cls := .type "list", data := .seq ([] : List Value).toArray }).get? _ = some x := hx
    rw [hL3] at hx'; cases hx'
  have Fc := Fm.comp (scope := scope) F4 hkind hfree hVf hn4 frL hLo
  have at4 : At P1 C1 h4 0 := IA.keep at0 .rfl .rfl fun x hx => k4 _ x (Heap.get?_push_of_some _ hx)
  have hnoI : ¬ ownF (cEnv scope ((s1.heap.push o).push { cls := .type "list", data := .seq ([] : List Value).toArray }).objs.size env) s1.heap.objs.size := fun hb => by
    rcases hb with e | ⟨x, hx⟩
    · have e' : s1.heap.objs.size = ((s1.heap.push o).push { cls := .type "list", data := .seq ([] : List Value).toArray }).objs.size := e
      rw [Heap.size_push, Heap.size_push] at e'; omega
    · have hx' := closL_sub scope.names [] (fun x k hx => by simp at hx) x _ hx
      obtain ⟨y, hy⟩ := F1.live _ (.inr ⟨x, hx'⟩)
      rw [hn1] at hy; cases hy
  have hnL : s.heap.get? ((s1.heap.push o).push { cls := .type "list", data := .seq ([] : List Value).toArray }).objs.size = none := by
    cases q : s.heap.get? ((s1.heap.push o).push { cls := .type "list", data := .seq ([] : List Value).toArray }).objs.size with
    | none => rfl
    | some x =>
      obtain ⟨x', hx'⟩ := st1.lv _ x q fun h => hLo (.inl h)
      have := k4 _ x' (Heap.get?_push_of_some _ (Heap.get?_push_of_some _ hx'))
      have hlt := Heap.lt_size hx'
      rw [Heap.size_push, Heap.size_push] at hlt
      exact absurd hlt (Nat.not_lt.mpr (Nat.le_succ_of_le (Nat.le_succ _)))
  generalize hLn : ((s1.heap.push o).push { cls := .type "list", data := .seq ([] : List Value).toArray }).objs.size = L at *
  have lp : codeAny (model c.prog c.w) A (.compLoop (.ListComp elt (⟨target, iter, ifs, 0⟩ :: rest) scope pos) 0 (.ref s1.heap.objs.size) (.ref (s1.heap.push o).objs.size) (cEnv scope L env)) (compPost (model c.prog c.w) A E use Q (.ref (s1.heap.push o).objs.size) L) { s1 with heap := h4 } := by
    refine hloop L A R P1 C1 _ { s1 with heap := h4 } s1.heap.objs.size At (s1.heap.push o).objs.size [] _ IA I4 Fc at4 ⟨I1.freshP, I1.freshC, (upd_ne hDit).trans I1.freshS⟩ hnoI upd_self (by simpa using hlen) fun P5 C5 s5 st5 I5 F5 => ?_
    rw [upd_upd, List.nil_append] at st5 I5 F5
    have F6 : Fm c env V P5 C5 (upd σ1 (s1.heap.push o).objs.size outs) s5.heap := F4.change st5.pm st5.cm fun b hb => by
      obtain ⟨y, hy⟩ := F4.live b hb
      obtain ⟨g1, g2, g3⟩ := F4.foreign b hb
      have hnb : ¬ (onlyL (cEnv scope L env) b ∨ b = s1.heap.objs.size) := fun q => by
        rcases q with q | q
        · have q' : b = L := q
          exact hLo (q' ▸ hb)
        · subst q
          obtain ⟨z, hz⟩ := F1.live _ hb
          rw [hn1] at hz; cases hz
      exact ⟨fun x hx => (st5.frn b x hx hnb g1 g2 g3).1, (st5.frn b y hy hnb g1 g2 g3).2⟩
    refine fin P5 C5 σ1 _ L outs s5 ?_ I5 F6 F5.ns hnL F5.fL hLo hD1 hΨ
    have hbL : ∀ b x, s1.heap.get? b = some x → ¬ (onlyL (cEnv scope L env) b ∨ b = s1.heap.objs.size) := fun b x hb q => by
      have hlt := Heap.lt_size hb
      rcases q with q | q
      · have q' : b = L := q
        rw [← hLn, Heap.size_push, Heap.size_push] at q'
        rw [q'] at hlt
        exact absurd hlt (Nat.not_lt.mpr (Nat.le_succ_of_le (Nat.le_succ _)))
      · exact absurd q (Nat.ne_of_lt hlt)
    refine st1.trans ⟨st5.pm, st5.cm, fun b x hb _ h1 h2 h3 => ?_, fun b x hb _ => st5.lv b x (k4 b x (Heap.get?_push_of_some _ (Heap.get?_push_of_some _ hb))) (hbL b x hb), st5.gens, st5.drawn, st5.os⟩
    have hb1 := Nat.ne_of_lt (Heap.lt_size hb)
    have hb2 : b ≠ (s1.heap.push o).objs.size := by rw [Heap.size_push]; exact Nat.ne_of_lt (Nat.lt_succ_of_lt (Heap.lt_size hb))
    exact st5.frn b x (k4 b x (Heap.get?_push_of_some _ (Heap.get?_push_of_some _ hb))) (hbL b x hb) h1 h2 ((upd_ne hb2).trans h3)
  exact codeAny_compStart_list lp (IA.again at4 lp)
theorem EX_Comp {elt target iter : Expr} {ifs : List Expr} {rest : List Comprehension} {scope : Scope} {pos : Pos} (Vf : Vars)
    (h : EX c n env V σ iter fun v σ1 => ∃ vs outs, Iters c v vs ∧ outs.length < 100000 ∧ (∀ L, LoopOK c n (cEnv scope L env) Vf (.ListComp elt (⟨target, iter, ifs, 0⟩ :: rest) scope pos) 0 vs outs) ∧ Φ (.lst outs) σ1)
    (hVf : ∀ p ∈ Vf, V.lookup p.1 = some p.2 ∧ compVis scope env p.1 = true) (hfree : (scope.names.all fun p => p.2 != .free || (env.cells.lookup p.1).isSome) = true := by rfl) (hcell : ∀ x ∈ scope.names, x.2 ≠ .cell := by decide) (hkind : scope.kind = .function := by rfl)
    (hnames : ∀ x ∈ scope.names, x.2 = .local → scope.names.lookup x.1 = some .local := by decide) (hs : ∀ x, foldedSetIterable iter env x = pure x := by intro _; rfl) :
    EX c n env V σ (.ListComp elt (⟨target, iter, ifs, 0⟩ :: rest) scope pos) Φ := by
  intro A R P C s Q E I F q
  rw [eval_ListComp]
  refine comp_core (Ψ := fun outs σ1 => Φ (.lst outs) σ1) (use := none) R I F h hVf hfree hcell hkind hnames hs fun P' C' σ1 D L outs s' st I' F' hL hnL fL hLo hD hΦ => ?_
  obtain ⟨m, hm⟩ := hL
  refine ⟨m, hm, fun h' hs' => ?_⟩
  have I2 : Inv c P' C' (upd σ1 D outs) h' := I'.turn hs' fL.1 fL.2.1 fL.2.2
  obtain ⟨o, I3, st3, r3⟩ := Inv.freeze (s := { s' with heap := h' }) I2 (upd_self (f := σ1) (a := D) (v := outs))
  rw [del_upd hD] at I3 st3
  have F2 : Fm c env V P' C' (upd σ1 D outs) h' := F'.keeps fun b hb o ho => (hs'.2 b fun e => hLo (e ▸ hb)).trans ho
  exact q _ C' σ1 (.lst outs) _ _ ((st.later hnL hs'.extBut (tk := s'.toks)).trans st3.wide0) I3 (Fm.step (s := { s' with heap := h' }) F2 st3) r3 hΦ
theorem FX_AssignComp {x : Str} {p : Pos} {elt target iter : Expr} {ifs : List Expr} {rest : List Comprehension} {scope : Scope} {pos spos : Pos} (Vf : Vars)
    (h : EX c n env V σ iter fun v σ1 => ∃ vs outs, Iters c v vs ∧ outs.length < 100000 ∧ (∀ L, LoopOK c n (cEnv scope L env) Vf (.ListComp elt (⟨target, iter, ifs, 0⟩ :: rest) scope pos) 0 vs outs) ∧ Θ .next ((x, .lst outs) :: V) σ1)
    (hVf : ∀ p ∈ Vf, V.lookup p.1 = some p.2 ∧ compVis scope env p.1 = true) (hk : storable env x = true := by rfl) (hsw : swapsWith (.ListComp elt (⟨target, iter, ifs, 0⟩ :: rest) scope pos) (some (.Name x p)) spos.line env = pure true := by rfl)
    (hfree : (scope.names.all fun p => p.2 != .free || (env.cells.lookup p.1).isSome) = true := by rfl) (hcell : ∀ x ∈ scope.names, x.2 ≠ .cell := by decide) (hkind : scope.kind = .function := by rfl)
    (hnames : ∀ x ∈ scope.names, x.2 = .local → scope.names.lookup x.1 = some .local := by decide) (hs : ∀ x, foldedSetIterable iter env x = pure x := by intro _; rfl) :
    FX c n env V σ (exec (.Assign [.Name x p] (.ListComp elt (⟨target, iter, ifs, 0⟩ :: rest) scope pos) spos) env) Θ := by
  intro A R P C s Q E I F q
  rw [exec_Assign_Name_used _ _ _ _ hsw]
  refine wpAny_bind (wpAny_standAt (wpAny_bind ?_))
  show wpAny _ A (do let _ ← comprehension (.ListComp elt (⟨target, iter, ifs, 0⟩ :: rest) scope pos) scope env _ (newList []) false (eval iter env) (some (assign (.Name x p) env))) _ _ s
  refine wpAny_bind (wpAny_mono (comp_core (Q := fun _ s' => Q .next s') (E := E) (Ψ := fun outs σ1 => Θ .next ((x, .lst outs) :: V) σ1) (use := some (assign (.Name x p) env)) R I F h hVf hfree hcell hkind hnames hs fun P' C' σ1 D L outs s' st I' F' hL hnL fL hLo hD hΦ => ?_) (fun _ s' hq => wpAny_pure (wpAny_pure hq)) fun _ _ e => e)
  obtain ⟨m, hm⟩ := hL
  obtain ⟨o, I3, st3, r3⟩ := I'.freeze (upd_self (f := σ1) (a := D) (v := outs))
  rw [del_upd hD] at I3 st3
  have F3 := F'.step st3
  have hLo3 : upd P' D o L = none ∧ C' L = none ∧ σ1 L = none := by
    obtain ⟨oL, _, _, hoL, _⟩ := hm
    have := st3.frn L oL hoL (fun h => h) fL.1 fL.2.1 fL.2.2
    exact this.2
  refine wpAny_assign_Name (storeVar I3 F3 r3 hk fun s4 st4 I4 F4 => ?_)
  obtain ⟨oL, es, ep, hoL, hr⟩ := hm
  have h4L := (st4.frn L oL hoL hLo hLo3.1 hLo3.2.1 hLo3.2.2)
  refine ⟨m, ⟨oL, es, ep, h4L.1, hr⟩, fun h' hs' => ?_⟩
  refine q _ C' σ1 _ .next .next _ ((((st.own).trans st3.wide0).trans st4).later hnL hs'.extBut (tk := s4.toks)) (I4.turn hs' hLo3.1 hLo3.2.1 hLo3.2.2) (F4.keeps fun b hb o ho => (hs'.2 b fun e => hLo (e ▸ hb)).trans ho) .next hΦ
end
end Mine
end
section
open PySem PyProof.Rows PySem.Calls
namespace Mine
section
variable {c : Cfg} {P P' : PM} {C C' : CM} {σ σ' : Mut} {s s' : Shared} {env : Env} {V : Vars} {n : Nat} {Φ : AV → Mut → Prop} {Θ : Fl → Vars → Mut → Prop}
theorem OX1 {a : AV} {f : Value → Sem Value} (h : ∀ A, Room A n → ∀ P C s x Q E, Inv c P C σ s.heap → Rel c P C a x → PostV c P C σ s Φ Q → wpAny (model c.prog c.w) A (f x) Q E s) : OX c n [a] σ (fun xs => f (xs.getD 0 .none)) Φ := by
  intro A R P C s xs Q E I r q
  cases r with | cons r1 r => cases r; exact h A R P C s _ Q E I r1 q
theorem OX2 {a b : AV} {f : Value → Value → Sem Value} (h : ∀ A, Room A n → ∀ P C s x y Q E, Inv c P C σ s.heap → Rel c P C a x → Rel c P C b y → PostV c P C σ s Φ Q → wpAny (model c.prog c.w) A (f x y) Q E s) : OX c n [a, b] σ (fun xs => f (xs.getD 0 .none) (xs.getD 1 .none)) Φ := by
  intro A R P C s xs Q E I r q
  cases r with | cons r1 r => cases r with | cons r2 r => cases r; exact h A R P C s _ _ Q E I r1 r2 q
theorem OX3 {a b d : AV} {f : Value → Value → Value → Sem Value} (h : ∀ A, Room A n → ∀ P C s x y z Q E, Inv c P C σ s.heap → Rel c P C a x → Rel c P C b y → Rel c P C d z → PostV c P C σ s Φ Q → wpAny (model c.prog c.w) A (f x y z) Q E s) : OX c n [a, b, d] σ (fun xs => f (xs.getD 0 .none) (xs.getD 1 .none) (xs.getD 2 .none)) Φ := by
  intro A R P C s xs Q E I r q
  cases r with | cons r1 r => cases r with | cons r2 r => cases r with | cons r3 r => cases r; exact h A R P C s _ _ _ Q E I r1 r2 r3 q
abbrev Bin (c : Cfg) (n : Nat) (op : Operator) (a b : AV) (σ : Mut) (Φ : AV → Mut → Prop) : Prop := OX c n [a, b] σ (fun xs => binaryOp op (xs.getD 0 .none) (xs.getD 1 .none)) Φ
abbrev Cmp (c : Cfg) (n : Nat) (op : CmpOp) (a b : AV) (σ : Mut) (Φ : AV → Mut → Prop) : Prop := OX c n [a, b] σ (fun xs => compareOp op (xs.getD 0 .none) (xs.getD 1 .none)) Φ
variable {i j : Int}
theorem add_ii (h : Φ (.int (i + j)) σ) : Bin c n .Add (.int i) (.int j) σ Φ := OX2 fun A R P C s x y Q E I r1 r2 q => by cases r1; cases r2; exact PyProof.Rows.add_int (q P C σ _ _ _ (.tok _) I .int h)
theorem sub_ii (h : Φ (.int (i - j)) σ) : Bin c n .Sub (.int i) (.int j) σ Φ := OX2 fun A R P C s x y Q E I r1 r2 q => by cases r1; cases r2; exact PyProof.Rows.sub_int (q P C σ _ _ _ (.tok _) I .int h)
theorem mul_ii (hm : IntMulOk i j) (h : Φ (.int (i * j)) σ) : Bin c n .Mult (.int i) (.int j) σ Φ := OX2 fun A R P C s x y Q E I r1 r2 q => by cases r1; cases r2; exact PyProof.Rows.mul_int (q P C σ _ _ _ (.tok _) I .int h) hm
theorem div_ii (hj : j ≠ 0) (hp : Builtin.divisionGoesByPylong i j = false) (h : Φ (.int (i.fdiv j)) σ) : Bin c n .FloorDiv (.int i) (.int j) σ Φ := OX2 fun A R P C s x y Q E I r1 r2 q => by cases r1; cases r2; exact PyProof.Rows.floordiv_int hj (q P C σ _ _ _ (.tok _) I .int h) (.inl hp)
theorem mod_ii (hj : j ≠ 0) (h : Φ (.int (i.fmod j)) σ) : Bin c n .Mod (.int i) (.int j) σ Φ := OX2 fun A R P C s x y Q E I r1 r2 q => by cases r1; cases r2; exact PyProof.Rows.mod_int' hj (q P C σ _ _ _ (.tok _) I .int h)
theorem pow_ii (h0 : 0 ≤ j) (h1 : j ≤ 1000000) (h2 : i.natAbs < 2 ^ 64) (h : Φ (.int (i ^ j.toNat)) σ) : Bin c n .Pow (.int i) (.int j) σ Φ := OX2 fun A R P C s x y Q E I r1 r2 q => by cases r1; cases r2; exact PyProof.Rows.pow_int_small h0 h1 h2 (q P C σ _ _ _ (.tok _) I .int h)
theorem shr_ii (h0 : 0 ≤ j) (h : Φ (.int (i.fdiv (2 ^ j.toNat))) σ) : Bin c n .RShift (.int i) (.int j) σ Φ := OX2 fun A R P C s x y Q E I r1 r2 q => by cases r1; cases r2; exact PyProof.Rows.rshift_int h0 (q P C σ _ _ _ (.tok _) I .int h)
theorem shl_ii (h0 : 0 ≤ j) (h1 : j ≤ 1000000) (h2 : i.natAbs < 2 ^ 64) (h : Φ (.int (i * 2 ^ j.toNat)) σ) : Bin c n .LShift (.int i) (.int j) σ Φ := OX2 fun A R P C s x y Q E I r1 r2 q => by cases r1; cases r2; exact PyProof.Rows.lshift_int_small h0 h1 h2 (q P C σ _ _ _ (.tok _) I .int h)
theorem or_ii (h : Φ (.int (Builtin.bitOr i j)) σ) : Bin c n .BitOr (.int i) (.int j) σ Φ := OX2 fun A R P C s x y Q E I r1 r2 q => by cases r1; cases r2; exact PyProof.Rows.or_int (q P C σ _ _ _ (.tok _) I .int h)
theorem and_ii (h : Φ (.int (Builtin.bitAnd i j)) σ) : Bin c n .BitAnd (.int i) (.int j) σ Φ := OX2 fun A R P C s x y Q E I r1 r2 q => by cases r1; cases r2; exact PyProof.Rows.and_int (q P C σ _ _ _ (.tok _) I .int h)
theorem neg_i (h : Φ (.int (-i)) σ) : OX c n [.int i] σ (fun xs => unaryOp .USub (xs.getD 0 .none)) Φ := OX1 fun A R P C s x Q E I r1 q => by cases r1; exact PyProof.Rows.neg_int (q P C σ _ _ _ (.tok _) I .int h)
theorem lt_ii (h : Φ (.bool (decide (i < j))) σ) : Cmp c n .Lt (.int i) (.int j) σ Φ := OX2 fun A R P C s x y Q E I r1 r2 q => by cases r1; cases r2; exact PyProof.Rows.lt_int (q P C σ _ _ _ .rfl I .bool h)
theorem gt_ii (h : Φ (.bool (decide (j < i))) σ) : Cmp c n .Gt (.int i) (.int j) σ Φ := OX2 fun A R P C s x y Q E I r1 r2 q => by cases r1; cases r2; exact PyProof.Rows.gt_int (q P C σ _ _ _ .rfl I .bool h)
theorem ge_ii (h : Φ (.bool (decide (j ≤ i))) σ) : Cmp c n .GtE (.int i) (.int j) σ Φ := OX2 fun A R P C s x y Q E I r1 r2 q => by cases r1; cases r2; exact PyProof.Rows.ge_int (q P C σ _ _ _ .rfl I .bool h)
theorem eq_ii (h : Φ (.bool (i == j)) σ) : Cmp c n .Eq (.int i) (.int j) σ Φ := OX2 fun A R P C s x y Q E I r1 r2 q => by cases r1; cases r2; exact PyProof.Rows.eq_int (q P C σ _ _ _ .rfl I .bool h)
theorem add_ss {a b : Str} (hz : a.length + b.length ≤ 100000) (h : Φ (.str (a ++ b)) σ) : Bin c n .Add (.str a) (.str b) σ Φ := OX2 fun A R P C s x y Q E I r1 r2 q => by
  cases r1; cases r2
  exact PyProof.Rows.add_str (fun t' tk => q P C σ _ _ _ (.tok _) I .str h) (by show _ ≤ 2 ^ 24; omega)
theorem eq_ss {a b : Str} (h : Φ (.bool (a == b)) σ) : Cmp c n .Eq (.str a) (.str b) σ Φ := OX2 fun A R P C s x y Q E I r1 r2 q => by cases r1; cases r2; exact PyProof.Rows.eq_str (q P C σ _ _ _ .rfl I .bool h)
theorem iadd_ii (h : Φ (.int (i + j)) σ) : OX c n [.int i, .int j] σ (fun xs => inplaceOp .Add (xs.getD 0 .none) (xs.getD 1 .none)) Φ := OX2 fun A R P C s x y Q E I r1 r2 q => by cases r1; cases r2; exact wpAny_iadd_int (q P C σ _ _ _ (.tok _) I .int h)

/-! items -/
/-- the list that a value is, owned or frozen -/
inductive ListV (σ : Mut) : AV → List AV → Prop
  | own {a : Addr} {vs : List AV} : σ a = some vs → ListV σ (.ref a) vs
  | lst {vs : List AV} : ListV σ (.lst vs) vs
theorem ListV.at {v : AV} {vs : List AV} {x : Value} (l : ListV σ v vs) (I : Inv c P C σ s.heap) (r : Rel c P C v x) : ∃ a its, x = .ref a ∧ s.heap.PlainList a its.toArray ∧ RelL c P C vs its := by
  cases l with
  | own h => cases r; obtain ⟨its, hl, hr⟩ := I.own _ _ h; exact ⟨_, its, rfl, hl, hr⟩
  | lst => cases r with | lst hp hr => exact ⟨_, _, rfl, ⟨_, I.per _ _ hp⟩, hr⟩
abbrev Sub (c : Cfg) (n : Nat) (value slice : Expr) (a b : AV) (σ : Mut) (Φ : AV → Mut → Prop) : Prop := OX c n [a, b] σ (fun xs => subscriptTail value slice (xs.getD 0 .none) (xs.getD 1 .none)) Φ
theorem EX_Sub {value slice : Expr} {pos : Pos} (h : EX c n env V σ value fun a σ1 => EX c n env V σ1 slice fun b σ2 => Sub c n value slice a b σ2 Φ) : EX c n env V σ (.Subscript value slice pos) Φ :=
  fun A R P C s Q E I F q => Subscript_ (h A R P C s _ E I F fun P1 C1 σ1 a x s1 st1 I1 F1 ra h1 => h1 A R P1 C1 s1 _ E I1 F1 fun P2 C2 σ2 b y s2 st2 I2 F2 rb h2 =>
    h2 A R P2 C2 s2 [x, y] Q E I2 (.cons (ra.mono st2.pm st2.cm) (.cons rb .nil)) ((q.after (st1.trans st2)).ofV F2))
theorem sub_li {value slice : Expr} {v u : AV} {vs : List AV} (l : ListV σ v vs) (h0 : 0 ≤ i) (hx : vs[i.toNat]? = some u) (hz : vs.length < 100000) (h : Φ u σ) (hs : ∀ a b, subscripted slice false a b = operate [a, b] (getItem a b) := by intro _ _; rfl) : Sub c n value slice v (.int i) σ Φ := OX2 fun A R P C s x y Q E I r1 r2 q => by
  obtain ⟨a, its, rfl, hl, hr⟩ := l.at I r1
  cases r2
  obtain ⟨z, hz', rz⟩ := hr.get hx
  have hi : i < 2 ^ 63 := by
    have := (List.getElem?_eq_some_iff.mp hx).1
    omega
  exact tail_any hl.isList.typeIs slot_list_getitem.lookup (wpAny_getItem_list hl.isList h0 hi (by simpa using hz') (q P C σ _ _ _ .rfl I rz h)) (hs _ _)
theorem sub_ti {value slice : Expr} {u : AV} {vs : List AV} (h0 : 0 ≤ i) (hx : vs[i.toNat]? = some u) (hz : vs.length < 100000) (h : Φ u σ) (hs : ∀ a b, subscripted slice false a b = operate [a, b] (getItem a b) := by intro _ _; rfl) : Sub c n value slice (.tup vs) (.int i) σ Φ := OX2 fun A R P C s x y Q E I r1 r2 q => by
  cases r1 with
  | tup hp hr =>
    cases r2
    rename_i a its k t
    obtain ⟨z, hz', rz⟩ := hr.get hx
    have hlt := (List.getElem?_eq_some_iff.mp hx).1
    have hle := hr.length
    refine item_tupleT (l := its) (j := i.toNat) ⟨_, I.per _ _ hp, rfl, k, rfl⟩ (by omega) (by omega) ?_ hz' (q P C σ _ _ _ .rfl I rz h) (hs _ _)
    unfold seqIndex?
    have h1 : ¬ i < 0 := by omega
    simp only [h1, if_false]
    rw [if_pos (by simp only [Bool.and_eq_true, decide_eq_true_eq]; omega)]
/-- an item of an owned list stored -/
theorem set_oi {a : Addr} {u : AV} {vs : List AV} (ho : σ a = some vs) (h0 : 0 ≤ i) (hi : i.toNat < vs.length) (hz : vs.length < 100000) (h : Φ .none (upd σ a (vs.set i.toNat u))) :
    OX c n [.ref a, .int i, u] σ (fun xs => (do setItem (xs.getD 0 .none) (xs.getD 1 .none) (xs.getD 2 .none); pure .none)) Φ := OX3 (f := fun x y z => (do setItem x y z; pure .none)) fun A R P C s x y z Q E I r1 r2 r3 q => by
  cases r1; cases r2
  obtain ⟨its, ⟨k, hl⟩, hr⟩ := I.own _ _ ho
  have hlen := hr.length
  have hsz : its.toArray.size = its.length := by simp
  refine wpAny_bind (W.ki_setAt (n := k) hl h0 (by omega) (by omega) (wpAny_pure ?_))
  have hu := PySem.IsL.update hl (fun x => x.setIfInBounds i.toNat z)
  have hl2 : (s.heap.update a (Obj.mapSeq fun x => x.setIfInBounds i.toNat z)).PlainList a (its.set i.toNat z).toArray := ⟨_, by simpa using hu⟩
  have hs := Heap.SameBut.update s.heap a (Obj.mapSeq fun x => x.setIfInBounds i.toNat z)
  exact q P C _ _ _ { s with heap := s.heap.update a (Obj.mapSeq fun x => x.setIfInBounds i.toNat z) } (Step.turnOwn (tk := s.toks) ho hs (let ⟨k, e⟩ := hl2; ⟨_, e⟩)) (I.turnOwn ho hs hl2 (hr.set r3)) .none h
end
end Mine
end
section
open PySem PyProof.Rows PySem.Calls
namespace Mine
theorem tup_lt {prog : Program} {w : World} {A : Around} {E : Value → Shared → Prop} {s : Shared} {Q : Value → Shared → Prop} {l b : Addr} {i j : Int} {x y : Str} {t u t' u' : Tok} {n n' : Nat}
    (hl : s.heap.get? l = some { cls := .type "tuple", data := .seq #[.int i t, .str x u] n }) (hb : s.heap.get? b = some { cls := .type "tuple", data := .seq #[.int j t', .str y u'] n' }) (hu : A.units < cLine)
    (h : Q (.bool (decide (i < j) || (decide (i = j) && decide (x.cps.toList < y.cps.toList)))) s) : wpAny (model prog w) A (compareOp .Lt (.ref l) (.ref b)) Q E s := by
  show wpAny _ _ (richCompare .Lt (.ref l) (.ref b)) Q E s
  refine wpAny_richCompare_same_room (T := "tuple") ⟨_, hl, rfl⟩ ⟨_, hb, rfl⟩ F.slot_tuple_lt (wpAny_call_entry F.slot_tuple_lt ⟨_, hl, rfl⟩ F.entry_tuple_lt ?_ (F.args_tuple_lt_2 _ _)) hu
  have f2 := AutoSeq1.sub_tuple_tuple
  obtain ⟨hp, g, d, tk, os⟩ := s
  wp_walk using wpAny_loadPart' hl, wpAny_loadPart' hb, wpAny_forIn_list _ (fun rest b s' => b.1 = none ∧ s' = ⟨hp, g, d, tk, os⟩ ∧ (rest = [(.int i t, .int j t'), (.str x u, .str y u')] ∨ (i = j ∧ rest = [(.str x u, .str y u')]) ∨ (i = j ∧ x = y ∧ rest = []))) _
  case turn =>
    rintro ⟨p, q⟩ rest b s' ⟨hb', rfl, hr⟩
    rcases hr with hr | ⟨e, hr⟩ | ⟨_, _, hr⟩
    · cases hr
      refine wpAny_bind (wpAny_eqBool_int ?_)
      by_cases e : i = j
      · subst e
        simp only [beq_self_eq_true, Bool.not_true, Bool.false_eq_true, if_false]
        exact wpAny_pure ⟨rfl, rfl, .inr (.inl ⟨by trivial, by trivial⟩)⟩
      · have e' : (i == j) = false := by simpa using e
        simp only [e', Bool.not_false, if_true]
        refine wpAny_bind (wpAny_rule (wpAny_bind ?_))
        show wpAny _ _ (compareOp .Lt (.int i t) (.int j t')) _ _ _
        refine PyProof.Rows.lt_int ?_
        wp_walk
        exact ⟨_, rfl, by simpa [e] using h⟩
    · cases hr
      refine wpAny_bind (wpAny_eqBool_str ?_)
      by_cases e2 : x = y
      · subst e2
        simp only [decide_true, Bool.not_true, Bool.false_eq_true, if_false]
        exact wpAny_pure ⟨rfl, rfl, .inr (.inr ⟨e, by trivial, by trivial⟩)⟩
      · simp only [e2, decide_false, Bool.not_false, if_true]
        refine wpAny_bind (wpAny_rule (wpAny_bind ?_))
        show wpAny _ _ (compareOp .Lt (.str x u) (.str y u')) _ _ _
        refine PyProof.Rows.lt_str ?_
        wp_walk
        exact ⟨_, rfl, by simpa [e] using h⟩
    · cases hr
  case fin =>
    rintro ⟨b1, b2⟩ s' ⟨hb', rfl, hr⟩
    rcases hr with hr | ⟨e, hr⟩ | ⟨e, e2, hr⟩
    · cases hr
    · cases hr
    · simp only at hb'
      subst hb'
      wp_walk
      refine ⟨_, rfl, ?_⟩
      subst e e2
      have hirr : decide (x.cps.toList < x.cps.toList) = false := decide_eq_false (List.lt_irrefl _)
      rw [hirr] at h
      simpa [Builtin.Tuple.tupleCompareSizes] using h
  case h => exact ⟨rfl, rfl, .inl rfl⟩
section
variable {c : Cfg} {P P' : PM} {C C' : CM} {σ σ' : Mut} {s s' : Shared} {env : Env} {V : Vars} {n : Nat} {Φ : AV → Mut → Prop} {Θ : Fl → Vars → Mut → Prop}
/-- a word with its weight -/
abbrev Wd := Int × Str
def wdV (p : Wd) : AV := .tup [.int p.1, .str p.2]
def wdLt (p q : Wd) : Bool := decide (p.1 < q.1) || (decide (p.1 = q.1) && decide (p.2.cps.toList < q.2.cps.toList))
theorem wd_at {p : Wd} {x : Value} (I : Inv c P C σ s.heap) (r : Rel c P C (wdV p) x) : ∃ a t u n, x = .ref a ∧ s.heap.get? a = some { cls := .type "tuple", data := .seq #[.int p.1 t, .str p.2 u] n } := by
  unfold wdV at r
  cases r with
  | tup hp hr =>
    cases hr with | cons r1 hr => cases hr with | cons r2 hr =>
    cases hr; cases r1; cases r2
    exact ⟨_, _, _, _, rfl, I.per _ _ hp⟩
theorem lt_ww {p q : Wd} (h : Φ (.bool (wdLt p q)) σ) : Cmp c n .Lt (wdV p) (wdV q) σ Φ := OX2 fun A R P C s x y Q E I r1 r2 k => by
  obtain ⟨a, t, u, m, rfl, h1⟩ := wd_at I r1
  obtain ⟨b, t', u', m', rfl, h2⟩ := wd_at I r2
  exact tup_lt h1 h2 (by have := R.units; omega) (k P C σ _ _ _ .rfl I .bool h)

theorem FX_WhileN {ι : Type} {t : Expr} {body : List Stmt} {pos : Pos} (Vn : ι → Vars) (J : ι → Mut → Prop) (μ : ι → Nat) (i0 : ι) (h0 : ∀ p ∈ Vn i0, V.lookup p.1 = some p.2) (j0 : J i0 σ)
    (turn : ∀ i σ', J i σ' → BX c n env (Vn i) σ' (isTrue t env (eval t env)) fun b σ1 => if b then FX c n env (Vn i) σ1 (execs body env) (Turn (fun V2 σ2 => ∃ j, μ j < μ i ∧ J j σ2 ∧ ∀ p ∈ Vn j, V2.lookup p.1 = some p.2) Θ) else Θ .next (Vn i) σ1) :
    FX c n env V σ (exec (.While t body [] pos) env) Θ := by
  intro A R P C s Q E I F q
  refine wpAny_While (codeAny_whileLoop (fun k s1 => ∃ i P1 C1 σ1, μ i = k ∧ Step (ownF env) P C σ s P1 C1 σ1 s1 ∧ Inv c P1 C1 σ1 s1.heap ∧ Fm c env (Vn i) P1 C1 σ1 s1.heap ∧ J i σ1) ?_ (μ i0) ⟨i0, P, C, σ, rfl, .rfl, I, F.sub h0, j0⟩)
  rintro k s1 ⟨i, P1, C1, σ1, hk, st1, I1, F1, j1⟩
  refine turn i σ1 j1 A R P1 C1 s1 _ _ I1 F1 fun P2 C2 σ2 b s2 st2 I2 F2 h2 => ?_
  cases b with
  | false => exact wpAny_execs_nil (q P2 C2 σ2 _ _ _ s2 (st1.trans st2.own) I2 F2 .next h2)
  | true =>
    refine h2 A R P2 C2 s2 _ _ I2 F2 fun P3 C3 σ3 V3 f x s3 st3 I3 F3 r h3 => ?_
    have st := (st1.trans st2.own).trans st3
    cases r with
    | next => exact let ⟨j, hj, h3, hs⟩ := h3; ⟨μ j, hk ▸ hj, j, P3, C3, σ3, rfl, st, I3, F3.sub hs, h3⟩
    | cont => exact let ⟨j, hj, h3, hs⟩ := h3; ⟨μ j, hk ▸ hj, j, P3, C3, σ3, rfl, st, I3, F3.sub hs, h3⟩
    | brk => exact q P3 C3 σ3 V3 _ _ s3 st I3 F3 .next h3
    | ret r => exact q P3 C3 σ3 V3 _ _ s3 st I3 F3 (.ret r) h3

def Mid (mid : Vars → Mut → Prop) (Θ : Fl → Vars → Mut → Prop) (f : Fl) (V : Vars) (σ : Mut) : Prop := match f with
  | .next => mid V σ
  | f => Θ f V σ
theorem FX_consI {st : Stmt} {rest : List Stmt} (mid : Vars → Mut → Prop) (h1 : FX c n env V σ (exec st env) (Mid mid Θ)) (h2 : ∀ V' σ', mid V' σ' → FX c n env V' σ' (execs rest env) Θ) : FX c n env V σ (execs (st :: rest) env) Θ :=
  FX_cons (h1.mono fun f V' σ' h => by cases f <;> first | exact h2 V' σ' h | exact h)

/-! the text's defs -/
def stmtOf (k : Nat) : Option Stmt := (PySem.Challenge.pw_oy0062_01.main.body)[k]?
def bodyOf (k : Nat) : List Stmt := match stmtOf k with | some (.FunctionDef _ _ b _ _ _ _ _ _ _) => b | _ => []
def scopeOf (k : Nat) : Scope := match stmtOf k with | some (.FunctionDef _ _ _ _ _ _ sc _ _ _) => sc | _ => default
def paramsOf (k : Nat) : Arguments := match stmtOf k with | some (.FunctionDef _ a _ _ _ _ _ _ _ _) => a | _ => default
end
end Mine
end
section
open PySem PyProof.Rows PySem.Calls
namespace Mine
section
variable {c : Cfg} {P P' : PM} {C C' : CM} {σ σ' : Mut} {s s' : Shared} {env : Env} {V : Vars} {n : Nat} {Φ : AV → Mut → Prop} {Θ : Fl → Vars → Mut → Prop} {G M : List (Str × Value)}
theorem len_v {v : AV} {vs : List AV} (l : ListV σ v vs) (hz : vs.length < 100000) (h : Φ (.int vs.length) σ) : OX c n [v] σ (fun xs => call (.builtin "len") xs) Φ := by
  intro A R P C s xs Q E I r q
  cases r with | cons r1 r =>
  cases r
  obtain ⟨a, its, rfl, hl, hr⟩ := l.at I r1
  have hlen := hr.length
  have hsz : its.toArray.size = its.length := by simp
  refine call_len_list hl.isList (by rw [hsz]; omega) ?_
  rw [hsz, ← hlen]
  exact q P C σ _ _ _ (.tok _) I .int h
theorem EX_append {o elt : Expr} {apos pos : Pos} (h : EX c n env V σ o fun v σ1 => ∃ a vs0, v = .ref a ∧ σ1 a = some vs0 ∧ EX c n env V σ1 elt fun u σ2 => ∃ vs, σ2 a = some vs ∧ vs.length < 100000 ∧ Φ .none (upd σ2 a (vs ++ [u])))
    (hbase : attributeBase o "append" env (eval o env) = eval o env := by rfl)
    (hfew : ((backTo pos (starEach [elt] env)).all (fun x => !x.1) && (backToKw pos (keywordEach [] env)).all (fun x => x.1.isSome)
      && decide (([elt] : List Expr).length + ([] : List Keyword).length + (if ([] : List Keyword).isEmpty then 0 else 1) < 30)) = true := by rfl)
    (hline : (apos.endLine == pos.line) = true := by rfl) (htrees : backTo pos (starEach [elt] env) = [(false, eval elt env)] := by rfl) :
    EX c n env V σ (.Call (.Attribute o "append" apos) [elt] [] pos) Φ :=
  fun A R P C s Q E I F q => wpAny_Call_append hbase hfew hline htrees (h A R P C s _ E I F fun P1 C1 σ1 v x s1 st1 I1 F1 rx h1 => by
    obtain ⟨a, vs0, rfl, h0, h1⟩ := h1
    cases rx
    obtain ⟨its0, ⟨k0, hl0⟩, _⟩ := I1.own _ _ h0
    refine ⟨a, its0.toArray, rfl, ⟨_, k0, hl0, rfl, rfl, rfl⟩, h1 A R P1 C1 s1 _ E I1 F1 fun P2 C2 σ2 u y s2 st2 I2 F2 ry h2 => ?_⟩
    obtain ⟨vs, h2, hz, hΦ⟩ := h2
    obtain ⟨its, hl, hr⟩ := I2.own _ _ h2
    have hlen := hr.length
    have hsz : its.toArray.size = its.length := by simp
    refine wpAny_list_append_plain (hsz := by rw [hsz]; show _ ≤ 2 ^ 24; omega) hl fun h' hl' hs => ?_
    have hl2 : h'.PlainList a (its ++ [y]).toArray := by simpa using hl'
    exact (q.after (st1.trans st2)).ofV F2 P2 C2 _ _ _ { s2 with heap := h' } (Step.turnOwn (tk := s2.toks) h2 hs (let ⟨k, e⟩ := hl2; ⟨_, e⟩)) (I2.turnOwn h2 hs hl2 (hr.append (.cons ry .nil))) .none hΦ)
theorem mulOk {i j : Int} (h : i.natAbs < 2 ^ 63) : IntMulOk i j := by
  unfold IntMulOk
  intro q
  simp only [Bool.and_eq_true, decide_eq_true_eq] at q
  have h1 := q.1.1
  unfold Builtin.Int.intBits shortFactorBits at h1
  have : i.natAbs.log2 < 63 := by
    by_cases e : i.natAbs = 0
    · rw [e]; decide
    · exact (Nat.log2_lt e).mpr h
  split at h1 <;> omega
end
end Mine
end
section
open PySem PyProof.Rows PySem.Calls
namespace Mine
section
variable {c : Cfg} {P P' : PM} {C C' : CM} {σ σ' : Mut} {s s' : Shared} {env : Env} {V : Vars} {n : Nat} {Φ : AV → Mut → Prop} {Θ : Fl → Vars → Mut → Prop} {G M : List (Str × Value)}
theorem Step.grow {X : Addr → Prop} {h' : Heap} {tk : Nat} (k : ∀ b o, s.heap.get? b = some o → h'.get? b = some o) : Step X P C σ s P C σ { s with heap := h', toks := tk } :=
  ⟨.rfl, .rfl, fun b o h _ h1 h2 h3 => ⟨k b o h, h1, h2, h3⟩, fun b o h _ => ⟨o, k b o h⟩, .refl _, .refl _, .refl _⟩
theorem Inv.grow {h' : Heap} (I : Inv c P C σ s.heap) (k : ∀ b o, s.heap.get? b = some o → h'.get? b = some o) : Inv c P C σ h' := I.keeps fun b o h _ => k b o h
theorem sum3 {a b d : Int} (ha : InLong a) (hb : InLong (a + b)) (hd : InLong (a + b + d)) (hb' : InLong b) (hd' : InLong d) (h : Φ (.int (a + b + d)) σ) : OX c n [.lst [.int a, .int b, .int d]] σ (fun xs => call (.builtin "sum") xs) Φ := by
  intro A R P C s xs Q E I r q
  cases r with | cons r1 r =>
  cases r
  cases r1 with
  | lst hp hr =>
    rename_i l its k
    cases hr with | cons r1 hr => cases hr with | cons r2 hr => cases hr with | cons r3 hr =>
    cases hr; cases r1; cases r2; cases r3
    rename_i t1 t2 t3
    have hl : s.heap.IsList l [Value.int a t1, .int b t2, .int d t3].toArray := ⟨_, I.per _ _ hp, rfl, k, rfl⟩
    have hne : l ≠ s.heap.objs.size := Nat.ne_of_lt (Heap.lt_size (I.per _ _ hp))
    refine call_sum_walk (wpAny_pyIter_list hl ⟨_, _, _, _, _, _, fun i => [a, b, d].getD i 0, rfl, Walks.list (A := A.in1) R.han s.heap.objs.size l hne [Value.int a t1, .int b t2, .int d t3].toArray, ⟨⟨_, Heap.get?_push_size _ rfl, rfl, rfl⟩, hl.push _⟩, ?_, ?_, ?_, ?_⟩)
    · intro x hx
      simp only [List.mem_cons, List.not_mem_nil, or_false] at hx
      rw [Heap.size_push]
      rcases hx with rfl | rfl
      · exact Nat.lt_succ_self _
      · exact Nat.lt_succ_of_lt (Heap.lt_size (I.per _ _ hp))
    · intro i v hv
      match i, hv with
      | 0, hv => exact ⟨t1, (Option.some.inj hv).symm⟩
      | 1, hv => exact ⟨t2, (Option.some.inj hv).symm⟩
      | 2, hv => exact ⟨t3, (Option.some.inj hv).symm⟩
    · intro j hj
      have hj' : j < 3 := hj
      match j, hj' with
      | 0, _ => exact ⟨ha, by simpa [preSum] using ha⟩
      | 1, _ => exact ⟨hb', by simpa [preSum] using hb⟩
      | 2, _ => exact ⟨hd', by simpa [preSum] using hd⟩
    · intro h' tk t' hk
      have e : preSum (fun i => [a, b, d].getD i 0) [Value.int a t1, .int b t2, .int d t3].toArray.size = a + b + d := by simp [preSum]
      rw [e]
      have hk' : ∀ b o, s.heap.get? b = some o → h'.get? b = some o := fun b o hb => hk b o (by simp only [List.mem_singleton]; exact Nat.ne_of_lt (Heap.lt_size hb)) (Heap.get?_push_of_some _ hb)
      exact q P C σ _ _ _ (.grow hk') (I.grow hk') .int h
theorem range1 {k : Int} (hk : Builtin.Range.small 0 k 1 = true) (h0 : 0 ≤ k) (h : Φ (.rng ((List.range k.toNat).map fun i : Nat => (i : Int))) σ) : OX c n [.int k] σ (fun xs => call (.type "range") xs) Φ := by
  intro A R P C s xs Q E I r q
  cases r with | cons r1 r =>
  cases r; cases r1
  refine call_range_1 ?_
  refine q _ C σ _ _ _ ((Step.alloc I _).trans (.tok _)) (I.alloc _ rfl) (.rng upd_self hk ?_) h
  rw [rangeSize_one]
  by_cases e : 0 < k
  · rw [if_pos e]; simp
  · have : k = 0 := by omega
    subst this; rfl
theorem add_ll {xs ys : List AV} {u v : AV} (l1 : ListV σ u xs) (l2 : ListV σ v ys) (hz : xs.length + ys.length < 100000) (h : Φ (.lst (xs ++ ys)) σ) : Bin c n .Add u v σ Φ := OX2 fun A R P C s x y Q E I r1 r2 q => by
  obtain ⟨a, its, rfl, ⟨k, hl⟩, hr⟩ := l1.at I r1
  obtain ⟨b, its2, rfl, ⟨k2, hl2⟩, hr2⟩ := l2.at I r2
  have e1 := hr.length
  have e2 := hr2.length
  refine concat_meets ⟨_, hl, rfl⟩ ⟨_, hl2, rfl⟩ noFill_list_add seq_list_add PySem.F.slot_list_add PySem.F.entry_list_add (PySem.F.args_list_add_2 _ _) (list_addW a b its.toArray its2.toArray k k2 none none #[] #[] (by show _ ≤ 2 ^ 24; simp; omega)) ⟨hl, hl2, ?_⟩
  have e : its.toArray ++ its2.toArray = (its ++ its2).toArray := by simp
  rw [e]
  exact q _ C σ _ _ _ (Step.alloc I _) (I.alloc _ rfl) (.lst (n := 0) upd_self ((hr.append hr2).mono (Step.alloc I _).pm .rfl)) h
end
end Mine
end
section
open PySem PyProof.Rows PySem.Calls PySem.SeqAt
namespace Mine
mutual
inductive DataR : AV → PyData → Prop
  | none : DataR .none .none
  | bool {b : Bool} : DataR (.bool b) (.bool b)
  | int {i : Int} : DataR (.int i) (.int i)
  | str {s : Str} : DataR (.str s) (.str s)
  | tup {vs : List AV} {ds : List PyData} : DataRL vs ds → DataR (.tup vs) (.tuple ds)
  | lst {vs : List AV} {ds : List PyData} : DataRL vs ds → DataR (.lst vs) (.list ds)
inductive DataRL : List AV → List PyData → Prop
  | nil : DataRL [] []
  | cons {v : AV} {d : PyData} {vs : List AV} {ds : List PyData} : DataR v d → DataRL vs ds → DataRL (v :: vs) (d :: ds)
end
section
variable {c : Cfg} {P P' : PM} {C C' : CM} {σ σ' : Mut} {s s' : Shared} {env : Env} {V : Vars} {n : Nat} {Φ : AV → Mut → Prop} {Θ : Fl → Vars → Mut → Prop} {G M : List (Str × Value)}
mutual
theorem reads_of (I : Inv c P C σ s.heap) : ∀ {v : AV} {d : PyData} {x : Value}, DataR v d → Rel c P C v x → ∃ as, Reads s.heap x d as
  | _, _, _, .none, .none => ⟨_, .none⟩
  | _, _, _, .bool, .bool => ⟨_, .bool _⟩
  | _, _, _, .int, .int => ⟨_, .int _ _⟩
  | _, _, _, .str, .str => ⟨_, .str _ _⟩
  | _, _, _, .tup l, .tup hp hr => let ⟨as, r⟩ := readsL_of I l hr; ⟨as, .tuple (I.per _ _ hp) rfl rfl (by simpa using r)⟩
  | _, _, _, .lst l, .lst hp hr => let ⟨as, r⟩ := readsL_of I l hr; ⟨_ :: as, .list (I.per _ _ hp) rfl rfl (by simpa using r)⟩
theorem readsL_of (I : Inv c P C σ s.heap) : ∀ {vs : List AV} {ds : List PyData} {xs : List Value}, DataRL vs ds → RelL c P C vs xs → ∃ as, ReadsAll s.heap xs ds as
  | _, _, _, .nil, .nil => ⟨_, .nil⟩
  | _, _, _, .cons a l, .cons r rs => let ⟨_, h1⟩ := reads_of I a r; let ⟨_, h2⟩ := readsL_of I l rs; ⟨_, .cons h1 h2⟩
end
theorem eq_dd {v w : AV} {d e : PyData} (hv : DataR v d) (hw : DataR w e) (sd : shaped d = true) (se : shaped e = true) (h : Φ (.bool (PyData.eqv d e)) σ) : Cmp c n .Eq v w σ Φ := OX2 fun A R P C s x y Q E I r1 r2 q =>
  let ⟨_, h1⟩ := reads_of I hv r1; let ⟨_, h2⟩ := reads_of I hw r2; eq_dataH h1 h2 sd se (by have := R.units; omega) (q P C σ _ _ _ .rfl I .bool h)
theorem ne_dd {v w : AV} {d e : PyData} (hv : DataR v d) (hw : DataR w e) (sd : shaped d = true) (se : shaped e = true) (h : Φ (.bool (!PyData.eqv d e)) σ) : Cmp c n .NotEq v w σ Φ := OX2 fun A R P C s x y Q E I r1 r2 q =>
  let ⟨_, h1⟩ := reads_of I hv r1; let ⟨_, h2⟩ := reads_of I hw r2; ne_dataH h1 h2 sd se (by have := R.units; omega) (q P C σ _ _ _ .rfl I .bool h)

/-! words as data -/
def pdW (p : Wd) : PyData := .tuple [.int p.1, .str p.2]
def okW (p : Wd) : Bool := PyData.strOk p.2
theorem data_w (p : Wd) : DataR (wdV p) (pdW p) := .tup (.cons .int (.cons .str .nil))
theorem dataL_w : ∀ xs : List Wd, DataRL (xs.map wdV) (xs.map pdW)
  | [] => .nil
  | p :: r => .cons (data_w p) (dataL_w r)
theorem data_ws (xs : List Wd) : DataR (.lst (xs.map wdV)) (.list (xs.map pdW)) := .lst (dataL_w xs)
theorem shaped_w {p : Wd} (h : okW p = true) : shaped (pdW p) = true := by
  unfold okW at h
  simp [shaped, pdW, PyData.canLay0, PyData.canLayAll0, PyData.depth, PyData.depthAll, h]
theorem canLay_ws : ∀ {xs : List Wd}, xs.all okW = true → PyData.canLayAll0 (xs.map pdW) = true
  | [], _ => rfl
  | p :: r, h => by
    rw [List.all_cons, Bool.and_eq_true] at h
    have := canLay_ws h.2
    have h1 := h.1
    unfold okW at h1
    simp [PyData.canLayAll0, PyData.canLay0, pdW, h1, this]
theorem depth_ws : ∀ xs : List Wd, PyData.depthAll (xs.map pdW) ≤ 1
  | [] => Nat.zero_le _
  | p :: r => by
    have := depth_ws r
    simp only [List.map_cons, PyData.depthAll, pdW, PyData.depth]
    omega
theorem shaped_ws {xs : List Wd} (h : xs.all okW = true) : shaped (.list (xs.map pdW)) = true := by
  have := depth_ws xs
  have e : decide (PyData.depthAll (xs.map pdW) + 1 ≤ 64) = true := decide_eq_true (by omega)
  simp only [shaped, PyData.canLay0, canLay_ws h, PyData.depth, Bool.true_and]
  exact e
theorem eqv_w (p q : Wd) : PyData.eqv (pdW p) (pdW q) = decide (p = q) := by
  obtain ⟨i, x⟩ := p
  obtain ⟨j, y⟩ := q
  simp only [pdW, PyData.eqv, PyData.eqvAll, Bool.and_true]
  by_cases h1 : i = j <;> by_cases h2 : x = y <;> simp [h1, h2]
theorem eqv_ws : ∀ xs ys : List Wd, PyData.eqvAll (xs.map pdW) (ys.map pdW) = decide (xs = ys)
  | [], [] => by simp [PyData.eqvAll]
  | [], _ :: _ => by simp [PyData.eqvAll]
  | _ :: _, [] => by simp [PyData.eqvAll]
  | p :: xs, q :: ys => by
    rw [List.map_cons, List.map_cons, PyData.eqvAll, eqv_w, eqv_ws xs ys]
    by_cases h1 : p = q <;> by_cases h2 : xs = ys <;> simp [h1, h2]
theorem eq_ws {xs ys : List Wd} (hx : xs.all okW = true) (hy : ys.all okW = true) (h : Φ (.bool (decide (xs = ys))) σ) : Cmp c n .Eq (.lst (xs.map wdV)) (.lst (ys.map wdV)) σ Φ :=
  eq_dd (data_ws xs) (data_ws ys) (shaped_ws hx) (shaped_ws hy) (by rw [PyData.eqv, eqv_ws]; exact h)
theorem ne_ws {xs ys : List Wd} (hx : xs.all okW = true) (hy : ys.all okW = true) (h : Φ (.bool (!decide (xs = ys))) σ) : Cmp c n .NotEq (.lst (xs.map wdV)) (.lst (ys.map wdV)) σ Φ :=
  ne_dd (data_ws xs) (data_ws ys) (shaped_ws hx) (shaped_ws hy) (by rw [PyData.eqv, eqv_ws]; exact h)
theorem ne_w {p q : Wd} (hx : okW p = true) (hy : okW q = true) (h : Φ (.bool (!decide (p = q))) σ) : Cmp c n .NotEq (wdV p) (wdV q) σ Φ :=
  ne_dd (data_w p) (data_w q) (shaped_w hx) (shaped_w hy) (by rw [eqv_w]; exact h)
theorem notIn_ws {p : Wd} {ys : List Wd} (hx : okW p = true) (hy : ys.all okW = true) (h : Φ (.bool (!ys.contains p)) σ) : Cmp c n .NotIn (wdV p) (.lst (ys.map wdV)) σ Φ := OX2 fun A R P C s x y Q E I r1 r2 q => by
  obtain ⟨_, h1⟩ := reads_of I (data_w p) r1
  obtain ⟨_, h2⟩ := reads_of I (data_ws ys) r2
  have e : (ys.map pdW).any (fun y => PyData.eqv y (pdW p)) = ys.contains p := by
    induction ys with
    | nil => rfl
    | cons a l ih =>
      have hl : l.all okW = true := by rw [List.all_cons, Bool.and_eq_true] at hy; exact hy.2
      rw [List.map_cons, List.any_cons, eqv_w, List.contains_cons]
      have : (l.map pdW).any (fun y => PyData.eqv y (pdW p)) = l.contains p := by
        clear ih h h2 r2 hy
        induction l with
        | nil => rfl
        | cons b t ih2 =>
          rw [List.map_cons, List.any_cons, eqv_w, List.contains_cons, ih2 (by rw [List.all_cons, Bool.and_eq_true] at hl; exact hl.2)]
          by_cases h1 : b = p
          · simp [h1]
          · have : (p == b) = false := by simpa using fun h => h1 h.symm
            simp [h1, this]
      rw [this]
      by_cases h1 : a = p
      · simp [h1]
      · have : (p == a) = false := by simpa using fun h => h1 h.symm
        simp [h1, this]
  refine notIn_list_reads h2 h1 (canLay_ws hy) (canLay_of_shaped (shaped_w hx)) ?_ (by rw [e]; exact q P C σ _ _ _ .rfl I .bool h)
  have := R.units
  have := depth_ws ys
  omega

/-! a for whose names are told anew at each turn -/
theorem FX_ForN {x : Str} {px pos : Pos} {iter : Expr} {body : List Stmt}
    (h : EX c n env V σ iter fun v σ1 => ∃ (vs : List AV) (Vn : Nat → Vars) (J : Nat → Mut → Prop), Iters c v vs ∧ (∀ p ∈ Vn 0, V.lookup p.1 = some p.2) ∧ (∀ k, ∀ p ∈ Vn k, p.1 ≠ x) ∧ J 0 σ1 ∧
      (∀ k u σ', vs[k]? = some u → J k σ' → FX c n env ((x, u) :: Vn k) σ' (execs body env) (Turn (fun V2 σ2 => J (k + 1) σ2 ∧ ∀ p ∈ Vn (k + 1), V2.lookup p.1 = some p.2) Θ)) ∧
      (∀ V' σ', J vs.length σ' → (∀ p ∈ Vn vs.length, V'.lookup p.1 = some p.2) → Θ .next V' σ'))
    (hk : storable env x = true := by rfl) (hs : ∀ x, foldedSetIterable iter env x = pure x := by intro _; rfl) : FX c n env V σ (exec (.For (.Name x px) iter body [] pos) env) Θ := by
  refine FX_For (h.mono fun v σ1 hv => ?_) hk hs
  obtain ⟨vs, Vn, J, hi, h0, hx, j0, turn, fin⟩ := hv
  refine ⟨vs, fun k V' σ' => J k σ' ∧ ∀ p ∈ Vn k, V'.lookup p.1 = some p.2, hi, ⟨j0, h0⟩, fun k u V' σ' hu hj => ?_, fun V' σ' hj => fin V' σ' hj.1 hj.2⟩
  refine (turn k u σ' hu hj.1).sub fun p hp => ?_
  rw [List.lookup_cons]
  rcases List.mem_cons.mp hp with rfl | hp
  · rw [beq_self_eq_true]
  · rw [beq_eq_false_iff_ne.mpr (hx k p hp)]
    exact hj.2 p hp
end
end Mine
end
section
open PySem PyProof.Rows PySem.Calls PySem.SeqAt PySem.W
namespace Mine
/-- the tree of a sort, run on a plain order -/
def runT {α : Type} (n : Nat) (lt : Nat → Nat → Bool) : KasT α → Option α
  | .ret a => some a
  | .ask i j k => if decide (i < n) && decide (j < n) then runT n lt (k (lt i j)) else none
theorem runT_wp {α : Type} {n : Nat} {lt : Nat → Nat → Bool} {cmp : Nat → Nat → (Bool → Shared → Prop) → Shared → Prop} {Q : α → Shared → Prop} {s : Shared} (hc : ∀ i j C, i < n → j < n → C (lt i j) s → cmp i j C s) : ∀ {t : KasT α} {a : α}, runT n lt t = some a → Q a s → t.kasWp cmp Q s
  | .ret b, a, h, q => by cases h; exact q
  | .ask i j k, a, h, q => by
    unfold runT at h
    split at h
    · rename_i hij
      rw [Bool.and_eq_true, decide_eq_true_eq, decide_eq_true_eq] at hij
      exact hc i j _ hij.1 hij.2 (runT_wp hc h q)
    · cases h
/-- what sorted makes of a list, by the model's own tree -/
def sortP {α : Type} [Inhabited α] (lt : α → α → Bool) (xs : List α) : Option (List α) :=
  (runT xs.length (fun i j => lt (xs.getD i default) (xs.getD j default)) (kas_sort xs.length)).map fun p => p.toList.map fun i => xs.getD i default
section
variable {prog : Program} {w : World} {A : Around} {E : Value → Shared → Prop} {s : Shared} {vs : List Value} {κ : SortKind} {lt : Nat → Nat → Bool}
theorem sort_in {a : Addr} {p : Array Nat} {n : Nat} {P : PySem.Fin → Shared → Prop} (ho : s.heap.get? a = some (seqObj "list" vs.toArray n)) (h2 : 2 ≤ vs.length) (h64 : vs.length < 64)
    (hk : ∀ h', (∀ b o, b ≠ a → s.heap.get? b = some o → h'.get? b = some o) → ∀ Q : SortKind → Shared → Prop, Q κ { s with heap := h' } → wpAny (model prog w) A (keyKind' vs.toArray) Q (fun _ _ => False) { s with heap := h' })
    (hlt : ∀ h', (∀ b o, b ≠ a → s.heap.get? b = some o → h'.get? b = some o) → ∀ i j (Q : Bool → Shared → Prop), i < vs.length → j < vs.length → Q (lt i j) { s with heap := h' } → wpAny (model prog w) A (keyLt' κ (vs.getD i .none) (vs.getD j .none)) Q (fun _ _ => False) { s with heap := h' })
    (hp : runT vs.length lt (kas_sort vs.length) = some p)
    (h : ∀ h' e, (∀ b o, b ≠ a → s.heap.get? b = some o → h'.get? b = some o) → h'.get? a = some (seqObj "list" (p.toList.map fun i => vs.getD i .none).toArray e) → P (.done (.ret .none)) { s with heap := h' }) :
    wpAny (model prog w) A (Builtin.«list.sort» ⟨[.ref a], []⟩) P E s := by
  have s1 := Heap.SameBut.update s.heap a (Obj.mapSeq fun _ => (#[] : Array Value))
  obtain ⟨e1, ho1⟩ : ∃ e1, (s.heap.update a (Obj.mapSeq fun _ => (#[] : Array Value))).get? a = some (seqObj "list" #[] e1) := ⟨_, get?_update_seq ho fun _ => #[]⟩
  let h2' := ((s.heap.update a (Obj.mapSeq fun _ => (#[] : Array Value))).push (seqObj "tuple" vs.toArray 0)).push (seqObj "list" #[] 0)
  have keep : ∀ b o, b ≠ a → s.heap.get? b = some o → h2'.get? b = some o := fun b o hb q =>
    Heap.get?_push_of_some _ (Heap.get?_push_of_some _ ((Heap.get?_update_ne _ _ _ _ hb).trans q))
  have at2 : h2'.get? a = some (seqObj "list" #[] e1) := Heap.get?_push_of_some _ (Heap.get?_push_of_some _ ho1)
  rw [list_sort_plain]
  refine wpAny_bind (listItems_at ho rfl ?_)
  refine wpAny_bind (listUpdate_at ho rfl ?_ (by rw [List.size_toArray, sizeLine_eq]; omega) (Nat.zero_le _))
  refine wpAny_bind (seqEpoch_at ho1 rfl ?_)
  refine wpAny_bind (wpAny_newTuple ?_ (by show vs.length ≤ _; rw [sizeLine_eq]; omega))
  refine wpAny_bind (wpAny_newList ?_ (Nat.zero_le _))
  refine wpAny_holding ?_
  show wpAny (model prog w) A _ P E { s with heap := h2' }
  dsimp only
  have hn2 : ¬ vs.toArray.size < 2 := by rw [List.size_toArray]; omega
  rw [if_neg hn2, if_neg hn2]
  refine wpAny_bind (wpAny_mono (hk h2' keep (fun k s' => k = κ ∧ s' = { s with heap := h2' }) ⟨rfl, rfl⟩) ?_ fun _ _ x => x.elim)
  rintro _ _ ⟨rfl, rfl⟩
  refine wpAny_bind (wpAny_mono (kat_run (Q := fun st' s' => s' = { s with heap := h2' } ∧ p.size = vs.length ∧ arrOf st' = p.map (kas_item (vs.toArray.zip vs.toArray)) ∧ failedOf st' = none) (G := fun p' s' => p' = p ∧ s' = { s with heap := h2' })
    rfl h2 h64 (fun p' st' s' a1 a2 a3 a4 => ⟨a4.2, a4.1 ▸ a1, a4.1 ▸ a2, a3⟩) (runT_wp (fun i j C hi hj hC => hlt h2' keep i j C hi hj hC) hp ⟨rfl, rfl⟩)) ?_ fun _ _ e => e)
  rintro ⟨⟨⟩, st'⟩ s' ⟨rfl, hz, har, hf⟩
  dsimp only
  have hout := kat_snds rfl har
  have hsz : (List.toArray (p.toList.map fun i => vs.getD i Value.none)).size = vs.length := by rw [List.size_toArray, List.length_map, Array.length_toList, hz]
  rw [hout]
  refine wpAny_bind (seqEpoch_at at2 rfl ?_)
  refine wpAny_bind (listUpdate_at at2 rfl ?_ (Nat.zero_le _) (Nat.le_trans (Nat.le_of_eq hsz) (by rw [sizeLine_eq]; omega)))
  rw [hf]
  simp only [bne_self_eq_false, Bool.false_eq_true, if_false]
  refine wpAny_pure (h _ _ (fun b o hb q => (Heap.get?_update_ne _ _ _ _ hb).trans (keep b o hb q)) (get?_update_seq at2 fun _ => List.toArray (p.toList.map fun i => vs.getD i Value.none)))
theorem sorted_in {l : Addr} {p : Array Nat} {Q : Value → Shared → Prop} (hl : s.heap.IsList l vs.toArray) (h2 : 2 ≤ vs.length) (h64 : vs.length < 64)
    (hk : ∀ h', (∀ b o, s.heap.get? b = some o → h'.get? b = some o) → ∀ Q : SortKind → Shared → Prop, Q κ { s with heap := h' } → wpAny (model prog w) A.in1.in1 (keyKind' vs.toArray) Q (fun _ _ => False) { s with heap := h' })
    (hlt : ∀ h', (∀ b o, s.heap.get? b = some o → h'.get? b = some o) → ∀ i j (Q : Bool → Shared → Prop), i < vs.length → j < vs.length → Q (lt i j) { s with heap := h' } → wpAny (model prog w) A.in1.in1 (keyLt' κ (vs.getD i .none) (vs.getD j .none)) Q (fun _ _ => False) { s with heap := h' })
    (hp : runT vs.length lt (kas_sort vs.length) = some p)
    (h : ∀ h' D e, (∀ b o, s.heap.get? b = some o → h'.get? b = some o) → s.heap.get? D = none → h'.get? D = some (seqObj "list" (p.toList.map fun i => vs.getD i .none).toArray e) → Q (.ref D) { s with heap := h' }) :
    wpAny (model prog w) A (call (.builtin "sorted") [.ref l]) Q E s := by
  refine Calls.call_function_entry kind_sorted plain_sorted entry_sorted (args_sorted1 _) ?_
  unfold Builtin.«sorted»
  refine wpAny_bind (m := checkCount "sorted" 1 1 _) (wpAny_pure ?_)
  refine wpAny_bind (collect_list hl ?_ (by rw [sizeLine_eq]; omega))
  refine wpAny_bind (wpAny_newList ?_ (by rw [sizeLine_eq]; omega))
  have hsz : ((s.heap.push (seqObj "list" #[] 0)).update s.heap.objs.size (Obj.mapSeq (· ++ vs.toArray))).objs.size = s.heap.objs.size + 1 := by
    rw [Heap.size_update, size_push']
  have hoL : (((s.heap.push (seqObj "list" #[] 0)).update s.heap.objs.size (Obj.mapSeq (· ++ vs.toArray))).push (seqObj "list" vs.toArray 0)).get? (s.heap.objs.size + 1) = some (seqObj "list" vs.toArray 0) := by
    rw [← hsz]; exact Heap.get?_push_size _ rfl
  have keep : ∀ b o, s.heap.get? b = some o → (((s.heap.push (seqObj "list" #[] 0)).update s.heap.objs.size (Obj.mapSeq (· ++ vs.toArray))).push (seqObj "list" vs.toArray 0)).get? b = some o := fun b o q => by
    have hlt : b < s.heap.objs.size := Heap.lt_size q
    exact Heap.get?_push_of_some _ ((Heap.get?_update_ne _ _ _ _ (Nat.ne_of_lt hlt)).trans (Heap.get?_push_of_some _ q))
  have hD : s.heap.get? (s.heap.objs.size + 1) = none := Heap.get?_none_of_le (Nat.le_succ _)
  have hne : ∀ b o, s.heap.get? b = some o → b ≠ s.heap.objs.size + 1 := fun b o q e => by rw [e, hD] at q; cases q
  show wpAny _ _ _ _ _ { s with heap := ((s.heap.push (seqObj "list" #[] 0)).update s.heap.objs.size (Obj.mapSeq (· ++ vs.toArray))).push (seqObj "list" vs.toArray 0) }
  rw [hsz]
  refine wpAny_bind (wpAny_holding (wpAny_call_entry slot_list_sort ⟨_, hoL, rfl⟩ entry_list_sort ?body (args_list_sort _)))
  case body =>
    refine sort_in (s := { s with heap := ((s.heap.push (seqObj "list" #[] 0)).update s.heap.objs.size (Obj.mapSeq (· ++ vs.toArray))).push (seqObj "list" vs.toArray 0) }) hoL h2 h64
      (fun h' k => hk h' fun b o q => k b o (hne b o q) (keep b o q)) (fun h' k => hlt h' fun b o q => k b o (hne b o q) (keep b o q)) hp fun h' e k hat => ?_
    exact ⟨_, rfl, wpAny_pure ⟨_, rfl, h h' _ e (fun b o q => k b o (hne b o q) (keep b o q)) hD hat⟩⟩
end
section
variable {c : Cfg} {P P' : PM} {C C' : CM} {σ σ' : Mut} {s s' : Shared} {env : Env} {V : Vars} {n : Nat} {Φ : AV → Mut → Prop} {Θ : Fl → Vars → Mut → Prop} {G M : List (Str × Value)}
theorem Inv.noneP (I : Inv c P C σ s.heap) {D : Addr} (h : s.heap.get? D = none) : P D = none ∧ C D = none ∧ σ D = none := by
  refine ⟨?_, ?_, ?_⟩
  · cases e : P D with
    | none => rfl
    | some o => have := I.per D o e; rw [h] at this; cases this
  · cases e : C D with
    | none => rfl
    | some wd => obtain ⟨_, _, ⟨o, _, _, ho, _⟩, _⟩ := I.cch D wd e; rw [h] at ho; cases ho
  · cases e : σ D with
    | none => rfl
    | some vs => obtain ⟨its, ⟨k, ho⟩, _⟩ := I.own D vs e; rw [h] at ho; cases ho
/-- a new object above, the old ones kept -/
theorem Inv.put {h' : Heap} {D : Addr} {o : Obj} (I : Inv c P C σ s.heap) (k : ∀ b o, s.heap.get? b = some o → h'.get? b = some o) (hD : s.heap.get? D = none) (ho : h'.get? D = some o) : Inv c (upd P D o) C σ h' := by
  have J := I.grow k
  have hn := I.noneP hD
  have hle : LeP P (upd P D o) := fun b x hb => (upd_ne (fun e => by rw [e, hn.1] at hb; cases hb)).trans hb
  exact { bs := fun a x h => hle _ _ (I.bs a x h)
          per := fun a x h => by
            by_cases e : a = D
            · subst e; rw [upd_self] at h; cases h; exact ho
            · rw [upd_ne e] at h; exact J.per a x h
          cch := J.cch
          own := fun a vs h => let ⟨its, h1, h2⟩ := J.own a vs h; ⟨its, h1, h2.mono hle .rfl⟩
          dPC := fun a x h => by
            by_cases e : a = D
            · subst e; exact hn.2
            · rw [upd_ne e] at h; exact I.dPC a x h
          dC := I.dC }
theorem Step.put {X : Addr → Prop} {h' : Heap} {tk : Nat} {D : Addr} {o : Obj} (I : Inv c P C σ s.heap) (k : ∀ b o, s.heap.get? b = some o → h'.get? b = some o) (hD : s.heap.get? D = none) : Step X P C σ s (upd P D o) C σ { s with heap := h', toks := tk } := by
  have hn := I.noneP hD
  exact ⟨fun b x hb => (upd_ne (fun e => by rw [e, hn.1] at hb; cases hb)).trans hb, .rfl, fun b x h _ h1 h2 h3 => ⟨k b x h, (upd_ne (fun e => by rw [e, hD] at h; cases h)).trans h1, h2, h3⟩, fun b o h _ => ⟨o, k b o h⟩, .refl _, .refl _, .refl _⟩
theorem relL_len {vs : List AV} {xs : List Value} (h : RelL c P C vs xs) : vs.length = xs.length := by
  induction vs generalizing xs with
  | nil => cases h; rfl
  | cons v vs ih => cases h with | cons _ h => simp [ih h]
theorem relL_getD {vs : List AV} {xs : List Value} (h : RelL c P C vs xs) : ∀ i, Rel c P C (vs.getD i .none) (xs.getD i .none) := by
  induction vs generalizing xs with
  | nil => intro i; cases h; simp; exact .none
  | cons v vs ih =>
    cases h with | cons r h =>
    intro i
    cases i with
    | zero => exact r
    | succ i => simpa using ih h i
theorem relL_picks {vs : List AV} {xs : List Value} (h : RelL c P C vs xs) : ∀ p : List Nat, RelL c P C (p.map fun i => vs.getD i .none) (p.map fun i => xs.getD i .none)
  | [] => .nil
  | i :: p => .cons (relL_getD h i) (relL_picks h p)
/-- sorted of a frozen list, by a plain order on what it shows -/
theorem sorted_av {vs : List AV} {lt : Nat → Nat → Bool} {p : Array Nat} (κ : SortKind) (h2 : 2 ≤ vs.length) (h64 : vs.length < 64)
    (hk : ∀ A s P C xs (Q : SortKind → Shared → Prop), RelL c P C vs xs → (∀ a o, P a = some o → s.heap.get? a = some o) → Q κ s → wpAny (model c.prog c.w) A (keyKind' xs.toArray) Q (fun _ _ => False) s)
    (hlt : ∀ A s P C i j x y (Q : Bool → Shared → Prop), (A.units < cLine) → i < vs.length → j < vs.length → Rel c P C (vs.getD i .none) x → Rel c P C (vs.getD j .none) y → (∀ a o, P a = some o → s.heap.get? a = some o) → Q (lt i j) s → wpAny (model c.prog c.w) A (keyLt' κ x y) Q (fun _ _ => False) s)
    (hp : runT vs.length lt (kas_sort vs.length) = some p) (h : Φ (.lst (p.toList.map fun i => vs.getD i .none)) σ) : OX c n [.lst vs] σ (fun xs => call (.builtin "sorted") xs) Φ := by
  intro A R P C s xs Q E I r q
  cases r with | cons r1 r =>
  cases r
  cases r1 with
  | lst hp' hr =>
    rename_i l its k
    have hlen := relL_len hr
    have hl : s.heap.IsList l its.toArray := ⟨_, I.per _ _ hp', rfl, k, rfl⟩
    refine sorted_in (κ := κ) (lt := lt) (p := p) hl (hlen ▸ h2) (hlen ▸ h64) ?_ ?_ (hlen ▸ hp) ?_
    · intro h' kk Q' hq
      exact hk _ { s with heap := h' } P C its Q' hr (I.grow kk).per hq
    · intro h' kk i j Q' hi hj hq
      exact hlt _ { s with heap := h' } P C i j _ _ Q' (by have := R.units; show A.units + 1 + 1 < _; omega) (hlen ▸ hi) (hlen ▸ hj) (relL_getD hr i) (relL_getD hr j) (I.grow kk).per hq
    · intro h' D e kk hD hat
      have I' := I.put kk hD hat
      have st := Step.put (X := no) (tk := s.toks) (o := seqObj "list" (p.toList.map fun i => its.getD i .none).toArray e) I kk hD
      exact q _ _ _ _ _ _ st I' (.lst (upd_self ..) ((relL_picks hr _).mono st.pm .rfl)) h
/-- a list of strings -/
def stV (s : Str) : AV := .str s
def strLt (a b : Str) : Bool := decide (a.cps.toList < b.cps.toList)
theorem relL_strs : ∀ {ss : List Str} {xs : List Value}, RelL c P C (ss.map stV) xs → StrsAre xs ss
  | [], _, .nil => .nil
  | a :: ss, _, .cons r h => by cases r; exact .cons _ _ (relL_strs h)
theorem map_getD {α : Type} [Inhabited α] (f : α → AV) (xs : List α) {i : Nat} (hi : i < xs.length) : (xs.map f).getD i .none = f (xs.getD i default) := by
  simp [List.getD, hi]
theorem picks_in {α : Type} [Inhabited α] (f : α → AV) (xs : List α) {p : List Nat} (hp : p.all (fun i => decide (i < xs.length)) = true) : (p.map fun i => (xs.map f).getD i .none) = (p.map fun i => xs.getD i default).map f := by
  rw [List.map_map]
  refine List.map_congr_left fun i hi => ?_
  have := List.all_eq_true.1 hp i hi
  exact map_getD f xs (by simpa using this)
/-- sorted, with a look at the places -/
def sortQ {α : Type} [Inhabited α] (lt : α → α → Bool) (xs : List α) : Option (List α) :=
  if decide (2 ≤ xs.length) && decide (xs.length < 64) then
    match runT xs.length (fun i j => lt (xs.getD i default) (xs.getD j default)) (kas_sort xs.length) with
    | some p => if p.toList.all (fun i => decide (i < xs.length)) then some (p.toList.map fun i => xs.getD i default) else none
    | none => none
  else none
theorem sortQ_some {α : Type} [Inhabited α] {lt : α → α → Bool} {xs ys : List α} (h : sortQ lt xs = some ys) : 2 ≤ xs.length ∧ xs.length < 64 ∧ ∃ p, runT xs.length (fun i j => lt (xs.getD i default) (xs.getD j default)) (kas_sort xs.length) = some p ∧ p.toList.all (fun i => decide (i < xs.length)) = true ∧ ys = p.toList.map fun i => xs.getD i default := by
  unfold sortQ at h
  split at h
  · rename_i h1
    rw [Bool.and_eq_true, decide_eq_true_eq, decide_eq_true_eq] at h1
    split at h
    · rename_i p hp
      split at h
      · rename_i h2
        cases h
        exact ⟨h1.1, h1.2, p, hp, h2, rfl⟩
      · cases h
    · cases h
  · cases h
theorem sorted_ss {ss ts : List Str} (hs : sortQ strLt ss = some ts) (h : Φ (.lst (ts.map stV)) σ) : OX c n [.lst (ss.map stV)] σ (fun xs => call (.builtin "sorted") xs) Φ := by
  obtain ⟨h2, h64, p, hp, hin, rfl⟩ := sortQ_some hs
  refine sorted_av (lt := fun i j => strLt (ss.getD i default) (ss.getD j default)) (p := p) oneType' (by simpa using h2) (by simpa using h64) ?_ ?_ (by simpa using hp) (by rw [picks_in stV ss hin]; exact h)
  · intro A s P C xs Q r hP q
    have hS := relL_strs r
    match xs, ss, hS, h2 with
    | _ :: _ :: _, _, hS, _ => rw [keyKind_strs hS]; exact wpAny_pure q
    | [_], _, .cons _ _ .nil, h2 => simp at h2
    | [], _, .nil, h2 => simp at h2
  · intro A s P C i j x y Q hu hi hj rx ry hP q
    rw [map_getD stV ss (by simpa using hi)] at rx
    rw [map_getD stV ss (by simpa using hj)] at ry
    cases rx; cases ry
    exact kas_lt_str q
theorem katTups_of (hP : ∀ a o, P a = some o → s.heap.get? a = some o) : ∀ {ws : List Wd} {xs : List Value}, RelL c P C (ws.map wdV) xs → ∃ fs, KatTups s.heap xs fs ∧ fs.length = ws.length ∧ ∀ v ∈ fs, ∃ i t, v = Value.int i t
  | [], _, .nil => ⟨[], .nil, rfl, by simp⟩
  | w :: ws, _, .cons r h => by
    obtain ⟨fs, h1, h2, h3⟩ := katTups_of hP h
    cases r with
    | tup hp hr =>
      cases hr with | cons r1 hr => cases hr with | cons r2 hr =>
      cases hr; cases r1; cases r2
      refine ⟨_ :: fs, .cons (hP _ _ hp) rfl rfl rfl h1, by simp [h2], ?_⟩
      intro v hv
      rcases List.mem_cons.1 hv with rfl | hv
      · exact ⟨_, _, rfl⟩
      · exact h3 v hv
theorem sorted_ws {ws ts : List Wd} (hs : sortQ wdLt ws = some ts) (h : Φ (.lst (ts.map wdV)) σ) : OX c n [.lst (ws.map wdV)] σ (fun xs => call (.builtin "sorted") xs) Φ := by
  obtain ⟨h2, h64, p, hp, hin, rfl⟩ := sortQ_some hs
  refine sorted_av (lt := fun i j => wdLt (ws.getD i default) (ws.getD j default)) (p := p) (tuples' true) (by simpa using h2) (by simpa using h64) ?_ ?_ (by simpa using hp) (by rw [picks_in wdV ws hin]; exact h)
  · intro A s P C xs Q r hP q
    obtain ⟨fs, f1, f2, f3⟩ := katTups_of hP r
    refine kat_kind (T := .type "int") f1 (by omega) (fun v hv => ?_) (by first | rfl | decide) q
    obtain ⟨i, t, rfl⟩ := f3 v hv
    exact .now
  · intro A s P C i j x y Q hu hi hj rx ry hP q
    rw [map_getD wdV ws (by simpa using hi)] at rx
    rw [map_getD wdV ws (by simpa using hj)] at ry
    generalize ws.getD i default = a at *
    generalize ws.getD j default = b at *
    cases rx with
    | tup hp hr =>
    cases hr with | cons r1 hr => cases hr with | cons r2 hr =>
    cases hr; cases r1; cases r2
    cases ry with
    | tup hp' hr =>
    cases hr with | cons r1 hr => cases hr with | cons r2 hr =>
    cases hr; cases r1; cases r2
    refine kat_lt (hP _ _ hp) rfl (hP _ _ hp') rfl (kat_cons (wpAny_eqBool_int (kat_go (fun e => ?_) fun e => ?_)))
    · refine kat_yes (kat_cons (wpAny_eqBool_str (kat_go (fun e2 => ?_) fun e2 => ?_)))
      · refine kat_yes (kat_nil ?_)
        have e' : a.1 = b.1 := by simpa using e
        have e2' : a.2 = b.2 := by simpa using e2
        have : wdLt a b = false := by
          unfold wdLt
          rw [e', e2']
          simp [List.lt_irrefl]
        rw [this] at q
        simpa using q
      · have e' : a.1 = b.1 := by simpa using e
        have : wdLt a b = decide (a.2.cps.toList < b.2.cps.toList) := by
          unfold wdLt
          rw [e']
          simp
        rw [this] at q
        refine kat_no (kat_one _ _ (PyProof.Rows.lt_str ?_))
        exact q
    · have e' : a.1 ≠ b.1 := by simpa using e
      have : wdLt a b = decide (a.1 < b.1) := by
        unfold wdLt
        simp [e']
      rw [this] at q
      refine kat_no (oneLt_int ?_)
      exact q
end
end Mine
end
section
open PySem PyProof.Rows PySem.Calls PySem.SeqAt
namespace Mine
section
variable {c : Cfg} {P P' : PM} {C C' : CM} {σ σ' : Mut} {s s' : Shared} {env : Env} {V : Vars} {n : Nat} {Φ : AV → Mut → Prop} {Θ : Fl → Vars → Mut → Prop} {G M : List (Str × Value)} {i : Int}
/-- a part of a slice -/
def PX (c : Cfg) (n : Nat) (env : Env) (V : Vars) (σ : Mut) (p : Option Expr) (Φ : Option Int → Mut → Prop) : Prop := match p with
  | none => Φ none σ
  | some e => EX c n env V σ e fun v σ1 => ∃ i, v = .int i ∧ Φ (some i) σ1
theorem PX.go {p : Option Expr} {Φ : Option Int → Mut → Prop} (h : PX c n env V σ p Φ) {A : Around} (R : Room A n) {Q : Value → Shared → Prop} {E : Value → Shared → Prop} (I : Inv c P C σ s.heap) (F : Fm c env V P C σ s.heap)
    (q : ∀ P' C' σ' v i s', Step (onlyL env) P C σ s P' C' σ' s' → Inv c P' C' σ' s'.heap → Fm c env V P' C' σ' s'.heap → IsPart v i → Φ i σ' → Q v s') : wpAny (model c.prog c.w) A (evalPart p env) Q E s := by
  cases p with
  | none => exact wpAny_evalPart_none (q P C σ _ _ s .rfl I F .none h)
  | some e => exact wpAny_evalPart_some (h A R P C s Q E I F fun P1 C1 σ1 v x s1 st I1 F1 r h1 => by
      obtain ⟨i, rfl, h1⟩ := h1
      cases r
      exact q P1 C1 σ1 _ _ s1 st I1 F1 (.int _ _) h1)
/-- what can be sliced -/
inductive SrcV (σ : Mut) : AV → List AV → Prop
  | of {v : AV} {vs : List AV} : ListV σ v vs → SrcV σ v vs
  | scr {ns : List Int} : SrcV σ (.scr ns) (ns.map .int)
theorem SrcV.at {v : AV} {vs : List AV} {x : Value} (l : SrcV σ v vs) (I : Inv c P C σ s.heap) (r : Rel c P C v x) : ∃ a its, x = .ref a ∧ s.heap.IsList a its.toArray ∧ RelL c P C vs its := by
  cases l with
  | of l => obtain ⟨a, its, h1, h2, h3⟩ := l.at I r; exact ⟨a, its, h1, h2.isList, h3⟩
  | scr => cases r with | scr hp hc hd hi => exact ⟨_, _, rfl, ⟨_, I.per _ _ hp, hc, _, hd⟩, .ints hi⟩
def cut (lo hi : Option Int) (vs : List AV) : List AV := (vs.drop (lo.elim 0 (clipAt vs.length))).take (hi.elim vs.length (clipAt vs.length) - lo.elim 0 (clipAt vs.length))
theorem EX_SliceL {value : Expr} {lo hi : Option Expr} {pos ps : Pos} (h : EX c n env V σ value fun v σ1 => PX c n env V σ1 lo fun l σ2 => PX c n env V σ2 hi fun u σ3 => ∃ vs, SrcV σ3 v vs ∧ vs.length < 100000 ∧ Φ (.lst (cut l u vs)) σ3) :
    EX c n env V σ (.Subscript value (.Slice lo hi none ps) pos) Φ :=
  fun A R P C s Q E I F q => Subscript_ (h A R P C s _ E I F fun P1 C1 σ1 a x s1 st1 I1 F1 ra h1 => wpAny_Slice (h1.go R I1 F1 fun P2 C2 σ2 vl l s2 st2 I2 F2 pl h2 => h2.go R I2 F2 fun P3 C3 σ3 vu u s3 st3 I3 F3 pu h3 => wpAny_evalPart_none (by
    obtain ⟨vs, hs, hz, hΦ⟩ := h3
    have ra3 := ra.mono (st2.trans st3).pm (st2.trans st3).cm
    obtain ⟨b, its, rfl, hl, hr⟩ := hs.at I3 ra3
    have hlen := hr.length
    have I4 := I3.push { cls := .type "slice", data := .fields #[vl, vu, .none] }
    have st4 : Step no P3 C3 σ3 s3 P3 C3 σ3 { s3 with heap := s3.heap.push { cls := .type "slice", data := .fields #[vl, vu, .none] } } := Step.push _
    have hl4 := hl.push { cls := .type "slice", data := .fields #[vl, vu, .none] }
    refine tail_any hl4.typeIs slot_list_getitem.lookup (wpAny_getItem_list_slice hl4 (vl := vl) (vu := vu) (vs := .none) ⟨_, Heap.get?_push_size _ rfl, rfl, rfl⟩ pl pu .none nofun ?_ (by show _ ≤ 2 ^ 24; simp; omega)) rfl
    have e : slicePick its.toArray l u none = ((its.drop (l.elim 0 (clipAt vs.length))).take (u.elim vs.length (clipAt vs.length) - l.elim 0 (clipAt vs.length))).toArray := by
      rw [slicePick_plain]
      simp only [List.size_toArray, ← hlen]
    rw [e]
    have st5 := Step.alloc (c := c) (P := P3) (C := C3) (σ := σ3) (s := { s3 with heap := s3.heap.push { cls := .type "slice", data := .fields #[vl, vu, .none] } }) I4 { cls := .type "list", data := .seq ((its.drop (l.elim 0 (clipAt vs.length))).take (u.elim vs.length (clipAt vs.length) - l.elim 0 (clipAt vs.length))).toArray }
    exact ((q.after (st1.trans (st2.trans st3))).ofV F3) _ C3 σ3 _ _ _ (st4.trans st5) (I4.alloc _ rfl) (.lst (n := 0) upd_self (((hr.drop _).take _).mono st5.pm .rfl)) hΦ)))
theorem cut_upto (vs : List AV) (b : Nat) : cut none (some (b : Int)) vs = vs.take b := by
  unfold cut
  simp only [Option.elim, clipAt_nat]
  rw [List.drop_zero, Nat.sub_zero]
  by_cases h : b ≤ vs.length
  · rw [Nat.min_eq_left h]
  · rw [Nat.min_eq_right (by omega), List.take_of_length_le (Nat.le_refl _), List.take_of_length_le (by omega)]
theorem cut_from (vs : List AV) (a : Nat) : cut (some (a : Int)) none vs = vs.drop a := by
  unfold cut
  simp only [Option.elim, clipAt_nat]
  by_cases h : a ≤ vs.length
  · rw [Nat.min_eq_left h, List.take_of_length_le (by simp)]
  · rw [Nat.min_eq_right (by omega), List.drop_of_length_le (Nat.le_refl _), List.drop_of_length_le (by omega)]; simp
theorem cut_run (vs : List AV) (a b : Nat) (h : a + b ≤ vs.length) : cut (some (a : Int)) (some ((a : Int) + (b : Int))) vs = (vs.drop a).take b := by
  unfold cut
  have e : ((a : Int) + (b : Int)) = ((a + b : Nat) : Int) := by omega
  rw [e]
  simp only [Option.elim, clipAt_nat]
  rw [Nat.min_eq_left h, Nat.min_eq_left (by omega), Nat.add_sub_cancel_left]
/-- an item from behind -/
theorem sub_neg1 {value slice : Expr} {v u : AV} {vs : List AV} (l : ListV σ v (vs ++ [u])) (hz : vs.length < 100000) (h : Φ u σ) (hs : ∀ a b, subscripted slice false a b = operate [a, b] (getItem a b) := by intro _ _; rfl) : Sub c n value slice v (.int (-1)) σ Φ := OX2 fun A R P C s x y Q E I r1 r2 q => by
  obtain ⟨a, its, rfl, hl, hr⟩ := l.at I r1
  cases r2
  have hle := hr.length
  rw [List.length_append, List.length_singleton] at hle
  obtain ⟨z, hz', rz⟩ := hr.get (i := vs.length) (v := u) (by simp)
  exact tail_any hl.isList.typeIs slot_list_getitem.lookup (wpAny_getItem_list_neg (x := z) hl.isList (by decide) (by simp; omega) (by decide) (by simp; rw [← hz']; congr 1; omega) (q P C σ _ _ _ .rfl I rz h)) (hs _ _)
theorem fold_rep' (z : Value) : ∀ (k : Nat) (acc : Array Value), List.foldl (fun x1 x2 => x1 ++ x2) acc (List.replicate k [z].toArray) = acc ++ (List.replicate k z).toArray
  | 0, acc => by simp
  | k + 1, acc => by
    rw [List.replicate_succ, List.foldl_cons, fold_rep' z k, List.replicate_succ]
    apply Array.toList_inj.mp
    simp
theorem fold_rep (z : Value) (k : Nat) : List.foldl (fun x1 x2 => x1 ++ x2) (#[] : Array Value) (List.replicate k [z].toArray) = (List.replicate k z).toArray := by
  rw [fold_rep']; simp
theorem relL_rep {u : AV} {z : Value} (r : Rel c P C u z) : ∀ k, RelL c P C (List.replicate k u) (List.replicate k z)
  | 0 => .nil
  | k + 1 => .cons r (relL_rep r k)
/-- a list by a number -/
theorem mul_li {v : AV} {u : AV} (l : ListV σ v [u]) (h0 : 0 ≤ i) (h1 : i < 100000) (h : Φ (.lst (List.replicate i.toNat u)) σ) : Bin c n .Mult v (.int i) σ Φ := OX2 fun A R P C s x y Q E I r1 r2 q => by
  obtain ⟨a, its, rfl, ⟨k, hl⟩, hr⟩ := l.at I r1
  cases r2
  rename_i t
  cases hr with | cons ru hr =>
  cases hr
  rename_i z
  have e : List.foldl (fun x1 x2 => x1 ++ x2) (#[] : Array Value) (List.replicate (if ([z].toArray).isEmpty = true then 0 else i.toNat) [z].toArray) = (List.replicate i.toNat z).toArray := by
    rw [if_neg (by simp)]
    exact fold_rep z i.toNat
  have e1 : ([z].toArray).size = 1 := rfl
  have a2 : ¬ ([z].toArray).size * i.toNat > (2 ^ 63 - 1) / 8 := by rw [e1]; omega
  have a3 : ¬ Builtin.List.listTooLong (([z].toArray).size * i.toNat) = true := by rw [e1]; simp [Builtin.List.listTooLong, sizeLine]; omega
  refine wpAny_binaryOp_repeat_ref (T := "list") (U := "int") (by decide) ⟨_, hl, rfl⟩ (fun s' => typeIs_int s' i t) noFill_list_mul F.fills_int_mul F.slot_int_rmul repeat_list F.slot_int_index.lookup
    (call_meets F.slot_int_rmul (typeIs_int s i t) F.entry_int_rmul (F.args_int_rmul_2 _ _) (int___rmul___int_list i t a [z].toArray k)
      ⟨hl, rfl, ⟨_, hl, rfl⟩, call_meets F.slot_list_mul ⟨_, hl, rfl⟩ F.entry_list_mul (F.args_list_mul_2 _ _)
        (AutoListH.list___mul___list_int_3 a [z].toArray k i t (by simp [Builtin.List.listFitsIndex]; omega) a2 a3)
        ⟨hl, ?_⟩⟩)
  rw [e]
  have st := Step.alloc I { cls := .type "list", data := .seq (List.replicate i.toNat z).toArray }
  exact q _ C σ _ _ _ st (I.alloc _ rfl) (.lst (n := 0) upd_self (relL_rep (ru.mono st.pm .rfl) _)) h
end
end Mine
end
section
open PySem PyProof.Rows PySem.Calls PySem.SeqAt
namespace Mine
section
variable {c : Cfg} {P P' : PM} {C C' : CM} {σ σ' : Mut} {s s' : Shared} {env : Env} {V : Vars} {n : Nat} {Φ : AV → Mut → Prop} {Θ : Fl → Vars → Mut → Prop} {G M : List (Str × Value)} {i : Int}
/-- the method that a value has by a name -/
def MethV (c : Cfg) (v : AV) (name : Str) (id : String) : Prop := ∀ A P C σ s x pl Q E, Inv c P C σ s.heap → Rel c P C v x → Q (.builtin id, [x]) s → wpAny (model c.prog c.w) A (getMethod x name pl) Q E s
theorem EX_Meth {o e : Expr} {rest : List Expr} {name : Str} {apos pos : Pos} {pl : Sem Bool} (id : String) (h : EX c n env V σ o fun v σ1 => MethV c v name id ∧ LX c n env V σ1 (spliced (backTo pos (starEach (e :: rest) env))) fun vs σ2 => OX c n (v :: vs) σ2 (fun xs => call (.builtin id) xs) Φ)
    (he : eval (.Call (.Attribute o name apos) (e :: rest) [] pos) env = (do
      let ov ← eval o env
      standAt apos.atName
      let (f, first) ← holding [ov] (getMethod ov name pl)
      callWith pos f first (backTo pos (starEach (e :: rest) env)) []) := by rfl)
    (h1 : starEach (e :: rest) env = (false, eval e env) :: starEach rest env := by rfl) (hplain : (backTo pos (starEach rest env)).any (·.1) = false := by rfl) :
    EX c n env V σ (.Call (.Attribute o name apos) (e :: rest) [] pos) Φ :=
  fun A R P C s Q E I F q => MethodCall_ (h A R P C s _ E I F fun P1 C1 σ1 v x s1 st1 I1 F1 rx h2 => h2.1 A P1 C1 σ1 s1 x pl _ E I1 rx
    (PyProof.Rows.callWith_method1 (h2.2 A R P1 C1 s1 _ E I1 F1 fun P2 C2 σ2 vs xs s2 st2 I2 F2 rs h3 => h3 A R P2 C2 s2 (x :: xs) Q E I2 (.cons (rx.mono st2.pm st2.cm) rs) ((q.after (st1.trans st2)).ofV F2)) h1 hplain)) he
end
end Mine
end
section
open PySem PyProof.Rows PySem.Calls PySem.SeqAt
namespace Mine
section
variable {c : Cfg} {P P' : PM} {C C' : CM} {σ σ' : Mut} {s s' : Shared} {env : Env} {V : Vars} {n : Nat} {Φ : AV → Mut → Prop} {Θ : Fl → Vars → Mut → Prop} {G M : List (Str × Value)} {i : Int}
theorem OXc1 {a : AV} {g : List Value → Sem Value} (h : ∀ A, Room A n → ∀ P C s x Q E, Inv c P C σ s.heap → Rel c P C a x → PostV c P C σ s Φ Q → wpAny (model c.prog c.w) A (g [x]) Q E s) : OX c n [a] σ g Φ := by
  intro A R P C s xs Q E I r q
  cases r with | cons r1 r =>
  cases r
  exact h A R P C s _ Q E I r1 q
theorem OXc2 {a b : AV} {g : List Value → Sem Value} (h : ∀ A, Room A n → ∀ P C s x y Q E, Inv c P C σ s.heap → Rel c P C a x → Rel c P C b y → PostV c P C σ s Φ Q → wpAny (model c.prog c.w) A (g [x, y]) Q E s) : OX c n [a, b] σ g Φ := by
  intro A R P C s xs Q E I r q
  cases r with | cons r1 r =>
  cases r with | cons r2 r =>
  cases r
  exact h A R P C s _ _ Q E I r1 r2 q
theorem meth_join {x : Str} : MethV c (.str x) "join" "str.join" := fun A P C σ s v pl Q E I r q => by cases r; with_reducible exact GM.join q
theorem meth_starts {x : Str} : MethV c (.str x) "startswith" "str.startswith" := fun A P C σ s v pl Q E I r q => by cases r; with_reducible exact GM.startswith q
theorem meth_count {x : Str} : MethV c (.str x) "count" "str.count" := fun A P C σ s v pl Q E I r q => by cases r; with_reducible exact GM.count q
theorem meth_find {x : Str} : MethV c (.str x) "find" "str.find" := fun A P C σ s v pl Q E I r q => by cases r; with_reducible exact GM.find q
theorem meth_index {vs : List AV} : MethV c (.lst vs) "index" "list.index" := fun A P C σ s v pl Q E I r q => by
  cases r with
  | lst hp hr => exact getMethod_builtin (T := "list") ⟨_, I.per _ _ hp, rfl⟩ F.plainAttrs_list F.slot_list_index F.type_list_index (fun a e => by cases e; exact ⟨_, I.per _ _ hp, rfl⟩) q
theorem join_ss {x : Str} {ys : List Str} (hz : (ys.map (·.length)).sum + ys.length * x.length ≤ 16777216) (h : Φ (.str (Txt.join x ys)) σ) : OX c n [.str x, .lst (ys.map stV)] σ (fun xs => call (.builtin "str.join") xs) Φ := OXc2 fun A R P C s v y Q E I r1 r2 q => by
  cases r1
  cases r2 with
  | lst hp hr =>
    rename_i a its k
    exact join_list (items := its.toArray) ⟨_, I.per _ _ hp, rfl, k, rfl⟩ (relL_strs hr) hz fun t' k' => q P C σ _ _ _ (.tok _) I .str h
theorem starts_ss {x y : Str} (h : Φ (.bool (Txt.startswith x y)) σ) : OX c n [.str x, .str y] σ (fun xs => call (.builtin "str.startswith") xs) Φ := OXc2 fun A R P C s v w Q E I r1 r2 q => by
  cases r1; cases r2; exact SC.startswith (q P C σ _ _ _ .rfl I .bool h)
theorem count_ss {x y : Str} (h : Φ (.int (Txt.count x y)) σ) : OX c n [.str x, .str y] σ (fun xs => call (.builtin "str.count") xs) Φ := OXc2 fun A R P C s v w Q E I r1 r2 q => by
  cases r1; cases r2; exact SC.count (q P C σ _ _ _ (.tok _) I .int h)
theorem find_ss {x y : Str} (h : Φ (.int (Txt.find x y)) σ) : OX c n [.str x, .str y] σ (fun xs => call (.builtin "str.find") xs) Φ := OXc2 fun A R P C s v w Q E I r1 r2 q => by
  cases r1; cases r2; exact SC.find (q P C σ _ _ _ (.tok _) I .int h)
theorem chr_i (h0 : 0 ≤ i) (h1 : i ≤ 1114111) (h : Φ (.str ⟨#[i.toNat]⟩) σ) : OX c n [.int i] σ (fun xs => call (.builtin "chr") xs) Φ := OXc1 fun A R P C s v Q E I r1 q => by
  cases r1; exact chr_of_range h0 h1 (q P C σ _ _ _ (.tok _) I .str h)
theorem str_i (ha : i.natAbs.log2 < 1920) (h : Φ (.str (toString i)) σ) : OX c n [.int i] σ (fun xs => call (.type "str") xs) Φ := OXc1 fun A R P C s v Q E I r1 q => by
  cases r1; exact PySem.P.str_of_int ha (q P C σ _ _ _ (.tok _) I .str h)
theorem bytes_l {v : AV} {ns : List Int} (l : ListV σ v (ns.map .int)) (hr : ∀ k ∈ ns, 0 ≤ k ∧ k < 256) (hz : ns.length < 100000) (h : Φ (.bytes (byteArr ns)) σ) : OX c n [v] σ (fun xs => call (.type "bytes") xs) Φ := OXc1 fun A R P C s x Q E I r1 q => by
  obtain ⟨a, its, rfl, hl, hr'⟩ := l.at I r1
  have hi := hr'.toInts
  have hlen := hr'.length
  rw [List.length_map] at hlen
  exact call_bytes_ints hl.isList hi hr (by rw [sizeLine_eq]; omega) R.han fun h' t k kk => q P C σ _ _ { s with heap := h', toks := k } (.grow kk) (I.grow kk) .bytes h
theorem sub_bi {value slice : Expr} {x : List UInt8} (hz : x.length < 100000) (h0 : 0 ≤ i) (h1 : i < x.length) (h : Φ (.int ((x.getD i.toNat 0).toNat : Nat)) σ) (hs : ∀ a b, subscripted slice false a b = operate [a, b] (getItem a b) := by intro _ _; rfl) (ht : ∀ a r, letTemporaryGo value a r = pure () := by intro _ _; rfl) :
    Sub c n value slice (.bytes x.toArray) (.int i) σ Φ := OX2 fun A R P C s v y Q E I r1 r2 q => by
  cases r1; cases r2
  exact PySem.W.bytes_item_K (by omega) h0 h1 rfl (q P C σ _ _ _ (.tok _) I .int h) (hs _ _) (ht _)
theorem type_b {b : Bool} (h : Φ (.type "bool") σ) : OX c n [.bool b] σ (fun xs => call (.type "type") xs) Φ := OXc1 fun A R P C s v Q E I r1 q => by
  cases r1; exact call_type_of (Tx := "bool") rfl (by decide +kernel) (q P C σ _ _ _ .rfl I .type h)
theorem type_by {b : Array UInt8} (h : Φ (.type "bytes") σ) : OX c n [.bytes b] σ (fun xs => call (.type "type") xs) Φ := OXc1 fun A R P C s v Q E I r1 q => by
  cases r1; exact call_type_of (Tx := "bytes") rfl (by decide +kernel) (q P C σ _ _ _ .rfl I .type h)
theorem is_tt {T U : String} (h : Φ (.bool (Value.type T == Value.type U)) σ) : Cmp c n .Is (.type T) (.type U) σ Φ := OX2 fun A R P C s v y Q E I r1 r2 q => by
  cases r1; cases r2
  exact wpAny_is_plain rfl (q P C σ _ _ _ .rfl I .bool h)
theorem is_none_b {b : Bool} (h : Φ (.bool false) σ) : Cmp c n .Is (.bool b) .none σ Φ := OX2 fun A R P C s v y Q E I r1 r2 q => by
  cases r1; cases r2
  exact is_bool_none (q P C σ _ _ _ .rfl I .bool h)
end
end Mine
end
section
open PySem PyProof.Rows PySem.Calls PySem.SeqAt
namespace Mine
theorem fillsI_list : fillsInplaceSlot (.type "list") "add" true = pure false := by
  unfold fillsInplaceSlot
  show (typeLookup (.type "list") (dunderI "add") >>= fun fi => pure (fi.isSome && !isSeqSlot fi)) = pure false
  rw [PySem.F.slot_list_iadd.lookup]
  show (pure (true && !isSeqSlotId "list.__iadd__") : Sem Bool) = pure false
  rw [show isSeqSlotId "list.__iadd__" = true by decide +kernel]
  rfl
theorem seqI_list : seqSlot? (.type "list") (dunderI "add") = pure (some (.builtin "list.__iadd__")) := PySem.seqSlot_of PySem.F.slot_list_iadd.lookup (by decide +kernel)
section
variable {c : Cfg} {P P' : PM} {C C' : CM} {σ σ' : Mut} {s s' : Shared} {env : Env} {V : Vars} {n : Nat} {Φ : AV → Mut → Prop} {Θ : Fl → Vars → Mut → Prop} {G M : List (Str × Value)} {i : Int}
theorem iadd_ll {a : Addr} {xs ys : List AV} (ho : σ a = some xs) (hz : xs.length + ys.length < 100000) (h : Φ (.ref a) (upd σ a (xs ++ ys))) : OX c n [.ref a, .lst ys] σ (fun zs => inplaceOp .Add (zs.getD 0 .none) (zs.getD 1 .none)) Φ := OX2 fun A R P C s x y Q E I r1 r2 q => by
  cases r1
  obtain ⟨its, ⟨k, hl⟩, hr⟩ := I.own _ _ ho
  cases r2 with
  | lst hp hr2 =>
    rename_i b its2 k2
    have hl2 := I.per _ _ hp
    have e1 := hr.length
    have e2 := hr2.length
    have ta : s.TypeIs (.ref a) "list" := ⟨_, hl, rfl⟩
    have tb : s.TypeIs (.ref b) "list" := ⟨_, hl2, rfl⟩
    unfold inplaceOp
    refine wpAny_holding (wpAny_bind (wpAny_typeOf ta (wpAny_bind (wpAny_of_eq fillsI_list ?_))))
    show wpAny _ A (if false = true then _ else _) Q E s
    rw [if_neg Bool.false_ne_true]
    refine wpAny_bind (wpAny_binaryOp1_none (nm := "add") ta tb noFill_list_add ?_)
    refine wpAny_bind (wpAny_of_eq seqI_list ?_)
    refine wpAny_bind (wpAny_rule (call_meets PySem.F.slot_list_iadd ta PySem.F.entry_list_iadd (PySem.F.args_list_iadd_2 _ _)
      (AutoSeq1.list___iadd___list_list_0 a its.toArray k b its2.toArray k2 ?_ ?_ ?_) ⟨hl, hl2, ?_⟩))
    · simp [Builtin.List.listTooLong, sizeLine]; omega
    · show _ ≤ 2 ^ 24; simp; omega
    · show _ ≤ 2 ^ 24 + 1; simp; omega
    · have hu := PySem.IsL.update hl (fun x => x ++ its2.toArray)
      have hl3 : (s.heap.update a (Obj.mapSeq fun x => x ++ its2.toArray)).PlainList a (its ++ its2).toArray := ⟨_, by simpa using hu⟩
      have hs := Heap.SameBut.update s.heap a (Obj.mapSeq fun x => x ++ its2.toArray)
      exact q P C _ _ _ { s with heap := s.heap.update a (Obj.mapSeq fun x => x ++ its2.toArray) } (Step.turnOwn (tk := s.toks) ho hs (let ⟨k, e⟩ := hl3; ⟨_, e⟩)) (I.turnOwn ho hs hl3 (hr.append hr2)) .ref h
theorem rangeSize4 (m : Nat) : Builtin.Range.rangeSize 0 (4 * (m : Int)) 4 = m := by
  unfold Builtin.Range.rangeSize
  rw [if_pos (by decide)]
  by_cases h : (0 : Int) < 4 * (m : Int)
  · rw [if_pos h]; omega
  · rw [if_neg h]; omega
theorem range4 {m : Nat} (hm : m < 100000) (h : Φ (.rng ((List.range m).map fun k : Nat => 0 + 4 * (k : Int))) σ) : OX c n [.int 0, .int (4 * (m : Int)), .int 4] σ (fun xs => call (.type "range") xs) Φ := by
  intro A R P C s xs Q E I r q
  cases r with | cons r1 r => cases r with | cons r2 r => cases r with | cons r3 r =>
  cases r; cases r1; cases r2; cases r3
  refine call_range_3 (by decide) ?_ (.inl (PyProof.noPylong_small (by decide)))
  refine q _ C σ _ _ _ ((Step.alloc I _).trans (.tok _)) (I.alloc _ rfl) (.rng upd_self ?_ ?_) h
  · unfold Builtin.Range.small
    rw [rangeSize4]
    simp
    simp only [Builtin.Range.rangeFitsLong, decide_eq_true_eq, Bool.and_eq_true]
    omega
  · rw [rangeSize4]
    simp
end
end Mine
end
section
open PySem PyProof.Rows PySem.Calls PySem.SeqAt
namespace Mine
section
variable {c : Cfg} {P P' : PM} {C C' : CM} {σ σ' : Mut} {s s' : Shared} {env : Env} {V : Vars} {n : Nat} {Φ : AV → Mut → Prop} {Θ : Fl → Vars → Mut → Prop} {G M : List (Str × Value)} {i : Int}
theorem CX_fnB {a : Addr} {name qual : Str} {params : Arguments} {body : List Stmt} {scope : Scope} {dV kV : Value} {args kargs bargs : List AV} {kn names : List Str} (hB : BaseOK c G M) (hf : FnAt c.B a name qual params body scope dV kV)
    (hlen : names.length = bargs.length)
    (hbind : ∀ doc pm an cdv ct P C (s : Shared) xs ys, Inv c P C σ s.heap → RelL c P C args xs → RelL c P C kargs ys → ∃ zs, RelL c P C bargs zs ∧ BindsTo s (W.fnOf name qual params body scope dV kV doc pm an cdv ct) ⟨xs, kn.zip ys⟩ (names.zip zs))
    (hkind : ∀ x ∈ names, scope.names.lookup x = some .local ∨ scope.names.lookup x = some .cell)
    (hnod : names.Nodup)
    (h : ∀ L doc pm an cdv ct, FX c n (callEnvC (W.fnOf name qual params body scope dV kV doc pm an cdv ct) L a) ((names.zip bargs)) σ (execs body (callEnvC (W.fnOf name qual params body scope dV kV doc pm an cdv ct) L a))
      fun f _ σ' => match f with | .ret v => Φ v σ' | _ => Φ .none σ')
    (hco : scope.isCoroutine = false := by rfl) (hgen : scope.isGenerator = false := by rfl) (hk : scope.kind = .function := by rfl) : CX c (n + 1) a args kn kargs σ Φ := by
  intro A R P C s xs ys Rr I r1 r2 q
  obtain ⟨o, doc, pm, an, cdv, ct, ho, hdat, hcr⟩ := hf
  obtain ⟨zs, rz, hbz⟩ := hbind doc pm an cdv ct P C s xs ys I r1 r2
  have hxs : zs.length = names.length := by rw [hlen, rz.length]
  have hsome : ∀ x, scope.names.lookup x = some .cell → ((cellsFrom (s.heap.objs.size + 1) scope.names []).lookup x).isSome = true := fun x hx => W.cellsFrom_some _ _ _ (.inl hx)
  refine codeAny_call_function R.depth (I.base _ _ ho) hdat hco hgen rfl (hcr.keeps I.base) (hbz _ _ _ _ (wpAny_newFunctionEnv_cells hk (fun x hx => ?_) fun env he s₁ IC => ?_))
  · have := hkind x.1 (List.of_mem_zip hx).1
    exact this.imp id fun e => ⟨e, hsome _ e⟩
  · subst he
    change InCallC s (callEnvC (W.fnOf name qual params body scope dV kV doc pm an cdv ct) s.heap.objs.size a).locals (bindL (callEnvC (W.fnOf name qual params body scope dV kV doc pm an cdv ct) s.heap.objs.size a).kindOf (names.zip zs) fun _ => none) (callEnvC (W.fnOf name qual params body scope dV kV doc pm an cdv ct) s.heap.objs.size a).cells (bindC (callEnvC (W.fnOf name qual params body scope dV kV doc pm an cdv ct) s.heap.objs.size a).kindOf (names.zip zs) fun _ => none) s₁ at IC
    refine ⟨(hB.lim.keeps I.base).keeps IC.toInCall.keep, codeAny_func ?_⟩
    obtain ⟨h₁, tk, e⟩ := IC.toInCall.same
    have st : Step no P C σ s P C σ s₁ := by
      subst e
      exact ⟨.rfl, .rfl, fun b o hb _ h1 h2 h3 => ⟨IC.toInCall.keep b o hb, h1, h2, h3⟩, fun b o hb _ => ⟨o, IC.toInCall.keep b o hb⟩, .refl _, .refl _, .refl _⟩
    have I1 : Inv c P C σ s₁.heap := I.keeps fun b o hb _ => IC.toInCall.keep b o hb
    have fr : ∀ b, s.heap.objs.size ≤ b → P b = none ∧ C b = none ∧ σ b = none := fun b hb => by
      refine ⟨?_, ?_, ?_⟩
      · cases q : P b with
        | none => rfl
        | some o => exact absurd (Heap.lt_size (I.per b o q)) (Nat.not_lt.mpr hb)
      · cases q : C b with
        | none => rfl
        | some o => exact absurd (I.cch b o q).lt (Nat.not_lt.mpr hb)
      · cases q : σ b with
        | none => rfl
        | some vs => obtain ⟨its, ⟨k, ho⟩, _⟩ := I.own b vs q; exact absurd (Heap.lt_size ho) (Nat.not_lt.mpr hb)
    have hcell : ∀ x k, (callEnvC (W.fnOf name qual params body scope dV kV doc pm an cdv ct) s.heap.objs.size a).cells.lookup x = some k → s.heap.objs.size < k := fun x k hk => IC.above x k (mem_of_lookup hk)
    have F1 : Fm c (callEnvC (W.fnOf name qual params body scope dV kV doc pm an cdv ct) s.heap.objs.size a) (names.zip bargs) P C σ s₁.heap := by
      refine ⟨hk, fun x v hv => ?_, ⟨_, IC.toInCall.ns⟩, fun x k hk => ?_, fr _ (Nat.le_refl _), fun x k hk => ?_, fun x y k hx hy => name_of_addr IC.apart (mem_of_lookup hx) (mem_of_lookup hy), rfl, rfl⟩
      · obtain ⟨y, hy, ry⟩ := zip_lookup rz hv
        have hrev : (names.zip zs).reverse.lookup x = some y := by
          rw [lookup_rev (by rw [List.map_fst_zip (by omega)]; exact hnod)]
          exact hy
        refine ⟨y, ry, ?_⟩
        have hm := (List.of_mem_zip (mem_of_lookup hy)).1
        rcases hkind x hm with hl | hl
        · exact .inl ⟨hl, _, IC.toInCall.ns, (bindL_at (k := (callEnvC (W.fnOf name qual params body scope dV kV doc pm an cdv ct) s.heap.objs.size a).kindOf) hl _ _).trans (by rw [hrev]; rfl)⟩
        · obtain ⟨k, hk⟩ := Option.isSome_iff_exists.mp (hsome x hl)
          refine .inr ⟨hl, k, hk, ?_⟩
          have := IC.cell x k hk
          rw [bindC_at (k := (callEnvC (W.fnOf name qual params body scope dV kV doc pm an cdv ct) s.heap.objs.size a).kindOf) hl, hrev] at this
          exact this
      · exact ⟨_, IC.cell x k hk⟩
      · have := hcell x k hk
        exact ⟨(fr k (by omega)).1, (fr k (by omega)).2.1, (fr k (by omega)).2.2, Nat.ne_of_gt this⟩
    refine wpAny_mono (h s.heap.objs.size doc pm an cdv ct _ R.deeper P C s₁ _ (fun _ _ => False) I1 F1 fun P2 C2 σ2 V2 f x s2 st2 I2 F2 rf h2 => ?_) (fun _ _ y => y) fun _ _ y => y.elim
    have st' : Step no P C σ s P2 C2 σ2 s2 := by
      have hnew : ∀ b o, s.heap.get? b = some o → ¬ ownF (callEnvC (W.fnOf name qual params body scope dV kV doc pm an cdv ct) s.heap.objs.size a) b := fun b o hb hx => by
        have hlt := Heap.lt_size hb
        rcases hx with e | ⟨x, hx⟩
        · exact absurd (e : b = s.heap.objs.size) (Nat.ne_of_lt hlt)
        · have := hcell x b hx
          exact absurd hlt (Nat.not_lt.mpr (Nat.le_of_lt this))
      exact ⟨st2.pm, st2.cm, fun b o hb _ h1 h2 h3 => st2.frn b o (IC.toInCall.keep b o hb) (hnew b o hb) h1 h2 h3, fun b o hb _ => st2.lv b o (IC.toInCall.keep b o hb) (hnew b o hb), st2.gens.trans st.gens, st2.drawn.trans st.drawn, st2.os.trans st.os⟩
    cases rf with
    | next => exact q P2 C2 σ2 _ _ s2 st' I2 .none h2
    | brk => exact q P2 C2 σ2 _ _ s2 st' I2 .none h2
    | cont => exact q P2 C2 σ2 _ _ s2 st' I2 .none h2
    | ret r => exact q P2 C2 σ2 _ _ s2 st' I2 r h2
theorem EX_CallKw1 {x k : Str} {p pos kp : Pos} {a : Addr} {e ke : Expr} {name qual : Str} {params : Arguments} {body : List Stmt} {scope : Scope} {dV kV : Value} (hB : BaseOK c G M) (hx : G.lookup x = some (.ref a)) (hf : FnAt c.B a name qual params body scope dV kV)
    (h : LX c n env V σ (spliced (backTo pos (starEach [e] env))) fun vs σ1 => EX c n env V σ1 ke fun kv σ2 => CX c n a vs [k] [kv] σ2 Φ) (hk : env.kindOf x = some .globalImplicit := by rfl)
    (he : starEach [e] env = (false, eval e env) :: starEach [] env := by rfl) (hd : (x == ("__debug__" : Str)) = false := by rfl) : EX c n env V σ (.Call (.Name x p) [e] [⟨some k, ke, kp⟩] pos) Φ :=
  fun A R P C s Q E I F q => by
    obtain ⟨o, doc, pm, an, cdv, ct, ho, hdat, _⟩ := hf
    refine wpAny_Call_Name_kw (gname_wp hB I F hk hx (callWith_def_kw hdat (evalArgs_kw2 rfl (h A R P C s _ E I F fun P1 C1 σ1 vs xs s1 st1 I1 F1 r1 h1 => kwAll_cons (h1 A R P1 C1 s1 _ E I1 F1 fun P2 C2 σ2 kv ky s2 st2 I2 F2 r2 h2 => kwAll_nil ⟨I2.base _ _ ho, wpAny_call ?_⟩)) he)) hd)
    exact h2 A R P2 C2 s2 xs [ky] _ I2 (r1.mono st2.pm st2.cm) (.cons r2 .nil) ((q.after (st1.trans st2)).ofV F2)
end
end Mine
end
section
open PySem PyProof.Rows PySem.Calls PySem.SeqAt
set_option maxRecDepth 100000
namespace Mine
/-- the table with one element -/
def tabOne (j : Nat) (led : Bool) : SetTable := { mask := 7, place := #[j], dummies := #[], finger := 0, led, moves := 0, plain := false }
theorem free_fresh (led : Bool) (h : Int) : (SetTable.fresh 0 0 led).freeSlot h = some (SetTable.bits h % 8, false) := by
  unfold SetTable.freeSlot SetTable.probe
  rw [show 10 * SetTable.turns (SetTable.fresh 0 0 led).mask = 219 + 1 from rfl]
  unfold SetTable.probe.go
  have e : (SetTable.fresh 0 0 led).slot ((SetTable.fresh 0 0 led).probeStart h).j = .empty := by
    unfold SetTable.slot
    rfl
  rw [e]
  rfl
theorem layNew_fresh (led : Bool) (h : Int) (x : Value) : layNew (SetTable.fresh 0 0 led) #[] h x = (#[(h, x)], { tabOne (SetTable.bits h % 8) led with plain := true }, false, false) := by
  unfold layNew
  rw [free_fresh]
  rfl
section
variable {prog : Program} {w : World} {A : Around} {E : Value → Shared → Prop} {s : Shared}
theorem setAdd_fresh {a : Addr} {wd : Str} {u : Tok} {led : Bool} {Q : Bool → Shared → Prop} (ho : s.heap.get? a = some { cls := .type "set", dict := none, data := .set #[] 0 (.fresh 0 0 led) })
    (h : ∀ h' j, Heap.SameBut a s.heap h' → h'.get? a = some { cls := .type "set", dict := none, data := .set #[((PySem.strKind prog w).hash wd, .str wd u)] 1 (tabOne j led) } → Q true { s with heap := h', toks := s.toks + 1 }) :
    wpAny (model prog w) A (setAdd a (.str wd u)) Q E s := by
  unfold setAdd
  refine wpAny_holding (wpAny_bind ((PySem.strKind prog w).pyHash (k := wd) (by simp [PySem.strKind, Value.isStrOf]) ?_))
  unfold setAddHashed setAddHashedIn
  refine wpAny_holding (wpAny_bind (wpAny_setState_of (s := { s with toks := s.toks + 1 }) ho rfl rfl ?_))
  dsimp only
  rw [if_pos (by simp [byScan, Value.scannable, scanBound])]
  unfold setAddByScan
  refine wpAny_bind (wpAny_bind (wpAny_rule (wpAny_bind ?_)))
  refine wpAny_setScan_of (knd := PySem.strKind prog w) (k := wd) (s := { s with toks := s.toks + 1 }) (by simp [PySem.strKind, Value.isStrOf]) ho rfl rfl (fun e he => by simp at he) ?_
  dsimp only
  rw [layNew_fresh]
  dsimp only
  refine wpAny_bind (wpAny_pure ?_)
  rw [if_pos (by rfl)]
  refine wpAny_bind (wpAny_pure ?_)
  rw [if_neg (by decide)]
  refine wpAny_bind (wpAny_storeSet_of (s := { s with toks := s.toks + 1 }) ho rfl ?_ (by show 1 ≤ 2 ^ 24; decide))
  rw [if_neg (by intro e; simp [tabOne, SetTable.tooFull, SetTable.fill] at e)]
  refine wpAny_pure (wpAny_pure ?_)
  refine h _ (SetTable.bits ((PySem.strKind prog w).hash wd) % 8) (Heap.SameBut.update ..) ?_
  have := Heap.get?_update_self (Obj.putSet #[((PySem.strKind prog w).hash wd, .str wd u)] (tabOne (SetTable.bits ((PySem.strKind prog w).hash wd) % 8) led)) ho (by rfl)
  exact this
theorem code_set_new (a : Value) {Q₁ : Value → Shared → Prop}
    (h : Q₁ (.ref s.heap.objs.size) { s with heap := s.heap.push { cls := .type "set", dict := none, data := .set #[] 0 (.fresh 0 0 (!w.params.followText "set-order")) } }) :
    codeAny (model prog w) A (.call (.builtin "set.__new__") ⟨[.type "set", a], []⟩) (wants Q₁ E) s := by
  refine codeAny_of_tree ?_
  show wpAny _ A.in1 (do checkBuiltinCall "set.__new__" ⟨[.type "set", a], []⟩; again (.builtin "set.__new__" ⟨[.type "set", a], []⟩)) _ _ s
  refine wpAny_bind (wpAny_of_eq (PySem.F.newCall_set_1 a) (wpAny_pure ⟨plainId_quiet PySem.F.plain_set_new _, codeAny_builtin PySem.F.entry_set_new ?_⟩))
  rw [Around.under_plainId PySem.F.plain_set_new _]
  unfold Builtin.«set.__new__» Builtin.Frozenset.newClass
  have hsub := sub_set_self
  obtain ⟨hp, g, d, tk, os⟩ := s
  dsimp only
  wp_walk
  refine wpAny_askSetting (wpAny_pure ?_)
  dsimp only
  simp only [newObj]
  refine wpAny_bind (wpAny_alloc (wpAny_pure ?_))
  exact wpAny_pure h
theorem update_one {a l : Addr} {wd : Str} {u : Tok} {led : Bool} {R : Result → Shared → Prop} {I : Addr} (hh : A.in1.handled = none) (hI : s.heap.IsListIter I l 0) (hl : s.heap.IsList l #[.str wd u]) (hIa : I ≠ a) (hla : l ≠ a) (hIl : I ≠ l)
    (ho : s.heap.get? a = some { cls := .type "set", dict := none, data := .set #[] 0 (.fresh 0 0 led) })
    (h : ∀ h' j tk, (∀ b o, b ≠ a → b ≠ I → s.heap.get? b = some o → h'.get? b = some o) → h'.get? a = some { cls := .type "set", dict := none, data := .set #[((PySem.strKind prog w).hash wd, .str wd u)] 1 (tabOne j led) } → R (.ok (.ret .none)) { s with heap := h', toks := tk }) :
    codeAny (model prog w) A (.builtin "set.update.loop" ⟨[.ref a, .ref I], []⟩) R s := by
  refine codeAny_builtin PyProof.Rows.F.entry_set_update_loop ?_
  rw [Around.under_plainId PyProof.Rows.F.plain_set_update_loop _]
  show wpAny _ A.in1 (pyNext (.ref I) >>= _) _ _ s
  refine wpAny_bind (wpAny_pyNext_list_item (x := .str wd u) hI hl rfl fun h1 hI1 hs1 => ?_)
  show wpAny _ A.in1 (holding [Value.str wd u] (setAdd a (.str wd u)) >>= _) _ _ _
  refine wpAny_bind (wpAny_holding (setAdd_fresh (s := { s with heap := h1 }) ((hs1.2 a (Ne.symm hIa)).trans ho) fun h2 j hs2 ho2 => ?_))
  refine wpAny_pure ⟨plainId_quiet PyProof.Rows.F.plain_set_update_loop _, ?_⟩
  refine codeAny_builtin PyProof.Rows.F.entry_set_update_loop ?_
  rw [Around.under_plainId PyProof.Rows.F.plain_set_update_loop _]
  show wpAny _ A.in1 (pyNext (.ref I) >>= _) _ _ _
  have hI2 : h2.IsListIter I l 1 := by
    obtain ⟨o, e, r⟩ := hI1
    exact ⟨o, (hs2.2 I hIa).trans e, r⟩
  have hl2 : h2.IsList l #[.str wd u] := by
    obtain ⟨o, e, r⟩ := hl
    exact ⟨o, (hs2.2 l hla).trans ((hs1.2 l (Ne.symm hIl)).trans e), r⟩
  refine wpAny_bind (wpAny_pyNext_list_end (s := { s with heap := h2, toks := s.toks + 1 }) hh hI2 hl2 (by simp) fun h3 hs3 => ?_)
  show wpAny _ A.in1 (ret Value.none) _ _ _
  refine wpAny_pure (h h3 j _ (fun b o h1 h2 e => ?_) (hs3 _ _ (Ne.symm hIa) ho2))
  exact hs3 b o h2 ((hs2.2 b h1).trans ((hs1.2 b h2).trans e))
set_option maxHeartbeats 3200000 in
theorem call_set_one {l : Addr} {wd : Str} {u : Tok} {Q : Value → Shared → Prop} (hh : A.handled = none) (hl : s.heap.IsList l #[.str wd u])
    (h : ∀ h' j tk, (∀ b o, s.heap.get? b = some o → h'.get? b = some o) → h'.get? s.heap.objs.size = some { cls := .type "set", dict := none, data := .set #[((PySem.strKind prog w).hash wd, .str wd u)] 1 (tabOne j (!w.params.followText "set-order")) } →
      Q (.ref s.heap.objs.size) { s with heap := h', toks := tk }) :
    wpAny (model prog w) A (call (.type "set") [.ref l]) Q E s := by
  obtain ⟨c, tl, hmro⟩ := PySem.F.called_set.mro
  have hmade := PySem.F.called_set.made
  have hsub := PySem.F.called_set.sub
  refine wpAny_call (codeAny_of_tree ?_)
  show wpAny _ _ (callAny (.type "set") _) _ _ _
  refine wpAny_pure ⟨Code.quiet_builtin _ (by decide +kernel), codeAny_builtin PySem.F.entry_type_call ?_⟩
  rw [Around.under_plain (weight_type_call_type "set" [.ref l] []) rfl]
  have h1 := PySem.F.called_set.notType
  have h2 := PySem.F.called_set.canCreate
  have hct := PySem.F.typeCall_set_1 (.ref l)
  repeat (any_goals (first | assumption | wp_step))
  refine codeAny_mono (code_set_new (.ref l) (E := E) (Q₁ := fun obj s₁ => obj = .ref s.heap.objs.size ∧ s₁ = { s with heap := s.heap.push { cls := .type "set", dict := none, data := .set #[] 0 (.fresh 0 0 (!w.params.followText "set-order")) } }) ⟨rfl, rfl⟩) fun r s₁ hr => ?_
  generalize (!w.params.followText "set-order") = led at *
  cases r with
  | error e => exact hr
  | ok fl =>
    cases fl with
    | ret obj =>
      obtain ⟨rfl, rfl⟩ := hr
      have hS : (s.heap.push { cls := .type "set", dict := none, data := .set #[] 0 (.fresh 0 0 led) }).get? s.heap.objs.size = some { cls := .type "set", dict := none, data := .set #[] 0 (.fresh 0 0 led) } := Heap.get?_push_size _ rfl
      have hT : Shared.TypeIs { s with heap := s.heap.push { cls := .type "set", dict := none, data := .set #[] 0 (.fresh 0 0 led) } } (.ref s.heap.objs.size) "set" := ⟨_, hS, rfl⟩
      have hli := PySem.F.called_set.init.lookup
      have hbi := PySem.F.called_set.init.bind (.ref s.heap.objs.size)
      repeat (any_goals (first | assumption | wp_step))
      refine codeAny_mono (codeAny_call_builtin (R := wants (fun r s₂ => r = .none ∧ ∃ h' j tk, s₂ = { s with heap := h', toks := tk } ∧ h'.get? s.heap.objs.size = some { cls := .type "set", dict := none, data := .set #[((PySem.strKind prog w).hash wd, .str wd u)] 1 (tabOne j led) } ∧
          (∀ b o, s.heap.get? b = some o → h'.get? b = some o)) E) PySem.F.called_set.init.plain PySem.F.entry_set_init (check_set_init_1 hT ?_)) fun r₂ s₂ hr₂ => ?_
      · obtain ⟨ol, hol, hcl, nl, hdl⟩ := hl
        obtain ⟨ocls, odict, odata, oslots⟩ := ol
        simp only at hcl hdl
        subst hcl; subst hdl
        have hol' : (s.heap.push { cls := .type "set", dict := none, data := .set #[] 0 (.fresh 0 0 led) }).get? l = some { cls := .type "list", dict := odict, data := .seq #[.str wd u] nl, slots := oslots } := Heap.get?_push_of_some _ hol
        have hsls := PySem.F.sub_list_set
        have hslf := PySem.F.sub_list_frozenset
        have hne : (Value.type "list" == Value.type "dict") = false := by decide
        have hl1 : (s.heap.push { cls := .type "set", dict := none, data := .set #[] 0 (.fresh 0 0 led) }).IsList l #[.str wd u] := ⟨_, hol', rfl, nl, rfl⟩
        unfold Builtin.«set.__init__» noKeywords Builtin.Frozenset.updateFrom
        generalize hPI : pyIter = PI
        wp_walk
        subst hPI
        refine wpAny_pyIter_list hl1 ?_
        refine wpAny_bind (wpAny_runValue ?_)
        have hlS : l < s.heap.objs.size := Heap.lt_size hol
        have hh3 : A.in1.in1.in1.handled = none := by simp [hh]
        have hneI : (s.heap.push { cls := .type "set", dict := none, data := .set #[] 0 (.fresh 0 0 led) }).objs.size ≠ l := by
          rw [Heap.size_push]; exact Nat.ne_of_gt (Nat.lt_succ_of_lt hlS)
        have hneS : (s.heap.push { cls := .type "set", dict := none, data := .set #[] 0 (.fresh 0 0 led) }).objs.size ≠ s.heap.objs.size := by
          rw [Heap.size_push]; exact Nat.succ_ne_self _
        refine update_one hh3 ⟨_, Heap.get?_push_size _ rfl, rfl, rfl⟩ (hl1.push _) hneS (Nat.ne_of_lt hlS) hneI (Heap.get?_push_of_some _ hS) fun h' j tk hk ho => ?_
        show wpAny _ _ _ _ _ _
        refine wpAny_pure ?_
        show wpAny _ _ (ret Value.none) _ _ _
        refine wpAny_pure ⟨rfl, h', j, tk, rfl, ho, fun b o e => ?_⟩
        have hb := Heap.lt_size e
        refine hk b o (Nat.ne_of_lt hb) ?_ (Heap.get?_push_of_some _ (Heap.get?_push_of_some _ e))
        rw [Heap.size_push]; exact Nat.ne_of_lt (Nat.lt_succ_of_lt hb)
      · cases r₂ with
        | error e => exact hr₂
        | ok fl₂ =>
          cases fl₂ with
          | ret r =>
            obtain ⟨rfl, h', j, tk, rfl, hS', hk'⟩ := hr₂
            repeat (any_goals (first | assumption | wp_step))
            exact h _ _ _ hk' hS'
          | next => cases hr₂
          | brk => cases hr₂
          | cont => cases hr₂
    | next => cases hr
    | brk => cases hr
    | cont => cases hr
end
end Mine
end
section
open PySem PyProof.Rows PySem.Calls PySem.SeqAt
set_option maxRecDepth 100000
namespace Mine
theorem entry_set_iter : entryFor table "set.__iter__" = some Builtin.«frozenset.__iter__» := entryFor_alias (id' := "frozenset.__iter__") (by kernel_rfl) rfl (by decide +kernel) (by kernel_rfl)
theorem slot_setiter_next : Slot "set_iterator" "__next__" "set_iterator.__next__" :=
  .of (owner := "set_iterator") (n := "__next__") (by rw [typeLookup_type, builtinLookup_eq_fast]; kernel_rfl) (by decide +kernel) (by decide +kernel) (by decide +kernel)
    (by first | exact .inl (by decide +kernel) | exact .inr (by decide +kernel)) (by rw [isSubtype_type]; kernel_rfl)
theorem slot_setiter_iter : Slot "set_iterator" "__iter__" "set_iterator.__iter__" :=
  .of (owner := "set_iterator") (n := "__iter__") (by rw [typeLookup_type, builtinLookup_eq_fast]; kernel_rfl) (by decide +kernel) (by decide +kernel) (by decide +kernel)
    (by first | exact .inl (by decide +kernel) | exact .inr (by decide +kernel)) (by rw [isSubtype_type]; kernel_rfl)
theorem entry_setiter_next : entryFor table "set_iterator.__next__" = some Builtin.«set_iterator.__next__» := entryFor_of_tree (by kernel_rfl)
theorem entry_setiter_iter : entryFor table "set_iterator.__iter__" = some Builtin.«dict_keyiterator.__iter__» :=
  entryFor_alias (id' := "dict_keyiterator.__iter__") (by kernel_rfl) rfl (by decide +kernel) (by kernel_rfl)
theorem args_setiter_next (a : Value) : argsOk "set_iterator.__next__" ⟨[a], []⟩ := by unfold argsOk; kernel_rfl
theorem args_setiter_iter (a : Value) : argsOk "set_iterator.__iter__" ⟨[a], []⟩ := by unfold argsOk; kernel_rfl
theorem pick_one {α : Type} (next : Nat → Nat) (e : α) : pickOrder next #[e] = #[e] := by
  simp [pickOrder, pickOrder.go, Nat.mod_one]
/-- an iterator over a set of one word -/
def SetIt (h : Heap) (it a : Addr) (f : Nat) (k ep : Nat) : Prop := ∃ o, h.get? it = some o ∧ o.cls = .type "set_iterator" ∧ o.data = .fields #[.int f 0, .int k 0, .ref a, .int 1 0, .int ep 0]
section
variable {prog : Program} {w : World} {A : Around} {E : Value → Shared → Prop} {s : Shared}
theorem iter_set1 {a : Addr} {o : Obj} {e : Int × Value} {ep : Nat} {t : SetTable} {Q : Value → Shared → Prop} (ho : s.heap.get? a = some o) (hc : o.cls = .type "set") (hd : o.data = .set #[e] ep t) (hf : t.fits 1 = true)
    (hQ : Q (.ref s.heap.objs.size) { s with heap := s.heap.push { cls := .type "set_iterator", data := .fields #[.int (0 : Nat) 0, .int (0 : Nat) 0, .ref a, .int 1 0, .int ep 0] } }) : wpAny (model prog w) A (pyIter (.ref a)) Q E s := by
  have hT : s.TypeIs (.ref a) "set" := ⟨o, ho, hc⟩
  refine wpAny_pyIter_slot hT PySem.F.slot_set_iter (wpAny_call_entry PySem.F.slot_set_iter hT entry_set_iter ?_ (PySem.F.args_set_iter_1 _))
  unfold Builtin.«frozenset.__iter__» Builtin.Frozenset.slot0 Builtin.Frozenset.addrOf Builtin.Frozenset.sizeOf
  refine wpAny_bind (wpAny_pure ?_)
  refine wpAny_bind (wpAny_bind (wpAny_setEntries_of ho hd hf (wpAny_pure ?_)))
  unfold setDrawn setsByText
  refine wpAny_bind (wpAny_bind (wpAny_setState_of ho hd hf ?_))
  dsimp only
  refine wpAny_bind (wpAny_bind (wpAny_askSetting (wpAny_pure (wpAny_pure ?_))))
  rw [if_neg (by intro h; rw [Bool.and_eq_true] at h; have h2 := h.2; exact absurd h2 (by show ¬ ((!t.plain && decide ((1 : Nat) > 1)) = true); simp))]
  refine wpAny_bind (wpAny_pure ?_)
  refine wpAny_bind (wpAny_setEpoch_of ho hd hf ?_)
  show wpAny _ _ (newFields "set_iterator" [.int (0 : Nat) 0, .int (0 : Nat) 0, .ref a, .int 1 0, .int ep 0] >>= _) _ _ s
  exact wpAny_bind (wpAny_newObj_type (wpAny_pure ⟨_, rfl, "set_iterator", _, ⟨_, Heap.get?_push_size _ rfl, rfl⟩, slot_setiter_next.lookup, hQ⟩))
theorem iter_setiter {it a : Addr} {f k ep : Nat} {Q : Value → Shared → Prop} (hit : SetIt s.heap it a f k ep) (h : Q (.ref it) s) : wpAny (model prog w) A (pyIter (.ref it)) Q E s := by
  obtain ⟨o, ho, hc, hd⟩ := hit
  have hT : s.TypeIs (.ref it) "set_iterator" := ⟨o, ho, hc⟩
  refine wpAny_pyIter_slot hT slot_setiter_iter (wpAny_call_entry slot_setiter_iter hT entry_setiter_iter ?_ (args_setiter_iter _))
  show wpAny _ _ (ret (.ref it)) _ _ s
  exact wpAny_pure ⟨_, rfl, "set_iterator", _, hT, slot_setiter_next.lookup, h⟩
theorem setNext_item {a : Addr} {o : Obj} {hs : Int} {x : Value} {ep : Nat} {t : SetTable} {Q : Option (Value × Nat) → Shared → Prop} (ho : s.heap.get? a = some o) (hd : o.data = .set #[(hs, x)] ep t) (hf : t.fits 1 = true) (hl : t.led = !w.params.followText "set-order")
    (h : ∀ n, (w.params.followText "set-order" = true ∨ t.place = #[n - 1] ∧ 0 < n) → Q (some (x, n)) s) : wpAny (model prog w) A (setNext a ((0 : Nat) : Int).toNat ((0 : Nat) : Int).toNat (ep : Int).toNat) Q E s := by
  have hsz : t.place.size = 1 := by
    simp only [SetTable.fits, Bool.and_eq_true, beq_iff_eq, decide_eq_true_eq] at hf
    exact hf.1
  unfold setNext
  refine wpAny_bind (wpAny_setState_of ho hd hf ?_)
  dsimp only
  unfold setsByText
  refine wpAny_bind (wpAny_bind (wpAny_askSetting (wpAny_pure ?_)))
  show wpAny _ A (if w.params.followText "set-order" = true then _ else _) Q E s
  cases hb : w.params.followText "set-order" with
  | true =>
    rw [if_pos rfl]
    rw [if_neg (by simp)]
    refine wpAny_bind ?_
    unfold setWalk setsByText
    refine wpAny_bind (wpAny_setState_of ho hd hf ?_)
    dsimp only
    refine wpAny_bind (wpAny_bind (wpAny_askSetting (wpAny_pure ?_)))
    show wpAny _ A (if w.params.followText "set-order" = true then _ else _) _ E s
    rw [if_pos hb]
    refine wpAny_bind (wpAny_askSetting (wpAny_pure ?_))
    rw [pick_one]
    exact wpAny_pure (h 0 (.inl hb))
  | false =>
    rw [if_neg (by decide)]
    rw [if_neg (by show ¬ ((!t.plain && decide ((1 : Nat) > 1)) = true); simp)]
    refine wpAny_bind (wpAny_of_eq (a := ()) ?_ ?_)
    · show (if (!t.led && !(#[(hs, x)] : Array (Int × Value)).isEmpty) = true then unsupported _ else pure ()) = pure ()
      rw [hl, hb]
      rfl
    · obtain ⟨j, hj⟩ : ∃ j, t.place = #[j] := by
        obtain ⟨l, hl2⟩ : ∃ l : List Nat, t.place = l.toArray := ⟨t.place.toList, by simp⟩
        rw [hl2] at hsz
        match l, hsz with
        | [j], _ => exact ⟨j, hl2⟩
      rw [hj]
      have e : SetTable.below #[j] ((0 : Nat) : Int).toNat = 0 := by simp [SetTable.below, SetTable.below.go]
      rw [e]
      exact wpAny_pure (h (j + 1) (.inr ⟨by simpa using hj, by omega⟩))
theorem setNext_end {a : Addr} {o : Obj} {hs : Int} {x : Value} {ep f : Nat} {t : SetTable} {Q : Option (Value × Nat) → Shared → Prop} (ho : s.heap.get? a = some o) (hd : o.data = .set #[(hs, x)] ep t) (hf : t.fits 1 = true) (hl : t.led = !w.params.followText "set-order")
    (hfj : w.params.followText "set-order" = true ∨ t.place = #[f - 1] ∧ 0 < f) (h : Q none s) : wpAny (model prog w) A (setNext a (f : Int).toNat ((1 : Nat) : Int).toNat (ep : Int).toNat) Q E s := by
  unfold setNext
  refine wpAny_bind (wpAny_setState_of ho hd hf ?_)
  dsimp only
  unfold setsByText
  refine wpAny_bind (wpAny_bind (wpAny_askSetting (wpAny_pure ?_)))
  show wpAny _ A (if w.params.followText "set-order" = true then _ else _) Q E s
  cases hb : w.params.followText "set-order" with
  | true =>
    rw [if_pos rfl]
    rw [if_neg (by simp)]
    refine wpAny_bind ?_
    unfold setWalk setsByText
    refine wpAny_bind (wpAny_setState_of ho hd hf ?_)
    dsimp only
    refine wpAny_bind (wpAny_bind (wpAny_askSetting (wpAny_pure ?_)))
    show wpAny _ A (if w.params.followText "set-order" = true then _ else _) _ E s
    rw [if_pos hb]
    refine wpAny_bind (wpAny_askSetting (wpAny_pure ?_))
    rw [pick_one]
    exact wpAny_pure h
  | false =>
    rw [if_neg (by decide)]
    rw [if_neg (by show ¬ ((!t.plain && decide ((1 : Nat) > 1)) = true); simp)]
    refine wpAny_bind (wpAny_of_eq (a := ()) ?_ ?_)
    · show (if (!t.led && !(#[(hs, x)] : Array (Int × Value)).isEmpty) = true then unsupported _ else pure ()) = pure ()
      rw [hl, hb]
      rfl
    · rw [hb] at hfj
      obtain ⟨hj, hf0⟩ := hfj.resolve_left (by decide)
      rw [hj]
      have e : SetTable.below #[f - 1] (f : Int).toNat = 1 := by
        have : f - 1 < f := by omega
        simp [SetTable.below, SetTable.below.go, this]
      rw [e]
      exact wpAny_pure h
theorem next_set1 {it a : Addr} {o : Obj} {hs : Int} {x : Value} {ep : Nat} {t : SetTable} {Q : Option Value → Shared → Prop} (hit : SetIt s.heap it a 0 0 ep) (ho : s.heap.get? a = some o) (hd : o.data = .set #[(hs, x)] ep t) (hf : t.fits 1 = true) (hl : t.led = !w.params.followText "set-order")
    (hQ : ∀ h' f, SetIt h' it a f 1 ep → (w.params.followText "set-order" = true ∨ t.place = #[f - 1] ∧ 0 < f) → Heap.SameBut it s.heap h' → Q (some x) { s with heap := h' }) : wpAny (model prog w) A (pyNext (.ref it)) Q E s := by
  obtain ⟨oi, hoi, hci, hdi⟩ := hit
  have hT : s.TypeIs (.ref it) "set_iterator" := ⟨oi, hoi, hci⟩
  unfold pyNext
  refine wpAny_bind (wpAny_attempt (wpAny_callSpecial?_slot (name := Str.ofString "__next__") hT slot_setiter_next
    (wpAny_call_entry slot_setiter_next hT entry_setiter_next ?_ (args_setiter_next _))))
  unfold Builtin.«set_iterator.__next__»
  show wpAny _ _ (fieldsOf (.ref it) >>= _) _ _ s
  unfold fieldsOf
  refine wpAny_bind (wpAny_bind (wpAny_load hoi ?_))
  rw [hdi]
  refine wpAny_pure ?_
  dsimp only
  refine wpAny_bind (wpAny_setEntries_of ho hd hf ?_)
  rw [if_neg (by simp)]
  refine wpAny_bind (setNext_item ho hd hf hl fun n hn => ?_)
  dsimp only
  refine wpAny_bind (wpAny_setField hoi hdi (by simp) ?_)
  have h1 := Heap.get?_update_self (Obj.mapFields (·.setIfInBounds 0 (rawInt (n : Int)))) hoi (Obj.isFreed_of_fields (Obj.data_mapFields hdi _))
  have hd1 := Obj.data_mapFields hdi (·.setIfInBounds 0 (rawInt (n : Int)))
  refine wpAny_bind (wpAny_setField (s := { s with heap := s.heap.update it (Obj.mapFields (·.setIfInBounds 0 (rawInt (n : Int)))) }) h1 hd1 (by simp) (wpAny_pure ⟨x, rfl, wpAny_pure (hQ _ n ?_ hn ((Heap.SameBut.update ..).trans (Heap.SameBut.update ..)))⟩))
  refine ⟨_, Heap.get?_update_self _ h1 (Obj.isFreed_of_fields (Obj.data_mapFields hd1 _)), ?_, ?_⟩
  · rw [Obj.cls_mapFields, Obj.cls_mapFields]; exact hci
  · rw [Obj.data_mapFields hd1]; simp [rawInt]
theorem next_set1_end {it a : Addr} {o : Obj} {hs : Int} {x : Value} {ep f : Nat} {t : SetTable} {Q : Option Value → Shared → Prop} (hh : A.handled = none) (hit : SetIt s.heap it a f 1 ep) (ho : s.heap.get? a = some o) (hd : o.data = .set #[(hs, x)] ep t) (hf : t.fits 1 = true) (hl : t.led = !w.params.followText "set-order")
    (hfj : w.params.followText "set-order" = true ∨ t.place = #[f - 1] ∧ 0 < f)
    (hQ : ∀ h', Heap.ExtBut it s.heap h' → Q none { s with heap := h' }) : wpAny (model prog w) A (pyNext (.ref it)) Q E s := by
  obtain ⟨oi, hoi, hci, hdi⟩ := hit
  have hT : s.TypeIs (.ref it) "set_iterator" := ⟨oi, hoi, hci⟩
  unfold pyNext
  refine wpAny_bind (wpAny_attempt (wpAny_callSpecial?_slot (name := Str.ofString "__next__") hT slot_setiter_next
    (wpAny_call_entry slot_setiter_next hT entry_setiter_next ?_ (args_setiter_next _))))
  unfold Builtin.«set_iterator.__next__»
  show wpAny _ _ (fieldsOf (.ref it) >>= _) _ _ s
  unfold fieldsOf
  refine wpAny_bind (wpAny_bind (wpAny_load hoi ?_))
  rw [hdi]
  refine wpAny_pure ?_
  dsimp only
  refine wpAny_bind (wpAny_setEntries_of ho hd hf ?_)
  rw [if_neg (by simp)]
  refine wpAny_bind (setNext_end ho hd hf hl hfj ?_)
  dsimp only
  refine wpAny_bind (wpAny_setField hoi hdi (by simp) ?_)
  show wpAny _ _ (newExc (.type "StopIteration") [] >>= _) _ _ _
  refine wpAny_bind ?_
  simp only [newExc, newTuple]
  refine wpAny_bind (wpAny_newObj_type ?_ (by size_fits))
  refine wpAny_bind (m := firstArgMember _ _) (wpAny_of_eq (a := Value.none) (by first | rfl | (simp only [firstArgMember]; rfl)) ?_)
  refine wpAny_newObj_type ?_ (by size_fits)
  simp only [raiseNew]
  refine wpAny_bind (wpAny_handled ?_)
  rw [show A.in1.handled = none from hh]
  refine wpAny_bind (wpAny_pure (wpAny_throw ?_))
  refine wpAny_bind (wpAny_isInstance (T := "StopIteration") (b := true) ⟨_, Heap.get?_push_size _ rfl, rfl⟩ isSubtype_stop ?_)
  exact wpAny_pure (hQ _ (((Heap.SameBut.update ..).extBut.push _).push _))
end
end Mine
end
section
open PySem PyProof.Rows PySem.Calls PySem.SeqAt
set_option maxRecDepth 100000
namespace Mine
def clsBody : List Stmt := match stmtOf 21 with | some (.ClassDef _ _ _ b _ _ _ _ _ _ _) => b | _ => []
def methBody (k : Nat) : List Stmt := match clsBody[k]? with | some (.FunctionDef _ _ b _ _ _ _ _ _ _) => b | _ => []
def methScope (k : Nat) : Scope := match clsBody[k]? with | some (.FunctionDef _ _ _ _ _ _ sc _ _ _) => sc | _ => default
def methParams (k : Nat) : Arguments := match clsBody[k]? with | some (.FunctionDef _ a _ _ _ _ _ _ _ _) => a | _ => default
/-- the class of the readers, as it stands in the base -/
structure IgCls (c : Cfg) : Prop where
  cls : ∃ nm q bs sn sub col dd k0 k1 k2 k3 k5, c.B.get? 137 = some (excClassObj nm q 137 136 bs [.type "object"] true sn sub false col dd k0 k1 k2 k3 k5 "object.__new__")
  ns : ∃ mN, c.B.Ns 136 mN ∧ mN (sT "__init__") = some (.ref 127) ∧ mN (sT "names") = some (.ref 134) ∧ ∀ x ∈ [sT "_mods", sT "_dirs", sT "_ignore", sT "__getattribute__", sT "__getattr__", sT "__setattr__"], mN x = none
  fi : FnAt c.B 127 (sT "__init__") (sT "_Ignore.__init__") (methParams 0) (methBody 0) (methScope 0) (.ref 122) .none
  fn : FnAt c.B 134 (sT "names") (sT "_Ignore.names") (methParams 1) (methBody 1) (methScope 1) .none .none
  fic : ∃ o, c.B.get? 127 = some o ∧ o.cls = .type "function"
  fnc : ∃ o, c.B.get? 134 = some o ∧ o.cls = .type "function"
  dflt : ∃ o n, c.B.get? 122 = some o ∧ o.data = .seq #[.none, .none] n
section
variable {c : Cfg} {P P' : PM} {C C' : CM} {σ σ' : Mut} {s s' : Shared} {env : Env} {V : Vars} {n : Nat} {Φ : AV → Mut → Prop} {Θ : Fl → Vars → Mut → Prop} {G M : List (Str × Value)} {i : Int} {wd k : Str}
theorem str_is (k : Str) (t : Tok) : (PySem.strKind c.prog c.w).is k (.str k t) = true := by simp [PySem.strKind, Value.isStrOf]
/-! sets of one word -/
theorem SetOne.setOf {o : Obj} {a : Addr} (h : SetOne c o wd) (ho : s.heap.get? a = some o) : s.heap.SetOf (PySem.strKind c.prog c.w) a (fun x => decide (x = wd)) 1 := by
  obtain ⟨u, ep, t, rfl, hf, hl⟩ := h
  refine ⟨_, _, ep, t, ho, ⟨rfl, rfl, rfl⟩, rfl, ?_, ?_, (by show 1 < 4096; decide), hf, rfl⟩
  · intro e he
    simp only [List.mem_singleton] at he
    subst he
    exact ⟨⟨wd, str_is wd u, rfl⟩, rfl⟩
  · intro x
    simp only [decide_eq_true_eq, List.mem_singleton, exists_eq_left]
    constructor
    · rintro rfl; exact str_is _ _
    · intro h; exact (PySem.strKind c.prog c.w).inj _ _ _ h (str_is wd u)
theorem in_sset (h : Φ (.bool (decide (k = wd))) σ) : Cmp c n .In (.str k) (.sset wd) σ Φ := OX2 fun A R P C s x y Q E I r1 r2 q => by
  cases r1
  cases r2 with
  | sset hp h1 => exact wpAny_inSet_of (str_is _ _) rfl (h1.setOf (I.per _ _ hp)) (q P C σ _ _ _ (.tok _) I .bool h)
theorem set_l1 (h : Φ (.sset wd) σ) : OX c n [.lst [.str wd]] σ (fun xs => call (.type "set") xs) Φ := OXc1 fun A R P C s x Q E I r q => by
  cases r with
  | lst hp hr =>
    rename_i a its m
    cases hr with | cons r1 hr =>
    cases hr; cases r1
    refine call_set_one R.han ⟨_, I.per _ _ hp, rfl, m, rfl⟩ fun h' j tk kk ho => ?_
    have hn : s.heap.get? s.heap.objs.size = none := Heap.get?_none_of_le (Nat.le_refl _)
    exact q _ C σ _ _ _ (Step.put I kk hn) (I.put kk hn ho) (.sset upd_self ⟨_, 1, _, rfl, rfl, rfl⟩) h
theorem Iters_sset : Iters c (.sset wd) [.str wd] := by
  intro A P C σ s x Q E I r q
  cases r with
  | sset hp h1 =>
    rename_i a o
    obtain ⟨u, ep, t, rfl, hf, hl⟩ := h1
    refine iter_set1 (I.per _ _ hp) rfl rfl hf (q (fun P C h i => P a = some { cls := .type "set", dict := none, data := .set #[((PySem.strKind c.prog c.w).hash wd, .str wd u)] ep t } ∧
      ∃ f, SetIt h s.heap.objs.size a f i ep ∧ (i = 0 ∧ f = 0 ∨ i = 1 ∧ (c.w.params.followText "set-order" = true ∨ t.place = #[f - 1] ∧ 0 < f))) _ ⟨?_, ?_, ?_, ?_, ?_, ?_⟩ rfl ⟨hp, 0, ⟨_, Heap.get?_push_size _ rfl, rfl, rfl⟩, .inl ⟨rfl, rfl⟩⟩)
    · rintro P C P' C' h h' i ⟨hp, f, ⟨o, ho, r⟩, hi⟩ hP hC hk
      exact ⟨hP _ _ hp, f, ⟨o, hk o ho, r⟩, hi⟩
    · rintro P C h i ⟨hp, f, ⟨o, ho, r⟩, hi⟩; exact ⟨o, ho⟩
    · rintro A P C s i Q E ⟨hp, f, hit, hi⟩ q; exact iter_setiter hit q
    · rintro A P C s i tg v Q E ⟨hp, f, ⟨o, ho, hc, hd⟩, hi⟩ q; exact letOwned_of ho hc hd (by decide) q
    · rintro A P C σ s i v Q E I ⟨hp, f, hit, hi⟩ hv q
      rcases hi with ⟨rfl, rfl⟩ | ⟨rfl, hi⟩
      · simp at hv; subst hv
        exact next_set1 hit (I.per _ _ hp) rfl hf hl fun h' f hit' hj hs => q _ h' s.toks .str ⟨hp, f, hit', .inr ⟨rfl, hj⟩⟩ hs
      · simp at hv
    · rintro A P C σ s i Q E hh I ⟨hp, f, hit, hi⟩ hv q
      rcases hi with ⟨rfl, rfl⟩ | ⟨rfl, hi⟩
      · simp at hv
      · exact next_set1_end hh hit (I.per _ _ hp) rfl hf hl hi q
/-! caches -/
theorem Inv.allocC {h' : Heap} {g : Addr} (I : Inv c P C σ s.heap) (kk : ∀ b o, s.heap.get? b = some o → h'.get? b = some o) (hg : s.heap.get? g = none) (hc : CacheAt c h' g wd) : Inv c P (upd C g wd) σ h' := by
  have hn := I.noneP hg
  have J := I.grow kk
  have hle : LeC C (upd C g wd) := fun b x hb => (upd_ne (fun e => by rw [e, hn.2.1] at hb; cases hb)).trans hb
  refine ⟨J.bs, J.per, fun a x h => ?_, fun a vs h => ?_, fun a o h => ?_, fun a x h => ?_⟩
  · by_cases e : a = g
    · subst e; rw [upd_self] at h; cases h; exact hc
    · rw [upd_ne e] at h; exact J.cch a x h
  · obtain ⟨its, h1, h2⟩ := J.own a vs h
    exact ⟨its, h1, h2.mono .rfl hle⟩
  · have e : a ≠ g := fun e => by rw [e, hn.1] at h; cases h
    exact ⟨(upd_ne e).trans (I.dPC a o h).1, (I.dPC a o h).2⟩
  · by_cases e : a = g
    · subst e; exact hn.2.2
    · rw [upd_ne e] at h; exact I.dC a x h
theorem Step.allocC {X : Addr → Prop} {h' : Heap} {tk : Nat} {g : Addr} (I : Inv c P C σ s.heap) (kk : ∀ b o, s.heap.get? b = some o → h'.get? b = some o) (hg : s.heap.get? g = none) : Step X P C σ s P (upd C g wd) σ { s with heap := h', toks := tk } := by
  have hn := I.noneP hg
  exact ⟨.rfl, fun b x hb => (upd_ne (fun e => by rw [e, hn.2.1] at hb; cases hb)).trans hb, fun b x h _ h1 h2 h3 => ⟨kk b x h, h1, (upd_ne (fun e => by rw [e, hg] at h; cases h)).trans h2, h3⟩, fun b o h _ => ⟨o, kk b o h⟩, .refl _, .refl _, .refl _⟩
/-- a cache turned -/
theorem Inv.turnC {h' : Heap} {g : Addr} (I : Inv c P C σ s.heap) (hg : C g = some wd) (hs : Heap.SameBut g s.heap h') (hc : CacheAt c h' g wd) : Inv c P C σ h' where
  bs := I.bs
  per := fun b x h => (hs.2 b (fun e => by have := (I.dPC b x h).1; rw [e, hg] at this; cases this)).trans (I.per b x h)
  cch := fun b x h => if e : b = g then by subst e; rw [hg] at h; cases h; exact hc else (I.cch b x h).of_obj fun o q => (hs.2 b e).trans q
  own := fun b vs h => let ⟨its, h1, h2⟩ := I.own b vs h; ⟨its, h1.at fun o q => (hs.2 b (fun e => by have := I.dC g wd hg; rw [← e, h] at this; cases this)).trans q, h2⟩
  dPC := I.dPC
  dC := I.dC
theorem Step.turnC {X : Addr → Prop} {h' : Heap} {tk : Nat} {g : Addr} (hg : C g = some wd) (hs : Heap.SameBut g s.heap h') (ha : ∃ o, h'.get? g = some o) : Step X P C σ s P C σ { s with heap := h', toks := tk } :=
  ⟨.rfl, .rfl, fun b x h _ h1 h2 h3 => have e : b ≠ g := fun e => by rw [e, hg] at h2; cases h2
    ⟨(hs.2 b e).trans h, h1, h2, h3⟩, fun b o h _ => if e : b = g then e ▸ ha else ⟨o, (hs.2 b e).trans h⟩, .refl _, .refl _, .refl _⟩
theorem nodup_le : ∀ (l m : List Str), l.Nodup → (∀ x ∈ l, x ∈ m) → l.length ≤ m.length
  | [], _, _, _ => Nat.zero_le _
  | x :: l, m, h, hs => by
    rw [List.nodup_cons] at h
    have hx : x ∈ m := hs x (by simp)
    have := nodup_le l (m.erase x) h.2 fun y hy => (List.mem_erase_of_ne (fun e : y = x => h.1 (by rw [← e]; exact hy))).mpr (hs y (by simp [hy]))
    rw [List.length_erase_of_mem hx] at this
    have := List.length_pos_of_mem hx
    simp only [List.length_cons]; omega
theorem texts5_len : texts5.length = 243 := by decide +kernel
theorem CacheAt.size {h : Heap} {g : Addr} {kvs : List (Str × Value)} (hd : h.DictOf (PySem.strKind c.prog c.w) g kvs) (hk : ∀ p ∈ kvs, p.1 = Str.ofString "<string>" ∨ (p.1 ∈ texts5 ∧ ∃ t, p.2 = .int (if ansB wd p.1 then 1 else 0) t)) : kvs.length ≤ 244 := by
  obtain ⟨_, _, _, _, _, _, _, _, hn⟩ := hd
  have := nodup_le (kvs.map (·.1)) (Str.ofString "<string>" :: texts5) hn (fun x hx => by
    obtain ⟨p, hp, rfl⟩ := List.mem_map.1 hx
    rcases hk p hp with e | e
    · rw [e]; simp
    · exact List.mem_cons_of_mem _ e.1)
  rw [List.length_map, List.length_cons, texts5_len] at this
  exact this
theorem stored_cache {kvs : List (Str × Value)} {t : Tok} (hk : ∀ p ∈ kvs, p.1 = Str.ofString "<string>" ∨ (p.1 ∈ texts5 ∧ ∃ t, p.2 = .int (if ansB wd p.1 then 1 else 0) t)) (h5 : k ∈ texts5) :
    ∀ p ∈ stored kvs k (.int (if ansB wd k then 1 else 0) t), p.1 = Str.ofString "<string>" ∨ (p.1 ∈ texts5 ∧ ∃ t, p.2 = .int (if ansB wd p.1 then 1 else 0) t) := by
  intro p hp
  unfold stored at hp
  split at hp
  · obtain ⟨q, hq, rfl⟩ := List.mem_map.1 hp
    split
    · rename_i e; dsimp only; rw [e]; exact .inr ⟨h5, t, rfl⟩
    · exact hk q hq
  · rcases List.mem_append.1 hp with hp | hp
    · exact hk p hp
    · rw [List.mem_singleton] at hp; subst hp; exact .inr ⟨h5, t, rfl⟩
theorem set_cch (h5 : k ∈ texts5) (hi : i = if ansB wd k then 1 else 0) (h : Φ .none σ) : OX c n [.cch wd, .str k, .int i] σ (fun xs => (do setItem (xs.getD 0 .none) (xs.getD 1 .none) (xs.getD 2 .none); pure .none)) Φ := OX3 (f := fun x y z => (do setItem x y z; pure .none)) fun A R P C s x y z Q E I r1 r2 r3 q => by
  cases r2; cases r3
  cases r1 with
  | cch hg =>
    subst hi
    obtain ⟨g1, kvs, hd, hk⟩ := I.cch _ _ hg
    have hz := CacheAt.size hd hk
    refine wpAny_bind (wpAny_setItem_pairs (knd := PySem.strKind c.prog c.w) (str_is _ _) hd (fun h' hd' hs => wpAny_pure ?_) (by show _ ≤ 2 ^ 24; omega))
    have hc' : CacheAt c h' _ wd := ⟨g1, _, hd', stored_cache hk h5⟩
    exact q P C σ _ _ _ (Step.turnC hg hs (let ⟨o, _, _, ho, _⟩ := hd'; ⟨o, ho⟩)) (I.turnC hg hs hc') .none h
end
end Mine
end
section
open PySem PySem.W PyProof.Rows
set_option maxRecDepth 100000
set_option maxHeartbeats 0
namespace Mine
noncomputable section
def KF : Params → Frag := fun P => [
  (3, { cls := Value.type "dict", data := Data.dict #[{ hash := PyData.keyHash P (sT "__name__"), key := Value.str (sT "__name__") 165, val := Value.str (sT "law_oy0062_01") 383 }, { hash := PyData.keyHash P (sT "__doc__"), key := Value.str (sT "__doc__") 166, val := Value.none }, { hash := PyData.keyHash P (sT "__package__"), key := Value.str (sT "__package__") 167, val := Value.none }, { hash := PyData.keyHash P (sT "__loader__"), key := Value.str (sT "__loader__") 168, val := Value.builtin "__main__.__loader__#opaque" }, { hash := PyData.keyHash P (sT "__spec__"), key := Value.str (sT "__spec__") 169, val := Value.none }, { hash := PyData.keyHash P (sT "__annotations__"), key := Value.str (sT "__annotations__") 170, val := Value.ref 6 }, { hash := PyData.keyHash P (sT "__builtins__"), key := Value.str (sT "__builtins__") 171, val := Value.ref 4 }, { hash := PyData.keyHash P (sT "__file__"), key := Value.str (sT "__file__") 173, val := Value.str (sT "/claim/cut.py") 172 }, { hash := PyData.keyHash P (sT "__cached__"), key := Value.str (sT "__cached__") 174, val := Value.none }, { hash := PyData.keyHash P (sT "_wall"), key := Value.str (sT "_wall") 193, val := Value.ref 21 }, { hash := PyData.keyHash P (sT "heappush"), key := Value.str (sT "heappush") 203, val := Value.ref 28 }, { hash := PyData.keyHash P (sT "heapreplace"), key := Value.str (sT "heapreplace") 212, val := Value.ref 35 }, { hash := PyData.keyHash P (sT "_siftdown"), key := Value.str (sT "_siftdown") 224, val := Value.ref 42 }, { hash := PyData.keyHash P (sT "_siftup"), key := Value.str (sT "_siftup") 237, val := Value.ref 49 }, { hash := PyData.keyHash P (sT "_buffer"), key := Value.str (sT "_buffer") 247, val := Value.ref 56 }, { hash := PyData.keyHash P (sT "_truth"), key := Value.str (sT "_truth") 255, val := Value.ref 63 }, { hash := PyData.keyHash P (sT "_B64"), key := Value.str (sT "_B64") 257, val := Value.bytes #[65, 66, 67, 68, 69, 70, 71, 72, 73, 74, 75, 76, 77, 78, 79, 80, 81, 82, 83, 84, 85, 86, 87, 88, 89, 90, 97, 98, 99, 100, 101, 102, 103, 104, 105, 106, 107, 108, 109, 110, 111, 112, 113, 114, 115, 116, 117, 118, 119, 120, 121, 122, 48, 49, 50, 51, 52, 53, 54, 55, 56, 57, 43, 47] 256 }, { hash := PyData.keyHash P (sT "b2a_base64"), key := Value.str (sT "b2a_base64") 271, val := Value.ref 71 }, { hash := PyData.keyHash P (sT "b64encode"), key := Value.str (sT "b64encode") 282, val := Value.ref 79 }, { hash := PyData.keyHash P (sT "sep"), key := Value.str (sT "sep") 284, val := Value.str (sT "/") 283 }, { hash := PyData.keyHash P (sT "_kind"), key := Value.str (sT "_kind") 295, val := Value.ref 86 }, { hash := PyData.keyHash P (sT "_c_path"), key := Value.str (sT "_c_path") 308, val := Value.ref 93 }, { hash := PyData.keyHash P (sT "_splitroot"), key := Value.str (sT "_splitroot") 317, val := Value.ref 100 }, { hash := PyData.keyHash P (sT "_normpath"), key := Value.str (sT "_normpath") 332, val := Value.ref 107 }, { hash := PyData.keyHash P (sT "normpath"), key := Value.str (sT "normpath") 340, val := Value.ref 114 }, { hash := PyData.keyHash P (sT "_Ignore"), key := Value.str (sT "_Ignore") 382, val := Value.ref 137 }, { hash := PyData.keyHash P (sT "_law_name"), key := Value.str (sT "_law_name") 390, val := Value.ref 146 }, { hash := PyData.keyHash P (sT "_law_grown"), key := Value.str (sT "_law_grown") 396, val := Value.ref 151 }, { hash := PyData.keyHash P (sT "_law_split"), key := Value.str (sT "_law_split") 410, val := Value.ref 158 }, { hash := PyData.keyHash P (sT "_law_heavy"), key := Value.str (sT "_law_heavy") 416, val := Value.ref 163 }, { hash := PyData.keyHash P (sT "_law_cut"), key := Value.str (sT "_law_cut") 422, val := Value.ref 168 }, { hash := PyData.keyHash P (sT "_law_packed"), key := Value.str (sT "_law_packed") 432, val := Value.ref 175 }, { hash := PyData.keyHash P (sT "law"), key := Value.str (sT "law") 438, val := Value.ref 180 }] 33 }),
  (27, { cls := Value.type "code", data := Data.fields #[Value.str (sT "heappush") 196, Value.str (sT "heappush") 197, Value.str (sT "/claim/cut.py") 198, Value.int 5 0, Value.int 2 0, Value.int 0 0, Value.int 0 0, Value.int 3 0, Value.ref 22, Value.bool Bool.true, Value.int 181 0, Value.ref 23, Value.none, Value.ref 24, Value.ref 25, Value.ref 26, Value.int 201 0, Value.int 5 0, Value.str (sT "/claim/cut.py") 202] }),
  (28, { cls := Value.type "function", data := Data.func { name := sT "heappush", qualname := sT "heappush", params := paramsOf 2, body := FuncBody.stmts (bodyOf 2), scope := scopeOf 2, globals := 3, closure := [], defaults := Value.none, kwdefaults := Value.none, pyModule := Value.str (sT "cpy313.heapq") 194, code := Value.ref 27 } }),
  (34, { cls := Value.type "code", data := Data.fields #[Value.str (sT "heapreplace") 204, Value.str (sT "heapreplace") 205, Value.str (sT "/claim/cut.py") 206, Value.int 8 0, Value.int 2 0, Value.int 0 0, Value.int 0 0, Value.int 3 0, Value.ref 29, Value.bool Bool.true, Value.int 181 0, Value.ref 30, Value.none, Value.ref 31, Value.ref 32, Value.ref 33, Value.int 210 0, Value.int 8 0, Value.str (sT "/claim/cut.py") 211] }),
  (35, { cls := Value.type "function", data := Data.func { name := sT "heapreplace", qualname := sT "heapreplace", params := paramsOf 3, body := FuncBody.stmts (bodyOf 3), scope := scopeOf 3, globals := 3, closure := [], defaults := Value.none, kwdefaults := Value.none, pyModule := Value.str (sT "cpy313.heapq") 194, code := Value.ref 34 } }),
  (41, { cls := Value.type "code", data := Data.fields #[Value.str (sT "_siftdown") 213, Value.str (sT "_siftdown") 214, Value.str (sT "/claim/cut.py") 215, Value.int 13 0, Value.int 3 0, Value.int 0 0, Value.int 0 0, Value.int 3 0, Value.ref 36, Value.bool Bool.true, Value.int 181 0, Value.ref 37, Value.none, Value.ref 38, Value.ref 39, Value.ref 40, Value.int 222 0, Value.int 13 0, Value.str (sT "/claim/cut.py") 223] }),
  (42, { cls := Value.type "function", data := Data.func { name := sT "_siftdown", qualname := sT "_siftdown", params := paramsOf 4, body := FuncBody.stmts (bodyOf 4), scope := scopeOf 4, globals := 3, closure := [], defaults := Value.none, kwdefaults := Value.none, pyModule := Value.str (sT "cpy313.heapq") 194, code := Value.ref 41 } }),
  (48, { cls := Value.type "code", data := Data.fields #[Value.str (sT "_siftup") 225, Value.str (sT "_siftup") 226, Value.str (sT "/claim/cut.py") 227, Value.int 24 0, Value.int 2 0, Value.int 0 0, Value.int 0 0, Value.int 3 0, Value.ref 43, Value.bool Bool.true, Value.int 181 0, Value.ref 44, Value.none, Value.ref 45, Value.ref 46, Value.ref 47, Value.int 235 0, Value.int 24 0, Value.str (sT "/claim/cut.py") 236] }),
  (49, { cls := Value.type "function", data := Data.func { name := sT "_siftup", qualname := sT "_siftup", params := paramsOf 5, body := FuncBody.stmts (bodyOf 5), scope := scopeOf 5, globals := 3, closure := [], defaults := Value.none, kwdefaults := Value.none, pyModule := Value.str (sT "cpy313.heapq") 194, code := Value.ref 48 } }),
  (55, { cls := Value.type "code", data := Data.fields #[Value.str (sT "_buffer") 240, Value.str (sT "_buffer") 241, Value.str (sT "/claim/cut.py") 242, Value.int 39 0, Value.int 1 0, Value.int 0 0, Value.int 0 0, Value.int 3 0, Value.ref 50, Value.bool Bool.true, Value.int 181 0, Value.ref 51, Value.none, Value.ref 52, Value.ref 53, Value.ref 54, Value.int 245 0, Value.int 39 0, Value.str (sT "/claim/cut.py") 246] }),
  (56, { cls := Value.type "function", data := Data.func { name := sT "_buffer", qualname := sT "_buffer", params := paramsOf 7, body := FuncBody.stmts (bodyOf 7), scope := scopeOf 7, globals := 3, closure := [], defaults := Value.none, kwdefaults := Value.none, pyModule := Value.str (sT "binascii") 238, code := Value.ref 55 } }),
  (62, { cls := Value.type "code", data := Data.fields #[Value.str (sT "_truth") 248, Value.str (sT "_truth") 249, Value.str (sT "/claim/cut.py") 250, Value.int 46 0, Value.int 1 0, Value.int 0 0, Value.int 0 0, Value.int 3 0, Value.ref 57, Value.bool Bool.true, Value.int 181 0, Value.ref 58, Value.none, Value.ref 59, Value.ref 60, Value.ref 61, Value.int 253 0, Value.int 46 0, Value.str (sT "/claim/cut.py") 254] }),
  (63, { cls := Value.type "function", data := Data.func { name := sT "_truth", qualname := sT "_truth", params := paramsOf 8, body := FuncBody.stmts (bodyOf 8), scope := scopeOf 8, globals := 3, closure := [], defaults := Value.none, kwdefaults := Value.none, pyModule := Value.str (sT "binascii") 238, code := Value.ref 62 } }),
  (70, { cls := Value.type "code", data := Data.fields #[Value.str (sT "b2a_base64") 259, Value.str (sT "b2a_base64") 260, Value.str (sT "/claim/cut.py") 261, Value.int 52 0, Value.int 1 0, Value.int 1 0, Value.int 1 0, Value.int 3 0, Value.ref 65, Value.bool Bool.true, Value.int 181 0, Value.ref 66, Value.none, Value.ref 67, Value.ref 68, Value.ref 69, Value.int 269 0, Value.int 52 0, Value.str (sT "/claim/cut.py") 270] }),
  (71, { cls := Value.type "function", data := Data.func { name := sT "b2a_base64", qualname := sT "b2a_base64", params := paramsOf 10, body := FuncBody.stmts (bodyOf 10), scope := scopeOf 10, globals := 3, closure := [], defaults := Value.none, kwdefaults := Value.ref 64, pyModule := Value.str (sT "binascii") 238, code := Value.ref 70 } }),
  (72, { cls := Value.type "tuple", data := Data.seq #[Value.none] }),
  (78, { cls := Value.type "code", data := Data.fields #[Value.str (sT "b64encode") 274, Value.str (sT "b64encode") 275, Value.str (sT "/claim/cut.py") 276, Value.int 75 0, Value.int 2 0, Value.int 0 0, Value.int 0 0, Value.int 3 0, Value.ref 73, Value.bool Bool.true, Value.int 181 0, Value.ref 74, Value.none, Value.ref 75, Value.ref 76, Value.ref 77, Value.int 280 0, Value.int 75 0, Value.str (sT "/claim/cut.py") 281] }),
  (79, { cls := Value.type "function", data := Data.func { name := sT "b64encode", qualname := sT "b64encode", params := paramsOf 12, body := FuncBody.stmts (bodyOf 12), scope := scopeOf 12, globals := 3, closure := [], defaults := Value.ref 72, kwdefaults := Value.none, pyModule := Value.str (sT "cpy313.base64") 272, code := Value.ref 78 } }),
  (122, { cls := Value.type "tuple", data := Data.seq #[Value.none, Value.none] }),
  (126, { cls := Value.type "code", data := Data.fields #[Value.str (sT "__init__") 355, Value.str (sT "_Ignore.__init__") 356, Value.str (sT "/claim/cut.py") 357, Value.int 148 0, Value.int 3 0, Value.int 0 0, Value.int 0 0, Value.int 3 0, Value.ref 123, Value.bool Bool.true, Value.int 181 0, Value.ref 124, Value.none, Value.none, Value.none, Value.ref 125, Value.int 358 0, Value.int 148 0, Value.str (sT "/claim/cut.py") 359] }),
  (127, { cls := Value.type "function", data := Data.func { name := sT "__init__", qualname := sT "_Ignore.__init__", params := methParams 0, body := FuncBody.stmts (methBody 0), scope := methScope 0, globals := 3, closure := [], defaults := Value.ref 122, kwdefaults := Value.none, pyModule := Value.str (sT "cpy313.trace") 341, code := Value.ref 126 } }),
  (133, { cls := Value.type "code", data := Data.fields #[Value.str (sT "names") 361, Value.str (sT "_Ignore.names") 362, Value.str (sT "/claim/cut.py") 363, Value.int 153 0, Value.int 3 0, Value.int 0 0, Value.int 0 0, Value.int 3 0, Value.ref 128, Value.bool Bool.true, Value.int 181 0, Value.ref 129, Value.none, Value.ref 130, Value.ref 131, Value.ref 132, Value.int 369 0, Value.int 153 0, Value.str (sT "/claim/cut.py") 370] }),
  (134, { cls := Value.type "function", data := Data.func { name := sT "names", qualname := sT "_Ignore.names", params := methParams 1, body := FuncBody.stmts (methBody 1), scope := methScope 1, globals := 3, closure := [], defaults := Value.none, kwdefaults := Value.none, pyModule := Value.str (sT "cpy313.trace") 341, code := Value.ref 133 } }),
  (136, { cls := Value.type "dict", data := Data.dict #[{ hash := PyData.keyHash P (sT "__module__"), key := Value.str (sT "__module__") 350, val := Value.str (sT "cpy313.trace") 341 }, { hash := PyData.keyHash P (sT "__firstlineno__"), key := Value.str (sT "__firstlineno__") 354, val := Value.int 146 353 }, { hash := PyData.keyHash P (sT "__init__"), key := Value.str (sT "__init__") 360, val := Value.ref 127 }, { hash := PyData.keyHash P (sT "names"), key := Value.str (sT "names") 371, val := Value.ref 134 }, { hash := PyData.keyHash P (sT "__static_attributes__"), key := Value.str (sT "__static_attributes__") 375, val := Value.ref 135 }, { hash := PyData.keyHash P (sT "__dict__"), key := Value.str (sT "__dict__") 377, val := Value.ref 138 }, { hash := PyData.keyHash P (sT "__weakref__"), key := Value.str (sT "__weakref__") 379, val := Value.ref 139 }, { hash := PyData.keyHash P (sT "__doc__"), key := Value.str (sT "__doc__") 380, val := Value.none }] 4 }),
  (137, { cls := Value.type "type", data := Data.cls { name := sT "_Ignore", bases := [Value.type "object"], mro := [Value.ref 137, Value.type "object"], ns := 136, qualname := sT "_Ignore" }, slots := #[Option.none, Option.none, Option.some (Value.str (sT "_Ignore") 343), Option.some (Value.str (sT "_Ignore") 351), Option.some (Value.builtin "object.__new__"), Option.some (Value.bool Bool.true)] }),
  (145, { cls := Value.type "code", data := Data.fields #[Value.str (sT "_law_name") 385, Value.str (sT "_law_name") 386, Value.str (sT "/claim/cut.py") 387, Value.int 173 0, Value.int 1 0, Value.int 0 0, Value.int 0 0, Value.int 3 0, Value.ref 142, Value.bool Bool.true, Value.int 181 0, Value.ref 143, Value.none, Value.none, Value.none, Value.ref 144, Value.int 388 0, Value.int 173 0, Value.str (sT "/claim/cut.py") 389] }),
  (146, { cls := Value.type "function", data := Data.func { name := sT "_law_name", qualname := sT "_law_name", params := paramsOf 23, body := FuncBody.stmts (bodyOf 23), scope := scopeOf 23, globals := 3, closure := [], defaults := Value.none, kwdefaults := Value.none, pyModule := Value.str (sT "law_oy0062_01") 383, code := Value.ref 145 } }),
  (150, { cls := Value.type "code", data := Data.fields #[Value.str (sT "_law_grown") 391, Value.str (sT "_law_grown") 392, Value.str (sT "/claim/cut.py") 393, Value.int 175 0, Value.int 2 0, Value.int 0 0, Value.int 0 0, Value.int 3 0, Value.ref 147, Value.bool Bool.true, Value.int 181 0, Value.ref 148, Value.none, Value.none, Value.none, Value.ref 149, Value.int 394 0, Value.int 175 0, Value.str (sT "/claim/cut.py") 395] }),
  (151, { cls := Value.type "function", data := Data.func { name := sT "_law_grown", qualname := sT "_law_grown", params := paramsOf 24, body := FuncBody.stmts (bodyOf 24), scope := scopeOf 24, globals := 3, closure := [], defaults := Value.none, kwdefaults := Value.none, pyModule := Value.str (sT "law_oy0062_01") 383, code := Value.ref 150 } }),
  (157, { cls := Value.type "code", data := Data.fields #[Value.str (sT "_law_split") 397, Value.str (sT "_law_split") 398, Value.str (sT "/claim/cut.py") 399, Value.int 178 0, Value.int 1 0, Value.int 0 0, Value.int 0 0, Value.int 3 0, Value.ref 152, Value.bool Bool.true, Value.int 181 0, Value.ref 153, Value.none, Value.ref 154, Value.ref 155, Value.ref 156, Value.int 408 0, Value.int 178 0, Value.str (sT "/claim/cut.py") 409] }),
  (158, { cls := Value.type "function", data := Data.func { name := sT "_law_split", qualname := sT "_law_split", params := paramsOf 25, body := FuncBody.stmts (bodyOf 25), scope := scopeOf 25, globals := 3, closure := [], defaults := Value.none, kwdefaults := Value.none, pyModule := Value.str (sT "law_oy0062_01") 383, code := Value.ref 157 } }),
  (162, { cls := Value.type "code", data := Data.fields #[Value.str (sT "_law_heavy") 411, Value.str (sT "_law_heavy") 412, Value.str (sT "/claim/cut.py") 413, Value.int 190 0, Value.int 3 0, Value.int 0 0, Value.int 0 0, Value.int 3 0, Value.ref 159, Value.bool Bool.true, Value.int 181 0, Value.ref 160, Value.none, Value.none, Value.none, Value.ref 161, Value.int 414 0, Value.int 190 0, Value.str (sT "/claim/cut.py") 415] }),
  (163, { cls := Value.type "function", data := Data.func { name := sT "_law_heavy", qualname := sT "_law_heavy", params := paramsOf 26, body := FuncBody.stmts (bodyOf 26), scope := scopeOf 26, globals := 3, closure := [], defaults := Value.none, kwdefaults := Value.none, pyModule := Value.str (sT "law_oy0062_01") 383, code := Value.ref 162 } }),
  (167, { cls := Value.type "code", data := Data.fields #[Value.str (sT "_law_cut") 417, Value.str (sT "_law_cut") 418, Value.str (sT "/claim/cut.py") 419, Value.int 194 0, Value.int 2 0, Value.int 0 0, Value.int 0 0, Value.int 3 0, Value.ref 164, Value.bool Bool.true, Value.int 181 0, Value.ref 165, Value.none, Value.none, Value.none, Value.ref 166, Value.int 420 0, Value.int 194 0, Value.str (sT "/claim/cut.py") 421] }),
  (168, { cls := Value.type "function", data := Data.func { name := sT "_law_cut", qualname := sT "_law_cut", params := paramsOf 27, body := FuncBody.stmts (bodyOf 27), scope := scopeOf 27, globals := 3, closure := [], defaults := Value.none, kwdefaults := Value.none, pyModule := Value.str (sT "law_oy0062_01") 383, code := Value.ref 167 } }),
  (174, { cls := Value.type "code", data := Data.fields #[Value.str (sT "_law_packed") 423, Value.str (sT "_law_packed") 424, Value.str (sT "/claim/cut.py") 425, Value.int 206 0, Value.int 1 0, Value.int 0 0, Value.int 0 0, Value.int 3 0, Value.ref 169, Value.bool Bool.true, Value.int 181 0, Value.ref 170, Value.none, Value.ref 171, Value.ref 172, Value.ref 173, Value.int 430 0, Value.int 206 0, Value.str (sT "/claim/cut.py") 431] }),
  (175, { cls := Value.type "function", data := Data.func { name := sT "_law_packed", qualname := sT "_law_packed", params := paramsOf 28, body := FuncBody.stmts (bodyOf 28), scope := scopeOf 28, globals := 3, closure := [], defaults := Value.none, kwdefaults := Value.none, pyModule := Value.str (sT "law_oy0062_01") 383, code := Value.ref 174 } }),
  (179, { cls := Value.type "code", data := Data.fields #[Value.str (sT "law") 433, Value.str (sT "law") 434, Value.str (sT "/claim/cut.py") 435, Value.int 212 0, Value.int 1 0, Value.int 0 0, Value.int 0 0, Value.int 3 0, Value.ref 176, Value.bool Bool.true, Value.int 181 0, Value.ref 177, Value.none, Value.none, Value.none, Value.ref 178, Value.int 436 0, Value.int 212 0, Value.str (sT "/claim/cut.py") 437] }),
  (180, { cls := Value.type "function", data := Data.func { name := sT "law", qualname := sT "law", params := paramsOf 29, body := FuncBody.stmts (bodyOf 29), scope := scopeOf 29, globals := 3, closure := [], defaults := Value.none, kwdefaults := Value.none, pyModule := Value.str (sT "law_oy0062_01") 383, code := Value.ref 179 } })]
def KA : List Addr := [3, 27, 28, 34, 35, 41, 42, 48, 49, 55, 56, 62, 63, 70, 71, 72, 78, 79, 122, 126, 127, 133, 134, 136, 137, 145, 146, 150, 151, 157, 158, 162, 163, 167, 168, 174, 175, 179, 180]
def vw : Program := { PySem.Challenge.pw_oy0062_01 with main := { PySem.Challenge.pw_oy0062_01.main with body := (stmtOf 29).toList } }
def vwLoose : List Str := [sT "_wall", sT "heappush", sT "heapreplace", sT "_siftdown", sT "_siftup", sT "_buffer", sT "_truth", sT "_B64", sT "b2a_base64", sT "b64encode", sT "sep", sT "_kind", sT "_c_path", sT "_splitroot", sT "_normpath", sT "normpath", sT "_Ignore", sT "_law_name", sT "_law_grown", sT "_law_split", sT "_law_heavy", sT "_law_cut", sT "_law_packed"]
end
abbrev R0 : OpenRow := PySem.Challenge.rw_oy0062_01.row
theorem kf_as : ∀ P, KA = (KF P).map (·.1) := fun _ => by kernel_rfl
abbrev HK : Hook := kHook KF KA kf_as
theorem head_run : LeftO R0.prog vw vwLoose (fun s => xlAt vw [] s && recOk (RowW.records R0.toRowW) s) (Hook.obs HK) (Hook.val HK) 2088 := fun w => by kernel_rfl
end Mine
end
section
open PySem PySem.W PyProof.Rows
set_option maxRecDepth 100000
set_option maxHeartbeats 0
namespace Mine
theorem hd_said : OpenLaw.wellSaid PySem.Challenge.rw_oy0062_01 = true := by kernel_rfl
theorem hd_hw : R0.toRowW.promised := by
  show RowW.promised _
  w_witness2
theorem hd_ok : (chainsOk vw && opensWell R0.prog && (frees R0.toRowW && R0.within.isEmpty)) = true := by kernel_rfl
def lawPos : Pos := match stmtOf 29 with | some (.FunctionDef _ _ _ _ _ _ _ _ _ p) => p | _ => ⟨0, 0, 0, 0⟩
def lawRec : DefRec := ⟨sT "law", paramsOf 29, bodyOf 29, scopeOf 29, lawPos⟩
theorem hd_def : defOf vw R0.name = some (lawRec, []) := by kernel_rfl
theorem hd_the : R0.prog.theDef R0.name = some (lawRec.params, lawRec.body, lawRec.scope) := by kernel_rfl
theorem hd_bare : R0.prog.bare := ⟨rfl, rfl, rfl, rfl, rfl, by decide +kernel⟩
theorem hd (h : WalkO vw vwLoose (XL vw []) HK.says R0.toRowW lawRec [] fun f vs => PySem.call f vs) : PySem.Challenge.rw_oy0062_01.Holds := by
  refine holds_law hd_said fun said => ?_
  exact holds_open (r := R0) head_run (Hook.of HK) (Hook.keeps HK) (fun s e => xl_of s (Bool.and_eq_true_iff.mp e).1) XL.keeps hd_def hd_the (by rfl) (fun s e => recFacts_of (Bool.and_eq_true_iff.mp e).2) (by rfl) said hd_ok hd_bare hd_hw h
end Mine
end
section
open PySem PyProof.Rows PySem.Calls PySem.SeqAt
set_option maxRecDepth 100000
namespace Mine
section
variable {c : Cfg} {P P' : PM} {C C' : CM} {σ σ' : Mut} {s s' : Shared} {env : Env} {V : Vars} {n : Nat} {Φ : AV → Mut → Prop} {Θ : Fl → Vars → Mut → Prop} {G M : List (Str × Value)} {i : Int} {wd k : Str}
theorem Inst.of_two {h h' : Heap} {x C : Addr} {mA : Str → Option Value} {ox od : Obj} {d : Addr} (I : h.Inst x C mA) (hx : h.get? x = some ox) (hd : ox.dict = some d) (ho : h.get? d = some od) (hx' : h'.get? x = some ox) (ho' : h'.get? d = some od) : h'.Inst x C mA := by
  obtain ⟨o, e, c, nc, hh⟩ := I
  rw [hx] at e; cases e
  refine ⟨ox, hx', c, nc, ?_⟩
  rcases hh with ⟨h1, _⟩ | ⟨d', h1, h2, h3⟩
  · rw [hd] at h1; cases h1
  · rw [hd] at h1; cases h1
    exact .inr ⟨d, hd, h2, h3.at fun o q => by rw [ho] at q; cases q; exact ho'⟩
theorem RdrAt.now {a : Addr} (h : RdrAt c P C a wd) (I : Inv c P C σ s.heap) : ∃ (m l g : Addr) (os : Obj) (nl : Nat) (mA : Str → Option Value), s.heap.Inst a 137 mA ∧ mA "_mods" = some (.ref m) ∧ mA "_dirs" = some (.ref l) ∧ mA "_ignore" = some (.ref g) ∧ mA "names" = Option.none ∧
    P m = some os ∧ SetOne c os wd ∧ P l = some { cls := .type "list", data := .seq #[] nl } ∧ C g = some wd := by
  obtain ⟨ox, od, os, d, m, l, g, mA, h0, nl, h1, h2, h3, h4, h5, h6, h7, h8, h9, h10, h11, h12, h13, h14⟩ := h
  exact ⟨m, l, g, os, nl, mA, Inst.of_two h6 h2 h3 h5 (I.per _ _ h1) (I.per _ _ h4), h7, h8, h9, h10, h11, h12, h13, h14⟩
/-- an attribute of a reader, read -/
theorem attr_wp {A : Around} {a : Addr} {mA : Str → Option Value} {name : Str} {y : Addr} {Q : Value → Shared → Prop} {E : Value → Shared → Prop} (K : IgCls c) (I : Inv c P C σ s.heap) (Ix : s.heap.Inst a 137 mA) (hv : mA name = some (.ref y)) (hn : name ∈ [sT "_mods", sT "_dirs", sT "_ignore"])
    (hB : typeLookup (.type "object") name = pure Option.none) (h : Q (.ref y) { s with toks := s.toks + 1 }) : wpAny (model c.prog c.w) A (getAttr (.ref a) name true) Q E s := by
  obtain ⟨nm, q, bs, sn, sub, col, dd, k0, k1, k2, k3, k5, hC⟩ := K.cls
  obtain ⟨mN, hN, _, _, hno⟩ := K.ns
  have h1 := hno name (by simp only [List.mem_cons, List.not_mem_nil, or_false] at hn ⊢; rcases hn with e | e | e <;> simp [e])
  have h2 := hno (sT "__getattribute__") (by simp)
  obtain ⟨hh, g, d, t, os⟩ := s
  exact load_attr (I.base _ _ hC) (hN.keeps I.base) h2 h1 hB Ix hv rfl h
theorem lk_mods : typeLookup (.type "object") "_mods" = pure Option.none := by rw [typeLookup_type, builtinLookup_eq_fast]; kernel_rfl
theorem lk_dirs : typeLookup (.type "object") "_dirs" = pure Option.none := by rw [typeLookup_type, builtinLookup_eq_fast]; kernel_rfl
theorem lk_ignore : typeLookup (.type "object") "_ignore" = pure Option.none := by rw [typeLookup_type, builtinLookup_eq_fast]; kernel_rfl
theorem lk_names : typeLookup (.type "object") "names" = pure Option.none := by rw [typeLookup_type, builtinLookup_eq_fast]; kernel_rfl
theorem EX_mods {x : Str} {p pos : Pos} (K : IgCls c) (hv : V.lookup x = some (.rdr wd)) (h : Φ (.sset wd) σ) (hd : (x == ("__debug__" : Str)) = false := by rfl) : EX c n env V σ (.Attribute (.Name x p) "_mods" pos) Φ :=
  fun A R P C s Q E I F q => by
    obtain ⟨y, hy, ha⟩ := F.var x _ hv
    cases hy with
    | rdr hr =>
      obtain ⟨m, l, g, os, nl, mA, Ix, h1, h2, h3, h4, h5, h6, h7, h8⟩ := hr.now I
      exact Attribute_name (wpAny_Name (loadVar F ha (attr_wp K I Ix h1 (by simp [sT]) lk_mods (q P C σ _ _ _ (.tok _) I F (.sset h5 h6) h))) hd)
theorem EX_dirs {x : Str} {p pos : Pos} (K : IgCls c) (hv : V.lookup x = some (.rdr wd)) (h : Φ (.lst []) σ) (hd : (x == ("__debug__" : Str)) = false := by rfl) : EX c n env V σ (.Attribute (.Name x p) "_dirs" pos) Φ :=
  fun A R P C s Q E I F q => by
    obtain ⟨y, hy, ha⟩ := F.var x _ hv
    cases hy with
    | rdr hr =>
      obtain ⟨m, l, g, os, nl, mA, Ix, h1, h2, h3, h4, h5, h6, h7, h8⟩ := hr.now I
      exact Attribute_name (wpAny_Name (loadVar F ha (attr_wp K I Ix h2 (by simp [sT]) lk_dirs (q P C σ _ _ _ (.tok _) I F (.lst (its := []) h7 .nil) h))) hd)
theorem EX_ignore {x : Str} {p pos : Pos} (K : IgCls c) (hv : V.lookup x = some (.rdr wd)) (h : Φ (.cch wd) σ) (hd : (x == ("__debug__" : Str)) = false := by rfl) : EX c n env V σ (.Attribute (.Name x p) "_ignore" pos) Φ :=
  fun A R P C s Q E I F q => by
    obtain ⟨y, hy, ha⟩ := F.var x _ hv
    cases hy with
    | rdr hr =>
      obtain ⟨m, l, g, os, nl, mA, Ix, h1, h2, h3, h4, h5, h6, h7, h8⟩ := hr.now I
      exact Attribute_name (wpAny_Name (loadVar F ha (attr_wp K I Ix h3 (by simp [sT]) lk_ignore (q P C σ _ _ _ (.tok _) I F (.cch h8) h))) hd)
/-- «if the word is in the cache, give it back» -/
theorem FX_cacheIf {x y : Str} {p1 p2 p3 p4 p5 p6 p7 p8 p9 p10 : Pos} (K : IgCls c) (hs : V.lookup x = some (.rdr wd)) (hk : V.lookup y = some (.str k)) (h5 : k ∈ texts5) (hne : k ≠ Str.ofString "<string>")
    (h1 : Θ (.ret (.int (if ansB wd k then 1 else 0))) V σ) (h0 : Θ .next V σ) (hdx : (x == ("__debug__" : Str)) = false := by rfl) (hdy : (y == ("__debug__" : Str)) = false := by rfl) :
    FX c n env V σ (exec (.If (.Compare (.Name y p1) [.In] [.Attribute (.Name x p2) "_ignore" p3] p4) [.Return (some (.Subscript (.Attribute (.Name x p5) "_ignore" p6) (.Name y p7) p8)) p9] [] p10) env) Θ := by
  intro A R P C s Q E I F q
  obtain ⟨vx, hx, hax⟩ := F.var x _ hs
  obtain ⟨vy, hy, hay⟩ := F.var y _ hk
  cases hy
  rename_i t
  cases hx with
  | rdr hr =>
    obtain ⟨m, l, g, os, nl, mA, Ix, a1, a2, a3, a4, a5, a6, a7, a8⟩ := hr.now I
    obtain ⟨g1, kvs, hd, hkv⟩ := I.cch _ _ a8
    refine wpAny_If (wpAny_isTrue_Compare1 (wpAny_Name (loadVar F hay (Attribute_name (wpAny_Name (loadVar F hax (attr_wp K I Ix a3 (by simp [sT]) lk_ignore
      (wpAny_in_of (knd := PySem.strKind c.prog c.w) (str_is k t) g1 hd.mapOf (wpAny_truthy_bool ?_)))) hdx))) hdy) (by with_unfolding_all rfl))
    cases hv : valueAt kvs k with
    | none =>
      exact wpAny_execs_nil (q P C σ V .next .next _ (.tok _) I F .next h0)
    | some v =>
      have hval : ∃ tv, v = .int (if ansB wd k then 1 else 0) tv := by
        unfold valueAt at hv
        rw [Option.map_eq_some_iff] at hv
        obtain ⟨p, hp, rfl⟩ := hv
        have hp1 : p.1 = k := by simpa using List.find?_some hp
        have hp2 := List.mem_of_find?_eq_some hp
        rcases hkv p hp2 with e | ⟨_, tv, e⟩
        · exact absurd (hp1 ▸ e) hne
        · rw [hp1] at e; exact ⟨tv, e⟩
      obtain ⟨tv, rfl⟩ := hval
      refine wpAny_execs_cons (wpAny_Return_some (Subscript_ (Attribute_name (wpAny_Name (loadVar (s := { s with toks := s.toks + 1 + 1 }) F hax (attr_wp (s := { s with toks := s.toks + 1 + 1 }) K I Ix a3 (by simp [sT]) lk_ignore
        (wpAny_Name (loadVar (s := { s with toks := s.toks + 1 + 1 + 1 }) F hay (tail_any (s := { s with toks := s.toks + 1 + 1 + 1 }) hd.typeIs slot_dict_getitem.lookup
          (wpAny_getItem_of (s := { s with toks := s.toks + 1 + 1 + 1 }) (knd := PySem.strKind c.prog c.w) (str_is k t) hd.mapOf hv ?_) rfl)) hdy))) hdx))))
      exact q P C σ V _ _ _ (.tok _) I F (.ret .int) h1
end
end Mine
end
section
open PySem PyProof.Rows PySem.Calls PySem.SeqAt
set_option maxRecDepth 100000
namespace Mine
section
variable {c : Cfg} {P P' : PM} {C C' : CM} {σ σ' : Mut} {s s' : Shared} {env : Env} {V : Vars} {n : Nat} {Φ : AV → Mut → Prop} {Θ : Fl → Vars → Mut → Prop} {G M : List (Str × Value)} {i : Int} {wd k : Str}
/-- the first cache -/
theorem EX_dict1 {k1 k2 : Nat} {p1 p2 pos : Pos} (K : IgCls c) (h : Φ (.cch wd) σ) : EX c n env V σ (.Dict [some (.Constant (.str (Str.ofString "<string>")) k1 p1)] [.Constant (.int 1) k2 p2] pos) Φ := by
  intro A R P C s Q E I F q
  obtain ⟨oB, hB, _⟩ := K.fic
  have hlt : 127 < s.heap.objs.size := Heap.lt_size (I.base _ _ hB)
  have hg : (s.heap.objs.size == sysModules) = false := by
    rw [beq_eq_false_iff_ne]
    show s.heap.objs.size ≠ 1
    omega
  have hn : s.heap.get? s.heap.objs.size = none := Heap.get?_none_of_le (Nat.le_refl _)
  refine wpAny_Dict_pairs (knd := PySem.strKind c.prog c.w) (pairs := [(eval (.Constant (.str (Str.ofString "<string>")) k1 p1) env, (do let x ← eval (.Constant (.int 1) k2 p2) env; standAt pos; pure x))]) rfl (by simp) (by show 1 ≤ 15; decide) ?_
  refine evalPairs_cons (wpAny_Constant_str (wpAny_bind (wpAny_Constant_int (wpAny_bind (wpAny_standAt (wpAny_pure (evalPairs_nil ?_)))))))
  refine ⟨[(Str.ofString "<string>", .int 1 (s.toks + 1))], ⟨str_is _ _, rfl, trivial⟩, Heap.DictOf.new _, fun h' hd' hs => ?_⟩
  have kk : ∀ b o, s.heap.get? b = some o → h'.get? b = some o := fun b o hb => (hs.2 b (Nat.ne_of_lt (Heap.lt_size hb))).trans (Heap.get?_push_of_some _ hb)
  have hc : CacheAt c h' s.heap.objs.size wd := ⟨hg, _, hd', fun p hp => .inl (by
    simp only [merged, stored, List.foldl_cons, List.foldl_nil, List.any_nil, List.nil_append] at hp
    first | (rw [hp]) | (simp at hp; rw [hp]))⟩
  exact q.ofV F P _ σ _ _ _ (Step.allocC (X := no) I kk hn) (I.allocC kk hn hc) (.cch upd_self) h
/-- a reader asked -/
theorem EX_Rdr {o e : Expr} {rest : List Expr} {apos pos : Pos} {pl : Sem Bool} (K : IgCls c) (h : EX c n env V σ o fun v σ1 => ∃ wd, v = .rdr wd ∧ LX c n env V σ1 (spliced (backTo pos (starEach (e :: rest) env))) fun vs σ2 => CX c n 134 (.rdr wd :: vs) [] [] σ2 Φ)
    (he : eval (.Call (.Attribute o "names" apos) (e :: rest) [] pos) env = (do
      let ov ← eval o env
      standAt apos.atName
      let (f, first) ← holding [ov] (getMethod ov "names" pl)
      callWith pos f first (backTo pos (starEach (e :: rest) env)) []) := by rfl)
    (h1 : starEach (e :: rest) env = (false, eval e env) :: starEach rest env := by rfl) :
    EX c n env V σ (.Call (.Attribute o "names" apos) (e :: rest) [] pos) Φ :=
  fun A R P C s Q E I F q => MethodCall_ (h A R P C s _ E I F fun P1 C1 σ1 v x s1 st1 I1 F1 rx ⟨wd, hv, h2⟩ => by
    subst hv
    cases rx with
    | rdr hr =>
      rename_i a
      obtain ⟨m, l, g, os, nl, mA, Ix, a1, a2, a3, a4, a5, a6, a7, a8⟩ := hr.now I1
      obtain ⟨nm, qn, bs, sn, sub, col, dd, k0, k1, k2, k3, k5, hC⟩ := K.cls
      obtain ⟨mN, hN, _, hnm, hno⟩ := K.ns
      obtain ⟨of, hof, hfc⟩ := K.fnc
      obtain ⟨o', doc, pm, an, cdv, ct, ho, hdat, _⟩ := K.fn
      have hgm : ∀ (Q' : Value × List Value → Shared → Prop), Q' (.ref 134, [.ref a]) s1 → wpAny (model c.prog c.w) A (getMethod (.ref a) "names" pl) Q' E s1 := fun Q' hq => by
        obtain ⟨hh, gg, d, t, os⟩ := s1
        exact method_of (I1.base _ _ hC) (hN.keeps I1.base) (hno (sT "__getattribute__") (by simp)) (hno (sT "__getattr__") (by simp)) hnm (I1.base _ _ hof) hfc lk_names Ix a4 hq
      refine hgm _ (callWith_meth (h₀ := c.B) hdat ho (h2 A R P1 C1 s1 _ E I1 F1 fun P2 C2 σ2 vs xs s2 st2 I2 F2 rs h3 => ⟨I2.base, wpAny_call ?_⟩) h1)
      exact h3 A R P2 C2 s2 (.ref a :: xs) [] _ I2 (.cons (.rdr (hr.mono st2.pm st2.cm)) rs) .nil ((q.after (st1.trans st2)).ofV F2)) he
end
end Mine
end
section
open PySem PyProof.Rows PySem.Calls PySem.SeqAt
set_option maxRecDepth 100000
namespace Mine
section
variable {c : Cfg} {P P' : PM} {C C' : CM} {σ σ' : Mut} {s s' : Shared} {env : Env} {V : Vars} {n : Nat} {Φ : AV → Mut → Prop} {Θ : Fl → Vars → Mut → Prop} {G M : List (Str × Value)} {i : Int} {wd k : Str}
theorem enter_fn {a : Addr} {name qual : Str} {params : Arguments} {body : List Stmt} {scope : Scope} {dV kV : Value} {bargs : List AV} {names : List Str} {A : Around} {ar : Args} {zs : List Value} {Rr : Result → Shared → Prop} (hB : BaseOK c G M) (hf : FnAt c.B a name qual params body scope dV kV)
    (hlen : names.length = bargs.length)
    (R : Room A (n + 1)) (I : Inv c P C σ s.heap) (rz : RelL c P C bargs zs) (hbz : ∀ doc pm an cdv ct, BindsTo s (W.fnOf name qual params body scope dV kV doc pm an cdv ct) ar (names.zip zs))
    (hkind : ∀ x ∈ names, scope.names.lookup x = some .local ∨ scope.names.lookup x = some .cell)
    (hnod : names.Nodup)
    (h : ∀ doc pm an cdv ct s₁, Room (A.deeper (callEnvC (W.fnOf name qual params body scope dV kV doc pm an cdv ct) s.heap.objs.size a)) n → Step no P C σ s P C σ s₁ → Inv c P C σ s₁.heap →
      Fm c (callEnvC (W.fnOf name qual params body scope dV kV doc pm an cdv ct) s.heap.objs.size a) (names.zip bargs) P C σ s₁.heap →
      (∀ b o, s.heap.get? b = some o → s₁.heap.get? b = some o ∧ ¬ ownF (callEnvC (W.fnOf name qual params body scope dV kV doc pm an cdv ct) s.heap.objs.size a) b) →
      wpAny (model c.prog c.w) (A.deeper (callEnvC (W.fnOf name qual params body scope dV kV doc pm an cdv ct) s.heap.objs.size a)) (execs body (callEnvC (W.fnOf name qual params body scope dV kV doc pm an cdv ct) s.heap.objs.size a))
        (fun f s' => Rr (.ok (.ret (match f with | .ret v => v | _ => .none))) s') (fun _ _ => False) s₁)
    (hco : scope.isCoroutine = false := by rfl) (hgen : scope.isGenerator = false := by rfl) (hk : scope.kind = .function := by rfl) : codeAny (model c.prog c.w) A (.call (.ref a) ar) Rr s := by
  obtain ⟨o, doc, pm, an, cdv, ct, ho, hdat, hcr⟩ := hf
  have hxs : zs.length = names.length := by rw [hlen, rz.length]
  have hsome : ∀ x, scope.names.lookup x = some .cell → ((cellsFrom (s.heap.objs.size + 1) scope.names []).lookup x).isSome = true := fun x hx => W.cellsFrom_some _ _ _ (.inl hx)
  refine codeAny_call_function R.depth (I.base _ _ ho) hdat hco hgen rfl (hcr.keeps I.base) (hbz doc pm an cdv ct _ _ _ _ (wpAny_newFunctionEnv_cells hk (fun x hx => ?_) fun env he s₁ IC => ?_))
  · have := hkind x.1 (List.of_mem_zip hx).1
    exact this.imp id fun e => ⟨e, hsome _ e⟩
  · subst he
    change InCallC s (callEnvC (W.fnOf name qual params body scope dV kV doc pm an cdv ct) s.heap.objs.size a).locals (bindL (callEnvC (W.fnOf name qual params body scope dV kV doc pm an cdv ct) s.heap.objs.size a).kindOf (names.zip zs) fun _ => none) (callEnvC (W.fnOf name qual params body scope dV kV doc pm an cdv ct) s.heap.objs.size a).cells (bindC (callEnvC (W.fnOf name qual params body scope dV kV doc pm an cdv ct) s.heap.objs.size a).kindOf (names.zip zs) fun _ => none) s₁ at IC
    refine ⟨(hB.lim.keeps I.base).keeps IC.toInCall.keep, codeAny_func ?_⟩
    obtain ⟨h₁, tk, e⟩ := IC.toInCall.same
    have st : Step no P C σ s P C σ s₁ := by
      subst e
      exact ⟨.rfl, .rfl, fun b o hb _ h1 h2 h3 => ⟨IC.toInCall.keep b o hb, h1, h2, h3⟩, fun b o hb _ => ⟨o, IC.toInCall.keep b o hb⟩, .refl _, .refl _, .refl _⟩
    have I1 : Inv c P C σ s₁.heap := I.keeps fun b o hb _ => IC.toInCall.keep b o hb
    have fr : ∀ b, s.heap.objs.size ≤ b → P b = none ∧ C b = none ∧ σ b = none := fun b hb => by
      refine ⟨?_, ?_, ?_⟩
      · cases q : P b with
        | none => rfl
        | some o => exact absurd (Heap.lt_size (I.per b o q)) (Nat.not_lt.mpr hb)
      · cases q : C b with
        | none => rfl
        | some o => exact absurd (I.cch b o q).lt (Nat.not_lt.mpr hb)
      · cases q : σ b with
        | none => rfl
        | some vs => obtain ⟨its, ⟨k, ho⟩, _⟩ := I.own b vs q; exact absurd (Heap.lt_size ho) (Nat.not_lt.mpr hb)
    have hcell : ∀ x k, (callEnvC (W.fnOf name qual params body scope dV kV doc pm an cdv ct) s.heap.objs.size a).cells.lookup x = some k → s.heap.objs.size < k := fun x k hk => IC.above x k (mem_of_lookup hk)
    have F1 : Fm c (callEnvC (W.fnOf name qual params body scope dV kV doc pm an cdv ct) s.heap.objs.size a) (names.zip bargs) P C σ s₁.heap := by
      refine ⟨hk, fun x v hv => ?_, ⟨_, IC.toInCall.ns⟩, fun x k hk => ?_, fr _ (Nat.le_refl _), fun x k hk => ?_, fun x y k hx hy => name_of_addr IC.apart (mem_of_lookup hx) (mem_of_lookup hy), rfl, rfl⟩
      · obtain ⟨y, hy, ry⟩ := zip_lookup rz hv
        have hrev : (names.zip zs).reverse.lookup x = some y := by
          rw [lookup_rev (by rw [List.map_fst_zip (by omega)]; exact hnod)]
          exact hy
        refine ⟨y, ry, ?_⟩
        have hm := (List.of_mem_zip (mem_of_lookup hy)).1
        rcases hkind x hm with hl | hl
        · exact .inl ⟨hl, _, IC.toInCall.ns, (bindL_at (k := (callEnvC (W.fnOf name qual params body scope dV kV doc pm an cdv ct) s.heap.objs.size a).kindOf) hl _ _).trans (by rw [hrev]; rfl)⟩
        · obtain ⟨k, hk⟩ := Option.isSome_iff_exists.mp (hsome x hl)
          refine .inr ⟨hl, k, hk, ?_⟩
          have := IC.cell x k hk
          rw [bindC_at (k := (callEnvC (W.fnOf name qual params body scope dV kV doc pm an cdv ct) s.heap.objs.size a).kindOf) hl, hrev] at this
          exact this
      · exact ⟨_, IC.cell x k hk⟩
      · have := hcell x k hk
        exact ⟨(fr k (by omega)).1, (fr k (by omega)).2.1, (fr k (by omega)).2.2, Nat.ne_of_gt this⟩
    have hnew : ∀ b o, s.heap.get? b = some o → ¬ ownF (callEnvC (W.fnOf name qual params body scope dV kV doc pm an cdv ct) s.heap.objs.size a) b := fun b o hb hx => by
      have hlt := Heap.lt_size hb
      rcases hx with e | ⟨x, hx⟩
      · exact absurd (e : b = s.heap.objs.size) (Nat.ne_of_lt hlt)
      · have := hcell x b hx
        exact absurd hlt (Nat.not_lt.mpr (Nat.le_of_lt this))
    exact wpAny_mono (h doc pm an cdv ct s₁ R.deeper st I1 F1 fun b o hb => ⟨IC.toInCall.keep b o hb, hnew b o hb⟩) (fun _ _ y => y) fun _ _ y => y.elim
theorem Room.make {A : Around} {C : Addr} {vals : List Value} (x : Room A (n + 1)) : Room (A.under (.builtin "type.__call__" ⟨.ref C :: vals, []⟩)) n :=
  ⟨by rw [depth_under_make]; have := x.dep; omega, by
    have h1 : (A.under (.builtin "type.__call__" ⟨.ref C :: vals, []⟩)).units = A.units + 1 := rfl
    rw [h1]; have := x.uni; omega, x.han⟩
/-- a foreign object taken into what is kept -/
theorem Inv.adopt {a : Addr} {o : Obj} (I : Inv c P C σ s.heap) (ho : s.heap.get? a = some o) (h1 : P a = none) (h2 : C a = none) (h3 : σ a = none) : Inv c (upd P a o) C σ s.heap := by
  have hle : LeP P (upd P a o) := fun b x hb => (upd_ne (fun e => by rw [e, h1] at hb; cases hb)).trans hb
  exact { bs := fun b x h => hle _ _ (I.bs b x h)
          per := fun b x h => by
            by_cases e : b = a
            · subst e; rw [upd_self] at h; cases h; exact ho
            · rw [upd_ne e] at h; exact I.per b x h
          cch := I.cch
          own := fun b vs h => let ⟨its, h1, h2⟩ := I.own b vs h; ⟨its, h1, h2.mono hle .rfl⟩
          dPC := fun b x h => by
            by_cases e : b = a
            · subst e; exact ⟨h2, h3⟩
            · rw [upd_ne e] at h; exact I.dPC b x h
          dC := I.dC }
/-- an object that is being made -/
structure Und (c : Cfg) (env : Env) (V : Vars) (P : PM) (C : CM) (σ : Mut) (s0 : Shared) (x dx : Addr) (mA : Str → Option Value) (P1 : PM) (C1 : CM) (s1 : Shared) : Prop where
  st : Step (fun b => ownF env b ∨ b = x ∨ b = dx) P C σ s0 P1 C1 σ s1
  inv : Inv c P1 C1 σ s1.heap
  fm : Fm c env V P1 C1 σ s1.heap
  ins : s1.heap.Inst x 137 mA
  ox : ∃ o, s1.heap.get? x = some o ∧ o.dict = some dx
  fx : P1 x = none ∧ C1 x = none ∧ σ x = none
  fd : P1 dx = none ∧ C1 dx = none ∧ σ dx = none
  nx : ¬ ownF env x
  nd : ¬ ownF env dx
theorem Und.dobj {s0 s1 : Shared} {x dx : Addr} {mA : Str → Option Value} {P1 : PM} {C1 : CM} (U : Und c env V P C σ s0 x dx mA P1 C1 s1) : ∃ o od, s1.heap.get? x = some o ∧ o.dict = some dx ∧ s1.heap.get? dx = some od ∧ dx ≠ x := by
  obtain ⟨o, ho, hd⟩ := U.ox
  obtain ⟨o', ho', _, _, hh⟩ := U.ins
  rw [ho] at ho'; cases ho'
  rcases hh with ⟨h1, _⟩ | ⟨d, h1, h2, od, _, _, h3, _⟩
  · rw [hd] at h1; cases h1
  · rw [hd] at h1; cases h1
    exact ⟨o, od, ho, hd, h3, h2⟩
theorem Und.eval {s0 s1 s2 : Shared} {x dx : Addr} {mA : Str → Option Value} {P1 P2 : PM} {C1 C2 : CM} (U : Und c env V P C σ s0 x dx mA P1 C1 s1) (st : Step (onlyL env) P1 C1 σ s1 P2 C2 σ s2) (I : Inv c P2 C2 σ s2.heap) (F : Fm c env V P2 C2 σ s2.heap) : Und c env V P C σ s0 x dx mA P2 C2 s2 := by
  obtain ⟨o, od, h1, h2, h3, h4⟩ := U.dobj
  have kx := st.frn x o h1 (fun e => U.nx (.inl e)) U.fx.1 U.fx.2.1 U.fx.2.2
  have kd := st.frn dx od h3 (fun e => U.nd (.inl e)) U.fd.1 U.fd.2.1 U.fd.2.2
  exact ⟨U.st.trans (st.wide fun b e => .inl (.inl e)), I, F, Inst.of_two U.ins h1 h2 h3 kx.1 kd.1, ⟨o, kx.1, h2⟩, kx.2, kd.2, U.nx, U.nd⟩
theorem init_stmt {s0 s1 : Shared} {x dx : Addr} {mA : Str → Option Value} {P1 : PM} {C1 : CM} {self attr : Str} {p1 p2 pos : Pos} {e : Expr} {v : AV} {ns : List Str} {A : Around} {Q : Flow → Shared → Prop} {E : Value → Shared → Prop} (K : IgCls c) (R : Room A n)
    (U : Und c env V P C σ s0 x dx mA P1 C1 s1) (hself : V.lookup self = some (.ref x)) (he : EX c n env V σ e fun u σ1 => u = v ∧ σ1 = σ) (hn : attr ∈ [sT "_mods", sT "_dirs", sT "_ignore"]) (hB : typeLookup (.type "object") attr = pure Option.none) (hw : Within mA ns) (hsz : ns.length ≤ sizeLine)
    (q : ∀ P2 C2 s2 y, LeP P1 P2 → LeC C1 C2 → Und c env V P C σ s0 x dx (fun k => if k = attr then some y else mA k) P2 C2 s2 → Rel c P2 C2 v y → Q .next s2)
    (hd : (self == ("__debug__" : Str)) = false := by rfl) (hs : swapsWith e (some (.Attribute (.Name self p1) attr p2)) pos.line env = pure false := by rfl) :
    wpAny (model c.prog c.w) A (exec (.Assign [.Attribute (.Name self p1) attr p2] e pos) env) Q E s1 := by
  refine plainObj_wpAny_Assign_Attribute (he A R P1 C1 s1 _ E U.inv U.fm fun P2 C2 σ2 u y s2 st2 I2 F2 ry hu => ?_) hs
  obtain ⟨rfl, hσ⟩ := hu
  cases hσ
  have U2 := U.eval st2 I2 F2
  obtain ⟨vx, hvx, hax⟩ := F2.var self _ hself
  cases hvx
  refine wpAny_Name (loadVar F2 hax ?_) hd
  obtain ⟨nm, qn, bs, sn, sub, col, dd, k0, k1, k2, k3, k5, hC⟩ := K.cls
  obtain ⟨mN, hN, _, _, hno⟩ := K.ns
  have h1 := hno attr (by simp only [List.mem_cons, List.not_mem_nil, or_false] at hn ⊢; rcases hn with e | e | e <;> simp [e])
  have h2 := hno (sT "__setattr__") (by simp)
  have hxC : x ≠ 137 := fun e => by
    have := I2.bs 137 _ hC
    rw [← e, U2.fx.1] at this; cases this
  obtain ⟨o, od, g1, g2, g3, g4⟩ := U2.dobj
  have key : ∀ (Q' : Unit → Shared → Prop), (∀ h' tk', h'.Inst x 137 (fun k => if k = attr then some y else mA k) → (∀ b o, b ≠ x → b ≠ dx → s2.heap.get? b = some o → h'.get? b = some o) → (∃ o₁, h'.get? x = some o₁ ∧ o₁.dict = some dx) → (∃ o₁, h'.get? dx = some o₁) → Q' () { s2 with heap := h', toks := tk' }) →
      wpAny (model c.prog c.w) A (setAttr (.ref x) attr y) Q' E s2 := fun Q' hq => by
    obtain ⟨hh, gg, dr, t, os⟩ := s2
    refine store_attr PySem.F.store_object (I2.base _ _ hC) (hN.keeps I2.base) h2 h1 hB hxC U2.ins (fun h' tk' I' hk hsame => ?_) hw hsz
    obtain ⟨o₁, e₁, _, _, _, dk⟩ := hsame o g1
    refine hq h' tk' I' (fun b ob hb1 hb2 hb => hk b ob hb1 (fun o₀ d' e₀ ed => by rw [g1] at e₀; cases e₀; rw [g2] at ed; cases ed; exact hb2) hb) ⟨o₁, e₁, dk dx g2⟩ ?_
    obtain ⟨o', e', _, _, hd'⟩ := I'
    rw [e₁] at e'; cases e'
    rcases hd' with ⟨hn0, _⟩ | ⟨d', hd', _, odd, _, _, e3, _⟩
    · rw [dk dx g2] at hn0; cases hn0
    · rw [dk dx g2] at hd'; cases hd'
      exact ⟨odd, e3⟩
  refine key _ fun h' tk' I' hk hx' hd' => ?_
  have notell : ∀ b, (P2 b ≠ none ∨ C2 b ≠ none ∨ σ b ≠ none) → b ≠ x ∧ b ≠ dx := fun b hb => by
    constructor
    · rintro rfl; rcases hb with hb | hb | hb
      · exact hb U2.fx.1
      · exact hb U2.fx.2.1
      · exact hb U2.fx.2.2
    · rintro rfl; rcases hb with hb | hb | hb
      · exact hb U2.fd.1
      · exact hb U2.fd.2.1
      · exact hb U2.fd.2.2
  refine q P2 C2 { s2 with heap := h', toks := tk' } y st2.pm st2.cm ⟨?_, ?_, ?_, I', hx', U2.fx, U2.fd, U2.nx, U2.nd⟩ ry
  · refine U2.st.trans ⟨.rfl, .rfl, fun b ob hb hx h1 h2 h3 => ⟨hk b ob (fun e => hx (.inr (.inl e))) (fun e => hx (.inr (.inr e))) hb, h1, h2, h3⟩, fun b ob hb hx => ⟨ob, hk b ob (fun e => hx (.inr (.inl e))) (fun e => hx (.inr (.inr e))) hb⟩, .refl _, .refl _, .refl _⟩
  · exact I2.keeps fun b ob hb hq => hk b ob (notell b hq).1 (notell b hq).2 hb
  · exact F2.keeps fun b hb ob hob => hk b ob (fun e => U2.nx (e ▸ hb)) (fun e => U2.nd (e ▸ hb)) hob
end
end Mine
end
section
open PySem PyProof.Rows PySem.Calls PySem.SeqAt
namespace Mine
section
variable {c : Cfg} {P P' : PM} {C C' : CM} {σ σ' : Mut} {s s' : Shared} {env : Env} {V : Vars} {n : Nat} {Φ : AV → Mut → Prop} {Θ : Fl → Vars → Mut → Prop} {G M : List (Str × Value)} {i : Int} {wd k : Str}
theorem strs_at : ∀ {xs : List Value} {ss : List Str}, StrsAre xs ss → ∀ {j : Nat} {x : Str}, ss[j]? = some x → ∃ t, xs[j]? = some (.str x t)
  | _, _, .nil, j, x, h => by simp at h
  | _, _, .cons a t _, 0, x, h => by simp at h; subst h; exact ⟨t, rfl⟩
  | _, _, .cons a t r, j + 1, x, h => by simpa using strs_at r (j := j) (by simpa using h)
theorem index_ss {ss : List Str} {x : Str} {j : Nat} (hj : ss[j]? = some x) (hno : ∀ m, m < j → ss[m]? ≠ some x) (hz : ss.length < 100000) (h : Φ (.int (j : Nat)) σ) : OX c n [.lst (ss.map stV), .str x] σ (fun xs => call (.builtin "list.index") xs) Φ := OXc2 fun A R P C s v y Q E I r1 r2 q => by
  cases r2
  rename_i t
  cases r1 with
  | lst hp hr =>
    rename_i a its m
    have hS := relL_strs hr
    have hlen := hr.length
    rw [List.length_map] at hlen
    have hlt := (List.getElem?_eq_some_iff.mp hj).1
    refine call_meets PySem.F.slot_list_index ⟨_, I.per _ _ hp, rfl⟩ PySem.F.entry_list_index (PySem.F.args_list_index_2 _ _)
      (list_indexAt a its.toArray m none #[] (.str x t) (isStrOf x) j (by simp; omega) (by omega) ?_ ?_) ⟨I.per _ _ hp, fun y hy => (eq_isStrOf x t hS y (by simpa using hy)).at _ _, q P C σ _ _ _ (.tok _) I .int h⟩
    · obtain ⟨u, hu⟩ := strs_at hS hj
      have : its.toArray[j]'(by simp; omega) = .str x u := by
        have := List.getElem?_eq_some_iff.mp hu
        simpa using this.2
      rw [this]; simp [isStrOf]
    · intro m' hm hlt'
      have hm' : m' < ss.length := by simp at hm; omega
      obtain ⟨z, hz'⟩ : ∃ z, ss[m']? = some z := ⟨_, List.getElem?_eq_getElem hm'⟩
      obtain ⟨u, hu⟩ := strs_at hS hz'
      have : its.toArray[m']'hm = .str z u := by
        have := List.getElem?_eq_some_iff.mp hu
        simpa using this.2
      rw [this]
      have hne : z ≠ x := fun e => hno m' hlt' (e ▸ hz')
      simp [isStrOf, hne]
/-! lists of strings and of numbers as data -/
theorem dataL_s : ∀ xs : List Str, DataRL (xs.map stV) (xs.map PyData.str)
  | [] => .nil
  | p :: r => .cons .str (dataL_s r)
theorem canLay_ss : ∀ {xs : List Str}, xs.all PyData.strOk = true → PyData.canLayAll0 (xs.map PyData.str) = true
  | [], _ => rfl
  | p :: r, h => by
    rw [List.all_cons, Bool.and_eq_true] at h
    have := canLay_ss h.2
    have h1 := h.1
    simp [PyData.canLayAll0, PyData.canLay0, h1, this]
theorem depth_ss : ∀ xs : List Str, PyData.depthAll (xs.map PyData.str) ≤ 1
  | [] => Nat.zero_le _
  | p :: r => by
    have := depth_ss r
    simp only [List.map_cons, PyData.depthAll, PyData.depth]
    omega
theorem shaped_ss {xs : List Str} (h : xs.all PyData.strOk = true) : shaped (.list (xs.map PyData.str)) = true := by
  have := depth_ss xs
  have e : decide (PyData.depthAll (xs.map PyData.str) + 1 ≤ 64) = true := decide_eq_true (by omega)
  simp only [shaped, PyData.canLay0, canLay_ss h, PyData.depth, Bool.true_and]
  exact e
theorem eqv_ss : ∀ xs ys : List Str, PyData.eqvAll (xs.map PyData.str) (ys.map PyData.str) = decide (xs = ys)
  | [], [] => by simp [PyData.eqvAll]
  | [], _ :: _ => by simp [PyData.eqvAll]
  | _ :: _, [] => by simp [PyData.eqvAll]
  | p :: xs, q :: ys => by
    rw [List.map_cons, List.map_cons, PyData.eqvAll, eqv_ss xs ys, PyData.eqv]
    by_cases h1 : p = q <;> by_cases h2 : xs = ys <;> simp [h1, h2]
theorem ne_strs {xs ys : List Str} (hx : xs.all PyData.strOk = true) (hy : ys.all PyData.strOk = true) (h : Φ (.bool (!decide (xs = ys))) σ) : Cmp c n .NotEq (.lst (xs.map stV)) (.lst (ys.map stV)) σ Φ :=
  ne_dd (.lst (dataL_s xs)) (.lst (dataL_s ys)) (shaped_ss hx) (shaped_ss hy) (by rw [PyData.eqv, eqv_ss]; exact h)
end
end Mine
end
section
open PySem PyProof.Rows PySem.Calls PySem.SeqAt
namespace Mine
section
variable {c : Cfg} {P P' : PM} {C C' : CM} {σ σ' : Mut} {s s' : Shared} {env : Env} {V : Vars} {n : Nat} {Φ : AV → Mut → Prop} {Θ : Fl → Vars → Mut → Prop} {G M : List (Str × Value)} {i : Int} {wd k : Str}
theorem slice_tail (a : Nat) (y : Str) : Txt.slice (Str.mk #[a] ++ y) (some 1) none = y := by
  obtain ⟨ys⟩ := y
  have hl : (Str.mk #[a] ++ Str.mk ys).cps.toList = a :: ys.toList := by
    show (#[a] ++ ys).toList = _
    simp
  refine (StrLaws.sliceText_from (x := Str.mk #[a] ++ Str.mk ys) (i := 1) ?_).trans ?_
  · rw [hl]; simp; omega
  · rw [hl]
    have : ((((a :: ys.toList).length : Nat) : Int) - 1).toNat = ys.toList.length := by simp
    rw [this, show (1 : Int).toNat = 1 from rfl, List.drop_succ_cons, List.drop_zero, List.take_of_length_le (Nat.le_refl _)]
theorem EX_SliceFrom {value e : Expr} {pos ps : Pos} (h : EX c n env V σ value fun v σ1 => EX c n env V σ1 e fun iv σ2 => ∃ x i, v = .str x ∧ iv = .int i ∧ x.length < 100000 ∧ Φ (.str (Txt.slice x (some i) none)) σ2)
    (hs : ∀ (x : Str) (t : Tok) (a : Addr), subscripted (.Slice (some e) none none ps) false (.str x t) (.ref a) = operate [.ref a, .str x t] (getItem (.str x t) (.ref a)) := by intro _ _ _; rfl)
    (ht : ∀ (x : Str) (t : Tok) r, letTemporaryGo value (.str x t) r = pure () := by intro _ _ _; with_unfolding_all rfl) :
    EX c n env V σ (.Subscript value (.Slice (some e) none none ps) pos) Φ :=
  fun A R P C s Q E I F q => Subscript_ (h A R P C s _ E I F fun P1 C1 σ1 a x s1 st1 I1 F1 ra h1 => wpAny_Slice (wpAny_evalPart_some (h1 A R P1 C1 s1 _ E I1 F1 fun P2 C2 σ2 b y s2 st2 I2 F2 rb h2 => wpAny_evalPart_none (wpAny_evalPart_none (by
    obtain ⟨x, i, rfl, rfl, hz, hΦ⟩ := h2
    have ra2 := ra.mono st2.pm st2.cm
    cases ra2
    rename_i t
    cases rb
    rename_i u
    refine tail_of_ItemOn (PySem.SBH.sliceItem_sn (P := fun h => ∀ b o, s2.heap.get? b = some o → h.get? b = some o) (fun h ob hh b o hb => Heap.get?_push_of_some _ (hh b o hb)) (fun b o hb => hb) (fun h' t' k kk => ?_) (by show _ ≤ 2 ^ 24; omega)) (hs _ _ _) (ht _ _)
    exact ((q.after (st1.trans st2)).ofV F2) P2 C2 σ2 _ _ { s2 with heap := h', toks := k } (.grow kk) (I2.grow kk) .str hΦ)))))
/-! lists of numbers as data -/
theorem dataL_n : ∀ xs : List Nat, DataRL (xs.map fun k : Nat => AV.int (k : Int)) (xs.map fun k : Nat => PyData.int (k : Int))
  | [] => .nil
  | p :: r => .cons .int (dataL_n r)
theorem canLay_ns : ∀ {xs : List Nat}, PyData.canLayAll0 (xs.map fun k : Nat => PyData.int (k : Int)) = true
  | [] => rfl
  | p :: r => by
    have := canLay_ns (xs := r)
    simp [PyData.canLayAll0, PyData.canLay0, this]
theorem depth_ns : ∀ xs : List Nat, PyData.depthAll (xs.map fun k : Nat => PyData.int (k : Int)) ≤ 1
  | [] => Nat.zero_le _
  | p :: r => by
    have := depth_ns r
    simp only [List.map_cons, PyData.depthAll, PyData.depth]
    omega
theorem shaped_ns {xs : List Nat} : shaped (.list (xs.map fun k : Nat => PyData.int (k : Int))) = true := by
  have := depth_ns xs
  have e : decide (PyData.depthAll (xs.map fun k : Nat => PyData.int (k : Int)) + 1 ≤ 64) = true := decide_eq_true (by omega)
  simp only [shaped, PyData.canLay0, canLay_ns, PyData.depth, Bool.true_and]
  exact e
theorem eqv_ns : ∀ xs ys : List Nat, PyData.eqvAll (xs.map fun k : Nat => PyData.int (k : Int)) (ys.map fun k : Nat => PyData.int (k : Int)) = decide (xs = ys)
  | [], [] => by simp [PyData.eqvAll]
  | [], _ :: _ => by simp [PyData.eqvAll]
  | _ :: _, [] => by simp [PyData.eqvAll]
  | p :: xs, q :: ys => by
    rw [List.map_cons, List.map_cons, PyData.eqvAll, eqv_ns xs ys, PyData.eqv]
    by_cases h1 : p = q
    · subst h1; by_cases h2 : xs = ys <;> simp [h2]
    · have : ¬ (p : Int) = (q : Int) := by omega
      by_cases h2 : xs = ys <;> simp [h1, h2, this]
theorem eq_ns {xs ys : List Nat} (h : Φ (.bool (decide (xs = ys))) σ) : Cmp c n .Eq (.lst (xs.map fun k : Nat => AV.int (k : Int))) (.lst (ys.map fun k : Nat => AV.int (k : Int))) σ Φ :=
  eq_dd (.lst (dataL_n xs)) (.lst (dataL_n ys)) shaped_ns shaped_ns (by rw [PyData.eqv, eqv_ns]; exact h)
theorem ne_ns {xs ys : List Nat} (h : Φ (.bool (!decide (xs = ys))) σ) : Cmp c n .NotEq (.lst (xs.map fun k : Nat => AV.int (k : Int))) (.lst (ys.map fun k : Nat => AV.int (k : Int))) σ Φ :=
  ne_dd (.lst (dataL_n xs)) (.lst (dataL_n ys)) shaped_ns shaped_ns (by rw [PyData.eqv, eqv_ns]; exact h)
end
end Mine
end
section
open PySem PyProof.Rows PySem.Calls
namespace Mine
/-- the sift towards the top, plainly -/
def sdP : Nat → Wd → Nat → List Wd → List Wd
  | 0, new, pos, xs => xs.set pos new
  | f + 1, new, pos, xs => if pos = 0 then xs.set pos new else
      match xs[(pos - 1) / 2]? with
      | some par => if wdLt new par then sdP f new ((pos - 1) / 2) (xs.set pos par) else xs.set pos new
      | none => xs.set pos new
section
variable {c : Cfg} {σ : Mut} {n : Nat} {G M : List (Str × Value)}
set_option maxRecDepth 10000 in
theorem siftdown_ok (hB : BaseOK c G M) (hf : FnAt c.B 42 (sT "_siftdown") (sT "_siftdown") (paramsOf 4) (bodyOf 4) (scopeOf 4) .none .none)
    {h : Addr} {xs : List Wd} {pos : Nat} {new : Wd} (hσ : σ h = some (xs.map wdV)) (hx : xs[pos]? = some new) (hlen : xs.length < 1000) :
    CX c (n + 1) 42 [.ref h, .int 0, .int pos] [] [] σ fun v σ' => v = .none ∧ σ' = upd σ h ((sdP pos new pos xs).map wdV) := by
  refine CX_fn (names := [sT "heap", sT "startpos", sT "pos"]) hB hf rfl ?_ ?_ ?_ ?_
  · intro doc pm an cdv ct ys hy
    match ys, hy with
    | [a, b, d], _ => rfl
  · decide
  · decide
  · intro L doc pm an cdv ct
    have hpos : pos < xs.length := (List.getElem?_eq_some_iff.mp hx).1
    refine FX_cons (FX_Assign (EX_Sub (EX_var rfl (EX_var rfl (sub_li (u := wdV new) (.own hσ) (by omega) (by simp [hx]) (by simp; omega) ?_)))))
    refine FX_consI (fun V2 σ2 => ∃ (k : Nat) (ys : List Wd), V2.lookup (sT "newitem") = some (wdV new) ∧ V2.lookup (sT "heap") = some (.ref h) ∧ V2.lookup (sT "pos") = some (.int k) ∧ k < ys.length ∧ ys.length = xs.length ∧ ys.set k new = sdP pos new pos xs ∧ σ2 = upd σ h (ys.map wdV)) (FX_WhileN (ι := Nat × Nat × List Wd) (fun i => [(sT "newitem", wdV new), (sT "pos", .int i.1), (sT "startpos", .int 0), (sT "heap", .ref h)])
      (fun i σ' => i.1 ≤ i.2.1 ∧ i.1 < i.2.2.length ∧ i.2.2.length = xs.length ∧ σ' = upd σ h (i.2.2.map wdV) ∧ sdP i.2.1 new i.1 i.2.2 = sdP pos new pos xs) (fun i => i.1) (pos, pos, xs) ?_ ⟨Nat.le_refl _, hpos, rfl, (upd_id hσ).symm, rfl⟩ ?_) ?_
    · intro p hp
      simp only [List.mem_cons, List.not_mem_nil, or_false] at hp
      rcases hp with rfl | rfl | rfl | rfl <;> rfl
    · rintro ⟨k, f, ys⟩ σ' ⟨h1, h2, h3, rfl, h5⟩
      simp only at h1 h2 h3 h5 ⊢
      refine BX_Compare (EX_var rfl (EX_var rfl (gt_ii ⟨_, rfl, ?_⟩)))
      by_cases hk : 0 < k
      · rw [if_pos (by simp; omega)]
        have hpp : (k - 1) / 2 < ys.length := by omega
        obtain ⟨par, hpar⟩ : ∃ par, ys[(k - 1) / 2]? = some par := ⟨_, List.getElem?_eq_getElem hpp⟩
        have hshift : ((k : Int) - 1).fdiv (2 ^ (1 : Int).toNat) = (((k - 1) / 2 : Nat) : Int) := by
          rw [show ((k : Int) - 1) = ((k - 1 : Nat) : Int) by omega]
          rw [Int.fdiv_eq_ediv_of_nonneg _ (by decide)]
          simp
        obtain ⟨f', rfl⟩ : ∃ f', f = f' + 1 := ⟨f - 1, by omega⟩
        rw [sdP, if_neg (by omega), hpar] at h5
        simp only at h5
        refine FX_cons (FX_Assign (EX_BinOp (EX_BinOp (EX_var rfl (EX_int (sub_ii (EX_int (shr_ii (by decide) ?_))))))))
        rw [hshift]
        refine FX_cons (FX_Assign (EX_Sub (EX_var rfl (EX_var rfl (sub_li (u := wdV par) (.own upd_self) (by omega) (by rw [Int.toNat_natCast, List.getElem?_map, hpar]; rfl) (by simp; omega) ?_)))))
        refine FX_cons (FX_If (BX_Compare (EX_var rfl (EX_var rfl (lt_ww ⟨_, rfl, ?_⟩)))))
        cases hlt : wdLt new par with
        | true =>
          rw [hlt] at h5
          rw [if_pos rfl]
          refine FX_cons (FX_AssignSub (EX_var rfl (EX_var rfl (EX_var rfl (set_oi (upd_self) (by omega) (by simp; omega) (by simp; omega) ?_)))))
          refine FX_cons (FX_Assign (EX_var rfl ?_))
          refine FX_cons (FX_Continue ?_)
          refine ⟨((k - 1) / 2, f', ys.set k par), by show (k - 1) / 2 < k; omega, ⟨by show (k - 1) / 2 ≤ f'; omega, by simp; omega, by simp; omega, ?_, by simpa using h5⟩, ?_⟩
          · rw [upd_upd]; simp
          · intro p hp
            simp only [List.mem_cons, List.not_mem_nil, or_false] at hp
            rcases hp with rfl | rfl | rfl | rfl <;> rfl
        | false =>
          rw [hlt] at h5
          rw [if_neg (by decide)]
          refine FX_nil ?_
          refine FX_cons (FX_Break ?_)
          exact ⟨k, ys, rfl, rfl, rfl, h2, h3, by simpa using h5, rfl⟩
      · rw [if_neg (by simp; omega)]
        have hk0 : k = 0 := by omega
        subst hk0
        have : sdP f new 0 ys = ys.set 0 new := by cases f <;> simp [sdP]
        exact ⟨0, ys, rfl, rfl, rfl, h2, h3, this ▸ h5, rfl⟩
    · rintro V2 σ2 ⟨k, ys, l1, l2, l3, hk, hl, he, rfl⟩
      refine FX_cons (FX_AssignSub (EX_var l1 (EX_var l2 (EX_var l3 (set_oi (upd_self) (by omega) (by simp; omega) (by simp; omega) ?_)))))
      refine FX_nil ⟨rfl, ?_⟩
      rw [upd_upd, ← he]
      simp
end
end Mine
end
section
open PySem PyProof.Rows PySem.Calls
namespace Mine
/-- the names of the text that are called, and of the built-ins -/
def Gs : List (Str × Value) := [(sT "heappush", .ref 28), (sT "heapreplace", .ref 35), (sT "_siftdown", .ref 42), (sT "_siftup", .ref 49)]
/-- where the lesser child stands, the hole moved there -/
def suP : Nat → Nat → List Wd → Nat × List Wd
  | 0, pos, xs => (pos, xs)
  | f + 1, pos, xs =>
    match xs[2 * pos + 1]? with
    | none => (pos, xs)
    | some l =>
      match xs[2 * pos + 2]? with
      | none => suP f (2 * pos + 1) (xs.set pos l)
      | some r => if wdLt l r then suP f (2 * pos + 1) (xs.set pos l) else suP f (2 * pos + 2) (xs.set pos r)
def siftup (xs : List Wd) : List Wd := match xs with
  | [] => []
  | new :: _ => let r := suP xs.length 0 xs; sdP r.1 new r.1 (r.2.set r.1 new)
theorem suP_spec : ∀ (f pos : Nat) (xs : List Wd), pos < xs.length → (suP f pos xs).2.length = xs.length ∧ (suP f pos xs).1 < xs.length
  | 0, pos, xs, h => ⟨rfl, h⟩
  | f + 1, pos, xs, h => by
    unfold suP
    split
    · exact ⟨rfl, h⟩
    · rename_i l hl
      have h1 := (List.getElem?_eq_some_iff.mp hl).1
      split
      · have := suP_spec f (2 * pos + 1) (xs.set pos l) (by simpa using h1)
        simpa using this
      · rename_i r hr
        have h2 := (List.getElem?_eq_some_iff.mp hr).1
        split
        · have := suP_spec f (2 * pos + 1) (xs.set pos l) (by simpa using h1)
          simpa using this
        · have := suP_spec f (2 * pos + 2) (xs.set pos r) (by simpa using h2)
          simpa using this
section
variable {c : Cfg} {σ : Mut} {n : Nat} {G M : List (Str × Value)}
set_option maxRecDepth 10000 in
theorem siftup_ok (hB : BaseOK c G M) (hG : G.lookup (sT "_siftdown") = some (.ref 42)) (hM : M.lookup (sT "len") = some (.builtin "len"))
    (hf4 : FnAt c.B 42 (sT "_siftdown") (sT "_siftdown") (paramsOf 4) (bodyOf 4) (scopeOf 4) .none .none) (hf5 : FnAt c.B 49 (sT "_siftup") (sT "_siftup") (paramsOf 5) (bodyOf 5) (scopeOf 5) .none .none)
    {h : Addr} {xs : List Wd} {new : Wd} (hσ : σ h = some (xs.map wdV)) (hx : xs[0]? = some new) (hlen : xs.length < 1000) :
    CX c (n + 2) 49 [.ref h, .int 0] [] [] σ fun v σ' => v = .none ∧ σ' = upd σ h ((siftup xs).map wdV) := by
  refine CX_fn (names := [sT "heap", sT "pos"]) hB hf5 rfl ?_ ?_ ?_ ?_
  · intro doc pm an cdv ct ys hy
    match ys, hy with
    | [a, b], _ => rfl
  · decide
  · decide
  · intro L doc pm an cdv ct
    have hpos : 0 < xs.length := (List.getElem?_eq_some_iff.mp hx).1
    refine FX_cons (FX_Assign (EX_CallB hB hM (LX_cons (EX_var rfl (LX_nil (len_v (.own hσ) (by simp; omega) ?_))))))
    refine FX_cons (FX_Assign (EX_var rfl ?_))
    refine FX_cons (FX_Assign (EX_Sub (EX_var rfl (EX_var rfl (sub_li (u := wdV new) (.own hσ) (by omega) (by simp [hx]) (by simp; omega) ?_)))))
    refine FX_cons (FX_Assign (EX_BinOp (EX_BinOp (EX_int (EX_var rfl (mul_ii (mulOk (by decide)) (EX_int (add_ii ?_))))))))
    refine FX_consI (fun V2 σ2 => ∃ (k : Nat) (ys : List Wd), V2.lookup (sT "newitem") = some (wdV new) ∧ V2.lookup (sT "heap") = some (.ref h) ∧ V2.lookup (sT "pos") = some (.int k) ∧ V2.lookup (sT "startpos") = some (.int 0) ∧ (k, ys) = suP xs.length 0 xs ∧ σ2 = upd σ h (ys.map wdV))
      (FX_WhileN (ι := Nat × Nat × List Wd) (fun i => [(sT "childpos", .int (2 * (i.1 : Int) + 1)), (sT "newitem", wdV new), (sT "pos", .int i.1), (sT "startpos", .int 0), (sT "endpos", .int (xs.map wdV).length), (sT "heap", .ref h)])
      (fun i σ' => i.1 < i.2.2.length ∧ i.2.2.length = xs.length ∧ xs.length ≤ i.1 + i.2.1 ∧ σ' = upd σ h (i.2.2.map wdV) ∧ suP i.2.1 i.1 i.2.2 = suP xs.length 0 xs) (fun i => xs.length - i.1) (0, xs.length, xs) ?_ ⟨hpos, rfl, by simp, (upd_id hσ).symm, rfl⟩ ?_) ?_
    · intro p hp
      simp only [List.mem_cons, List.not_mem_nil, or_false] at hp
      rcases hp with rfl | rfl | rfl | rfl | rfl | rfl <;> rfl
    · rintro ⟨k, f, ys⟩ σ' ⟨h2, h3, h4, rfl, h5⟩
      simp only at h2 h3 h4 h5 ⊢
      refine BX_Compare (EX_var rfl (EX_var rfl (lt_ii ⟨_, rfl, ?_⟩)))
      by_cases hk : 2 * k + 1 < ys.length
      · rw [if_pos (by simp; omega)]
        obtain ⟨l, hl⟩ : ∃ l, ys[2 * k + 1]? = some l := ⟨_, List.getElem?_eq_getElem hk⟩
        obtain ⟨f', rfl⟩ : ∃ f', f = f' + 1 := ⟨f - 1, by omega⟩
        rw [suP, hl] at h5
        simp only at h5
        refine FX_cons (FX_Assign (EX_BinOp (EX_var rfl (EX_int (add_ii ?_)))))
        -- the lesser child
        refine FX_consI (fun V2 σ2 => ∃ (ch : Nat) (it : Wd), V2.lookup (sT "newitem") = some (wdV new) ∧ V2.lookup (sT "heap") = some (.ref h) ∧ V2.lookup (sT "pos") = some (.int k) ∧ V2.lookup (sT "startpos") = some (.int 0) ∧ V2.lookup (sT "endpos") = some (.int (xs.map wdV).length) ∧
          V2.lookup (sT "childpos") = some (.int ch) ∧ k < ch ∧ ys[ch]? = some it ∧ suP f' ch (ys.set k it) = suP xs.length 0 xs ∧ σ2 = upd σ h (ys.map wdV)) (FX_If (BX_And2 (BX_Compare (EX_var rfl (EX_var rfl (lt_ii ⟨_, rfl, ?_⟩)))))) ?_
        · by_cases hr : 2 * k + 2 < ys.length
          · rw [if_pos (by simp; omega)]
            obtain ⟨r, hr'⟩ : ∃ r, ys[2 * k + 2]? = some r := ⟨_, List.getElem?_eq_getElem hr⟩
            rw [hr'] at h5
            simp only at h5
            refine BX_Not (BX_Compare (EX_Sub (EX_var rfl (EX_var rfl (sub_li (u := wdV l) (.own upd_self) (by omega) (by rw [show (2 * (k : Int) + 1).toNat = 2 * k + 1 by omega, List.getElem?_map, hl]; rfl) (by simp; omega)
              (EX_Sub (EX_var rfl (EX_var rfl (sub_li (u := wdV r) (.own upd_self) (by omega) (by rw [show (2 * (k : Int) + 1 + 1).toNat = 2 * k + 2 by omega, List.getElem?_map, hr']; rfl) (by simp; omega) (lt_ww ⟨_, rfl, ?_⟩))))))))))
            cases hlt : wdLt l r with
            | true =>
              rw [hlt] at h5
              rw [if_neg (by decide)]
              exact FX_nil ⟨2 * k + 1, l, rfl, rfl, rfl, rfl, rfl, rfl, by omega, hl, by simpa using h5, rfl⟩
            | false =>
              rw [hlt] at h5
              rw [if_pos (by decide)]
              refine FX_cons (FX_Assign (EX_var rfl (FX_nil ⟨2 * k + 2, r, rfl, rfl, rfl, rfl, rfl, ?_, by omega, hr', by simpa using h5, rfl⟩)))
              show some (AV.int (2 * (k : Int) + 1 + 1)) = _
              congr 2
          · rw [if_neg (by simp; omega)]
            have hn : ys[2 * k + 2]? = none := List.getElem?_eq_none (by omega)
            rw [hn] at h5
            simp only at h5
            rw [if_neg (by decide)]
            exact FX_nil ⟨2 * k + 1, l, rfl, rfl, rfl, rfl, rfl, rfl, by omega, hl, h5, rfl⟩
        · rintro V2 σ2 ⟨ch, it, l1, l2, l3, l4, l4', l5, hkc, hit, hsu, rfl⟩
          have hch := (List.getElem?_eq_some_iff.mp hit).1
          refine FX_cons (FX_AssignSub (EX_Sub (EX_var l2 (EX_var l5 (sub_li (u := wdV it) (.own upd_self) (by omega) (by rw [Int.toNat_natCast, List.getElem?_map, hit]; rfl) (by simp; omega) (EX_var l2 (EX_var l3 (set_oi (upd_self) (by omega) (by simp; omega) (by simp; omega) ?_))))))))
          refine FX_cons (FX_Assign (EX_var l5 ?_))
          refine FX_cons (FX_Assign (EX_BinOp (EX_BinOp (EX_int (EX_var rfl (mul_ii (mulOk (by decide)) (EX_int (add_ii ?_))))))))
          refine FX_nil ⟨(ch, f', ys.set k it), by show xs.length - ch < xs.length - k; omega, ⟨by simp; omega, by simp; omega, by show xs.length ≤ ch + f'; omega, ?_, hsu⟩, ?_⟩
          · rw [upd_upd]; simp
          · intro p hp
            simp only [List.mem_cons, List.not_mem_nil, or_false] at hp
            rcases hp with rfl | rfl | rfl | rfl | rfl | rfl
            · rfl
            · exact l1
            · rfl
            · exact l4
            · exact l4'
            · exact l2
      · rw [if_neg (by simp; omega)]
        refine ⟨k, ys, rfl, rfl, rfl, rfl, ?_, rfl⟩
        rw [← h5]
        cases f with
        | zero => rfl
        | succ f => rw [suP, List.getElem?_eq_none (by omega)]
    · rintro V2 σ2 ⟨k, ys, l1, l2, l3, l4, hks, rfl⟩
      have sp := suP_spec xs.length 0 xs hpos
      rw [← hks] at sp
      simp only at sp
      refine FX_cons (FX_AssignSub (EX_var l1 (EX_var l2 (EX_var l3 (set_oi (upd_self) (by omega) (by simp; omega) (by simp; omega) ?_)))))
      refine FX_cons (FX_Expr (EX_Call hB hG hf4 (LX_cons (EX_var l2 (LX_cons (EX_var l4 (LX_cons (EX_var l3 (LX_nil ?_)))))))))
      rw [upd_upd, Int.toNat_natCast]
      have e1 : (ys.map wdV).set k (wdV new) = (ys.set k new).map wdV := by simp
      rw [e1]
      refine (siftdown_ok (n := n) (xs := ys.set k new) (pos := k) (new := new) hB hf4 upd_self (by rw [List.getElem?_set_self (by omega)]) (by simp; omega)).mono fun v σ' hv => ?_
      refine FX_nil ⟨rfl, ?_⟩
      rw [hv.2, upd_upd]
      congr 2
      obtain ⟨tl, rfl⟩ : ∃ tl, xs = new :: tl := by
        cases xs with
        | nil => simp at hx
        | cons a tl => simp at hx; exact ⟨tl, by rw [hx]⟩
      rw [siftup, ← hks]
def heappushP (xs : List Wd) (x : Wd) : List Wd := sdP xs.length x xs.length (xs ++ [x])
def heapreplaceP (xs : List Wd) (x : Wd) : List Wd := siftup (xs.set 0 x)
set_option maxRecDepth 10000 in
theorem heappush_ok (hB : BaseOK c G M) (hG : G.lookup (sT "_siftdown") = some (.ref 42)) (hM : M.lookup (sT "len") = some (.builtin "len"))
    (hf4 : FnAt c.B 42 (sT "_siftdown") (sT "_siftdown") (paramsOf 4) (bodyOf 4) (scopeOf 4) .none .none) (hf2 : FnAt c.B 28 (sT "heappush") (sT "heappush") (paramsOf 2) (bodyOf 2) (scopeOf 2) .none .none)
    {h : Addr} {xs : List Wd} {x : Wd} (hσ : σ h = some (xs.map wdV)) (hlen : xs.length < 900) :
    CX c (n + 2) 28 [.ref h, wdV x] [] [] σ fun v σ' => v = .none ∧ σ' = upd σ h ((heappushP xs x).map wdV) := by
  refine CX_fn (names := [sT "heap", sT "item"]) hB hf2 rfl ?_ ?_ ?_ ?_
  · intro doc pm an cdv ct ys hy
    match ys, hy with
    | [a, b], _ => rfl
  · decide
  · decide
  · intro L doc pm an cdv ct
    refine FX_cons (FX_Expr (EX_append (EX_var rfl ⟨h, _, rfl, hσ, EX_var rfl ⟨_, hσ, by simp; omega, ?_⟩⟩)))
    refine FX_cons (FX_Expr (EX_Call hB hG hf4 (LX_cons (EX_var rfl (LX_cons (EX_int (LX_cons (EX_BinOp (EX_CallB hB hM (LX_cons (EX_var rfl (LX_nil (len_v (.own upd_self) (by simp; omega) (EX_int (sub_ii (LX_nil ?_))))))))))))))))
    have e1 : xs.map wdV ++ [wdV x] = (xs ++ [x]).map wdV := by simp
    have e2 : (((xs.map wdV ++ [wdV x]).length : Nat) : Int) - 1 = ((xs.length : Nat) : Int) := by simp
    rw [e2, e1]
    refine (siftdown_ok (n := n) (xs := xs ++ [x]) (pos := xs.length) (new := x) hB hf4 upd_self (by simp) (by simp; omega)).mono fun v σ' hv => ?_
    refine FX_nil ⟨rfl, ?_⟩
    rw [hv.2, upd_upd]
    rfl
set_option maxRecDepth 10000 in
theorem heapreplace_ok (hB : BaseOK c G M) (hG : G.lookup (sT "_siftdown") = some (.ref 42)) (hG5 : G.lookup (sT "_siftup") = some (.ref 49)) (hM : M.lookup (sT "len") = some (.builtin "len"))
    (hf4 : FnAt c.B 42 (sT "_siftdown") (sT "_siftdown") (paramsOf 4) (bodyOf 4) (scopeOf 4) .none .none) (hf5 : FnAt c.B 49 (sT "_siftup") (sT "_siftup") (paramsOf 5) (bodyOf 5) (scopeOf 5) .none .none)
    (hf3 : FnAt c.B 35 (sT "heapreplace") (sT "heapreplace") (paramsOf 3) (bodyOf 3) (scopeOf 3) .none .none)
    {h : Addr} {xs : List Wd} {top x : Wd} (hσ : σ h = some (xs.map wdV)) (hx : xs[0]? = some top) (hlen : xs.length < 900) :
    CX c (n + 3) 35 [.ref h, wdV x] [] [] σ fun v σ' => v = wdV top ∧ σ' = upd σ h ((heapreplaceP xs x).map wdV) := by
  refine CX_fn (names := [sT "heap", sT "item"]) hB hf3 rfl ?_ ?_ ?_ ?_
  · intro doc pm an cdv ct ys hy
    match ys, hy with
    | [a, b], _ => rfl
  · decide
  · decide
  · intro L doc pm an cdv ct
    have hpos : 0 < xs.length := (List.getElem?_eq_some_iff.mp hx).1
    refine FX_cons (FX_Assign (EX_Sub (EX_var rfl (EX_int (sub_li (u := wdV top) (.own hσ) (by omega) (by simp [hx]) (by simp; omega) ?_)))))
    refine FX_cons (FX_AssignSub (EX_var rfl (EX_var rfl (EX_int (set_oi hσ (by omega) (by simp; omega) (by simp; omega) ?_)))))
    have e1 : (xs.map wdV).set (Int.toNat 0) (wdV x) = (xs.set 0 x).map wdV := by simp
    rw [e1]
    refine FX_cons (FX_Expr (EX_Call hB hG5 hf5 (LX_cons (EX_var rfl (LX_cons (EX_int (LX_nil ?_)))))))
    refine (siftup_ok (n := n) (xs := xs.set 0 x) (new := x) hB hG hM hf4 hf5 upd_self (by rw [List.getElem?_set_self hpos]) (by simp; omega)).mono fun v σ' hv => ?_
    refine FX_cons (FX_Return (EX_var rfl ⟨rfl, ?_⟩))
    rw [hv.2, upd_upd]
    rfl
end
end Mine
end
section
open PySem PyProof.Rows PySem.Calls
namespace Mine
/-- the three words with one letter more -/
def grownP (a b : Int) (p : Wd) : List Wd := [(p.1.fdiv (4 + a + b) * 4, p.2 ++ sT ".a"), (p.1.fdiv (4 + a + b) * a, p.2 ++ sT ".aa"), (p.1.fdiv (4 + a + b) * b, p.2 ++ sT ".b")]
def wsV (a b : Int) : AV := .lst [.int 4, .int a, .int b]
section
variable {c : Cfg} {σ : Mut} {n : Nat} {G M : List (Str × Value)}
set_option maxRecDepth 10000 in
theorem grown_ok (hB : BaseOK c G M) (hMs : M.lookup (sT "sum") = some (.builtin "sum")) (hMr : M.lookup (sT "range") = some (.type "range"))
    (hf : FnAt c.B 151 (sT "_law_grown") (sT "_law_grown") (paramsOf 24) (bodyOf 24) (scopeOf 24) .none .none)
    {a b : Int} {p : Wd} (ha : 1 ≤ a ∧ a ≤ 9) (hb : 1 ≤ b ∧ b ≤ 9) (hp : p.2.length < 100) (hw : p.1.natAbs < 2 ^ 60) :
    CX c (n + 1) 151 [wsV a b, wdV p] [] [] σ fun v σ' => v = .lst ((grownP a b p).map wdV) ∧ σ' = σ := by
  refine CX_fn (names := [sT "weights", sT "top"]) hB hf rfl ?_ ?_ ?_ ?_
  · intro doc pm an cdv ct ys hy
    match ys, hy with
    | [a, b], _ => rfl
  · decide
  · decide
  · intro L doc pm an cdv ct
    refine FX_cons (FX_AssignT (EX_var rfl ⟨_, Asg_Tuple2, ?_⟩))
    refine FX_cons (FX_Return (EX_Comp [(sT "word", .str p.2), (sT "weight", .int p.1), (sT "weights", wsV a b)] (EX_CallT hB hMr (LX_cons (EX_int (LX_nil (range1 rfl (by decide) ?_))))) ?_))
    · refine ⟨_, (grownP a b p).map wdV, Iters_rng, by simp [grownP], ?_, ⟨rfl, rfl⟩⟩
      intro L2
      have hS : (4 : Int) + a + b ≠ 0 := by omega
      refine (loop1 (Va := fun u => (sT "k", u) :: [(sT "word", .str p.2), (sT "weight", .int p.1), (sT "weights", wsV a b)]) (f := fun u => match u with | .int k => wdV ((grownP a b p).getD k.toNat (0, sT "")) | _ => .none) ?_ ?_ ?_ : LoopOK c _ _ _ _ 0 _ (List.map _ _))
      · intro u hu
        exact Asg_NameL
      · intro u hu q hq
        simp only [List.mem_cons, List.not_mem_nil, or_false] at hq
        rcases hq with rfl | rfl | rfl <;> rfl
      · intro u hu σ'
        have hcases : u = .int 0 ∨ u = .int 1 ∨ u = .int 2 := by
          simpa [List.range, List.range.loop] using hu
        have hd : (p.1.fdiv (4 + a + b)).natAbs < 2 ^ 63 := by
          have h4 : (0 : Int) < 4 + a + b := by omega
          rw [Int.fdiv_eq_ediv_of_nonneg _ (by omega)]
          have h1 := Int.ediv_mul_le p.1 (b := 4 + a + b) (by omega)
          have h2 := Int.lt_ediv_add_one_mul_self p.1 h4
          generalize p.1 / (4 + a + b) = q at h1 h2
          have h3 : q.natAbs ≤ p.1.natAbs := by
            by_cases hq : 0 ≤ q
            · have : q * 1 ≤ q * (4 + a + b) := Int.mul_le_mul_of_nonneg_left (by omega) hq
              omega
            · have : (q + 1) * (4 + a + b) ≤ (q + 1) * 1 := Int.mul_le_mul_of_nonpos_left (by omega) (by omega)
              omega
          omega
        rcases hcases with rfl | rfl | rfl
        all_goals
          refine EX_Tuple (LX_cons ?_)
          refine EX_BinOp (EX_BinOp (EX_var rfl ?_))
          refine EX_CallB hB hMs (LX_cons (EX_var rfl (LX_nil ?_)))
          refine sum3 ⟨by decide, by decide⟩ ⟨by omega, by omega⟩ ⟨by omega, by omega⟩ ⟨by omega, by omega⟩ ⟨by omega, by omega⟩ ?_
          refine div_ii hS (PyProof.noPylong_small (by omega)) ?_
          refine EX_Sub (EX_var rfl (EX_var rfl ?_))
          refine sub_li .lst (by decide) rfl (by simp) ?_
          refine mul_ii (mulOk hd) ?_
          refine LX_cons (EX_BinOp (EX_var rfl ?_))
          refine EX_Sub (EX_Tuple (LX_cons (EX_str (LX_cons (EX_str (LX_cons (EX_str (LX_nil ⟨by simp, ?_⟩))))))))
          refine EX_var rfl (sub_ti (by decide) rfl (by simp) ?_)
          refine add_ss ?_ (LX_nil ⟨by simp, rfl, rfl⟩)
        · show p.2.length + 2 ≤ _; omega
        · show p.2.length + 3 ≤ _; omega
        · show p.2.length + 2 ≤ _; omega
    · intro q hq
      simp only [List.mem_cons, List.not_mem_nil, or_false] at hq
      rcases hq with rfl | rfl | rfl <;> exact ⟨rfl, rfl⟩
end
end Mine
end
section
open PySem PyProof.Rows PySem.Calls
namespace Mine
def gr0 (a b : Int) (p : Wd) : Wd := (p.1.fdiv (4 + a + b) * 4, p.2 ++ sT ".a")
def gr1 (a b : Int) (p : Wd) : Wd := (p.1.fdiv (4 + a + b) * a, p.2 ++ sT ".aa")
def gr2 (a b : Int) (p : Wd) : Wd := (p.1.fdiv (4 + a + b) * b, p.2 ++ sT ".b")
def startP (a b : Int) : Wd := (-(4 + a + b) ^ 5, sT "o")
/-- the heap and what has gone, after k rounds -/
def stP (a b : Int) : Nat → List Wd × List Wd
  | 0 => ([], [startP a b])
  | k + 1 => let st := stP a b k
    match st.2 with
    | [] => st
    | top :: _ => (st.1 ++ [top], heappushP (heappushP (heapreplaceP st.2 (gr0 a b top)) (gr1 a b top)) (gr2 a b top))
def okR (a b : Int) (k : Nat) : Bool := match (stP a b k).2 with
  | [] => false
  | top :: r => decide (top.1.natAbs < 2 ^ 60) && decide (top.2.length < 100) && okW top && decide (r.length < 100) && decide ((stP a b k).1.length = k)
theorem sdP_length : ∀ (f : Nat) (x : Wd) (p : Nat) (xs : List Wd), (sdP f x p xs).length = xs.length
  | 0, x, p, xs => by simp [sdP]
  | f + 1, x, p, xs => by
    unfold sdP
    split
    · simp
    · split
      · split
        · rw [sdP_length f]; simp
        · simp
      · simp
theorem heappushP_length (xs : List Wd) (x : Wd) : (heappushP xs x).length = xs.length + 1 := by unfold heappushP; rw [sdP_length]; simp
theorem siftup_length (xs : List Wd) : (siftup xs).length = xs.length := by
  cases xs with
  | nil => rfl
  | cons a l =>
    have := suP_spec (a :: l).length 0 (a :: l) (by simp)
    unfold siftup
    simp only
    rw [sdP_length, List.length_set]
    exact this.1
theorem heapreplaceP_length (xs : List Wd) (x : Wd) : (heapreplaceP xs x).length = xs.length := by unfold heapreplaceP; rw [siftup_length]; simp
theorem upd_comm {α : Type} {f : Addr → Option α} {a b : Addr} {u v : α} (h : a ≠ b) : upd (upd f a u) b v = upd (upd f b v) a u := by
  funext x
  unfold upd
  by_cases h1 : x = b
  · subst h1; simp [Ne.symm h]
  · by_cases h2 : x = a <;> simp [h1, h2, h]
theorem del_comm_upd {α : Type} {f : Addr → Option α} {a b : Addr} {u : α} (h : a ≠ b) : del (upd f a u) b = upd (del f b) a u := by
  funext x
  unfold upd del
  by_cases h1 : x = b
  · subst h1; simp [Ne.symm h]
  · by_cases h2 : x = a <;> simp [h1, h2, h]
theorem del_none {α : Type} {f : Addr → Option α} {a : Addr} (h : f a = none) : del f a = f := by
  funext x; unfold del; split
  · rename_i e; rw [e, h]
  · rfl
section
variable {c : Cfg} {σ : Mut} {n : Nat} {G M : List (Str × Value)}
structure Heapq (c : Cfg) (G M : List (Str × Value)) : Prop where
  base : BaseOK c G M
  gsd : G.lookup (sT "_siftdown") = some (.ref 42)
  gsu : G.lookup (sT "_siftup") = some (.ref 49)
  gpu : G.lookup (sT "heappush") = some (.ref 28)
  gre : G.lookup (sT "heapreplace") = some (.ref 35)
  ggr : G.lookup (sT "_law_grown") = some (.ref 151)
  mlen : M.lookup (sT "len") = some (.builtin "len")
  msum : M.lookup (sT "sum") = some (.builtin "sum")
  mran : M.lookup (sT "range") = some (.type "range")
  f2 : FnAt c.B 28 (sT "heappush") (sT "heappush") (paramsOf 2) (bodyOf 2) (scopeOf 2) .none .none
  f3 : FnAt c.B 35 (sT "heapreplace") (sT "heapreplace") (paramsOf 3) (bodyOf 3) (scopeOf 3) .none .none
  f4 : FnAt c.B 42 (sT "_siftdown") (sT "_siftdown") (paramsOf 4) (bodyOf 4) (scopeOf 4) .none .none
  f5 : FnAt c.B 49 (sT "_siftup") (sT "_siftup") (paramsOf 5) (bodyOf 5) (scopeOf 5) .none .none
  f24 : FnAt c.B 151 (sT "_law_grown") (sT "_law_grown") (paramsOf 24) (bodyOf 24) (scopeOf 24) .none .none
set_option maxRecDepth 10000 in
theorem split_ok (H : Heapq c G M) (hf : FnAt c.B 158 (sT "_law_split") (sT "_law_split") (paramsOf 25) (bodyOf 25) (scopeOf 25) .none .none)
    {a b : Int} (ha : 1 ≤ a ∧ a ≤ 9) (hb : 1 ≤ b ∧ b ≤ 9) (hok : ∀ k, k < 5 → okR a b k = true) :
    CX c (n + 4) 158 [wsV a b] [] [] σ fun v σ' => v = .tup [.lst ((stP a b 5).1.map wdV), .lst ((stP a b 5).2.map wdV)] ∧ σ' = σ := by
  refine CX_fn (names := [sT "weights"]) H.base hf rfl ?_ ?_ ?_ ?_
  · intro doc pm an cdv ct ys hy
    match ys, hy with
    | [a], _ => rfl
  · decide
  · decide
  · intro L doc pm an cdv ct
    refine FX_cons (FX_Assign (EX_ListO (LX_cons (EX_Tuple (LX_cons (EX_UnaryOp (EX_BinOp ?_)))))))
    refine EX_CallB H.base H.msum (LX_cons (EX_var rfl (LX_nil ?_)))
    refine sum3 ⟨by decide, by decide⟩ ⟨by omega, by omega⟩ ⟨by omega, by omega⟩ ⟨by omega, by omega⟩ ⟨by omega, by omega⟩ ?_
    refine EX_int (pow_ii (by decide) (by decide) (by omega) ?_)
    refine neg_i (LX_cons (EX_str (LX_nil ⟨by simp, LX_nil ⟨by simp, ?_⟩⟩)))
    intro h hh
    refine FX_cons (FX_Assign (EX_ListO (LX_nil ⟨by simp, ?_⟩)))
    intro g hg
    have hgh : g ≠ h := fun e => by rw [e, upd_self] at hg; cases hg
    have hg0 : σ g = none := by rw [upd_ne hgh] at hg; exact hg
    refine FX_consI (fun V2 σ2 => V2.lookup (sT "gone") = some (.ref g) ∧ V2.lookup (sT "waiting") = some (.ref h) ∧ σ2 = upd (upd σ h ((stP a b 5).2.map wdV)) g ((stP a b 5).1.map wdV))
      (FX_ForN (EX_CallT H.base H.mran (LX_cons (EX_int (LX_nil (range1 rfl (by decide) ?_)))))) ?_
    · refine ⟨_, fun _ => [(sT "gone", .ref g), (sT "waiting", .ref h), (sT "weights", wsV a b)], fun k σ' => k ≤ 5 ∧ σ' = upd (upd σ h ((stP a b k).2.map wdV)) g ((stP a b k).1.map wdV), Iters_rng, ?_, ?_, ⟨by omega, rfl⟩, ?_, ?_⟩
      · intro p hp
        simp only [List.mem_cons, List.not_mem_nil, or_false] at hp
        rcases hp with rfl | rfl | rfl <;> rfl
      · intro k p hp
        simp only [List.mem_cons, List.not_mem_nil, or_false] at hp
        rcases hp with rfl | rfl | rfl <;> (dsimp only; decide)
      · rintro k u σ' hu ⟨hk5, rfl⟩
        have hk : k < 5 := by
          have := (List.getElem?_eq_some_iff.mp hu).1
          simpa using this
        have ho := hok k hk
        unfold okR at ho
        have hst : stP a b (k + 1) = (match (stP a b k).2 with
          | [] => stP a b k
          | top :: _ => ((stP a b k).1 ++ [top], heappushP (heappushP (heapreplaceP (stP a b k).2 (gr0 a b top)) (gr1 a b top)) (gr2 a b top))) := rfl
        generalize hgo : (stP a b k).1 = gone at ho hst ⊢
        generalize hxs : (stP a b k).2 = xs at ho hst ⊢
        cases xs with
        | nil => cases ho
        | cons top tl =>
          simp only [Bool.and_eq_true, decide_eq_true_eq] at ho
          obtain ⟨⟨⟨⟨o1, o2⟩, o3⟩, o4⟩, o5⟩ := ho
          simp only at hst
          have hσh : ∀ (xs' : List Wd) (go' : List Wd), upd (upd σ h (xs'.map wdV)) g (go'.map wdV) h = some (xs'.map wdV) := fun xs' go' => (upd_ne (Ne.symm hgh)).trans upd_self
          have hre : ∀ (xs' xs'' : List Wd) (go' : List Wd), upd (upd (upd σ h (xs'.map wdV)) g (go'.map wdV)) h (xs''.map wdV) = upd (upd σ h (xs''.map wdV)) g (go'.map wdV) := fun xs' xs'' go' => by
            rw [upd_comm hgh, upd_upd]
          refine FX_cons (FX_Assign (EX_Sub (EX_var rfl (EX_int (sub_li (u := wdV top) (.own (hσh _ _)) (by decide) rfl (by simp; omega) ?_)))))
          refine FX_cons (FX_AssignT (EX_Call H.base H.ggr H.f24 (LX_cons (EX_var rfl (LX_cons (EX_var rfl (LX_nil ?_)))))))
          refine ((grown_ok (n := n + 2) H.base H.msum H.mran H.f24 ha hb o2 o1).mono fun v σ' hv => ?_)
          obtain ⟨rfl, rfl⟩ := hv
          refine ⟨_, Asg_Tuple3L (u := wdV (gr0 a b top)) (v := wdV (gr1 a b top)) (w := wdV (gr2 a b top)), ?_⟩
          refine FX_cons (FX_If (BX_Compare (EX_Call H.base H.gre H.f3 (LX_cons (EX_var rfl (LX_cons (EX_var rfl (LX_nil ?_))))))))
          refine ((heapreplace_ok (n := n) (top := top) H.base H.gsd H.gsu H.mlen H.f4 H.f5 H.f3 (hσh _ _) rfl (by simp; omega)).mono fun v σ' hv => ?_)
          obtain ⟨rfl, rfl⟩ := hv
          rw [hre]
          refine EX_var rfl (ne_w o3 o3 ⟨_, rfl, ?_⟩)
          rw [if_neg (by simp)]
          refine FX_nil ?_
          have l1 : (heapreplaceP (top :: tl) (gr0 a b top)).length < 200 := by rw [heapreplaceP_length]; simp; omega
          refine FX_cons (FX_Expr (EX_Call H.base H.gpu H.f2 (LX_cons (EX_var rfl (LX_cons (EX_var rfl (LX_nil ?_)))))))
          refine ((heappush_ok (n := n + 1) H.base H.gsd H.mlen H.f4 H.f2 (hσh _ _) (by omega)).mono fun v σ' hv => ?_)
          obtain ⟨rfl, rfl⟩ := hv
          rw [hre]
          refine FX_cons (FX_Expr (EX_Call H.base H.gpu H.f2 (LX_cons (EX_var rfl (LX_cons (EX_var rfl (LX_nil ?_)))))))
          refine ((heappush_ok (n := n + 1) H.base H.gsd H.mlen H.f4 H.f2 (hσh _ _) (by rw [heappushP_length]; omega)).mono fun v σ' hv => ?_)
          obtain ⟨rfl, rfl⟩ := hv
          rw [hre]
          refine FX_cons (FX_Expr (EX_append (EX_var rfl ⟨g, _, rfl, upd_self, EX_var rfl ⟨_, upd_self, by simp; omega, ?_⟩⟩)))
          refine FX_nil ⟨⟨by omega, ?_⟩, ?_⟩
          · rw [upd_upd, hst]
            simp
          · intro p hp
            simp only [List.mem_cons, List.not_mem_nil, or_false] at hp
            rcases hp with rfl | rfl | rfl <;> rfl
      · rintro V' σ' ⟨_, rfl⟩ hV
        exact ⟨hV (sT "gone", .ref g) (by simp), hV (sT "waiting", .ref h) (by simp), rfl⟩
    · rintro V2 σ2 ⟨l1, l2, rfl⟩
      refine FX_cons (FX_Return (EX_Tuple (LX_cons (EX_varF l1 upd_self (LX_cons (EX_varF l2 ?_ (LX_nil ⟨by simp, rfl, ?_⟩)))))))
      · rw [del_upd (by rw [upd_ne hgh]; exact hg0)]; exact upd_self
      · rw [del_upd (by rw [upd_ne hgh]; exact hg0), del_upd hh]
end
end Mine
end
section
open PySem PyProof.Rows PySem.Calls
namespace Mine
/-- the heavy words below one, itself first -/
def heavyP (a b last : Int) : Nat → Wd → List Wd
  | 0, _ => []
  | f + 1, top => if last < top.1 then [] else top :: (heavyP a b last f (gr0 a b top) ++ (heavyP a b last f (gr1 a b top) ++ heavyP a b last f (gr2 a b top)))
def okHv (a b last : Int) : Nat → Wd → Bool
  | 0, _ => false
  | f + 1, top => if last < top.1 then true else
      decide (top.1.natAbs < 2 ^ 60) && decide (top.2.length < 100) && (okHv a b last f (gr0 a b top) && okHv a b last f (gr1 a b top) && okHv a b last f (gr2 a b top))
theorem heavyP_length (a b last : Int) : ∀ (f : Nat) (top : Wd), (heavyP a b last f top).length ≤ 4 ^ f
  | 0, _ => Nat.zero_le _
  | f + 1, top => by
    unfold heavyP
    split
    · exact Nat.zero_le _
    · have h1 := heavyP_length a b last f (gr0 a b top)
      have h2 := heavyP_length a b last f (gr1 a b top)
      have h3 := heavyP_length a b last f (gr2 a b top)
      have h4 : 1 ≤ 4 ^ f := Nat.pow_pos (by decide)
      simp only [List.length_cons, List.length_append, Nat.pow_succ]
      omega
def hvA (a b last : Int) (f : Nat) : AV → List AV
  | .tup [.int x, .str s] => (heavyP a b last f (x, s)).map wdV
  | _ => []
section
variable {c : Cfg} {σ : Mut} {n : Nat} {G M : List (Str × Value)}
set_option maxRecDepth 10000 in
theorem heavy_ok (H : Heapq c G M) (hg : G.lookup (sT "_law_heavy") = some (.ref 163)) (hf : FnAt c.B 163 (sT "_law_heavy") (sT "_law_heavy") (paramsOf 26) (bodyOf 26) (scopeOf 26) .none .none)
    {a b last : Int} (ha : 1 ≤ a ∧ a ≤ 9) (hb : 1 ≤ b ∧ b ≤ 9) : ∀ (f : Nat), f ≤ 7 → ∀ (top : Wd) (σ : Mut), okHv a b last f top = true →
    CX c (n + f + 2) 163 [wsV a b, wdV top, .int last] [] [] σ fun v σ' => v = .lst ((heavyP a b last f top).map wdV) ∧ σ' = σ
  | 0, _, top, σ, ho => by cases ho
  | f + 1, hf7, top, σ, ho => by
    have IH := heavy_ok H hg hf (last := last) ha hb f (by omega)
    refine CX_fn (names := [sT "weights", sT "top", sT "last"]) H.base hf rfl ?_ ?_ ?_ ?_
    · intro doc pm an cdv ct ys hy
      match ys, hy with
      | [a, b, d], _ => rfl
    · decide
    · decide
    · intro L doc pm an cdv ct
      refine FX_cons (FX_If (BX_Compare (EX_Sub (EX_var rfl (EX_int (sub_ti (by decide) rfl (by simp) (EX_var rfl (gt_ii ⟨_, rfl, ?_⟩))))))))
      unfold okHv at ho
      by_cases hl : last < top.1
      · rw [if_pos (by simpa using hl)]
        refine FX_cons (FX_Return (EX_List (LX_nil ⟨by simp, ?_, rfl⟩)))
        rw [heavyP, if_pos hl]; rfl
      · rw [if_neg (by simpa using hl)]
        rw [if_neg hl] at ho
        simp only [Bool.and_eq_true, decide_eq_true_eq] at ho
        obtain ⟨⟨o1, o2⟩, ⟨o3, o4⟩, o5⟩ := ho
        refine FX_nil ?_
        refine FX_cons (FX_Return (EX_BinOp (EX_List (LX_cons (EX_var rfl (LX_nil ⟨by simp, ?_⟩))))))
        have hlen : (heavyP a b last f (gr0 a b top) ++ (heavyP a b last f (gr1 a b top) ++ heavyP a b last f (gr2 a b top))).length < 90000 := by
          have h1 := heavyP_length a b last f (gr0 a b top)
          have h2 := heavyP_length a b last f (gr1 a b top)
          have h3 := heavyP_length a b last f (gr2 a b top)
          have h4 : 4 ^ f ≤ 4 ^ 6 := Nat.pow_le_pow_right (by decide) (by omega)
          have h5 : (4 : Nat) ^ 6 = 4096 := by decide
          simp only [List.length_append]
          omega
        refine EX_Comp [(sT "weights", wsV a b), (sT "last", .int last)] (EX_Call H.base H.ggr H.f24 (LX_cons (EX_var rfl (LX_cons (EX_var rfl (LX_nil ?_)))))) ?_
        · refine ((grown_ok (n := n + f + 1) H.base H.msum H.mran H.f24 ha hb o2 o1).mono fun v σ' hv => ?_)
          obtain ⟨rfl, rfl⟩ := hv
          refine ⟨_, (heavyP a b last f (gr0 a b top) ++ (heavyP a b last f (gr1 a b top) ++ heavyP a b last f (gr2 a b top))).map wdV, Iters_lst, by simpa using Nat.lt_trans hlen (by decide), ?_, ?_⟩
          · intro L2
            rw [show (heavyP a b last f (gr0 a b top) ++ (heavyP a b last f (gr1 a b top) ++ heavyP a b last f (gr2 a b top))).map wdV = ((grownP a b top).map wdV).flatMap (hvA a b last f) from ?_]
            · refine loop2 (Va := fun u => (sT "more", u) :: [(sT "weights", wsV a b), (sT "last", .int last)]) (g := hvA a b last f) ?_ ?_ ?_
              · intro u hu; exact Asg_NameL
              · intro u hu q hq
                simp only [List.mem_cons, List.not_mem_nil, or_false] at hq
                rcases hq with rfl | rfl <;> rfl
              · intro u hu σ'
                refine EX_Call H.base hg hf (LX_cons (EX_var rfl (LX_cons (EX_var rfl (LX_cons (EX_var rfl (LX_nil ?_)))))))
                obtain ⟨w, hw, rfl⟩ := List.mem_map.1 hu
                refine (IH w σ' ?_).mono ?_
                · rw [show grownP a b top = [gr0 a b top, gr1 a b top, gr2 a b top] from rfl] at hw
                  simp only [List.mem_cons, List.not_mem_nil, or_false] at hw
                  rcases hw with rfl | rfl | rfl <;> assumption
                · rintro v σ2 ⟨rfl, rfl⟩
                  refine ⟨rfl, _, Iters_lst, ?_⟩
                  rw [show hvA a b last f (wdV w) = ((heavyP a b last f w).map wdV).map id from (List.map_id _).symm]
                  refine loopSnd (Va := fun u => (sT "word", u) :: (sT "more", wdV w) :: [(sT "weights", wsV a b), (sT "last", .int last)]) ?_ ?_ ?_
                  · intro u hu; exact Asg_NameL
                  · intro u hu q hq
                    simp only [List.mem_cons, List.not_mem_nil, or_false] at hq
                    rcases hq with rfl | rfl | rfl <;> rfl
                  · intro u hu σ'
                    exact EX_var rfl ⟨rfl, rfl⟩
            · rw [show grownP a b top = [gr0 a b top, gr1 a b top, gr2 a b top] from rfl]
              simp only [List.map_cons, List.map_nil, List.flatMap_cons, List.flatMap_nil, List.append_nil, List.map_append]
              rfl
          · refine add_ll .lst .lst (by simp at hlen ⊢; omega) ⟨?_, rfl⟩
            rw [heavyP, if_neg hl]; rfl
        · intro q hq
          simp only [List.mem_cons, List.not_mem_nil, or_false] at hq
          rcases hq with rfl | rfl <;> exact ⟨rfl, rfl⟩
end
end Mine
end
section
open PySem PyProof.Rows PySem.Calls
namespace Mine
def lsV (l : List Nat) : AV := .lst (l.map fun k : Nat => .int (k : Int))
theorem str_empty_append (a : Str) : Str.mk #[] ++ a = a := Str.append_left_empty rfl
theorem str_append_empty (a : Str) : a ++ Str.mk #[] = a := Str.append_right_empty rfl
theorem join_cat : ∀ l : List Str, Str.join (sT "") l = catT l
  | [] => rfl
  | [x] => by show x = x ++ Str.mk #[]; rw [str_append_empty]
  | x :: y :: r => by
    have h := join_cat (y :: r)
    show x ++ sT "" ++ Str.join (sT "") (y :: r) = x ++ catT (y :: r)
    rw [h, show sT "" = Str.mk #[] from rfl, str_append_empty]
theorem letT_len (k : Nat) : (letT k).length ≤ 3 := by
  match k with
  | 0 => decide
  | 1 => decide
  | k + 2 => show (Str.ofString ".b").length ≤ 3; decide
theorem letT_sum (l : List Nat) : ((l.map letT).map (·.length)).sum ≤ 3 * l.length := by
  induction l with
  | nil => simp
  | cons a l ih => have := letT_len a; simp only [List.map_cons, List.sum_cons, List.length_cons]; omega
theorem catT_len : ∀ l : List Str, (catT l).length = (l.map (·.length)).sum
  | [] => rfl
  | x :: r => by show (x ++ catT r).length = _; rw [Str.length_append, catT_len r]; simp
theorem txt_join (l : List Str) : Txt.join (sT "") l = catT l := (StrLaws.glued_eq_join _ _).trans (join_cat l)
theorem join_fits (l : List Nat) (hz : l.length < 1000) : ((l.map letT).map (·.length)).sum + (l.map letT).length * (sT "").length ≤ 16777216 := by
  have hs := letT_sum l
  have : (sT "").length = 0 := by decide
  rw [this]
  omega
theorem name_fits (l : List Nat) (hz : l.length < 1000) : (sT "o").length + (catT (l.map letT)).length ≤ 100000 := by
  have hs := letT_sum l
  have : (sT "o").length = 1 := by decide
  rw [this, catT_len]
  omega
section
variable {c : Cfg} {σ : Mut} {n : Nat} {G M : List (Str × Value)}
set_option maxRecDepth 10000 in
set_option maxHeartbeats 1000000 in
theorem name_ok (hB : BaseOK c G M)
    (hf : FnAt c.B 146 (sT "_law_name") (sT "_law_name") (paramsOf 23) (bodyOf 23) (scopeOf 23) .none .none)
    {l : List Nat} (hl : ∀ k ∈ l, k < 3) (hz : l.length < 1000) :
    CX c (n + 1) 146 [lsV l] [] [] σ fun v σ' => v = .str (nameT l) ∧ σ' = σ := by
  refine CX_fn (names := [sT "letters"]) hB hf rfl ?_ ?_ ?_ ?_
  · intro doc pm an cdv ct ys hy
    match ys, hy with
    | [a], _ => rfl
  · decide
  · decide
  · intro L doc pm an cdv ct
    refine FX_cons (FX_Return (EX_BinOp (EX_str (EX_Meth "str.join" (EX_str ⟨meth_join, LX_cons ?_⟩)))))
    refine EX_Comp [] (EX_var rfl ?_) (by intro q hq; cases hq)
    refine ⟨_, (l.map letT).map stV, Iters_lst, by simp; omega, ?_, ?_⟩
    · intro L2
      rw [show (l.map letT).map stV = (l.map fun k : Nat => AV.int (k : Int)).map (fun u => match u with | .int i => stV (letT i.toNat) | _ => .none) by simp]
      refine loop1 (Va := fun u => (sT "letter", u) :: []) ?_ ?_ ?_
      · intro u hu; exact Asg_NameL
      · intro u hu q hq; cases hq
      · intro u hu σ'
        obtain ⟨k, hk, rfl⟩ := List.mem_map.1 hu
        have hk3 := hl k hk
        refine EX_Sub (EX_Tuple (LX_cons (EX_str (LX_cons (EX_str (LX_cons (EX_str (LX_nil ⟨by simp, ?_⟩))))))))
        have hc : k = 0 ∨ k = 1 ∨ k = 2 := by omega
        rcases hc with rfl | rfl | rfl
        · exact EX_var rfl (sub_ti (by decide) rfl (by simp) ⟨rfl, rfl⟩)
        · exact EX_var rfl (sub_ti (by decide) rfl (by simp) ⟨rfl, rfl⟩)
        · exact EX_var rfl (sub_ti (by decide) rfl (by simp) ⟨rfl, rfl⟩)
    · refine LX_nil (join_ss ?_ ?_)
      · exact join_fits l hz
      · rw [show Txt.join (Str.ofString "") (l.map letT) = catT (l.map letT) from txt_join _]
        exact add_ss (name_fits l hz) ⟨rfl, rfl⟩
end
end Mine
end
section
open PySem PyProof.Rows PySem.Calls
namespace Mine
def four (a b d e : Nat) : Nat := ((a * 64 + b) * 64 + d) * 64 + e
/-- four numbers by three octets -/
def packP : List Nat → List Nat
  | a :: b :: d :: e :: r => four a b d e / 65536 :: four a b d e / 256 % 256 :: four a b d e % 256 :: packP r
  | _ => []
theorem packP_step : ∀ (k : Nat) (l : List Nat) (a b d e : Nat), l[4 * k]? = some a → l[4 * k + 1]? = some b → l[4 * k + 2]? = some d → l[4 * k + 3]? = some e →
    packP (l.take (4 * (k + 1))) = packP (l.take (4 * k)) ++ [four a b d e / 65536, four a b d e / 256 % 256, four a b d e % 256]
  | 0, l, a, b, d, e, h1, h2, h3, h4 => by
    match l, h1, h2, h3, h4 with
    | x :: y :: z :: u :: r, h1, h2, h3, h4 =>
      simp only [Nat.mul_zero, List.getElem?_cons_zero, Option.some.injEq, Nat.zero_add, List.getElem?_cons_succ] at h1 h2 h3 h4
      subst h1 h2 h3 h4
      simp [packP]
    | [_, _, _], _, _, _, h4 => simp at h4
    | [_, _], _, _, h3, _ => simp at h3
    | [_], _, h2, _, _ => simp at h2
    | [], h1, _, _, _ => simp at h1
  | k + 1, l, a, b, d, e, h1, h2, h3, h4 => by
    have q1 : 4 * (k + 1) = 4 * k + 4 := by omega
    have q2 : 4 * (k + 1 + 1) = 4 * (k + 1) + 4 := by omega
    have hlt := (List.getElem?_eq_some_iff.mp h1).1
    match l, hlt, h1, h2, h3, h4 with
    | x :: y :: z :: u :: r, _, h1, h2, h3, h4 =>
      rw [q1] at h1 h2 h3 h4
      have := packP_step k r a b d e (by simpa using h1) (by simpa [Nat.add_right_comm] using h2) (by simpa [Nat.add_right_comm] using h3) (by simpa [Nat.add_right_comm] using h4)
      rw [q2, List.take_succ_cons, List.take_succ_cons, List.take_succ_cons, List.take_succ_cons, packP, this, q1, List.take_succ_cons, List.take_succ_cons, List.take_succ_cons, List.take_succ_cons, packP]
      simp
    | [_, _, _], hlt, _, _, _, _ => simp at hlt <;> omega
    | [_, _], hlt, _, _, _, _ => simp at hlt <;> omega
    | [_], hlt, _, _, _, _ => simp at hlt <;> omega
    | [], hlt, _, _, _, _ => simp at hlt
theorem packP_len : ∀ l : List Nat, (packP l).length ≤ l.length
  | a :: b :: d :: e :: r => by have := packP_len r; simp [packP]; omega
  | [_, _, _] => by simp [packP]
  | [_, _] => by simp [packP]
  | [_] => by simp [packP]
  | [] => by simp [packP]
def nV (k : Nat) : AV := .int (k : Int)
section
variable {c : Cfg} {σ : Mut} {n : Nat} {G M : List (Str × Value)}
set_option maxRecDepth 10000 in
set_option maxHeartbeats 1000000 in
theorem packed_ok (hB : BaseOK c G M) (hMl : M.lookup (sT "len") = some (.builtin "len")) (hMr : M.lookup (sT "range") = some (.type "range"))
    (hf : FnAt c.B 175 (sT "_law_packed") (sT "_law_packed") (paramsOf 28) (bodyOf 28) (scopeOf 28) .none .none)
    {l : List Nat} {m : Nat} (hm : l.length = 4 * m) (hl : ∀ k ∈ l, k < 64) (hz : l.length < 1000) :
    CX c (n + 1) 175 [.lst (l.map nV)] [] [] σ fun v σ' => v = .lst ((packP l).map nV) ∧ σ' = σ := by
  refine CX_fn (names := [sT "numbers"]) hB hf rfl ?_ ?_ ?_ ?_
  · intro doc pm an cdv ct ys hy
    match ys, hy with
    | [a], _ => rfl
  · decide
  · decide
  · intro L doc pm an cdv ct
    refine FX_cons (FX_Assign (EX_ListO (LX_nil ⟨by simp, ?_⟩)))
    intro D hD
    have hlen : ((l.map nV).length : Int) = 4 * (m : Int) := by simp; omega
    refine FX_consI (fun V2 σ2 => V2.lookup (sT "octets") = some (.ref D) ∧ σ2 = upd σ D ((packP l).map nV))
      (FX_ForN (EX_CallT hB hMr (LX_cons (EX_int (LX_cons (EX_CallB hB hMl (LX_cons (EX_var rfl (LX_nil (len_v .lst (by simp; omega) ?_)))))))))) ?_
    · rw [hlen]
      refine LX_cons (EX_int (LX_nil (range4 (by omega) ?_)))
      refine ⟨_, fun _ => [(sT "octets", .ref D), (sT "numbers", .lst (l.map nV))], fun k σ' => k ≤ m ∧ σ' = upd σ D ((packP (l.take (4 * k))).map nV), Iters_rng, ?_, ?_, ⟨by omega, rfl⟩, ?_, ?_⟩
      · intro p hp
        simp only [List.mem_cons, List.not_mem_nil, or_false] at hp
        rcases hp with rfl | rfl <;> rfl
      · intro k p hp
        simp only [List.mem_cons, List.not_mem_nil, or_false] at hp
        rcases hp with rfl | rfl <;> (dsimp only; decide)
      · rintro k u σ' hu ⟨hkm, rfl⟩
        have hk : k < m := by
          have := (List.getElem?_eq_some_iff.mp hu).1
          simpa using this
        have hu' : u = .int (4 * (k : Int)) := by
          rw [List.map_map, List.getElem?_map, List.getElem?_range hk] at hu
          simpa using hu.symm
        subst hu'
        obtain ⟨a, ha⟩ : ∃ a, l[4 * k]? = some a := ⟨_, List.getElem?_eq_getElem (by omega)⟩
        obtain ⟨b, hb⟩ : ∃ b, l[4 * k + 1]? = some b := ⟨_, List.getElem?_eq_getElem (by omega)⟩
        obtain ⟨d, hd⟩ : ∃ d, l[4 * k + 2]? = some d := ⟨_, List.getElem?_eq_getElem (by omega)⟩
        obtain ⟨e, he⟩ : ∃ e, l[4 * k + 3]? = some e := ⟨_, List.getElem?_eq_getElem (by omega)⟩
        have la := hl a (List.mem_of_getElem? ha)
        have lb := hl b (List.mem_of_getElem? hb)
        have ld := hl d (List.mem_of_getElem? hd)
        have le := hl e (List.mem_of_getElem? he)
        have lp := packP_len (l.take (4 * k))
        rw [List.length_take] at lp
        refine FX_cons (FX_Assign (EX_BinOp (EX_BinOp (EX_BinOp (EX_BinOp (EX_BinOp (EX_BinOp (EX_Sub (EX_var rfl (EX_var rfl (sub_li (u := nV a) .lst (by omega) (by rw [List.getElem?_map, show (4 * (k : Int)).toNat = 4 * k by omega, ha]; rfl) (by simp; omega) ?_)))))))))))
        refine EX_int (mul_ii (mulOk (by omega)) (EX_Sub (EX_var rfl (EX_BinOp (EX_var rfl (EX_int (add_ii (sub_li (u := nV b) .lst (by omega) (by rw [List.getElem?_map, show (4 * (k : Int) + 1).toNat = 4 * k + 1 by omega, hb]; rfl) (by simp; omega) (add_ii ?_)))))))))
        refine EX_int (mul_ii (mulOk (by omega)) (EX_Sub (EX_var rfl (EX_BinOp (EX_var rfl (EX_int (add_ii (sub_li (u := nV d) .lst (by omega) (by rw [List.getElem?_map, show (4 * (k : Int) + 2).toNat = 4 * k + 2 by omega, hd]; rfl) (by simp; omega) (add_ii ?_)))))))))
        refine EX_int (mul_ii (mulOk (by omega)) (EX_Sub (EX_var rfl (EX_BinOp (EX_var rfl (EX_int (add_ii (sub_li (u := nV e) .lst (by omega) (by rw [List.getElem?_map, show (4 * (k : Int) + 3).toNat = 4 * k + 3 by omega, he]; rfl) (by simp; omega) (add_ii ?_)))))))))
        have e4 : (((a : Int) * 64 + (b : Int)) * 64 + (d : Int)) * 64 + (e : Int) = ((four a b d e : Nat) : Int) := by simp [four]
        rw [e4]
        refine FX_cons (FX_Aug rfl (EX_List (LX_cons (EX_BinOp (EX_var rfl (EX_int (div_ii (by decide) (PyProof.noPylong_small (by decide)) ?_)))))))
        rw [Int.fdiv_eq_ediv_of_nonneg _ (by decide)]
        refine LX_cons (EX_BinOp (EX_BinOp (EX_var rfl (EX_int (div_ii (by decide) (PyProof.noPylong_small (by decide)) ?_)))))
        rw [Int.fdiv_eq_ediv_of_nonneg _ (by decide)]
        refine EX_int (mod_ii (by decide) ?_)
        rw [Int.fmod_eq_emod_of_nonneg _ (by decide)]
        refine LX_cons (EX_BinOp (EX_var rfl (EX_int (mod_ii (by decide) ?_))))
        rw [Int.fmod_eq_emod_of_nonneg _ (by decide)]
        refine LX_nil ⟨by simp, ?_⟩
        refine iadd_ll upd_self (by simp; omega) ?_
        refine FX_nil ⟨⟨by omega, ?_⟩, ?_⟩
        · rw [upd_upd, packP_step k l a b d e ha hb hd he]
          simp [nV]
        · intro p hp
          simp only [List.mem_cons, List.not_mem_nil, or_false] at hp
          rcases hp with rfl | rfl <;> rfl
      · rintro V' σ' ⟨_, rfl⟩ hV
        refine ⟨hV (sT "octets", .ref D) (by simp), ?_⟩
        simp only [List.length_map, List.length_range]
        rw [← hm, List.take_length]
    · rintro V2 σ2 ⟨l1, rfl⟩
      refine FX_cons (FX_Return (EX_varF l1 upd_self ⟨rfl, ?_⟩))
      rw [del_upd hD]
end
end Mine
end
section
open PySem PyProof.Rows PySem.Calls
namespace Mine
theorem starts_prefix (x y : Str) : Txt.startswith x y = y.cps.toList.isPrefixOf x.cps.toList := by
  unfold Txt.startswith
  rw [StrLaws.subAt_eq, Bool.eq_iff_iff, List.isPrefixOf_iff_prefix, List.prefix_iff_eq_take, Bool.and_eq_true, decide_eq_true_eq, beq_iff_eq, List.drop_zero]
  have e1 : y.length = y.cps.toList.length := by simp [Str.length]
  have e2 : x.length = x.cps.toList.length := by simp [Str.length]
  rw [e1, e2]
  constructor
  · rintro ⟨_, h⟩; exact h.symm
  · intro h
    refine ⟨?_, h.symm⟩
    have := congrArg List.length h
    rw [List.length_take] at this
    omega
section
variable {c : Cfg} {σ : Mut} {n : Nat} {G M : List (Str × Value)}
theorem is_none_s {k : Str} {Φ : AV → Mut → Prop} (h : Φ (.bool false) σ) : Cmp c n .Is (.str k) .none σ Φ := OX2 fun A R P C s v y Q E I r1 r2 q => by
  cases r1; cases r2
  exact wpAny_is_plain rfl (q P C σ _ _ _ .rfl I .bool h)
set_option maxRecDepth 10000 in
set_option maxHeartbeats 1000000 in
theorem names_ok (hB : BaseOK c G M) (K : IgCls c) {wd k : Str} (h5 : k ∈ texts5) (hne : k ≠ Str.ofString "<string>") (hw : wd.length < 1000) :
    CX c (n + 1) 134 [.rdr wd, .str (sT ""), .str k] [] [] σ fun v σ' => v = .int (if ansB wd k then 1 else 0) ∧ σ' = σ := by
  refine CX_fn (names := [sT "self", sT "filename", sT "modulename"]) hB K.fn rfl ?_ ?_ ?_ ?_
  · intro doc pm an cdv ct ys hy
    match ys, hy with
    | [a, b, d], _ => rfl
  · decide
  · decide
  · intro L doc pm an cdv ct
    refine FX_cons (FX_cacheIf K rfl rfl h5 hne ⟨rfl, rfl⟩ ?_)
    refine FX_cons (FX_If (BX_Compare (EX_var rfl (EX_mods K rfl (in_sset ⟨_, rfl, ?_⟩)))))
    by_cases hk : k = wd
    · have ha : ansB wd k = true := by unfold ansB; rw [decide_eq_true hk]; rfl
      rw [if_pos (by simpa using hk)]
      refine FX_cons (FX_AssignSub (EX_int (EX_ignore K rfl (EX_var rfl (set_cch h5 (by rw [ha]; rfl) ?_)))))
      exact FX_cons (FX_Return (EX_int ⟨by rw [ha]; rfl, rfl⟩))
    · rw [if_neg (by simpa using hk)]
      refine FX_nil ?_
      have ha : ansB wd k = Txt.startswith k (wd ++ Str.ofString ".") := by unfold ansB; rw [decide_eq_false hk, starts_prefix]; rfl
      refine FX_consI (fun V2 σ2 => V2.lookup (sT "self") = some (.rdr wd) ∧ V2.lookup (sT "filename") = some (.str (sT "")) ∧ V2.lookup (sT "modulename") = some (.str k) ∧ ansB wd k = false ∧ σ2 = σ)
        (FX_ForN (EX_mods K rfl ?_)) ?_
      · refine ⟨[.str wd], fun _ => [(sT "self", .rdr wd), (sT "filename", .str (sT "")), (sT "modulename", .str k)], fun j σ' => (j = 1 → ansB wd k = false) ∧ σ' = σ, Iters_sset, ?_, ?_, ⟨by simp, rfl⟩, ?_, ?_⟩
        · intro p hp
          simp only [List.mem_cons, List.not_mem_nil, or_false] at hp
          rcases hp with rfl | rfl | rfl <;> rfl
        · intro j p hp
          simp only [List.mem_cons, List.not_mem_nil, or_false] at hp
          rcases hp with rfl | rfl | rfl <;> (dsimp only; decide)
        · rintro j u σ' hu ⟨hj, hσ⟩
          cases hσ
          have hj0 : j = 0 := by
            have := (List.getElem?_eq_some_iff.mp hu).1
            simpa using this
          subst hj0
          simp at hu
          subst hu
          refine FX_cons (FX_If (BX_value (EX_Meth "str.startswith" (EX_var rfl ⟨meth_starts, LX_cons (EX_BinOp (EX_var rfl (EX_str (add_ss ?_ (LX_nil (starts_ss ⟨_, .bool, ?_⟩))))))⟩))))
          · show wd.length + 1 ≤ 100000; omega
          · cases hst : Txt.startswith k (wd ++ Str.ofString ".") with
            | true =>
              rw [if_pos rfl]
              rw [hst] at ha
              refine FX_cons (FX_AssignSub (EX_int (EX_ignore K rfl (EX_var rfl (set_cch h5 (by rw [ha]; rfl) ?_)))))
              exact FX_cons (FX_Return (EX_int ⟨by rw [ha]; rfl, rfl⟩))
            | false =>
              rw [if_neg (by decide)]
              rw [hst] at ha
              refine FX_nil (FX_nil ⟨⟨fun _ => ha, rfl⟩, ?_⟩)
              intro p hp
              simp only [List.mem_cons, List.not_mem_nil, or_false] at hp
              rcases hp with rfl | rfl | rfl <;> rfl
        · rintro V' σ' ⟨ha, hσ⟩ hV
          exact ⟨hV (sT "self", .rdr wd) (by simp), hV (sT "filename", .str (sT "")) (by simp), hV (sT "modulename", .str k) (by simp), ha rfl, hσ⟩
      · rintro V2 σ2 ⟨l1, l2, l3, ha, hσ⟩
        cases hσ
        refine FX_cons (FX_If (BX_Compare (EX_var l2 (EX_none (is_none_s ⟨_, rfl, ?_⟩)))))
        rw [if_neg (by decide)]
        refine FX_nil ?_
        refine FX_consI (fun V3 σ3 => V3.lookup (sT "self") = some (.rdr wd) ∧ V3.lookup (sT "modulename") = some (.str k) ∧ σ3 = σ)
          (FX_ForN (EX_dirs K l1 ?_)) ?_
        · refine ⟨[], fun _ => [(sT "self", .rdr wd), (sT "modulename", .str k)], fun j σ' => σ' = σ, Iters_lst, ?_, ?_, rfl, ?_, ?_⟩
          · intro p hp
            simp only [List.mem_cons, List.not_mem_nil, or_false] at hp
            rcases hp with rfl | rfl
            · exact l1
            · exact l3
          · intro j p hp
            simp only [List.mem_cons, List.not_mem_nil, or_false] at hp
            rcases hp with rfl | rfl <;> (dsimp only; decide)
          · intro j u σ' hu
            simp at hu
          · rintro V' σ' hσ hV
            exact ⟨hV (sT "self", .rdr wd) (by simp), hV (sT "modulename", .str k) (by simp), hσ⟩
        · rintro V3 σ3 ⟨l4, l5, hσ⟩
          cases hσ
          refine FX_cons (FX_AssignSub (EX_int (EX_ignore K l4 (EX_var l5 (set_cch h5 (by rw [ha]; rfl) ?_)))))
          exact FX_cons (FX_Return (EX_int ⟨by rw [ha]; rfl, rfl⟩))
end
end Mine
end
section
open PySem PyProof.Rows PySem.Calls
namespace Mine
section
variable {c : Cfg} {P P' : PM} {C C' : CM} {σ σ' : Mut} {s s' : Shared} {env : Env} {V : Vars} {n : Nat} {Φ : AV → Mut → Prop} {Θ : Fl → Vars → Mut → Prop} {G M : List (Str × Value)} {i : Int} {wd k : Str}
theorem within3 {mA : Str → Option Value} {ns : List Str} {k : Str} {v : Value} (h : PySem.Within mA ns) : PySem.Within (fun x => if x = k then some v else mA x) (k :: ns) := by
  unfold PySem.Within at h ⊢
  intro x hx
  by_cases e : x = k
  · simp [e]
  · simp only [e, if_false] at hx
    exact List.mem_cons_of_mem _ (h x hx)
/-- a call of the class, its making -/
theorem EX_Cls {x : Str} {p pos : Pos} {e : Expr} {rest : List Expr} (hB : BaseOK c G M) (K : IgCls c) (hx : G.lookup x = some (.ref 137))
    (h : LX c n env V σ (spliced (backTo pos (starEach (e :: rest) env))) fun vs σ1 => OX c n vs σ1 (fun xs => call (.ref 137) xs) Φ) (hk : env.kindOf x = some .globalImplicit := by rfl)
    (he : starEach (e :: rest) env = (false, eval e env) :: starEach rest env := by rfl) (hplain : (backTo pos (starEach rest env)).any (·.1) = false := by rfl) (hd : (x == ("__debug__" : Str)) = false := by rfl) : EX c n env V σ (.Call (.Name x p) (e :: rest) [] pos) Φ :=
  fun A R P C s Q E I F q => by
    obtain ⟨mN, hN, _⟩ := K.ns
    refine wpAny_Call_NameR (gname_wp hB I F hk hx (callWith_cls (h₀ := c.B) (N := 136) (mN := mN) ⟨K.cls, hN⟩ (h A R P C s _ E I F fun P1 C1 σ1 vs xs s1 st1 I1 F1 r1 h1 => ⟨I1.base, h1 A R P1 C1 s1 xs Q E I1 r1 ((q.after st1).ofV F1)⟩) he hplain) hd)
set_option maxRecDepth 10000 in
set_option maxHeartbeats 1000000 in
theorem make_ok (hB : BaseOK c G M) (K : IgCls c) (hMs : M.lookup (sT "set") = some (.type "set")) (h : Φ (.rdr wd) σ) : OX c (n + 2) [.lst [.str wd]] σ (fun xs => call (.ref 137) xs) Φ := OXc1 fun A R P C s y Q E I r q => by
  obtain ⟨nm, qn, bs, sn, sub, col, dd, k0, k1, k2, k3, k5, hC⟩ := K.cls
  obtain ⟨mN, hN, hni, _, hno⟩ := K.ns
  obtain ⟨of, hof, hfc⟩ := K.fic
  obtain ⟨od0, nd0, hd0, hdd0⟩ := K.dflt
  have key : ∀ (Q' : Value → Shared → Prop), (∀ h' x dx, Heap.MadeObj s.heap h' x dx 137 → wpAny (model c.prog c.w) (A.under (.builtin "type.__call__" ⟨.ref 137 :: [y], []⟩)) (call (.ref 127) [.ref x, y]) (fun r s' => r = .none ∧ Q' (.ref x) s') E { s with heap := h' }) →
      wpAny (model c.prog c.w) A (call (.ref 137) [y]) Q' E s := fun Q' hq => by
    obtain ⟨hh, gg, dr, t, os⟩ := s
    exact wpAny_call_obj_init PySem.F.objNew (I.base _ _ hC) (hN.keeps I.base) hni (I.base _ _ hof) hfc hq
  refine key _ fun h' x dx Mk => ?_
  have I1 : Inv c P C σ ({ s with heap := h' } : Shared).heap := I.grow Mk.keeps
  have st1 : Step no P C σ s P C σ { s with heap := h' } := Step.grow Mk.keeps
  have fx := I.noneP Mk.newX
  have fd := I.noneP Mk.newD
  refine wpAny_call (enter_fn (names := [sT "self", sT "modules", sT "dirs"]) (bargs := [.ref x, .lst [.str wd], .none]) (zs := [.ref x, y, .none]) hB K.fi rfl R.make I1 (.cons .ref (.cons r (.cons .none .nil))) ?_ ?_ ?_ ?_)
  · intro doc pm an cdv ct
    exact .of_defaults rfl (I1.base _ _ hd0) hdd0 rfl rfl
  · decide
  · decide
  · intro doc pm an cdv ct s1 R1 st2 I2 F2 hkeep
    obtain ⟨ox, hox, _, hncx, hdx⟩ := Mk.inst
    have hdd := Mk.dict ox hox
    have U0 : Und c (callEnvC (W.fnOf (sT "__init__") (sT "_Ignore.__init__") (methParams 0) (methBody 0) (methScope 0) (.ref 122) .none doc pm an cdv ct) h'.objs.size 127) ([sT "self", sT "modules", sT "dirs"].zip [.ref x, .lst [.str wd], .none]) P C σ s1 x dx (fun _ => none) P C s1 := by
      rcases hdx with ⟨hn0, _⟩ | ⟨d', hd', hne, hns⟩
      · rw [hn0] at hdd; cases hdd
      · rw [hdd] at hd'; cases hd'
        obtain ⟨od, es, ep, hod, rest⟩ := hns
        exact ⟨.rfl, I2, F2, Mk.inst.keeps fun b o hb => (hkeep b o hb).1, ⟨ox, (hkeep _ _ hox).1, hdd⟩, fx, fd, (hkeep _ _ hox).2, (hkeep _ _ hod).2⟩
    have w0 : PySem.Within (fun _ : Str => (none : Option Value)) [] := by intro x hx; simp at hx
    refine wpAny_execs_cons (init_stmt (v := .sset wd) K R1 U0 rfl (EX_IfExp (BX_Not (BX_value (EX_var rfl ⟨_, .lst (by simp), ?_⟩)))) (by simp [sT]) lk_mods w0 (by show 0 ≤ 2 ^ 24; decide) fun P2 C2 s2 y2 hP2 hC2 U2 r2 => ?_)
    · show if (!(!false)) = true then _ else _
      rw [if_neg (by decide)]
      exact EX_CallT hB hMs (LX_cons (EX_var rfl (LX_nil (set_l1 ⟨rfl, rfl⟩))))
    refine wpAny_execs_cons (init_stmt (v := .lst []) K R1 U2 rfl (EX_IfExp (BX_Not (BX_value (EX_var rfl ⟨_, .none, ?_⟩)))) (by simp [sT]) lk_dirs (within3 w0) (by show 1 ≤ 2 ^ 24; decide) fun P3 C3 s3 y3 hP3 hC3 U3 r3 => ?_)
    · show if (!false) = true then _ else _
      rw [if_pos (by decide)]
      exact EX_List (LX_nil ⟨by simp, rfl, rfl⟩)
    refine wpAny_execs_cons (init_stmt (v := .cch wd) K R1 U3 rfl (EX_dict1 K ⟨rfl, rfl⟩) (by simp [sT]) lk_ignore (within3 (within3 w0)) (by show 2 ≤ 2 ^ 24; decide) fun P4 C4 s4 y4 hP4 hC4 U4 r4 => ?_)
    refine wpAny_execs_nil ⟨rfl, ?_⟩
    obtain ⟨ox4, od4, g1, g2, g3, g4⟩ := U4.dobj
    have I5 := U4.inv.adopt g1 U4.fx.1 U4.fx.2.1 U4.fx.2.2
    have I6 := I5.adopt g3 ((upd_ne g4).trans U4.fd.1) U4.fd.2.1 U4.fd.2.2
    have hle : LeP P4 (upd (upd P4 x ox4) dx od4) := fun b o hb => (upd_ne (fun e => by rw [e, U4.fd.1] at hb; cases hb)).trans ((upd_ne (fun e => by rw [e, U4.fx.1] at hb; cases hb)).trans hb)
    have r2' := (r2.mono (hP3.trans (hP4.trans hle)) (hC3.trans hC4))
    have r3' := (r3.mono (hP4.trans hle) hC4)
    have r4' := (r4.mono hle .rfl)
    refine q (upd (upd P4 x ox4) dx od4) C4 σ (.rdr wd) _ s4 ⟨?_, ?_, ?_, ?_, ?_, ?_, ?_⟩ I6 (.rdr ?_) h
    · exact fun b o hb => hle b o (U4.st.pm b o hb)
    · exact U4.st.cm
    · intro b o hb _ h1 h2 h3
      have hb' := Mk.keeps b o hb
      have hb1 := hkeep b o hb'
      have bx : b ≠ x := fun e => by rw [e, Mk.newX] at hb; cases hb
      have bd : b ≠ dx := fun e => by rw [e, Mk.newD] at hb; cases hb
      obtain ⟨a1, a2, a3, a4⟩ := U4.st.frn b o hb1.1 (fun e => by rcases e with e | e | e; exact hb1.2 e; exact bx e; exact bd e) h1 h2 h3
      exact ⟨a1, (upd_ne bd).trans ((upd_ne bx).trans a2), a3, a4⟩
    · intro b o hb _
      have hb1 := hkeep b o (Mk.keeps b o hb)
      have bx : b ≠ x := fun e => by rw [e, Mk.newX] at hb; cases hb
      have bd : b ≠ dx := fun e => by rw [e, Mk.newD] at hb; cases hb
      exact U4.st.lv b o hb1.1 (fun e => by rcases e with e | e | e; exact hb1.2 e; exact bx e; exact bd e)
    · exact U4.st.gens.trans (st2.gens.trans st1.gens)
    · exact U4.st.drawn.trans (st2.drawn.trans st1.drawn)
    · exact U4.st.os.trans (st2.os.trans st1.os)
    · cases r2' with
      | sset p2 q2 =>
      cases r3' with
      | lst p3 q3 =>
      cases q3
      cases r4' with
      | cch p4 =>
      exact ⟨ox4, od4, _, dx, _, _, _, _, s4.heap, _, (upd_ne (Ne.symm g4)).trans upd_self, g1, g2, upd_self, g3, U4.ins, rfl, rfl, rfl, rfl, p2, q2, p3, p4⟩
end
end Mine
end
section
open PySem PyProof.Rows PySem.Calls
namespace Mine
/-- what the eleven words must be -/
structure CutOK (W : List (List Nat)) : Prop where
  len : W.length = 11
  lts : ∀ l ∈ W, 1 ≤ l.length ∧ l.length ≤ 5 ∧ ∀ x ∈ l, x < 3
  cnt : ∀ l ∈ W, Txt.count (nameT l) (sT ".") = l.length
  one : ∀ w ∈ allL 5, ∃ k, k < 11 ∧ W.map (fun l => ansB (nameT l) (nameT w)) = (List.range 11).map (· == k) ∧ ∃ l, W[k]? = some l ∧ w.take l.length = l
theorem mem_allL : ∀ (n : Nat) (w : List Nat), w.length = n → (∀ x ∈ w, x < 3) → w ∈ allL n
  | 0, w, h, _ => by rw [List.length_eq_zero_iff] at h; subst h; simp [allL]
  | n + 1, w, h, hx => by
    match w, h with
    | a :: w, h =>
      have ih := mem_allL n w (by simpa using h) fun x hx' => hx x (by simp [hx'])
      have ha := hx a (by simp)
      simp only [allL, List.mem_flatMap]
      refine ⟨w, ih, ?_⟩
      have : a = 0 ∨ a = 1 ∨ a = 2 := by omega
      rcases this with rfl | rfl | rfl <;> simp
theorem texts5_ne : ∀ x ∈ texts5, x ≠ Str.ofString "<string>" := by
  have h : (texts5.all fun x => decide (x ≠ Str.ofString "<string>")) = true := by decide +kernel
  intro x hx
  have := List.all_eq_true.1 h x hx
  simpa using this
def ansS (k : Nat) : List Str := (List.range 11).map fun i => if i == k then Str.ofString "1" else Str.ofString "0"
def goodS : List Str := List.replicate 10 (Str.ofString "0") ++ [Str.ofString "1"]
theorem sorted_ans : ∀ k, k < 11 → sortQ strLt (ansS k) = some goodS := by
  have h : ((List.range 11).all fun k => decide (sortQ strLt (ansS k) = some goodS)) = true := by decide +kernel
  intro k hk
  have := List.all_eq_true.1 h k (List.mem_range.2 hk)
  simpa using this
theorem goodS_ok : goodS.all PyData.strOk = true := by decide +kernel
def clen (l : List Nat) (W : List (List Nat)) : List Nat := l.flatMap fun k => W.getD k []
structure CutG (c : Cfg) (G M : List (Str × Value)) : Prop where
  base : BaseOK c G M
  cls : IgCls c
  gig : G.lookup (sT "_Ignore") = some (.ref 137)
  gna : G.lookup (sT "_law_name") = some (.ref 146)
  mset : M.lookup (sT "set") = some (.type "set")
  mstr : M.lookup (sT "str") = some (.type "str")
  mlen : M.lookup (sT "len") = some (.builtin "len")
  msor : M.lookup (sT "sorted") = some (.builtin "sorted")
  fna : FnAt c.B 146 (sT "_law_name") (sT "_law_name") (paramsOf 23) (bodyOf 23) (scopeOf 23) .none .none
  fcu : FnAt c.B 168 (sT "_law_cut") (sT "_law_cut") (paramsOf 27) (bodyOf 27) (scopeOf 27) .none .none
theorem nameT_len (l : List Nat) : (nameT l).length ≤ 1 + 3 * l.length := by
  have := letT_sum l
  have h1 : (Str.ofString "o").length = 1 := by decide
  unfold nameT
  rw [Str.length_append, h1, catT_len]
  omega
section
variable {c : Cfg} {σ : Mut} {n : Nat} {G M : List (Str × Value)}
theorem BX.mono {env : Env} {V : Vars} {t : Sem Bool} {Ψ Ψ' : Bool → Mut → Prop} (h : BX c n env V σ t Ψ) (k : ∀ b σ', Ψ b σ' → Ψ' b σ') : BX c n env V σ t Ψ' :=
  fun A R P C s Q E I F q => h A R P C s Q E I F fun P' C' σ' b s' st I' F' f => q P' C' σ' b s' st I' F' (k b σ' f)
theorem BX_Or2 {env : Env} {V : Vars} {x y : Expr} {pos : Pos} {whole : Sem Value} {Ψ : Bool → Mut → Prop} (b1 b2 : Bool) (h1 : BX c n env V σ (isTrue x env (eval x env)) fun b σ1 => b = b1 ∧ σ1 = σ) (h2 : BX c n env V σ (isTrue y env (eval y env)) fun b σ1 => b = b2 ∧ σ1 = σ) (h : Ψ (b1 || b2) σ) :
    BX c n env V σ (isTrue (.BoolOp .Or [x, y] pos) env whole) Ψ := by
  refine BX_Or (h1.mono fun b σ1 hb => ?_)
  obtain ⟨rfl, rfl⟩ := hb
  cases b with
  | true => exact h
  | false =>
    refine h2.mono fun b σ2 hb => ?_
    obtain ⟨rfl, rfl⟩ := hb
    cases b with
    | true => exact h
    | false => exact h
set_option maxRecDepth 10000 in
set_option maxHeartbeats 2000000 in
theorem cut_ok (H : CutG c G M) {msg : List Nat} {W : List (List Nat)} (hW : CutOK W) (hm : ∀ x ∈ msg, x < 3) (hm1 : 1 ≤ msg.length) (hm2 : msg.length < 100) :
    CX c (n + 4) 168 [.lst (msg.map nV), .lst ((W.map nameT).map stV)] [] [] σ fun v σ' => σ' = σ ∧ ∃ (ns : List Nat) (p m : Nat), v = .tup [.lst (ns.map nV), .int (p : Int)] ∧ ns ≠ [] ∧ ns.length = 4 * m ∧ ns.length < 200 ∧ (∀ k ∈ ns, k < 11) ∧
      p ≤ msg.length + 25 ∧ clen ns W = (msg ++ List.replicate 25 0).take p := by
  refine CX_fn (names := [sT "message", sT "words"]) H.base H.fcu rfl ?_ ?_ ?_ ?_
  · intro doc pm an cdv ct ys hy
    match ys, hy with
    | [a, b], _ => rfl
  · decide
  · decide
  · intro L doc pm an cdv ct
    refine FX_cons (FX_AssignComp [] (EX_var rfl ?_) (by intro q hq; cases hq))
    refine ⟨(W.map nameT).map stV, W.map fun l => AV.rdr (nameT l), Iters_lst, by simp [hW.len], ?_, ?_⟩
    · intro L2
      rw [show (W.map fun l => AV.rdr (nameT l)) = ((W.map nameT).map stV).map (fun u => match u with | .str s => .rdr s | _ => .none) by simp [stV]]
      refine loop1 (Va := fun u => (sT "word", u) :: []) ?_ ?_ ?_
      · intro u hu; exact Asg_NameL
      · intro u hu q hq; cases hq
      · intro u hu σ'
        obtain ⟨w, hw, rfl⟩ := List.mem_map.1 hu
        exact EX_Cls H.base H.cls H.gig (LX_cons (EX_List (LX_cons (EX_var rfl (LX_nil ⟨by simp, LX_nil (make_ok (n := n + 1) H.base H.cls H.mset ⟨rfl, rfl⟩)⟩)))))
    generalize hrd : (W.map fun l => AV.rdr (nameT l)) = rds
    generalize hlt : msg ++ List.replicate 25 0 = lts
    have hltl : lts.length = msg.length + 25 := by rw [← hlt]; simp
    have hlt3 : ∀ x ∈ lts, x < 3 := by
      rw [← hlt]; intro x hx
      rcases List.mem_append.1 hx with h | h
      · exact hm x h
      · have := List.eq_of_mem_replicate h; omega
    refine FX_cons (FX_Assign (EX_BinOp (EX_var rfl (EX_BinOp (EX_List (LX_cons (EX_int (LX_nil ⟨by simp, EX_int (mul_li .lst (by decide) (by decide) (add_ll .lst .lst (by simp; omega) ?_))⟩))))))))
    have e1 : msg.map nV ++ List.replicate (25 : Int).toNat (AV.int 0) = lts.map nV := by rw [← hlt]; simp [nV]
    rw [e1]
    refine FX_cons (FX_AssignSw (x := sT "place") (y := sT "numbers") (EX_Tuple (LX_cons (EX_int (LX_cons (EX_ListO (LX_nil ⟨by simp, ?_⟩))))) ))
    intro D hD
    refine LX_nil ⟨by simp, _, _, rfl, ?_⟩
    refine FX_consI (fun V2 σ2 => ∃ (ns : List Nat) (p m : Nat), V2.lookup (sT "numbers") = some (.ref D) ∧ V2.lookup (sT "place") = some (nV p) ∧ σ2 = upd σ D (ns.map nV) ∧ ns ≠ [] ∧ ns.length = 4 * m ∧ ns.length < 200 ∧ (∀ k ∈ ns, k < 11) ∧
      p ≤ msg.length + 25 ∧ clen ns W = lts.take p)
      (FX_WhileN (ι := Nat × List Nat) (fun i => [(sT "place", nV i.1), (sT "numbers", .ref D), (sT "letters", .lst (lts.map nV)), (sT "readers", .lst rds), (sT "message", .lst (msg.map nV)), (sT "words", .lst ((W.map nameT).map stV))])
        (fun i σ' => σ' = upd σ D (i.2.map nV) ∧ (∀ k ∈ i.2, k < 11) ∧ i.1 + 5 * ((4 - i.2.length % 4) % 4) ≤ msg.length + 19 ∧ i.2.length ≤ i.1 ∧ (i.1 = 0 → i.2 = []) ∧ clen i.2 W = lts.take i.1)
        (fun i => (msg.length - i.1) * 4 + (4 - i.2.length % 4) % 4) (0, []) ?_ ⟨rfl, by simp, by simp, by simp, by simp, by simp [clen]⟩ ?_) ?_
    · intro p hp
      simp only [List.mem_cons, List.not_mem_nil, or_false] at hp
      rcases hp with rfl | rfl | rfl | rfl | rfl | rfl <;> rfl
    · rintro ⟨p, ns⟩ σ' ⟨hσ, j1, j2, j3, j4, j5⟩
      dsimp only at hσ j1 j2 j3 j4 j5 ⊢
      subst hσ
      -- the test
      have hlen200 : ns.length < 200 := by omega
      refine BX_Or2 (decide (p < msg.length)) (decide (0 < ns.length % 4)) (BX_Compare (EX_var rfl (EX_CallB H.base H.mlen (LX_cons (EX_var rfl (LX_nil (len_v .lst (by simp; omega) (lt_ii ⟨_, rfl, ?_, rfl⟩)))))))) (BX_Compare (EX_BinOp (EX_CallB H.base H.mlen (LX_cons (EX_var rfl (LX_nil (len_v (.own upd_self) (by simp; omega) (EX_int (mod_ii (by decide) (EX_int (gt_ii ⟨_, rfl, ?_, rfl⟩)))))))))))  ?_
      · simp [nV]
      · rw [Int.fmod_eq_emod_of_nonneg _ (by decide)]; simp; omega
      by_cases hc : p < msg.length ∨ 0 < ns.length % 4
      · rw [if_pos (by simpa using hc)]
        have hp5 : p + 5 ≤ lts.length := by omega
        generalize hw : (lts.drop p).take 5 = w
        have hw5 : w.length = 5 := by rw [← hw, List.length_take, List.length_drop]; omega
        have hw3 : ∀ x ∈ w, x < 3 := by
          rw [← hw]; intro x hx
          exact hlt3 x (List.mem_of_mem_drop (List.mem_of_mem_take hx))
        have hwa := mem_allL 5 w hw5 hw3
        obtain ⟨k, hk, hans, l, hl, htk⟩ := hW.one w hwa
        have hlm := List.mem_of_getElem? hl
        have hll := hW.lts l hlm
        refine FX_cons (FX_Assign (EX_Call H.base H.gna H.fna (LX_cons (EX_SliceL (EX_var rfl (show PX _ _ _ _ _ (some _) _ from EX_var rfl ⟨_, rfl, show PX _ _ _ _ _ (some _) _ from EX_BinOp (EX_var rfl (EX_int (add_ii ⟨_, rfl, lts.map nV, .of .lst, by simp; omega, LX_nil ?_⟩)))⟩))))))
        have e2 : cut (some (p : Int)) (some ((p : Int) + 5)) (lts.map nV) = w.map nV := by
          have := cut_run (lts.map nV) p 5 (by simp; omega)
          rw [← hw, List.map_take, List.map_drop]
          exact this
        rw [e2]
        refine (name_ok (n := n + 2) (l := w) H.base H.fna hw3 (by omega)).mono fun v σ' hv => ?_
        obtain ⟨rfl, hσ⟩ := hv
        subst hσ
        refine FX_cons (FX_AssignComp [(sT "ahead", .str (nameT w))] (EX_var rfl ?_) (by intro q hq; simp only [List.mem_cons, List.not_mem_nil, or_false] at hq; subst hq; exact ⟨rfl, rfl⟩))
        refine ⟨rds, (ansS k).map stV, Iters_lst, by simp [ansS], ?_, ?_⟩
        · intro L2
          have e3 : (ansS k).map stV = rds.map (fun u => match u with | .rdr s => stV (if ansB s (nameT w) then Str.ofString "1" else Str.ofString "0") | _ => .none) := by
            have := congrArg (List.map fun b : Bool => stV (if b then Str.ofString "1" else Str.ofString "0")) hans
            rw [List.map_map, List.map_map] at this
            rw [← hrd, List.map_map, ansS, List.map_map]
            exact this.symm
          rw [e3]
          refine loop1 (Va := fun u => (sT "reader", u) :: [(sT "ahead", .str (nameT w))]) ?_ ?_ ?_
          · intro u hu; exact Asg_NameL
          · intro u hu q hq
            simp only [List.mem_cons, List.not_mem_nil, or_false] at hq
            subst hq; rfl
          · intro u hu σ'
            rw [← hrd] at hu
            obtain ⟨l', hl', rfl⟩ := List.mem_map.1 hu
            have hlen' := nameT_len l'
            have hl5 := hW.lts l' hl'
            have ht5 : nameT w ∈ texts5 := List.mem_map_of_mem hwa
            refine EX_CallT H.base H.mstr (LX_cons (EX_Rdr H.cls (EX_var rfl ⟨_, rfl, LX_cons (EX_str (LX_cons (EX_var rfl (LX_nil ?_))))⟩)))
            refine (names_ok (n := n + 2) H.base H.cls ht5 (texts5_ne _ ht5) (by omega)).mono fun v σ' hv => ?_
            obtain ⟨rfl, hσ⟩ := hv
            subst hσ
            refine LX_nil (str_i ?_ ⟨?_, rfl⟩)
            · cases ansB (nameT l') (nameT w) <;> decide
            · show AV.str _ = stV (if ansB (nameT l') (nameT w) then Str.ofString "1" else Str.ofString "0")
              cases ansB (nameT l') (nameT w) <;> rfl
        refine FX_cons (FX_If (BX_Compare (EX_CallB H.base H.msor (LX_cons (EX_var rfl (LX_nil (sorted_ss (sorted_ans k hk) (EX_BinOp (EX_BinOp (EX_List (LX_cons (EX_str (LX_nil ⟨by simp, EX_int (mul_li .lst (by decide) (by decide) (EX_List (LX_cons (EX_str (LX_nil ⟨by simp, add_ll .lst .lst (by simp) ?_⟩)))))⟩)))))))))))))
        have e4 : List.replicate (10 : Int).toNat (AV.str (Str.ofString "0")) ++ [AV.str (Str.ofString "1")] = goodS.map stV := by rfl
        rw [e4]
        refine ne_strs goodS_ok goodS_ok ⟨_, rfl, ?_⟩
        rw [if_neg (by simp)]
        refine FX_nil ?_
        have hi1 : (ansS k)[k]? = some (Str.ofString "1") := by unfold ansS; rw [List.getElem?_map, List.getElem?_range hk]; simp
        have hi2 : ∀ m, m < k → (ansS k)[m]? ≠ some (Str.ofString "1") := by
          intro m hm
          unfold ansS
          rw [List.getElem?_map, List.getElem?_range (by omega)]
          have : (m == k) = false := by rw [beq_eq_false_iff_ne]; omega
          simp only [Option.map_some, this]
          decide
        refine FX_cons (FX_Expr (EX_append (EX_var rfl ⟨D, _, rfl, upd_self, EX_Meth "list.index" (EX_var rfl ⟨meth_index, LX_cons (EX_str (LX_nil (index_ss hi1 hi2 (by simp [ansS]) ⟨_, upd_self, by simp; omega, ?_⟩)))⟩)⟩)))
        have e5 : ns.map nV ++ [AV.int ((k : Nat) : Int)] = (ns ++ [k]).map nV := by simp [nV]
        rw [upd_upd]
        refine FX_cons (FX_Aug rfl (EX_Meth "str.count" (EX_Sub (EX_var rfl (EX_Sub (EX_var rfl (EX_UnaryOp (EX_int (neg_i (sub_neg1 (vs := ns.map nV) (u := .int (k : Int)) (.own upd_self) (by simp; omega) (sub_li (u := stV (nameT l)) .lst (by omega) ?_ (by simp [hW.len]) ⟨meth_count, LX_cons (EX_str (LX_nil (count_ss ?_)))⟩)))))))))))
        · rw [Int.toNat_natCast, List.getElem?_map, List.getElem?_map, hl]; rfl
        rw [show Txt.count (nameT l) (Str.ofString ".") = (l.length : Int) from hW.cnt l hlm, e5]
        refine iadd_ii ?_
        refine FX_nil ⟨(p + l.length, ns ++ [k]), ?_, ⟨rfl, ?_, ?_, ?_, ?_, ?_⟩, ?_⟩
        · simp only [List.length_append, List.length_singleton]; omega
        · intro x hx
          rcases List.mem_append.1 hx with h | h
          · exact j1 x h
          · rw [List.mem_singleton] at h; omega
        · simp only [List.length_append, List.length_singleton]; omega
        · simp only [List.length_append, List.length_singleton]; omega
        · intro h; exfalso; dsimp only at h; omega
        · dsimp only
          have e6 : clen (ns ++ [k]) W = clen ns W ++ l := by
            unfold clen
            rw [List.flatMap_append]
            simp [List.getD, hl]
          rw [e6, j5, List.take_add]
          congr 1
          rw [← hw, List.take_take, Nat.min_eq_left (by omega)] at htk
          exact htk.symm
        · intro q hq
          simp only [List.mem_cons, List.not_mem_nil, or_false] at hq
          rcases hq with rfl | rfl | rfl | rfl | rfl | rfl
          · simp [nV]; rfl
          all_goals rfl
      · rw [if_neg (by simpa using hc)]
        have hp : 1 ≤ p := by omega
        refine ⟨ns, p, ns.length / 4, rfl, rfl, rfl, ?_, by omega, hlen200, j1, by omega, j5⟩
        rintro rfl
        have := congrArg List.length j5
        rw [List.length_take] at this
        simp [clen] at this
        omega
    · rintro V2 σ2 ⟨ns, p, m, l1, l2, hσ, h1, h2, h3, h4, h5, h6⟩
      subst hσ
      refine FX_cons (FX_Return (EX_Tuple (LX_cons (EX_varF l1 upd_self (LX_cons (EX_var l2 (LX_nil ⟨by simp, ?_, ns, p, m, rfl, h1, h2, h3, h4, h5, h6⟩)))))))
      rw [del_upd hD]
end
end Mine
end
section
open PySem PyProof.Rows PySem.Calls
namespace Mine
def b64l : List UInt8 := [65, 66, 67, 68, 69, 70, 71, 72, 73, 74, 75, 76, 77, 78, 79, 80, 81, 82, 83, 84, 85, 86, 87, 88, 89, 90, 97, 98, 99, 100, 101, 102, 103, 104, 105, 106, 107, 108, 109, 110, 111, 112, 113, 114, 115, 116, 117, 118, 119, 120, 121, 122, 48, 49, 50, 51, 52, 53, 54, 55, 56, 57, 43, 47]
def sgn (k : Nat) : Nat := (b64l.getD k 0).toNat
def drain : Nat → Nat → Nat → List Nat → Nat × List Nat
  | 0, _, lb, out => (lb, out)
  | f + 1, lc, lb, out => if lb < 6 then (lb, out) else drain f lc (lb - 6) (out ++ [sgn (lc / 2 ^ (lb - 6) % 64)])
def stepB (st : Nat × Nat × List Nat) (b : Nat) : Nat × Nat × List Nat :=
  let lc := (st.1 * 256 + b) % 65536
  let r := drain 3 lc (st.2.1 + 8) st.2.2
  (lc, r.1, r.2)
def encF (os : List Nat) : Nat × Nat × List Nat := os.foldl stepB (0, 0, [])
def byN (os : List Nat) : Array UInt8 := (os.map Nat.toUInt8).toArray
theorem byN_ints {os : List Nat} (h : ∀ k ∈ os, k < 256) : (byN os).toList.map (fun u => AV.int (u.toNat : Int)) = os.map nV := by
  unfold byN
  rw [List.map_map]
  refine List.map_congr_left fun k hk => ?_
  have := h k hk
  simp [nV]
  omega
theorem byteArr_nat (os : List Nat) : byteArr (os.map fun k : Nat => (k : Int)) = byN os := by
  unfold byteArr byN
  rw [List.map_map]
  congr 1
theorem bor_pp (x y : Nat) : Builtin.bitOr (x : Int) (y : Int) = ((x ||| y : Nat) : Int) := by
  have h1 : Builtin.bitNot (x : Int) = -(x : Int) - 1 := by unfold Builtin.bitNot; omega
  have h2 : Builtin.bitNot (y : Int) = -(y : Int) - 1 := by unfold Builtin.bitNot; omega
  have h3 : (Builtin.bitNot (Builtin.bitNot (x : Int))).toNat = x := by rw [h1]; unfold Builtin.bitNot; omega
  have h4 : (Builtin.bitNot (Builtin.bitNot (y : Int))).toNat = y := by rw [h2]; unfold Builtin.bitNot; omega
  unfold Builtin.bitOr
  rw [bitAnd_nn (by rw [h1]; omega) (by rw [h2]; omega), h3, h4]
  unfold Builtin.bitNot; omega
theorem band_pp (x y : Nat) : Builtin.bitAnd (x : Int) (y : Int) = ((x &&& y : Nat) : Int) := by
  rw [bitAnd_pp (by omega) (by omega)]; simp
theorem lc_eq (lc b : Nat) (hb : b < 256) : Builtin.bitAnd (Builtin.bitOr ((lc : Int) * 2 ^ (8 : Int).toNat) (b : Int)) 65535 = (((lc * 256 + b) % 65536 : Nat) : Int) := by
  have e : (lc : Int) * 2 ^ (8 : Int).toNat = ((2 ^ 8 * lc : Nat) : Int) := by simp; omega
  rw [e, bor_pp, ← Nat.two_pow_add_eq_or_of_lt (i := 8) (by omega), show (65535 : Int) = ((2 ^ 16 - 1 : Nat) : Int) by decide, band_pp, Nat.and_two_pow_sub_one_eq_mod]
  congr 2
  omega
theorem ix_eq (lc d : Nat) : Builtin.bitAnd (((lc : Int)).fdiv (2 ^ (d : Int).toNat)) 63 = ((lc / 2 ^ d % 64 : Nat) : Int) := by
  have e : ((lc : Int)).fdiv (2 ^ (d : Int).toNat) = ((lc / 2 ^ d : Nat) : Int) := by
    rw [Int.fdiv_eq_ediv_of_nonneg _ (by exact Int.le_of_lt (Int.pow_pos (by decide)))]
    simp
  rw [e, show (63 : Int) = ((2 ^ 6 - 1 : Nat) : Int) by decide, band_pp, Nat.and_two_pow_sub_one_eq_mod]
theorem isnt_none_none {c : Cfg} {n : Nat} {σ : Mut} {Φ : AV → Mut → Prop} (h : Φ (.bool false) σ) : Cmp c n .IsNot .none .none σ Φ := OX2 fun A R P C s v y Q E I r1 r2 q => by
  cases r1; cases r2
  exact wpAny_isNot_plain rfl (q P C σ _ _ _ .rfl I .bool h)
structure B64 (c : Cfg) (G M : List (Str × Value)) : Prop where
  base : BaseOK c G M
  gbuf : G.lookup (sT "_buffer") = some (.ref 56)
  gtru : G.lookup (sT "_truth") = some (.ref 63)
  gtab : G.lookup (sT "_B64") = some (.bytes b64l.toArray 256)
  gb2a : G.lookup (sT "b2a_base64") = some (.ref 71)
  mbyt : M.lookup (sT "bytes") = some (.type "bytes")
  mtyp : M.lookup (sT "type") = some (.type "type")
  mboo : M.lookup (sT "bool") = some (.type "bool")
  f7 : FnAt c.B 56 (sT "_buffer") (sT "_buffer") (paramsOf 7) (bodyOf 7) (scopeOf 7) .none .none
  f8 : FnAt c.B 63 (sT "_truth") (sT "_truth") (paramsOf 8) (bodyOf 8) (scopeOf 8) .none .none
  f10 : FnAt c.B 71 (sT "b2a_base64") (sT "b2a_base64") (paramsOf 10) (bodyOf 10) (scopeOf 10) .none (.ref 64)
  f12 : FnAt c.B 79 (sT "b64encode") (sT "b64encode") (paramsOf 12) (bodyOf 12) (scopeOf 12) (.ref 72) .none
  dflt : ∃ o n, c.B.get? 72 = some o ∧ o.data = .seq #[.none] n
section
variable {c : Cfg} {σ : Mut} {n : Nat} {G M : List (Str × Value)}
set_option maxRecDepth 10000 in
theorem buffer_ok (H : B64 c G M) {b : Array UInt8} : CX c (n + 1) 56 [.bytes b] [] [] σ fun v σ' => v = .bytes b ∧ σ' = σ := by
  refine CX_fn (names := [sT "data"]) H.base H.f7 rfl ?_ ?_ ?_ ?_
  · intro doc pm an cdv ct ys hy
    match ys, hy with
    | [a], _ => rfl
  · decide
  · decide
  · intro L doc pm an cdv ct
    refine FX_cons (FX_Assign (EX_CallT H.base H.mtyp (LX_cons (EX_var rfl (LX_nil (type_by ?_))))))
    refine FX_cons (FX_If (BX_Compare (EX_var rfl (EX_blt (v := .type "bytes") H.base H.mbyt (fun _ _ => .type) (is_tt ⟨_, rfl, ?_⟩)))))
    rw [if_pos (by rfl)]
    exact FX_cons (FX_Return (EX_var rfl ⟨rfl, rfl⟩))
set_option maxRecDepth 10000 in
theorem truth_ok (H : B64 c G M) {b : Bool} : CX c (n + 1) 63 [.bool b] [] [] σ fun v σ' => v = .bool b ∧ σ' = σ := by
  refine CX_fn (names := [sT "x"]) H.base H.f8 rfl ?_ ?_ ?_ ?_
  · intro doc pm an cdv ct ys hy
    match ys, hy with
    | [a], _ => rfl
  · decide
  · decide
  · intro L doc pm an cdv ct
    refine FX_cons (FX_Assign (EX_CallT H.base H.mtyp (LX_cons (EX_var rfl (LX_nil (type_b ?_))))))
    refine FX_cons (FX_If (BX_Or (BX_Compare (EX_var rfl (EX_none (is_none_b ⟨_, rfl, ?_⟩))))))
    rw [if_neg (by decide)]
    refine BX_Compare (EX_var rfl (EX_blt (v := .type "bool") H.base H.mboo (fun _ _ => .type) (is_tt ⟨_, rfl, ?_⟩)))
    rw [if_pos (by rfl)]
    dsimp only
    rw [if_pos rfl]
    refine FX_cons (FX_Return (EX_IfExp (BX_value (EX_var rfl ⟨b, .bool, ?_⟩))))
    cases b with
    | true => rw [if_pos rfl]; exact EX_bool ⟨rfl, rfl⟩
    | false => rw [if_neg (by decide)]; exact EX_bool ⟨rfl, rfl⟩
theorem drain_lb : ∀ (f lc lb : Nat) (out : List Nat), lb < 6 * (f + 1) → (drain f lc lb out).1 < 6
  | 0, _, lb, _, h => by simpa [drain] using h
  | f + 1, lc, lb, out, h => by
    unfold drain
    split
    · assumption
    · exact drain_lb f lc (lb - 6) _ (by omega)
theorem drain_len : ∀ (f lc lb : Nat) (out : List Nat), (drain f lc lb out).2.length ≤ out.length + f
  | 0, _, lb, _ => by simp [drain]
  | f + 1, lc, lb, out => by
    unfold drain
    split
    · simp
    · have := drain_len f lc (lb - 6) (out ++ [sgn (lc / 2 ^ (lb - 6) % 64)])
      simp at this ⊢; omega
theorem encF_snoc (os : List Nat) (b : Nat) : encF (os ++ [b]) = stepB (encF os) b := by unfold encF; rw [List.foldl_append]; rfl
theorem encF_inv (os : List Nat) : (encF os).2.1 < 6 ∧ (encF os).1 < 65536 ∧ (encF os).2.2.length ≤ 3 * os.length := by
  have : ∀ (os : List Nat) (st : Nat × Nat × List Nat) (k : Nat), st.2.1 < 6 → st.1 < 65536 → st.2.2.length ≤ 3 * k → (os.foldl stepB st).2.1 < 6 ∧ (os.foldl stepB st).1 < 65536 ∧ (os.foldl stepB st).2.2.length ≤ 3 * (k + os.length) := by
    intro os
    induction os with
    | nil => intro st k h1 h2 h3; exact ⟨h1, h2, by simpa using h3⟩
    | cons b l ih =>
      intro st k h1 h2 h3
      have := ih (stepB st b) (k + 1) (drain_lb _ _ _ _ (by omega)) (Nat.mod_lt _ (by decide)) (Nat.le_trans (drain_len _ _ _ _) (by omega))
      refine ⟨this.1, this.2.1, ?_⟩
      have h := this.2.2
      rw [List.foldl_cons, List.length_cons]
      omega
  simpa [encF] using this os (0, 0, []) 0 (by decide) (by decide) (by simp)
theorem sgn_lt (k : Nat) : sgn k < 256 := (b64l.getD k 0).toNat_lt
theorem drain_all : ∀ (f lc lb : Nat) (out : List Nat), (∀ k ∈ out, k < 256) → ∀ k ∈ (drain f lc lb out).2, k < 256
  | 0, _, lb, _, h => by simpa [drain] using h
  | f + 1, lc, lb, out, h => by
    unfold drain
    split
    · exact h
    · refine drain_all f lc (lb - 6) _ fun k hk => ?_
      rcases List.mem_append.1 hk with hk | hk
      · exact h k hk
      · rw [List.mem_singleton] at hk; subst hk; exact sgn_lt _
theorem encF_all (os : List Nat) : ∀ k ∈ (encF os).2.2, k < 256 := by
  have : ∀ (os : List Nat) (st : Nat × Nat × List Nat), (∀ k ∈ st.2.2, k < 256) → ∀ k ∈ (os.foldl stepB st).2.2, k < 256 := by
    intro os
    induction os with
    | nil => intro st h; exact h
    | cons b l ih => intro st h; exact ih _ (drain_all _ _ _ _ h)
  exact this os (0, 0, []) (by simp)
set_option maxRecDepth 10000 in
set_option maxHeartbeats 1000000 in
theorem b2a_ok (H : B64 c G M) {os : List Nat} (ho : ∀ k ∈ os, k < 256) (hz : os.length < 10000) (he : (encF os).2.1 = 0) :
    CX c (n + 2) 71 [.bytes (byN os)] [sT "newline"] [.bool false] σ fun v σ' => v = .bytes (byN (encF os).2.2) ∧ σ' = σ := by
  refine CX_fnB (names := [sT "data", sT "newline"]) (bargs := [.bytes (byN os), .bool false]) H.base H.f10 rfl ?_ ?_ ?_ ?_
  · intro doc pm an cdv ct P C s xs ys I r1 r2
    match xs, ys, r1, r2 with
    | [x], [y], .cons r1 .nil, .cons r2 .nil => exact ⟨[x, y], .cons r1 (.cons r2 .nil), .of_eq rfl⟩
  · decide
  · decide
  · intro L doc pm an cdv ct
    refine FX_cons (FX_Assign (EX_Call H.base H.gbuf H.f7 (LX_cons (EX_var rfl (LX_nil ((buffer_ok (n := n) H).mono fun v σ hv => ?_))))))
    obtain ⟨rfl, rfl⟩ := hv
    refine FX_cons (FX_Assign (EX_Call H.base H.gtru H.f8 (LX_cons (EX_var rfl (LX_nil ((truth_ok (n := n) H).mono fun v σ hv => ?_))))))
    obtain ⟨rfl, rfl⟩ := hv
    refine FX_cons (FX_Assign (EX_ListO (LX_nil ⟨by simp, ?_⟩)))
    intro D hD
    refine FX_cons (FX_Assign (EX_int ?_))
    refine FX_cons (FX_Assign (EX_int ?_))
    refine FX_consI (fun V2 σ2 => V2.lookup (sT "out") = some (.ref D) ∧ V2.lookup (sT "leftbits") = some (.int 0) ∧ V2.lookup (sT "newline") = some (.bool false) ∧ σ2 = upd σ D ((encF os).2.2.map nV))
      (FX_ForN (EX_var rfl ?_)) ?_
    · refine ⟨os.map nV, fun k => [(sT "leftchar", nV (encF (os.take k)).1), (sT "leftbits", nV (encF (os.take k)).2.1), (sT "out", .ref D), (sT "newline", .bool false)], fun k σ' => k ≤ os.length ∧ σ' = upd σ D ((encF (os.take k)).2.2.map nV), ?_, ?_, ?_, ⟨by omega, rfl⟩, ?_, ?_⟩
      · rw [← byN_ints ho]; exact Iters_bytes
      · intro p hp
        simp only [List.mem_cons, List.not_mem_nil, or_false] at hp
        rcases hp with rfl | rfl | rfl | rfl <;> rfl
      · intro k p hp
        simp only [List.mem_cons, List.not_mem_nil, or_false] at hp
        rcases hp with rfl | rfl | rfl | rfl <;> (dsimp only; decide)
      · rintro k u σ' hu ⟨hkm, rfl⟩
        have hk : k < os.length := by
          have := (List.getElem?_eq_some_iff.mp hu).1
          simpa using this
        obtain ⟨b, hb⟩ : ∃ b, os[k]? = some b := ⟨_, List.getElem?_eq_getElem hk⟩
        have hb2 := ho b (List.mem_of_getElem? hb)
        have hu' : u = nV b := by
          rw [List.getElem?_map, hb] at hu
          simpa using hu.symm
        subst hu'
        have htk : os.take (k + 1) = os.take k ++ [b] := by rw [List.take_add_one, hb]; rfl
        dsimp only
        rw [htk, encF_snoc]
        have hinv := encF_inv (os.take k)
        have hlk : (os.take k).length < 10000 := by rw [List.length_take]; omega
        generalize encF (os.take k) = st at hinv ⊢
        obtain ⟨lc, lb, out⟩ := st
        obtain ⟨i1, i2, i3⟩ := hinv
        dsimp only at i1 i2 i3 ⊢
        refine FX_cons (FX_Assign (EX_BinOp (EX_BinOp (EX_BinOp (EX_var rfl (EX_int (shl_ii (by decide) (by decide) (by omega) (EX_var rfl (or_ii (EX_int (and_ii ?_)))))))))))
        rw [lc_eq lc b hb2]
        refine FX_cons (FX_Assign (EX_BinOp (EX_var rfl (EX_int (add_ii ?_)))))
        rw [show (lb : Int) + 8 = ((lb + 8 : Nat) : Int) by omega]
        unfold stepB
        dsimp only
        generalize hlc : (lc * 256 + b) % 65536 = lc'
        have hlc' : lc' < 65536 := by rw [← hlc]; exact Nat.mod_lt _ (by decide)
        refine FX_consI (fun V2 σ2 => V2.lookup (sT "leftchar") = some (nV lc') ∧ V2.lookup (sT "out") = some (.ref D) ∧ V2.lookup (sT "leftbits") = some (nV (drain 3 lc' (lb + 8) out).1) ∧ V2.lookup (sT "newline") = some (.bool false) ∧ σ2 = upd σ D ((drain 3 lc' (lb + 8) out).2.map nV))
          (FX_WhileN (ι := Nat × Nat × List Nat) (fun i => [(sT "leftchar", nV lc'), (sT "leftbits", nV i.2.1), (sT "out", .ref D), (sT "newline", .bool false)])
          (fun i σ' => i.2.1 < 6 * (i.1 + 1) ∧ i.2.2.length + i.1 ≤ out.length + 3 ∧ drain i.1 lc' i.2.1 i.2.2 = drain 3 lc' (lb + 8) out ∧ σ' = upd σ D (i.2.2.map nV)) (fun i => i.2.1) (3, lb + 8, out) ?_ ⟨by dsimp only; omega, Nat.le_refl _, rfl, rfl⟩ ?_) ?_
        · intro p hp
          simp only [List.mem_cons, List.not_mem_nil, or_false] at hp
          rcases hp with rfl | rfl | rfl | rfl <;> rfl
        · rintro ⟨f, lb2, out2⟩ σ' ⟨j1, j2, j3, rfl⟩
          dsimp only at j1 j2 j3 ⊢
          refine BX_Compare (EX_var rfl (EX_int (ge_ii ⟨_, rfl, ?_⟩)))
          by_cases h6 : 6 ≤ lb2
          · rw [if_pos (by simp; omega)]
            obtain ⟨f', rfl⟩ : ∃ f', f = f' + 1 := ⟨f - 1, by omega⟩
            unfold drain at j3
            rw [if_neg (by omega)] at j3
            refine FX_cons (FX_Expr (EX_append (EX_var rfl ⟨D, _, rfl, upd_self, ?_⟩)))
            refine EX_Sub (EX_glob (v := .bytes b64l.toArray) H.base H.gtab (fun _ _ => .bytes) (EX_BinOp (EX_BinOp (EX_var rfl (EX_BinOp (EX_var rfl (EX_int (sub_ii ?_))))))))
            rw [show (lb2 : Int) - 6 = ((lb2 - 6 : Nat) : Int) by omega]
            refine shr_ii (by omega) (EX_int (and_ii ?_))
            rw [ix_eq]
            have hix : lc' / 2 ^ (lb2 - 6) % 64 < 64 := Nat.mod_lt _ (by decide)
            refine sub_bi (by decide) (by omega) (by rw [show b64l.length = 64 from rfl]; omega) ⟨_, upd_self, by simp; omega, ?_⟩
            refine FX_cons (FX_Assign (EX_BinOp (EX_var rfl (EX_int (sub_ii ?_)))))
            rw [show (lb2 : Int) - 6 = ((lb2 - 6 : Nat) : Int) by omega]
            refine FX_nil ⟨(f', lb2 - 6, out2 ++ [sgn (lc' / 2 ^ (lb2 - 6) % 64)]), by dsimp only; omega, ⟨by dsimp only; omega, by simp; omega, j3, ?_⟩, ?_⟩
            · rw [upd_upd, List.map_append, Int.toNat_natCast]; rfl
            · intro p hp
              simp only [List.mem_cons, List.not_mem_nil, or_false] at hp
              rcases hp with rfl | rfl | rfl | rfl <;> rfl
          · rw [if_neg (by simp; omega)]
            have : drain f lc' lb2 out2 = (lb2, out2) := by
              cases f with
              | zero => rfl
              | succ f => unfold drain; rw [if_pos (by omega)]
            rw [this] at j3
            rw [← j3]
            exact ⟨rfl, rfl, rfl, rfl, rfl⟩
        · rintro V2 σ2 ⟨l1, l2, l3, l4, rfl⟩
          refine FX_nil ⟨⟨by omega, rfl⟩, ?_⟩
          intro p hp
          simp only [List.mem_cons, List.not_mem_nil, or_false] at hp
          rcases hp with rfl | rfl | rfl | rfl
          · exact l1
          · exact l3
          · exact l2
          · exact l4
      · rintro V' σ' ⟨_, rfl⟩ hV
        simp only [List.length_map, List.take_length] at hV ⊢
        refine ⟨hV (sT "out", .ref D) (by simp), ?_, hV (sT "newline", .bool false) (by simp), rfl⟩
        have := hV (sT "leftbits", nV (encF os).2.1) (by simp)
        rw [he] at this
        exact this
    · rintro V2 σ2 ⟨l1, l2, l3, rfl⟩
      refine FX_cons (FX_If (BX_Compare (EX_var l2 (EX_int (eq_ii ⟨_, rfl, ?_⟩)))))
      rw [if_neg (by decide)]
      refine FX_cons (FX_If (BX_Compare (EX_var l2 (EX_int (eq_ii ⟨_, rfl, ?_⟩)))))
      rw [if_neg (by decide)]
      refine FX_nil (FX_nil ?_)
      refine FX_cons (FX_If (BX_value (EX_var l3 ⟨_, .bool, ?_⟩)))
      rw [if_neg (by decide)]
      refine FX_nil ?_
      have hinv := encF_inv os
      have hall := encF_all os
      refine FX_cons (FX_Return (EX_CallT H.base H.mbyt (LX_cons (EX_varF l1 upd_self (LX_nil ?_)))))
      rw [del_upd hD]
      refine bytes_l (ns := (encF os).2.2.map fun k : Nat => (k : Int)) (by rw [List.map_map]; exact .lst) ?_ (by simp; omega) ?_
      · intro k hk
        obtain ⟨j, hj, rfl⟩ := List.mem_map.1 hk
        have := hall j hj
        omega
      · rw [byteArr_nat]; exact ⟨rfl, rfl⟩
set_option maxRecDepth 10000 in
theorem b64encode_ok (H : B64 c G M) {os : List Nat} (ho : ∀ k ∈ os, k < 256) (hz : os.length < 10000) (he : (encF os).2.1 = 0) :
    CX c (n + 3) 79 [.bytes (byN os)] [] [] σ fun v σ' => v = .bytes (byN (encF os).2.2) ∧ σ' = σ := by
  refine CX_fnB (names := [sT "s", sT "altchars"]) (bargs := [.bytes (byN os), .none]) H.base H.f12 rfl ?_ ?_ ?_ ?_
  · intro doc pm an cdv ct P C s xs ys I r1 r2
    obtain ⟨o, k, ho, hd⟩ := H.dflt
    match xs, ys, r1, r2 with
    | [x], [], .cons r1 .nil, .nil => exact ⟨[x, .none], .cons r1 (.cons .none .nil), .of_defaults rfl (I.base _ _ ho) hd rfl rfl⟩
  · decide
  · decide
  · intro L doc pm an cdv ct
    refine FX_cons (FX_Assign (EX_CallKw1 H.base H.gb2a H.f10 (LX_cons (EX_var rfl (LX_nil (EX_bool ((b2a_ok (n := n) H ho hz he).mono fun v σ hv => ?_)))))))
    obtain ⟨rfl, rfl⟩ := hv
    refine FX_cons (FX_If (BX_Compare (EX_var rfl (EX_none (isnt_none_none ⟨_, rfl, ?_⟩)))))
    rw [if_neg (by decide)]
    refine FX_nil ?_
    exact FX_cons (FX_Return (EX_var rfl ⟨rfl, rfl⟩))
end
end Mine
end
section
open PySem PyProof.Rows PySem.Calls
namespace Mine
set_option maxRecDepth 100000 in
theorem step3 {a b d e : Nat} (ha : a < 64) (hb : b < 64) (hd : d < 64) (he : e < 64) (lc : Nat) (out : List Nat) :
    ∃ lc', stepB (stepB (stepB (lc, 0, out) (four a b d e / 65536)) (four a b d e / 256 % 256)) (four a b d e % 256) = (lc', 0, out ++ [sgn a, sgn b, sgn d, sgn e]) := by
  have hf : four a b d e = ((a * 64 + b) * 64 + d) * 64 + e := rfl
  have z1 : four a b d e / 65536 = a * 4 + b / 16 := by omega
  have y1 : four a b d e / 256 % 256 = (b % 16) * 16 + d / 4 := by omega
  have x1 : four a b d e % 256 = (d % 4) * 64 + e := by omega
  rw [z1, y1, x1]
  clear z1 y1 x1 hf
  generalize hz : a * 4 + b / 16 = z
  generalize hy : (b % 16) * 16 + d / 4 = y
  generalize hx : (d % 4) * 64 + e = x
  refine ⟨(((lc * 256 + z) % 65536 * 256 + y) % 65536 * 256 + x) % 65536, ?_⟩
  simp only [stepB, drain, show ¬ (0 + 8 : Nat) < 6 by decide, show ((0 + 8 - 6 : Nat) < 6) by decide, if_true, if_false, show (0 + 8 - 6 : Nat) = 2 by decide, show ¬ (2 + 8 : Nat) < 6 by decide, show ((2 + 8 - 6 : Nat)) = 4 by decide, show (4 : Nat) < 6 by decide,
    show ¬ (4 + 8 : Nat) < 6 by decide, show (4 + 8 - 6 : Nat) = 6 by decide, show ¬ (6 : Nat) < 6 by decide, show (6 - 6 : Nat) = 0 by decide, show (0 : Nat) < 6 by decide]
  have hz2 : z < 256 := by omega
  have hy2 : y < 256 := by omega
  have hx2 : x < 256 := by omega
  generalize hl1 : (lc * 256 + z) % 65536 = l1
  have h1 : l1 % 256 = z := by omega
  generalize hl2 : (l1 * 256 + y) % 65536 = l2
  have h2 : l2 = z * 256 + y := by clear hl1; omega
  generalize hl3 : (l2 * 256 + x) % 65536 = l3
  have h3 : l3 = y * 256 + x := by clear hl1 hl2; omega
  have e1 : l1 / 2 ^ 2 % 64 = a := by clear hl1 hl2 hl3 h2 h3; omega
  have e2 : l2 / 2 ^ 4 % 64 = b := by clear hl1 hl2 hl3 h1 h3; omega
  have e3 : l3 / 2 ^ 6 % 64 = d := by clear hl1 hl2 hl3 h1 h2; omega
  have e4 : l3 / 2 ^ 0 % 64 = e := by clear hl1 hl2 hl3 h1 h2; omega
  rw [e1, e2, e3, e4]
  simp
theorem enc_pack : ∀ (m : Nat) (l : List Nat), l.length = 4 * m → (∀ k ∈ l, k < 64) → ∀ lc out, ∃ lc', (packP l).foldl stepB (lc, 0, out) = (lc', 0, out ++ l.map sgn)
  | 0, l, hl, _, lc, out => by
    rw [Nat.mul_zero, List.length_eq_zero_iff] at hl
    subst hl
    exact ⟨lc, by simp [packP]⟩
  | m + 1, l, hl, h, lc, out => by
    match l, hl, h with
    | a :: b :: d :: e :: r, hl, h =>
      obtain ⟨lc1, h1⟩ := step3 (h a (by simp)) (h b (by simp)) (h d (by simp)) (h e (by simp)) lc out
      obtain ⟨lc2, h2⟩ := enc_pack m r (by simp at hl; omega) (fun k hk => h k (by simp [hk])) lc1 (out ++ [sgn a, sgn b, sgn d, sgn e])
      refine ⟨lc2, ?_⟩
      rw [packP, List.foldl_cons, List.foldl_cons, List.foldl_cons, h1, h2]
      simp
    | [_, _, _], hl, _ => simp at hl <;> omega
    | [_, _], hl, _ => simp at hl <;> omega
    | [_], hl, _ => simp at hl <;> omega
    | [], hl, _ => simp at hl <;> omega
theorem encF_pack {m : Nat} {l : List Nat} (hl : l.length = 4 * m) (h : ∀ k ∈ l, k < 64) : (encF (packP l)).2.1 = 0 ∧ (encF (packP l)).2.2 = l.map sgn := by
  obtain ⟨lc, e⟩ := enc_pack m l hl h 0 []
  unfold encF
  rw [e]
  exact ⟨rfl, by simp⟩
theorem packP_lt : ∀ l : List Nat, (∀ k ∈ l, k < 64) → ∀ k ∈ packP l, k < 256
  | a :: b :: d :: e :: r, h, k, hk => by
    have ha := h a (by simp)
    have hb := h b (by simp)
    have hd := h d (by simp)
    have he := h e (by simp)
    have hf : four a b d e = ((a * 64 + b) * 64 + d) * 64 + e := rfl
    rw [packP] at hk
    simp only [List.mem_cons] at hk
    rcases hk with rfl | rfl | rfl | hk
    · omega
    · omega
    · omega
    · exact packP_lt r (fun k hk => h k (by simp [hk])) k hk
  | [_, _, _], _, _, hk => by simp [packP] at hk
  | [_, _], _, _, hk => by simp [packP] at hk
  | [_], _, _, hk => by simp [packP] at hk
  | [], _, _, hk => by simp [packP] at hk
def signsS : Str := Str.ofString "ABCDEFGHIJKLMNOPQRSTUVWXYZabcdefghijklmnopqrstuvwxyz0123456789+/"
theorem find_sgn : ∀ k, k < 64 → Txt.find signsS (Str.mk #[sgn k]) = (k : Int) := by
  have h : ((List.range 64).all fun k => decide (Txt.find signsS (Str.mk #[sgn k]) = (k : Int))) = true := by decide +kernel
  intro k hk
  have := List.all_eq_true.1 h k (List.mem_range.2 hk)
  simpa using this
end Mine
end
section
open PySem PyProof.Rows PySem.Calls
namespace Mine
/-- all that the law looks at, of one pair of weights -/
structure PlainOK (a b : Int) (W : List (List Nat)) : Prop where
  okr : ∀ k, k < 5 → okR a b k = true
  gone : ∃ gi gl hvs l1, (stP a b 5).1 = gi ++ [gl] ∧ okHv a b gl.1 7 (startP a b) = true ∧ sortQ wdLt (heavyP a b gl.1 7 (startP a b)) = some hvs ∧ hvs.take 5 = (stP a b 5).1 ∧ hvs.length < 1000 ∧
    sortQ wdLt (stP a b 5).2 = some l1 ∧ sortQ wdLt (((stP a b 5).1.flatMap (grownP a b)).filter fun w => !(stP a b 5).1.contains w) = some l1 ∧ l1.all okW = true
  okg : (stP a b 5).1.all okW = true
  okn : ((stP a b 5).1.flatMap (grownP a b)).all okW = true
  small : ∀ p ∈ (stP a b 5).1, p.2.length < 100 ∧ p.1.natAbs < 2 ^ 60
  len : (stP a b 5).1.length < 100 ∧ (stP a b 5).2.length < 100
  words : sortQ strLt ((stP a b 5).2.map (·.2)) = some (W.map nameT)
  cut : CutOK W
structure LawG (c : Cfg) (G M : List (Str × Value)) : Prop where
  hq : Heapq c G M
  b64 : B64 c G M
  cg : CutG c G M
  gsp : G.lookup (sT "_law_split") = some (.ref 158)
  ghv : G.lookup (sT "_law_heavy") = some (.ref 163)
  gcu : G.lookup (sT "_law_cut") = some (.ref 168)
  gpk : G.lookup (sT "_law_packed") = some (.ref 175)
  g64 : G.lookup (sT "b64encode") = some (.ref 79)
  mchr : M.lookup (sT "chr") = some (.builtin "chr")
  f25 : FnAt c.B 158 (sT "_law_split") (sT "_law_split") (paramsOf 25) (bodyOf 25) (scopeOf 25) .none .none
  f26 : FnAt c.B 163 (sT "_law_heavy") (sT "_law_heavy") (paramsOf 26) (bodyOf 26) (scopeOf 26) .none .none
  f28 : FnAt c.B 175 (sT "_law_packed") (sT "_law_packed") (paramsOf 28) (bodyOf 28) (scopeOf 28) .none .none
  f29 : FnAt c.B 180 (sT "law") (sT "law") (paramsOf 29) (bodyOf 29) (scopeOf 29) .none .none
/-- the two numbers that the weights come of -/
theorem two_of (ns : List Int) : ∃ x0 x1 : Int, (ns.map AV.int).take 2 ++ [AV.int 1, AV.int 0].drop ((ns.map AV.int).take 2).length = [AV.int x0, AV.int x1] := by
  match ns with
  | [] => exact ⟨1, 0, rfl⟩
  | [x] => exact ⟨x, 0, rfl⟩
  | x :: y :: r => exact ⟨x, y, rfl⟩
def msgOf (ns : List Int) : List Nat := [0, 0, 0, 1, 2, 1, 0, 0, 1] ++ (ns.take 9).map fun x => (x.fmod 3).toNat
theorem msg_lt (ns : List Int) : ∀ x ∈ msgOf ns, x < 3 := by
  intro x hx
  unfold msgOf at hx
  rcases List.mem_append.1 hx with h | h
  · simp only [List.mem_cons, List.not_mem_nil, or_false] at h; omega
  · obtain ⟨y, _, rfl⟩ := List.mem_map.1 h
    have := Int.fmod_lt_of_pos y (b := 3) (by decide)
    omega
theorem msg_len (ns : List Int) : 9 ≤ (msgOf ns).length ∧ (msgOf ns).length ≤ 18 := by
  unfold msgOf
  rw [List.length_append, List.length_map, List.length_take]
  simp
  omega
theorem catT_append : ∀ a b : List Str, catT (a ++ b) = catT a ++ catT b
  | [], b => (str_empty_append _).symm
  | x :: a, b => by
    show x ++ catT (a ++ b) = (x ++ catT a) ++ catT b
    rw [catT_append a b, Str.append_assoc]
theorem catT_flat : ∀ ls : List (List Nat), catT (ls.map fun l => catT (l.map letT)) = catT (ls.flatten.map letT)
  | [] => rfl
  | l :: r => by
    show catT (l.map letT) ++ catT (r.map fun l => catT (l.map letT)) = _
    rw [catT_flat r, List.flatten_cons, List.map_append, catT_append]
theorem grown_len (a b : Int) : ∀ l : List Wd, (l.flatMap (grownP a b)).length = 3 * l.length
  | [] => rfl
  | x :: l => by rw [List.flatMap_cons, List.length_append, grown_len a b l, List.length_cons]; simp [grownP]; omega
def grA (a b : Int) : AV → List AV
  | .tup [.int x, .str s] => (grownP a b (x, s)).map wdV
  | _ => []
theorem grA_flat (a b : Int) : ∀ l : List Wd, (l.map wdV).flatMap (grA a b) = (l.flatMap (grownP a b)).map wdV
  | [] => rfl
  | x :: l => by rw [List.map_cons, List.flatMap_cons, grA_flat a b l, List.flatMap_cons, List.map_append]; rfl
def notA (gone : List Wd) : AV → Bool
  | .tup [.int x, .str s] => !gone.contains (x, s)
  | _ => false
theorem notA_filter (gone : List Wd) : ∀ l : List Wd, (l.map wdV).filter (notA gone) = (l.filter fun w => !gone.contains w).map wdV
  | [] => rfl
  | x :: l => by
    rw [List.map_cons, List.filter_cons, List.filter_cons, notA_filter gone l]
    have : notA gone (wdV x) = !gone.contains x := rfl
    rw [this]
    cases h : (!gone.contains x) <;> simp
def sndA : AV → AV
  | .tup [_, y] => y
  | _ => .none
def tailW (W : List (List Nat)) (k : Nat) : Str := catT ((W.getD k []).map letT)
section
variable {c : Cfg} {σ : Mut} {n : Nat} {G M : List (Str × Value)}
theorem EX_SliceTo {env : Env} {V : Vars} {Φ : AV → Mut → Prop} {value e : Expr} {pos ps : Pos} (h : EX c n env V σ value fun v σ1 => EX c n env V σ1 e fun iv σ2 => ∃ i vs, iv = .int i ∧ SrcV σ2 v vs ∧ vs.length < 100000 ∧ Φ (.lst (cut none (some i) vs)) σ2) :
    EX c n env V σ (.Subscript value (.Slice none (some e) none ps) pos) Φ :=
  EX_SliceL (lo := none) (hi := some e) (h.mono fun v σ1 h1 => TX.mono h1 fun iv σ2 ⟨i, vs, h2, h3, h4, h5⟩ => ⟨i, h2, vs, h3, h4, h5⟩)
theorem EX_SliceFm {env : Env} {V : Vars} {Φ : AV → Mut → Prop} {value e : Expr} {pos ps : Pos} (h : EX c n env V σ value fun v σ1 => EX c n env V σ1 e fun iv σ2 => ∃ i vs, iv = .int i ∧ SrcV σ2 v vs ∧ vs.length < 100000 ∧ Φ (.lst (cut (some i) none vs)) σ2) :
    EX c n env V σ (.Subscript value (.Slice (some e) none none ps) pos) Φ :=
  EX_SliceL (lo := some e) (hi := none) (h.mono fun v σ1 h1 => TX.mono h1 fun iv σ2 ⟨i, vs, h2, h3, h4, h5⟩ => ⟨i, h2, vs, h3, h4, h5⟩)
set_option maxRecDepth 10000 in
set_option maxHeartbeats 4000000 in
theorem law_ok (H : LawG c G M) (PL : ∀ a b : Int, (1 ≤ a ∧ a ≤ 9) → (1 ≤ b ∧ b ≤ 9) → ∃ W, PlainOK a b W) {ns : List Int} (hns : ns.length < 1000) :
    CX c (n + 12) 180 [.scr ns] [] [] σ fun v σ' => v = .bool true ∧ σ' = σ := by
  have hB := H.hq.base
  refine CX_fn (names := [sT "script"]) hB H.f29 rfl ?_ ?_ ?_ ?_
  · intro doc pm an cdv ct ys hy
    match ys, hy with
    | [a], _ => rfl
  · decide
  · decide
  · intro L doc pm an cdv ct
    obtain ⟨x0, x1, hx⟩ := two_of ns
    have c2 : cut none (some (2 : Int)) (ns.map AV.int) = (ns.map AV.int).take 2 := cut_upto _ 2
    refine FX_cons (FX_Assign (EX_str ?_))
    -- the weights
    refine FX_cons (FX_Assign (EX_BinOp (EX_List (LX_cons (EX_int (LX_nil ⟨by simp, EX_Comp [] (EX_BinOp (EX_SliceTo (EX_var rfl (EX_int ⟨_, ns.map .int, rfl, .scr, by simp; omega, ?_⟩)))) (by intro q hq; cases hq)⟩))))))
    rw [c2]
    refine EX_SliceFm (EX_List (LX_cons (EX_int (LX_cons (EX_int (LX_nil ⟨by simp, ?_⟩))))))
    refine EX_CallB hB H.hq.mlen (LX_cons (EX_SliceTo (EX_var rfl (EX_int ⟨_, ns.map .int, rfl, .scr, by simp; omega, ?_⟩))))
    rw [c2]
    refine LX_nil (len_v .lst (by simp; omega) ⟨_, [AV.int 1, AV.int 0], rfl, .of .lst, by simp, ?_⟩)
    rw [cut_from]
    refine add_ll .lst .lst (by rw [← List.length_append, hx]; simp) ?_
    rw [hx]
    generalize ha : 1 + x0.fmod 9 = a
    generalize hb : 1 + x1.fmod 9 = b
    have ha9 : 1 ≤ a ∧ a ≤ 9 := by
      rw [Int.fmod_eq_emod_of_nonneg _ (by decide)] at ha
      omega
    have hb9 : 1 ≤ b ∧ b ≤ 9 := by
      rw [Int.fmod_eq_emod_of_nonneg _ (by decide)] at hb
      omega
    obtain ⟨W, P⟩ := PL a b ha9 hb9
    refine ⟨_, [AV.int a, AV.int b], Iters_lst, by simp, ?_, ?_⟩
    · intro L2
      rw [show [AV.int a, AV.int b] = [AV.int x0, AV.int x1].map (fun u => match u with | .int i => .int (1 + i.fmod 9) | _ => .none) by rw [← ha, ← hb]; rfl]
      refine loop1 (Va := fun u => (sT "x", u) :: []) ?_ ?_ ?_
      · intro u hu; exact Asg_NameL
      · intro u hu q hq; cases hq
      · intro u hu σ'
        simp only [List.mem_cons, List.not_mem_nil, or_false] at hu
        rcases hu with rfl | rfl
        · exact EX_BinOp (EX_int (EX_BinOp (EX_var rfl (EX_int (mod_ii (by decide) (add_ii ⟨rfl, rfl⟩))))))
        · exact EX_BinOp (EX_int (EX_BinOp (EX_var rfl (EX_int (mod_ii (by decide) (add_ii ⟨rfl, rfl⟩))))))
    refine add_ll .lst .lst (by simp) ?_
    have hwt : AV.lst ([AV.int 4] ++ [AV.int a, AV.int b]) = wsV a b := rfl
    rw [hwt]
    -- the start
    refine FX_cons (FX_Assign (EX_Tuple (LX_cons (EX_UnaryOp (EX_BinOp (EX_CallB hB H.hq.msum (LX_cons (EX_var rfl (LX_nil ?_)))))))))
    refine sum3 ⟨by decide, by decide⟩ ⟨by omega, by omega⟩ ⟨by omega, by omega⟩ ⟨by omega, by omega⟩ ⟨by omega, by omega⟩ ?_
    refine EX_int (pow_ii (by decide) (by decide) (by omega) ?_)
    refine neg_i (LX_cons (EX_str (LX_nil ⟨by simp, ?_⟩)))
    have hst : AV.tup [AV.int (-(4 + a + b) ^ (5 : Int).toNat), AV.str (Str.ofString "o")] = wdV (startP a b) := rfl
    rw [hst]
    -- the splitting
    obtain ⟨gi, gl, hvs, l1, hgo, hhv, hsh, htk, hvl, hs1, hs2, hl1⟩ := P.gone
    have P1 := P.okr
    have P2 := P.okg
    have P3 := P.okn
    have P4 := P.small
    have P5 := P.len
    have P6 := P.words
    refine FX_cons (FX_AssignT (EX_Call hB H.gsp H.f25 (LX_cons (EX_var rfl (LX_nil ((split_ok (n := n + 7) H.hq H.f25 ha9 hb9 P1).mono fun v σ' hv => ?_))))))
    obtain ⟨rfl, hσ⟩ := hv
    subst hσ
    generalize (stP a b 5).1 = gone at *
    generalize (stP a b 5).2 = left at *
    refine ⟨_, Asg_Tuple2, ?_⟩
    have hgm : gone.map wdV = gi.map wdV ++ [wdV gl] := by rw [hgo]; simp
    have hlv : ∀ σ : Mut, ListV σ (.lst (gone.map wdV)) (gi.map wdV ++ [wdV gl]) := fun σ => by rw [hgm]; exact .lst
    refine FX_cons (FX_If (BX_Or2 false false (BX_Compare (EX_var rfl (EX_List (LX_nil ⟨by simp, eq_ws (xs := gone) (ys := []) P2 rfl ⟨_, rfl, ?_, rfl⟩⟩)))) (BX_Compare (EX_var rfl ?_)) ?_))
    · rw [hgo]; simp
    · refine EX_SliceTo (EX_CallB hB H.cg.msor (LX_cons (EX_Call hB H.ghv H.f26 (LX_cons (EX_var rfl (LX_cons (EX_var rfl (LX_cons (EX_Sub (EX_Sub (EX_var rfl (EX_UnaryOp (EX_int (neg_i (sub_neg1 (hlv _) ?_ (EX_int (sub_ti (by decide) rfl (by simp) (LX_nil ?_))))))))))))))))))
      · rw [← List.length_map (f := wdV)] at P5; rw [hgm, List.length_append] at P5; simp at P5 ⊢; omega
      refine (heavy_ok (n := n + 2) H.hq H.ghv H.f26 ha9 hb9 7 (by omega) (startP a b) σ' hhv).mono fun v σ hv => ?_
      obtain ⟨rfl, hσ⟩ := hv
      subst hσ
      refine LX_nil (sorted_ws hsh (EX_int ⟨_, hvs.map wdV, rfl, .of .lst, by simp; omega, ?_⟩))
      rw [show cut none (some (5 : Int)) (hvs.map wdV) = gone.map wdV by rw [← htk, List.map_take]; exact cut_upto _ 5]
      exact ne_ws P2 P2 ⟨_, rfl, by simp, rfl⟩
    rw [if_neg (by decide)]
    refine FX_nil ?_
    -- the grown words
    refine FX_cons (FX_AssignComp [(sT "weights", wsV a b)] (EX_var rfl ?_) (by intro q hq; simp only [List.mem_cons, List.not_mem_nil, or_false] at hq; subst hq; exact ⟨rfl, rfl⟩))
    refine ⟨gone.map wdV, (gone.flatMap (grownP a b)).map wdV, Iters_lst, by rw [List.length_map, grown_len]; omega, ?_, ?_⟩
    · intro L2
      rw [← grA_flat]
      refine loop2 (Va := fun u => (sT "top", u) :: [(sT "weights", wsV a b)]) ?_ ?_ ?_
      · intro u hu; exact Asg_NameL
      · intro u hu q hq
        simp only [List.mem_cons, List.not_mem_nil, or_false] at hq
        subst hq; rfl
      · intro u hu σ2
        obtain ⟨w, hw, rfl⟩ := List.mem_map.1 hu
        have hsm := P4 w hw
        refine EX_Call hB H.hq.ggr H.hq.f24 (LX_cons (EX_var rfl (LX_cons (EX_var rfl (LX_nil ?_)))))
        refine (grown_ok (n := n + 10) hB H.hq.msum H.hq.mran H.hq.f24 ha9 hb9 hsm.1 hsm.2).mono fun v σ3 hv => ?_
        obtain ⟨rfl, hσ⟩ := hv
        refine ⟨hσ, _, Iters_lst, ?_⟩
        rw [show grA a b (wdV w) = ((grownP a b w).map wdV).map id from (List.map_id _).symm]
        refine loopSnd (Va := fun u => (sT "more", u) :: (sT "top", wdV w) :: [(sT "weights", wsV a b)]) ?_ ?_ ?_
        · intro u hu; exact Asg_NameL
        · intro u hu q hq
          simp only [List.mem_cons, List.not_mem_nil, or_false] at hq
          rcases hq with rfl | rfl <;> rfl
        · intro u hu σ4
          exact EX_var rfl ⟨rfl, rfl⟩
    generalize gone.flatMap (grownP a b) = grown at *
    -- what is left
    refine FX_cons (FX_If (BX_Compare (EX_CallB hB H.cg.msor (LX_cons (EX_var rfl (LX_nil (sorted_ws hs1 (EX_CallB hB H.cg.msor (LX_cons (EX_Comp [(sT "gone", .lst (gone.map wdV))] (EX_var rfl ?_) ?_))))))))))
    · refine ⟨grown.map wdV, (grown.filter fun w => !gone.contains w).map wdV, Iters_lst, ?_, ?_, LX_nil (sorted_ws hs2 (ne_ws hl1 hl1 ⟨_, rfl, ?_⟩))⟩
      · have := (sortQ_some hs2).2.1
        rw [List.length_map]; omega
      · intro L2
        rw [← notA_filter, ← List.map_id (List.filter _ _)]
        refine loop1if (Va := fun u => (sT "more", u) :: [(sT "gone", .lst (gone.map wdV))]) ?_ ?_ ?_ ?_
        · intro u hu; exact Asg_NameL
        · intro u hu q hq
          simp only [List.mem_cons, List.not_mem_nil, or_false] at hq
          subst hq; rfl
        · intro u hu σ2
          obtain ⟨w, hw, rfl⟩ := List.mem_map.1 hu
          exact BX_Compare (EX_var rfl (EX_var rfl (notIn_ws (List.all_eq_true.1 P3 w hw) P2 ⟨_, rfl, rfl, rfl⟩)))
        · intro u hu _ σ2
          exact EX_var rfl ⟨rfl, rfl⟩
      · rw [if_neg (by simp)]
        refine FX_nil ?_
        -- the words
        refine FX_cons (FX_Assign (EX_CallB hB H.cg.msor (LX_cons (EX_Comp [] (EX_var rfl ?_) (by intro q hq; cases hq)))))
        refine ⟨left.map wdV, (left.map (·.2)).map stV, Iters_lst, by simp; omega, ?_, LX_nil (sorted_ss P6 ?_)⟩
        · intro L2
          rw [show (left.map (·.2)).map stV = (left.map wdV).map sndA by rw [List.map_map, List.map_map]; rfl]
          refine loop1 (Va := fun u => (sT "word", sndA u) :: (sT "weight", match u with | .tup [x, _] => x | _ => .none) :: []) ?_ ?_ ?_
          · intro u hu
            obtain ⟨w, hw, rfl⟩ := List.mem_map.1 hu
            exact Asg_Tuple2L
          · intro u hu q hq; cases hq
          · intro u hu σ2
            exact EX_var rfl ⟨rfl, rfl⟩
        -- the message
        have c9 : cut none (some (9 : Int)) (ns.map AV.int) = (ns.map AV.int).take 9 := cut_upto _ 9
        refine FX_cons ?_
        refine FX_Assign ?_
        refine EX_BinOp ?_
        refine EX_List ?_
        refine LX_cons (EX_int ?_)
        refine LX_cons (EX_int ?_)
        refine LX_cons (EX_int ?_)
        refine LX_cons (EX_int ?_)
        refine LX_cons (EX_int ?_)
        refine LX_cons (EX_int ?_)
        refine LX_cons (EX_int ?_)
        refine LX_cons (EX_int ?_)
        refine LX_cons (EX_int ?_)
        refine LX_nil ⟨by simp, ?_⟩
        refine EX_Comp [] (EX_SliceTo (EX_var rfl (EX_int ⟨_, ns.map .int, rfl, .scr, by simp; omega, ?_⟩))) (by intro q hq; cases hq)
        rw [c9]
        refine ⟨_, ((ns.take 9).map fun x => (x.fmod 3).toNat).map nV, Iters_lst, by simp; omega, ?_, ?_⟩
        · intro L2
          rw [show ((ns.take 9).map fun x => (x.fmod 3).toNat).map nV = ((ns.map AV.int).take 9).map (fun u => match u with | .int i => .int (i.fmod 3) | _ => .none) by
            rw [← List.map_take, List.map_map, List.map_map]
            refine List.map_congr_left fun x _ => ?_
            show AV.int ((x.fmod 3).toNat : Int) = AV.int (x.fmod 3)
            rw [Int.fmod_eq_emod_of_nonneg _ (by decide), Int.toNat_of_nonneg (by omega)]]
          refine loop1 (Va := fun u => (sT "x", u) :: []) ?_ ?_ ?_
          · intro u hu; exact Asg_NameL
          · intro u hu q hq; cases hq
          · intro u hu σ2
            rw [← List.map_take] at hu
            obtain ⟨x, hx, rfl⟩ := List.mem_map.1 hu
            exact EX_BinOp (EX_var rfl (EX_int (mod_ii (by decide) ⟨rfl, rfl⟩)))
        have hmsg : [AV.int 0, .int 0, .int 0, .int 1, .int 2, .int 1, .int 0, .int 0, .int 1] ++ ((ns.take 9).map fun x => (x.fmod 3).toNat).map nV = (msgOf ns).map nV := by
          unfold msgOf; rw [List.map_append]; rfl
        refine add_ll .lst .lst (by simp; omega) ?_
        rw [hmsg]
        have hml := msg_len ns
        -- the cutting
        refine FX_cons (FX_AssignT (EX_Call hB H.gcu H.cg.fcu (LX_cons (EX_var rfl (LX_cons (EX_var rfl (LX_nil ((cut_ok (n := n + 7) H.cg P.cut (msg_lt ns) (by omega) (by omega)).mono fun v σ hv => ?_))))))))
        obtain ⟨hσ, nums, p, m, rfl, n1, n2, n3, n4, n5, n6⟩ := hv
        subst hσ
        refine ⟨_, Asg_Tuple2, ?_⟩
        refine FX_cons (FX_If (BX_Compare (EX_var rfl (EX_List (LX_nil ⟨by simp, eq_ns (xs := nums) (ys := []) ⟨_, rfl, ?_⟩⟩)))))
        rw [if_neg (by simpa using n1)]
        refine FX_nil ?_
        -- the writing
        generalize hl : (nums.map fun k => 53 + k) = l
        have hl64 : ∀ k ∈ l, k < 64 := by
          rw [← hl]; intro k hk
          obtain ⟨j, hj, rfl⟩ := List.mem_map.1 hk
          have := n4 j hj
          omega
        have hllen : l.length = 4 * m := by rw [← hl, List.length_map]; exact n2
        have henc := encF_pack hllen hl64
        have hpk := packP_len l
        have hcw := P.cut
        refine FX_cons (FX_AssignComp [(sT "signs", .str signsS)] (EX_Call hB H.g64 H.b64.f12 (LX_cons (EX_CallT hB H.b64.mbyt (LX_cons (EX_Call hB H.gpk H.f28 (LX_cons (EX_Comp [] (EX_var rfl ?_) (by intro q hq; cases hq)))))))) ?_)
        · refine ⟨nums.map nV, l.map nV, Iters_lst, by simp; omega, ?_, LX_nil ?_⟩
          · intro L2
            rw [show l.map nV = (nums.map nV).map (fun u => match u with | .int i => .int (53 + i) | _ => .none) by rw [← hl, List.map_map, List.map_map]; refine List.map_congr_left fun x _ => ?_; show AV.int ((53 + x : Nat) : Int) = AV.int (53 + (x : Int)); simp]
            refine loop1 (Va := fun u => (sT "k", u) :: []) ?_ ?_ ?_
            · intro u hu; exact Asg_NameL
            · intro u hu q hq; cases hq
            · intro u hu σ2
              obtain ⟨x, hx, rfl⟩ := List.mem_map.1 hu
              exact EX_BinOp (EX_int (EX_var rfl (add_ii ⟨rfl, rfl⟩)))
          refine (packed_ok (n := n + 10) hB H.hq.mlen H.hq.mran H.f28 hllen hl64 (by omega)).mono fun v σ hv => ?_
          obtain ⟨rfl, hσ⟩ := hv
          subst hσ
          refine LX_nil (bytes_l (ns := (packP l).map fun k : Nat => (k : Int)) (by rw [List.map_map]; exact .lst) ?_ (by simp; omega) ?_)
          · intro k hk
            obtain ⟨j, hj, rfl⟩ := List.mem_map.1 hk
            have := packP_lt l hl64 j hj
            omega
          rw [byteArr_nat]
          refine LX_nil ((b64encode_ok (n := n + 8) H.b64 (packP_lt l hl64) (by omega) henc.1).mono fun v σ hv => ?_)
          obtain ⟨rfl, hσ⟩ := hv
          subst hσ
          rw [henc.2]
          refine ⟨(l.map sgn).map nV, nums.map nV, ?_, by simp; omega, ?_, ?_⟩
          · rw [← byN_ints (os := l.map sgn) (by intro k hk; obtain ⟨j, _, rfl⟩ := List.mem_map.1 hk; exact sgn_lt j)]; exact Iters_bytes
          · intro L2
            rw [show nums.map nV = ((l.map sgn).map nV).map (fun u => match u with | .int o => .int (Txt.find signsS ⟨#[o.toNat]⟩ - 53) | _ => .none) by
              rw [← hl, List.map_map, List.map_map, List.map_map]
              refine List.map_congr_left fun x hx => ?_
              show AV.int (x : Int) = AV.int (Txt.find signsS ⟨#[((sgn (53 + x) : Nat) : Int).toNat]⟩ - 53)
              have := n4 x hx
              rw [Int.toNat_natCast, find_sgn (53 + x) (by omega)]
              congr 1; omega]
            refine loop1 (Va := fun u => (sT "octet", u) :: [(sT "signs", .str signsS)]) ?_ ?_ ?_
            · intro u hu; exact Asg_NameL
            · intro u hu q hq
              simp only [List.mem_cons, List.not_mem_nil, or_false] at hq
              subst hq; rfl
            · intro u hu σ2
              obtain ⟨o, ho, rfl⟩ := List.mem_map.1 hu
              obtain ⟨j, _, rfl⟩ := List.mem_map.1 ho
              have := sgn_lt j
              exact EX_BinOp (EX_Meth "str.find" (EX_var rfl ⟨meth_find, LX_cons (EX_CallB hB H.mchr (LX_cons (EX_var rfl (LX_nil (chr_i (by omega) (by omega) (LX_nil (find_ss (EX_int (sub_ii ⟨rfl, rfl⟩)))))))))⟩))
          refine FX_cons (FX_If (BX_Compare (EX_var rfl (EX_var rfl (ne_ns (xs := nums) (ys := nums) ⟨_, rfl, ?_⟩)))))
          rw [if_neg (by simp)]
          refine FX_nil ?_
          -- read back
          have htl : ∀ k, k < 11 → (tailW W k).length ≤ 15 := by
            intro k hk
            unfold tailW
            rw [catT_len]
            have h1 := letT_sum (W.getD k [])
            have h2 : (W.getD k []) ∈ W := by
              rw [List.getD_eq_getElem?_getD, List.getElem?_eq_getElem (by rw [hcw.len]; exact hk)]
              exact List.getElem_mem _
            have := (hcw.lts _ h2).2.1
            omega
          have hsum : ∀ q : List Nat, (∀ k ∈ q, k < 11) → ((q.map (tailW W)).map (·.length)).sum ≤ 15 * q.length := by
            intro q
            induction q with
            | nil => intro _; simp
            | cons x q ih =>
              intro hq
              have h1 := htl x (hq x (by simp))
              have h2 := ih fun k hk => hq k (by simp [hk])
              simp only [List.map_cons, List.sum_cons, List.length_cons]
              omega
          have hsn := hsum nums n4
          have hjoin : Txt.join (sT "") (nums.map (tailW W)) = catT ((clen nums W).map letT) := by
            rw [txt_join]
            have e := catT_flat (nums.map fun k => W.getD k [])
            rw [List.map_map] at e
            exact e
          refine FX_cons (FX_Return ?_)
          refine EX_Compare (EX_BinOp (EX_str (EX_Meth "str.join" (EX_str ⟨meth_join, LX_cons ?_⟩))))
          refine EX_Comp [(sT "words", .lst ((W.map nameT).map stV))] (EX_var rfl ?_) (by intro q hq; simp only [List.mem_cons, List.not_mem_nil, or_false] at hq; subst hq; exact ⟨rfl, rfl⟩)
          refine ⟨nums.map nV, (nums.map (tailW W)).map stV, Iters_lst, by simp; omega, ?_, LX_nil (join_ss ?_ ?_)⟩
          · intro L2
            rw [show (nums.map (tailW W)).map stV = (nums.map nV).map (fun u => match u with | .int i => stV (tailW W i.toNat) | _ => .none) by rw [List.map_map, List.map_map]; rfl]
            refine loop1 (Va := fun u => (sT "k", u) :: [(sT "words", .lst ((W.map nameT).map stV))]) ?_ ?_ ?_
            · intro u hu; exact Asg_NameL
            · intro u hu q hq
              simp only [List.mem_cons, List.not_mem_nil, or_false] at hq
              subst hq; rfl
            · intro u hu σ2
              obtain ⟨k, hk, rfl⟩ := List.mem_map.1 hu
              have hk11 := n4 k hk
              obtain ⟨lw, hlw⟩ : ∃ lw, W[k]? = some lw := ⟨_, List.getElem?_eq_getElem (by rw [hcw.len]; exact hk11)⟩
              have hln := nameT_len lw
              have hl5 := (hcw.lts lw (List.mem_of_getElem? hlw)).2.1
              refine EX_SliceFrom (EX_Sub (EX_var rfl (EX_var rfl (sub_li (u := stV (nameT lw)) .lst (by omega) ?_ (by simp [hcw.len]) (EX_int ⟨_, _, rfl, rfl, by omega, ?_, rfl⟩)))))
              · rw [Int.toNat_natCast, List.getElem?_map, List.getElem?_map, hlw]; rfl
              · show AV.str (Txt.slice (nameT lw) (some 1) none) = stV (tailW W ((k : Int)).toNat)
                rw [Int.toNat_natCast]
                have e1 : tailW W k = catT (lw.map letT) := by unfold tailW; rw [List.getD_eq_getElem?_getD, hlw]; rfl
                rw [e1]
                exact congrArg AV.str (slice_tail 111 (catT (lw.map letT)))
          · have h0 : (Str.ofString "").length = 0 := by decide
            rw [h0]; omega
          rw [show Txt.join (Str.ofString "") (nums.map (tailW W)) = catT ((clen nums W).map letT) from hjoin]
          have hcl : (clen nums W).length ≤ 100 := by
            rw [n6, List.length_take]; omega
          refine add_ss (name_fits _ (by omega)) ?_
          refine EX_Call hB H.cg.gna H.cg.fna (LX_cons ?_)
          refine EX_SliceTo (EX_BinOp (EX_var rfl (EX_BinOp (EX_List (LX_cons (EX_int (LX_nil ⟨by simp, EX_int (mul_li .lst (by decide) (by decide) (add_ll .lst .lst (by simp; omega) ?_))⟩)))))))
          have e25 : (msgOf ns).map nV ++ List.replicate (25 : Int).toNat (AV.int 0) = (msgOf ns ++ List.replicate 25 0).map nV := by simp [nV]
          rw [e25]
          refine EX_var rfl ⟨_, (msgOf ns ++ List.replicate 25 0).map nV, rfl, .of .lst, by simp; omega, LX_nil ?_⟩
          rw [cut_upto, ← List.map_take, ← n6]
          have h3 : ∀ k ∈ clen nums W, k < 3 := by
            rw [n6]
            intro k hk
            rcases List.mem_append.1 (List.mem_of_mem_take hk) with h | h
            · exact msg_lt ns k h
            · have := List.eq_of_mem_replicate h; omega
          refine (name_ok (n := n + 10) (l := clen nums W) hB H.cg.fna h3 (by omega)).mono fun v σ hv => ?_
          obtain ⟨rfl, hσ⟩ := hv
          subst hσ
          exact eq_ss ⟨congrArg AV.bool (beq_self_eq_true (nameT (clen nums W))), rfl⟩
        · intro q hq
          simp only [List.mem_cons, List.not_mem_nil, or_false] at hq
          subst hq; exact ⟨rfl, rfl⟩
    · intro q hq
      simp only [List.mem_cons, List.not_mem_nil, or_false] at hq
      subst hq; exact ⟨rfl, rfl⟩
end
end Mine
end
section
open PySem PyProof.Rows PySem.Calls PySem.W
namespace Mine
section
variable {R : WRecords} {cl : Str → Option Addr} {h : Heap}
theorem items_ints : ∀ {xs : List WData} {vs : List Value} {as : List Addr}, WShape.hasItems R xs .int = true → ReadsAllW R cl h vs xs as → ∃ ns : List Int, PyProof.Rows.IntsAre vs ns ∧ xs.length = ns.length
  | [], _, _, _, .nil => ⟨[], .nil, rfl⟩
  | x :: xs, _, _, hs, .cons r rs => by
    rw [WShape.hasItems, Bool.and_eq_true] at hs
    obtain ⟨ns, h1, h2⟩ := items_ints hs.2 rs
    obtain ⟨i, rfl⟩ := hasW_int hs.1
    cases r
    exact ⟨i :: ns, .cons _ _ h1, by simp [h2]⟩
theorem args_ints {args : List WData} {vals : List Value} {as : List Addr} (hs : WShape.hasAll R args [.list .int] = true) (rd : ReadsAllW R cl h vals args as) :
    ∃ (a : Addr) (o : Obj) (its : List Value) (n : Nat) (ns : List Int) (xs : List WData), vals = [.ref a] ∧ args = [.list xs] ∧ xs.length = ns.length ∧ h.get? a = some o ∧ o.cls = .type "list" ∧ o.data = .seq its.toArray n ∧ PyProof.Rows.IntsAre its ns := by
  obtain ⟨d, r, rfl, h1, h2⟩ := hasAllW_cons hs
  cases hasAllW_nil h2
  obtain ⟨xs, rfl, h3⟩ := hasW_list h1
  cases rd with
  | cons r1 r2 =>
    cases r2
    cases r1 with
    | list ho hc hd hr =>
      rename_i a o vs n bs
      obtain ⟨ns, h4, h5⟩ := items_ints h3 hr
      exact ⟨a, o, vs.toList, n, ns, xs, rfl, rfl, h5, ho, hc, by simpa using hd, h4⟩
end
theorem pre_len (xs : List WData) (h : PySem.Challenge.rw_oy0062_01.pre.holds [] { args := [.list xs] } = true) : xs.length ≤ 63 := by
  simp only [OpenLaw.pre, PySem.Challenge.rw_oy0062_01, WTm.holds, WTm.value] at h
  by_cases hc : xs.length ≤ 63
  · exact hc
  · exfalso
    have : (63 : Int) < (xs.length : Int) := by omega
    simp [less?, Num.less?, this] at h
/-- the start of the ghost state: all that the base holds is kept -/
theorem inv_start (c : Cfg) : Inv c c.B.get? (fun _ => none) (fun _ => none) c.B where
  bs := fun _ _ h => h
  per := fun _ _ h => h
  cch := fun _ _ h => by cases h
  own := fun _ _ h => by cases h
  dPC := fun _ _ _ => ⟨rfl, rfl⟩
  dC := fun _ _ h => by cases h
theorem room_start : Room callerA 12 := ⟨by show 1 + claimMargin + 12 < recursionLimit; decide, by show 4 + 20 * 12 + 100 < cLine; decide, rfl⟩
end Mine
end
section
open PySem PyProof.Rows PySem.Calls PySem.W
set_option maxRecDepth 100000
namespace Mine
def GL : List (Str × Value) := [(sT "heappush", .ref 28), (sT "heapreplace", .ref 35), (sT "_siftdown", .ref 42), (sT "_siftup", .ref 49), (sT "_buffer", .ref 56), (sT "_truth", .ref 63), (sT "_B64", .bytes b64l.toArray 256),
  (sT "b2a_base64", .ref 71), (sT "b64encode", .ref 79), (sT "_Ignore", .ref 137), (sT "_law_name", .ref 146), (sT "_law_grown", .ref 151), (sT "_law_split", .ref 158), (sT "_law_heavy", .ref 163), (sT "_law_cut", .ref 168), (sT "_law_packed", .ref 175)]
def ML : List (Str × Value) := [(sT "len", .builtin "len"), (sT "sum", .builtin "sum"), (sT "sorted", .builtin "sorted"), (sT "chr", .builtin "chr"), (sT "range", .type "range"), (sT "bytes", .type "bytes"), (sT "type", .type "type"), (sT "bool", .type "bool"),
  (sT "set", .type "set"), (sT "str", .type "str")]
section
variable {w : World} {h : Heap} {mg mb : Str → Option Value}
theorem gl_ok (X : (KF w.params).In h) (G : h.Ns mainGlobals mg) : ∀ p ∈ GL, mg p.1 = some p.2 := by
  intro p hp
  have h1 : ∀ P, (GL.all fun p => decide (nsIn (KF P) mainGlobals p.1 = some (some p.2))) = true := by intro P; rfl
  have := List.all_eq_true.1 (h1 w.params) p hp
  exact mg_of X G (by simpa using this)
theorem ml_none (X : (KF w.params).In h) (G : h.Ns mainGlobals mg) : ∀ p ∈ ML, mg p.1 = none := by
  intro p hp
  have h1 : ∀ P, (ML.all fun p => decide (nsIn (KF P) mainGlobals p.1 = some none)) = true := by intro P; rfl
  have := List.all_eq_true.1 (h1 w.params) p hp
  exact mg_none_of X G (by simpa using this)
theorem ml_boot : ∀ p ∈ ML, bootBuiltins p.1 = some p.2 := by
  intro p hp
  have h1 : (ML.all fun p => decide (bootBuiltins p.1 = some p.2)) = true := by decide +kernel
  have := List.all_eq_true.1 h1 p hp
  simpa using this
theorem ml_name : ∀ p ∈ ML, p.1 ≠ Str.ofString "__name__" := by
  intro p hp
  have h1 : (ML.all fun p => decide (p.1 ≠ Str.ofString "__name__")) = true := by decide +kernel
  have := List.all_eq_true.1 h1 p hp
  simpa using this
theorem fn28 (X : (KF w.params).In h) : FnAt h 28 (sT "heappush") (sT "heappush") (paramsOf 2) (bodyOf 2) (scopeOf 2) .none .none := ⟨_, _, _, _, _, _, X 28 _ rfl, rfl, codeRec_of X rfl⟩
theorem fn35 (X : (KF w.params).In h) : FnAt h 35 (sT "heapreplace") (sT "heapreplace") (paramsOf 3) (bodyOf 3) (scopeOf 3) .none .none := ⟨_, _, _, _, _, _, X 35 _ rfl, rfl, codeRec_of X rfl⟩
theorem fn42 (X : (KF w.params).In h) : FnAt h 42 (sT "_siftdown") (sT "_siftdown") (paramsOf 4) (bodyOf 4) (scopeOf 4) .none .none := ⟨_, _, _, _, _, _, X 42 _ rfl, rfl, codeRec_of X rfl⟩
theorem fn49 (X : (KF w.params).In h) : FnAt h 49 (sT "_siftup") (sT "_siftup") (paramsOf 5) (bodyOf 5) (scopeOf 5) .none .none := ⟨_, _, _, _, _, _, X 49 _ rfl, rfl, codeRec_of X rfl⟩
theorem fn56 (X : (KF w.params).In h) : FnAt h 56 (sT "_buffer") (sT "_buffer") (paramsOf 7) (bodyOf 7) (scopeOf 7) .none .none := ⟨_, _, _, _, _, _, X 56 _ rfl, rfl, codeRec_of X rfl⟩
theorem fn63 (X : (KF w.params).In h) : FnAt h 63 (sT "_truth") (sT "_truth") (paramsOf 8) (bodyOf 8) (scopeOf 8) .none .none := ⟨_, _, _, _, _, _, X 63 _ rfl, rfl, codeRec_of X rfl⟩
theorem fn71 (X : (KF w.params).In h) : FnAt h 71 (sT "b2a_base64") (sT "b2a_base64") (paramsOf 10) (bodyOf 10) (scopeOf 10) .none (.ref 64) := ⟨_, _, _, _, _, _, X 71 _ rfl, rfl, codeRec_of X rfl⟩
theorem fn79 (X : (KF w.params).In h) : FnAt h 79 (sT "b64encode") (sT "b64encode") (paramsOf 12) (bodyOf 12) (scopeOf 12) (.ref 72) .none := ⟨_, _, _, _, _, _, X 79 _ rfl, rfl, codeRec_of X rfl⟩
theorem fn146 (X : (KF w.params).In h) : FnAt h 146 (sT "_law_name") (sT "_law_name") (paramsOf 23) (bodyOf 23) (scopeOf 23) .none .none := ⟨_, _, _, _, _, _, X 146 _ rfl, rfl, codeRec_of X rfl⟩
theorem fn151 (X : (KF w.params).In h) : FnAt h 151 (sT "_law_grown") (sT "_law_grown") (paramsOf 24) (bodyOf 24) (scopeOf 24) .none .none := ⟨_, _, _, _, _, _, X 151 _ rfl, rfl, codeRec_of X rfl⟩
theorem fn158 (X : (KF w.params).In h) : FnAt h 158 (sT "_law_split") (sT "_law_split") (paramsOf 25) (bodyOf 25) (scopeOf 25) .none .none := ⟨_, _, _, _, _, _, X 158 _ rfl, rfl, codeRec_of X rfl⟩
theorem fn163 (X : (KF w.params).In h) : FnAt h 163 (sT "_law_heavy") (sT "_law_heavy") (paramsOf 26) (bodyOf 26) (scopeOf 26) .none .none := ⟨_, _, _, _, _, _, X 163 _ rfl, rfl, codeRec_of X rfl⟩
theorem fn168 (X : (KF w.params).In h) : FnAt h 168 (sT "_law_cut") (sT "_law_cut") (paramsOf 27) (bodyOf 27) (scopeOf 27) .none .none := ⟨_, _, _, _, _, _, X 168 _ rfl, rfl, codeRec_of X rfl⟩
theorem fn175 (X : (KF w.params).In h) : FnAt h 175 (sT "_law_packed") (sT "_law_packed") (paramsOf 28) (bodyOf 28) (scopeOf 28) .none .none := ⟨_, _, _, _, _, _, X 175 _ rfl, rfl, codeRec_of X rfl⟩
theorem fn180 (X : (KF w.params).In h) : FnAt h 180 (sT "law") (sT "law") (paramsOf 29) (bodyOf 29) (scopeOf 29) .none .none := ⟨_, _, _, _, _, _, X 180 _ rfl, rfl, codeRec_of X rfl⟩
theorem fn127 (X : (KF w.params).In h) : FnAt h 127 (sT "__init__") (sT "_Ignore.__init__") (methParams 0) (methBody 0) (methScope 0) (.ref 122) .none := ⟨_, _, _, _, _, _, X 127 _ rfl, rfl, codeRec_of X rfl⟩
theorem fn134 (X : (KF w.params).In h) : FnAt h 134 (sT "names") (sT "_Ignore.names") (methParams 1) (methBody 1) (methScope 1) .none .none := ⟨_, _, _, _, _, _, X 134 _ rfl, rfl, codeRec_of X rfl⟩
theorem ns136 (X : (KF w.params).In h) : ∃ mN, h.Ns 136 mN ∧ mN (sT "__init__") = some (.ref 127) ∧ mN (sT "names") = some (.ref 134) ∧ ∀ x ∈ [sT "_mods", sT "_dirs", sT "_ignore", sT "__getattribute__", sT "__getattr__", sT "__setattr__"], mN x = none := by
  have hn := Heap.Ns.of_isNs (isNs_of_in (K := KF w.params) (N := 136) X (by kernel_rfl))
  refine ⟨_, hn, ?_, ?_, ?_⟩
  · obtain ⟨o, es, ep, ho, hd, _, hf⟩ := hn
    rw [X 136 _ rfl] at ho; cases ho; cases hd
    rw [← hf]; rfl
  · obtain ⟨o, es, ep, ho, hd, _, hf⟩ := hn
    rw [X 136 _ rfl] at ho; cases ho; cases hd
    rw [← hf]; rfl
  · intro x hx
    have h1 : ∀ P, ([sT "_mods", sT "_dirs", sT "_ignore", sT "__getattribute__", sT "__getattr__", sT "__setattr__"].all fun x => decide (nsIn (KF P) 136 x = some none)) = true := by intro P; rfl
    have := List.all_eq_true.1 (h1 w.params) x hx
    exact ns_none_of X hn (by simpa using this)
theorem igcls {c : Cfg} (X : (KF w.params).In c.B) : IgCls c where
  cls := ⟨sT "_Ignore", sT "_Ignore", [.type "object"], _, _, _, _, _, _, _, _, _, X 137 _ rfl⟩
  ns := ns136 X
  fi := fn127 X
  fn := fn134 X
  fic := ⟨_, X 127 _ rfl, rfl⟩
  fnc := ⟨_, X 134 _ rfl, rfl⟩
  dflt := ⟨_, _, X 122 _ rfl, rfl⟩
end
end Mine
end
section
open PySem PyProof.Rows PySem.Calls PySem.W
set_option maxRecDepth 100000
namespace Mine
theorem heapq_ok {c : Cfg} {w : World} (X : (KF w.params).In c.B) (hB : BaseOK c GL ML) : Heapq c GL ML where
  base := hB
  gsd := rfl
  gsu := rfl
  gpu := rfl
  gre := rfl
  ggr := rfl
  mlen := rfl
  msum := rfl
  mran := rfl
  f2 := fn28 X
  f3 := fn35 X
  f4 := fn42 X
  f5 := fn49 X
  f24 := fn151 X
theorem b64_ok {c : Cfg} {w : World} (X : (KF w.params).In c.B) (hB : BaseOK c GL ML) : B64 c GL ML where
  base := hB
  gbuf := rfl
  gtru := rfl
  gtab := rfl
  gb2a := rfl
  mbyt := rfl
  mtyp := rfl
  mboo := rfl
  f7 := fn56 X
  f8 := fn63 X
  f10 := fn71 X
  f12 := fn79 X
  dflt := ⟨_, _, X 72 _ rfl, rfl⟩
theorem cutg_ok {c : Cfg} {w : World} (X : (KF w.params).In c.B) (hB : BaseOK c GL ML) : CutG c GL ML where
  base := hB
  cls := igcls X
  gig := rfl
  gna := rfl
  mset := rfl
  mstr := rfl
  mlen := rfl
  msor := rfl
  fna := fn146 X
  fcu := fn168 X
theorem lawg_ok {c : Cfg} {w : World} (X : (KF w.params).In c.B) (hB : BaseOK c GL ML) : LawG c GL ML where
  hq := heapq_ok X hB
  b64 := b64_ok X hB
  cg := cutg_ok X hB
  gsp := rfl
  ghv := rfl
  gcu := rfl
  gpk := rfl
  g64 := rfl
  mchr := rfl
  f25 := fn158 X
  f26 := fn163 X
  f28 := fn175 X
  f29 := fn180 X
theorem holds_of (PL : ∀ a b : Int, (1 ≤ a ∧ a ≤ 9) → (1 ≤ b ∧ b ≤ 9) → ∃ W, PlainOK a b W) : PySem.Challenge.rw_oy0062_01.Holds := by
  refine hd ?_
  intro w s₀ s₁ mg mb G Y a o pm cd doc dV kV ha hdat hcr hdf hmg hgens args vals as hpre hlay hrd hwell hlow
  have X : (KF w.params).In s₁.heap := kIn_of Y
  have h180 : mg (sT "law") = some (.ref 180) := mg_of X G.T.g (by rfl)
  have ha' : a = 180 := by
    have h2 : mg (sT "law") = some (.ref a) := hmg
    rw [h180] at h2
    cases h2; rfl
  subst ha'
  have hB : BaseOK ⟨PySem.Challenge.pw_oy0062_01, w, s₁.heap⟩ GL ML :=
    ⟨⟨mg, G.T.g, gl_ok X G.T.g, ml_none X G.T.g⟩, ⟨mb, G.T.b, fun p hp => (G.T.builtins _ (ml_name p hp)).trans (ml_boot p hp)⟩, G.T.nolimit⟩
  obtain ⟨hsh, hpr⟩ := pre_splitW hpre
  obtain ⟨l, ol, its, n, ns, xs, rfl, rfl, hxl, hol, hcl, hdl, hi⟩ := args_ints (h := s₁.heap) hsh hrd
  have hlen : ns.length < 1000 := by
    rw [← hxl]
    have := pre_len xs hpr
    omega
  refine wpAny_call (law_ok (c := ⟨PySem.Challenge.pw_oy0062_01, w, s₁.heap⟩) (n := 0) (lawg_ok X hB) PL hlen callerA room_start _ _ s₁ [.ref l] [] _ (inv_start _) (.cons (.scr hol hcl hdl hi) .nil) .nil fun P' C' σ' v x s' st I r hv => ?_)
  obtain ⟨rfl, _⟩ := hv
  cases r
  exact GoodW.toG ⟨.inl ⟨_, .bool true, [], rfl, fun _ => rfl, .bool true, by kernel_rfl, fun _ => ⟨List.nodup_nil, fun a ha => nomatch ha⟩⟩, fun b o hb => I.per b o (I.bs b o hb), st.os, st.gens.trans hgens⟩
end Mine
end
section
open PySem PyProof.Rows PySem.Calls
namespace Mine
def codeN : Nat → List Nat
  | 0 => [46, 97]
  | 1 => [46, 97, 97]
  | _ => [46, 98]
def encN : List Nat → List Nat
  | [] => []
  | k :: l => codeN k ++ encN l
theorem letT_list (k : Nat) : (letT k).cps.toList = codeN k := by
  match k with
  | 0 => decide +kernel
  | 1 => decide +kernel
  | k + 2 => show (Str.ofString ".b").cps.toList = [46, 98]; decide +kernel
theorem str_app_list (a b : Str) : (a ++ b).cps.toList = a.cps.toList ++ b.cps.toList := by
  obtain ⟨a⟩ := a; obtain ⟨b⟩ := b
  show (a ++ b).toList = _
  simp
theorem catT_list : ∀ l : List Nat, (catT (l.map letT)).cps.toList = encN l
  | [] => rfl
  | k :: l => by
    show (letT k ++ catT (l.map letT)).cps.toList = _
    rw [str_app_list, letT_list, catT_list l]; rfl
theorem nameT_list (l : List Nat) : (nameT l).cps.toList = 111 :: encN l := by
  unfold nameT
  rw [str_app_list, catT_list]
  have : (Str.ofString "o").cps.toList = [111] := by decide +kernel
  rw [this]; rfl
theorem headN : ∀ l : List Nat, encN l = [] ∨ ∃ t, encN l = 46 :: t
  | [] => .inl rfl
  | 0 :: l => .inr ⟨_, rfl⟩
  | 1 :: l => .inr ⟨_, rfl⟩
  | (k + 2) :: l => .inr ⟨_, rfl⟩
theorem pre_enc : ∀ (l w : List Nat), (∀ x ∈ l, x < 3) → (∀ x ∈ w, x < 3) → (decide (encN w = encN l) || (encN l ++ [46]).isPrefixOf (encN w)) = l.isPrefixOf w
  | [], [], _, _ => by decide
  | [], b :: w, _, _ => by
    rcases headN (b :: w) with h | ⟨t, h⟩
    · exfalso
      match b, h with
      | 0, h => cases h
      | 1, h => cases h
      | b + 2, h => cases h
    · rw [h]; simp [encN, List.isPrefixOf]
  | a :: l, [], ha, _ => by
    rcases headN (a :: l) with h | ⟨t, h⟩
    · exfalso
      match a, h with
      | 0, h => cases h
      | 1, h => cases h
      | b + 2, h => cases h
    · rw [h]; simp [encN, List.isPrefixOf]
  | a :: l, b :: w, ha, hb => by
    have ih := pre_enc l w (fun x hx => ha x (by simp [hx])) (fun x hx => hb x (by simp [hx]))
    have h1 := ha a (by simp)
    have h2 := hb b (by simp)
    have hl := headN l
    have hw := headN w
    have ca : a = 0 ∨ a = 1 ∨ a = 2 := by omega
    have cb : b = 0 ∨ b = 1 ∨ b = 2 := by omega
    rcases ca with rfl | rfl | rfl <;> rcases cb with rfl | rfl | rfl
    · simpa [encN, codeN, List.isPrefixOf] using ih
    · rcases hl with h | ⟨t, h⟩ <;> simp [encN, codeN, List.isPrefixOf, h]
    · simp [encN, codeN, List.isPrefixOf]
    · rcases hw with h | ⟨t, h⟩ <;> simp [encN, codeN, List.isPrefixOf, h]
    · simpa [encN, codeN, List.isPrefixOf] using ih
    · simp [encN, codeN, List.isPrefixOf]
    · simp [encN, codeN, List.isPrefixOf]
    · simp [encN, codeN, List.isPrefixOf]
    · simpa [encN, codeN, List.isPrefixOf] using ih
theorem str_eq_iff (a b : Str) : a = b ↔ a.cps.toList = b.cps.toList := by
  obtain ⟨a⟩ := a; obtain ⟨b⟩ := b
  simp
theorem ansB_eq {l w : List Nat} (hl : ∀ x ∈ l, x < 3) (hw : ∀ x ∈ w, x < 3) : ansB (nameT l) (nameT w) = l.isPrefixOf w := by
  unfold ansB
  have h1 : decide (nameT w = nameT l) = decide (encN w = encN l) := by
    rw [decide_eq_decide, str_eq_iff, nameT_list, nameT_list]; simp
  have h2 : (Str.ofString ".").cps.toList = [46] := by decide +kernel
  rw [h1, str_app_list, nameT_list, nameT_list, h2]
  have h3 : (111 :: encN l ++ [46]).isPrefixOf (111 :: encN w) = (encN l ++ [46]).isPrefixOf (encN w) := by simp [List.isPrefixOf]
  rw [h3]
  exact pre_enc l w hl hw
def tabW : List (List (List Nat)) := [
  [[0, 0, 0, 0, 0], [0, 0, 0, 0, 1], [0, 0, 0, 0, 2], [0, 0, 0, 1], [0, 0, 0, 2], [0, 0, 1], [0, 0, 2], [0, 1], [0, 2], [1], [2]],
  [[0, 0, 0, 0], [0, 0, 0, 1], [0, 0, 0, 2], [0, 0, 1], [0, 0, 2], [0, 1], [0, 2], [1], [2, 0], [2, 1], [2, 2]],
  [[0, 0, 0], [0, 0, 1], [0, 0, 2], [0, 1], [0, 2, 0], [0, 2, 1], [0, 2, 2], [1], [2, 0], [2, 1], [2, 2]],
  [[0, 0], [0, 1], [0, 2, 0], [0, 2, 1], [0, 2, 2], [1], [2, 0], [2, 1], [2, 2, 0], [2, 2, 1], [2, 2, 2]],
  [[0, 0], [0, 1], [0, 2], [1], [2, 0], [2, 1], [2, 2, 0], [2, 2, 1], [2, 2, 2, 0], [2, 2, 2, 1], [2, 2, 2, 2]],
  [[0, 0, 0, 0], [0, 0, 0, 1], [0, 0, 0, 2], [0, 0, 1], [0, 0, 2], [0, 1], [0, 2], [1, 0], [1, 1], [1, 2], [2]],
  [[0, 0, 0], [0, 0, 1], [0, 0, 2], [0, 1], [0, 2], [1, 0], [1, 1], [1, 2], [2, 0], [2, 1], [2, 2]],
  [[0, 0], [0, 1], [0, 2], [1, 0], [1, 1], [1, 2], [2, 0], [2, 1], [2, 2, 0], [2, 2, 1], [2, 2, 2]],
  [[0, 0, 0], [0, 0, 1], [0, 0, 2], [0, 1, 0], [0, 1, 1], [0, 1, 2], [0, 2], [1, 0], [1, 1], [1, 2], [2]],
  [[0, 0], [0, 1, 0], [0, 1, 1], [0, 1, 2], [0, 2], [1, 0], [1, 1, 0], [1, 1, 1], [1, 1, 2], [1, 2], [2]],
  [[0, 0], [0, 1], [0, 2], [1, 0], [1, 1, 0], [1, 1, 1], [1, 1, 2], [1, 2], [2, 0], [2, 1], [2, 2]],
  [[0, 0], [0, 1], [0, 2], [1, 0], [1, 1, 0], [1, 1, 1, 0], [1, 1, 1, 1], [1, 1, 1, 2], [1, 1, 2], [1, 2], [2]]]
/-- a word list, looked at with letters alone -/
def cutB (W : List (List Nat)) : Bool :=
  decide (W.length = 11) && W.all (fun l => decide (1 ≤ l.length) && decide (l.length ≤ 5) && l.all fun x => decide (x < 3)) && W.all (fun l => decide (Txt.count (nameT l) (sT ".") = l.length)) &&
    (allL 5).all fun w => let k := W.findIdx (·.isPrefixOf w); decide (k < 11) && (W.map (·.isPrefixOf w) == (List.range 11).map (· == k))
theorem tab_ok : tabW.all cutB = true := by decide +kernel
theorem allL_lt : ∀ n, ∀ w ∈ allL n, ∀ x ∈ w, x < 3
  | 0, w, h, x, hx => by simp [allL] at h; subst h; cases hx
  | n + 1, w, h, x, hx => by
    simp only [allL, List.mem_flatMap] at h
    obtain ⟨w', h', hw⟩ := h
    simp only [List.mem_cons, List.not_mem_nil, or_false] at hw
    rcases hw with rfl | rfl | rfl
    all_goals
      rcases List.mem_cons.1 hx with rfl | hx
      · decide
      · exact allL_lt n w' h' x hx
theorem cutOK_of {W : List (List Nat)} (h : cutB W = true) : CutOK W := by
  unfold cutB at h
  simp only [Bool.and_eq_true, decide_eq_true_eq] at h
  obtain ⟨⟨⟨h1, h2⟩, h3⟩, h4⟩ := h
  have hl : ∀ l ∈ W, 1 ≤ l.length ∧ l.length ≤ 5 ∧ ∀ x ∈ l, x < 3 := by
    intro l hl
    have := List.all_eq_true.1 h2 l hl
    simp only [Bool.and_eq_true, decide_eq_true_eq] at this
    refine ⟨this.1.1, this.1.2, fun x hx => ?_⟩
    have := List.all_eq_true.1 this.2 x hx
    simpa using this
  refine ⟨h1, hl, fun l hl => by have := List.all_eq_true.1 h3 l hl; simpa using this, fun w hw => ?_⟩
  have hk := List.all_eq_true.1 h4 w hw
  simp only [Bool.and_eq_true, decide_eq_true_eq, beq_iff_eq] at hk
  have hw3 := allL_lt 5 w hw
  have hlt : W.findIdx (·.isPrefixOf w) < W.length := by rw [h1]; exact hk.1
  refine ⟨_, hk.1, ?_, W[W.findIdx (·.isPrefixOf w)], List.getElem?_eq_getElem hlt, ?_⟩
  · rw [← hk.2]
    refine List.map_congr_left fun l hl' => ?_
    exact ansB_eq (hl l hl').2.2 hw3
  · have := List.findIdx_getElem (w := hlt)
    rw [List.isPrefixOf_iff_prefix] at this
    exact (List.prefix_iff_eq_take.1 this).symm
end Mine
end
section
open PySem PyProof.Rows PySem.Calls
namespace Mine
def chkP (a b : Int) : Bool :=
  let st := stP a b 5
  let gone := st.1
  let left := st.2
  let gl := gone.getLastD (0, sT "")
  let grown := gone.flatMap (grownP a b)
  (List.range 5).all (okR a b) && (!gone.isEmpty && (okHv a b gl.1 7 (startP a b) && (gone.all okW && (grown.all okW && (gone.all (fun p => decide (p.2.length < 100) && decide (p.1.natAbs < 2 ^ 60)) && (decide (gone.length < 100) && (decide (left.length < 100) &&
  ((match sortQ wdLt (heavyP a b gl.1 7 (startP a b)) with
    | some hv => decide (hv.take 5 = gone) && decide (hv.length < 1000)
    | none => false) &&
  ((match sortQ wdLt left with
    | some l1 => l1.all okW && decide (sortQ wdLt (grown.filter fun w => !gone.contains w) = some l1)
    | none => false) &&
  (match sortQ strLt (left.map (·.2)) with
    | some ws => tabW.any fun W => decide (ws = W.map nameT)
    | none => false))))))))))
theorem plain_of {a b : Int} (h : chkP a b = true) : ∃ W, PlainOK a b W := by
  unfold chkP at h
  simp only [Bool.and_eq_true] at h
  obtain ⟨h1, h2, h3, h4, h5, h6, h7, h8, h9, h10, h11⟩ := h
  cases e1 : sortQ wdLt (heavyP a b ((stP a b 5).1.getLastD (0, sT "")).1 7 (startP a b)) with
  | none => rw [e1] at h9; cases h9
  | some hv =>
    cases e2 : sortQ wdLt (stP a b 5).2 with
    | none => rw [e2] at h10; cases h10
    | some l1 =>
      cases e3 : sortQ strLt ((stP a b 5).2.map (·.2)) with
      | none => rw [e3] at h11; cases h11
      | some ws =>
        rw [e1] at h9; rw [e2] at h10; rw [e3] at h11
        simp only [Bool.and_eq_true, decide_eq_true_eq] at h9 h10
        obtain ⟨W, hW, hws⟩ := List.any_eq_true.1 h11
        have hws' : ws = W.map nameT := by simpa using hws
        have hne : (stP a b 5).1 ≠ [] := by intro e; rw [e] at h2; simp at h2
        have hgl : (stP a b 5).1.getLastD (0, sT "") = (stP a b 5).1.getLast hne := by rw [List.getLastD_eq_getLast?, List.getLast?_eq_getLast hne]; rfl
        rw [hgl] at h3 e1
        refine ⟨W, ⟨fun k hk => List.all_eq_true.1 h1 k (List.mem_range.2 hk), ⟨_, (stP a b 5).1.getLast hne, hv, l1, (List.dropLast_concat_getLast hne).symm, h3, e1, h9.1, h9.2, e2, h10.2, h10.1⟩, h4, h5, fun p hp => ?_, ⟨by simpa using h7, by simpa using h8⟩, by rw [e3, hws'], cutOK_of (List.all_eq_true.1 tab_ok W hW)⟩⟩
        have := List.all_eq_true.1 h6 p hp
        simpa using this
def row9 (a : Int) : Bool := chkP a 1 && (chkP a 2 && (chkP a 3 && (chkP a 4 && (chkP a 5 && (chkP a 6 && (chkP a 7 && (chkP a 8 && chkP a 9)))))))
theorem of_row {a b : Int} (h : row9 a = true) (hb : 1 ≤ b ∧ b ≤ 9) : chkP a b = true := by
  unfold row9 at h
  simp only [Bool.and_eq_true] at h
  obtain ⟨h1, h2, h3, h4, h5, h6, h7, h8, h9⟩ := h
  have : b = 1 ∨ b = 2 ∨ b = 3 ∨ b = 4 ∨ b = 5 ∨ b = 6 ∨ b = 7 ∨ b = 8 ∨ b = 9 := by omega
  rcases this with rfl | rfl | rfl | rfl | rfl | rfl | rfl | rfl | rfl <;> assumption
theorem r1 : row9 1 = true := by decide +kernel
theorem r2 : row9 2 = true := by decide +kernel
theorem r3 : row9 3 = true := by decide +kernel
theorem r4 : row9 4 = true := by decide +kernel
theorem r5 : row9 5 = true := by decide +kernel
theorem r6 : row9 6 = true := by decide +kernel
theorem r7 : row9 7 = true := by decide +kernel
theorem r8 : row9 8 = true := by decide +kernel
theorem r9 : row9 9 = true := by decide +kernel
theorem plain_all (a b : Int) (ha : 1 ≤ a ∧ a ≤ 9) (hb : 1 ≤ b ∧ b ≤ 9) : ∃ W, PlainOK a b W := by
  refine plain_of (of_row ?_ hb)
  have : a = 1 ∨ a = 2 ∨ a = 3 ∨ a = 4 ∨ a = 5 ∨ a = 6 ∨ a = 7 ∨ a = 8 ∨ a = 9 := by omega
  rcases this with rfl | rfl | rfl | rfl | rfl | rfl | rfl | rfl | rfl
  · exact r1
  · exact r2
  · exact r3
  · exact r4
  · exact r5
  · exact r6
  · exact r7
  · exact r8
  · exact r9
end Mine
end
theorem PySem.Challenge.cw_oy0062_01_holds : PySem.Challenge.rw_oy0062_01.Holds := by
  exact Mine.holds_of Mine.plain_all
