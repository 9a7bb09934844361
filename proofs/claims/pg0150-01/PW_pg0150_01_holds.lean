import PyProof.Rows.All
import Wide.All
import OpenK.AllK
import Wide.FinOn
import PySem.Challenge.RW_pg0150_01
open PySem PySem.W PyProof.Rows
set_option Elab.async false
set_option linter.unusedVariables false
set_option maxRecDepth 100000
namespace Mine

abbrev T := List Nat

inductive D where
  | none
  | bool (b : Bool)
  | int (i : Int)
  | str (s : T)
  | list (xs : List D)
  | tup (xs : List D)
  | dict (kvs : List (T × T))


def DK : List (Str × Value) → List (T × T) → Prop
  | [], [] => True
  | (k, v) :: r, (k', x) :: r' => k' = k.cps.toList ∧ (∃ (s : Str) (t : Tok), v = .str s t ∧ x = s.cps.toList) ∧ DK r r'
  | _, _ => False

mutual
inductive Rp (pr : Program) (w : World) (h : Heap) (X : Addr → Prop) : Value → D → Prop
  | rnone : Rp pr w h X .none .none
  | rbool (b : Bool) : Rp pr w h X (.bool b) (.bool b)
  | rint (i : Int) (t : Tok) : Rp pr w h X (.int i t) (.int i)
  | rstr (s : Str) (t : Tok) : Rp pr w h X (.str s t) (.str s.cps.toList)
  | rlist {a : Addr} {vs : List Value} {xs : List D} : ¬ X a → h.PlainList a vs.toArray → RpAll pr w h X vs xs → Rp pr w h X (.ref a) (.list xs)
  | rtup {a : Addr} {vs : List Value} {xs : List D} : ¬ X a → IsTup h a vs.toArray → RpAll pr w h X vs xs → Rp pr w h X (.ref a) (.tup xs)
  | rdict {a : Addr} {kts : List (Str × Value)} {kvs : List (T × T)} : ¬ X a → (a == sysModules) = false → h.DictOf (strKind pr w) a kts → DK kts kvs → Rp pr w h X (.ref a) (.dict kvs)
inductive RpAll (pr : Program) (w : World) (h : Heap) (X : Addr → Prop) : List Value → List D → Prop
  | nil : RpAll pr w h X [] []
  | cons {v : Value} {d : D} {vs : List Value} {ds : List D} : Rp pr w h X v d → RpAll pr w h X vs ds → RpAll pr w h X (v :: vs) (d :: ds)
end

section
variable {pr : Program} {w : World}

theorem DictOf_at1 {h h' : Heap} {a : Addr} {kts : List (Str × Value)} (x : h.DictOf (strKind pr w) a kts) (hk : ∀ o, h.get? a = some o → h'.get? a = some o) : h'.DictOf (strKind pr w) a kts := by
  obtain ⟨o, es, ep, ho, r⟩ := x
  exact ⟨o, es, ep, hk _ ho, r⟩
theorem DictOf_get {h : Heap} {a : Addr} {kts : List (Str × Value)} (x : h.DictOf (strKind pr w) a kts) : ∃ o, h.get? a = some o := by
  obtain ⟨o, es, ep, ho, r⟩ := x
  exact ⟨o, ho⟩

mutual
/-- kept where every object outside X is kept and stays outside X' -/
theorem Rp.mono {h h' : Heap} {X X' : Addr → Prop} (hk : ∀ b o, ¬ X b → h.get? b = some o → h'.get? b = some o ∧ ¬ X' b) : ∀ {v : Value} {d : D}, Rp pr w h X v d → Rp pr w h' X' v d
  | _, _, .rnone => .rnone
  | _, _, .rbool b => .rbool b
  | _, _, .rint i t => .rint i t
  | _, _, .rstr s t => .rstr s t
  | _, _, .rlist ha hl r => by
      obtain ⟨n, e⟩ := hl
      exact .rlist (hk _ _ ha e).2 ⟨n, (hk _ _ ha e).1⟩ (RpAll.mono hk r)
  | _, _, .rtup ha hl r => by
      obtain ⟨o, e, q⟩ := hl
      exact .rtup (hk _ _ ha e).2 ⟨o, (hk _ _ ha e).1, q⟩ (RpAll.mono hk r)
  | _, _, .rdict ha hs hd r => by
      obtain ⟨o, e⟩ := DictOf_get hd
      exact .rdict (hk _ _ ha e).2 hs (DictOf_at1 hd fun o' e' => (hk _ _ ha e').1) r
theorem RpAll.mono {h h' : Heap} {X X' : Addr → Prop} (hk : ∀ b o, ¬ X b → h.get? b = some o → h'.get? b = some o ∧ ¬ X' b) : ∀ {vs : List Value} {ds : List D}, RpAll pr w h X vs ds → RpAll pr w h' X' vs ds
  | _, _, .nil => .nil
  | _, _, .cons r rs => .cons (Rp.mono hk r) (RpAll.mono hk rs)
end

/-- the heap has only grown -/
structure Le (h h' : Heap) : Prop where
  size : h.objs.size ≤ h'.objs.size
  get : ∀ b o, h.get? b = some o → h'.get? b = some o
theorem Le.refl (h : Heap) : Le h h := ⟨Nat.le_refl _, fun _ _ e => e⟩
theorem Le.trans {a b c : Heap} (x : Le a b) (y : Le b c) : Le a c := ⟨Nat.le_trans x.size y.size, fun _ _ e => y.get _ _ (x.get _ _ e)⟩
theorem Le.push (h : Heap) (o : Obj) : Le h (h.push o) := ⟨by rw [Heap.size_push]; omega, fun _ _ e => Heap.get?_push_of_some _ e⟩

theorem Rp.le {h h' : Heap} {X : Addr → Prop} {v : Value} {d : D} (r : Rp pr w h X v d) (x : Le h h') : Rp pr w h' X v d := r.mono fun b o hb e => ⟨x.get b o e, hb⟩
theorem RpAll.le {h h' : Heap} {X : Addr → Prop} {v : List Value} {d : List D} (r : RpAll pr w h X v d) (x : Le h h') : RpAll pr w h' X v d := r.mono fun b o hb e => ⟨x.get b o e, hb⟩
theorem Rp.weaken {h : Heap} {X X' : Addr → Prop} {v : Value} {d : D} (r : Rp pr w h X v d) (x : ∀ a, X' a → X a) : Rp pr w h X' v d := r.mono fun b o hb e => ⟨e, fun c => hb (x _ c)⟩
theorem RpAll.weaken {h : Heap} {X X' : Addr → Prop} {v : List Value} {d : List D} (r : RpAll pr w h X v d) (x : ∀ a, X' a → X a) : RpAll pr w h X' v d := r.mono fun b o hb e => ⟨e, fun c => hb (x _ c)⟩
/-- addresses that are not of the heap may be forbidden besides -/
theorem Rp.forbid {h : Heap} {X X' : Addr → Prop} {v : Value} {d : D} (r : Rp pr w h X v d) (x : ∀ a, X' a → X a ∨ h.get? a = none) : Rp pr w h X' v d :=
  r.mono fun b o hb e => ⟨e, fun c => (x _ c).elim hb fun n => by rw [n] at e; cases e⟩
theorem RpAll.forbid {h : Heap} {X X' : Addr → Prop} {v : List Value} {d : List D} (r : RpAll pr w h X v d) (x : ∀ a, X' a → X a ∨ h.get? a = none) : RpAll pr w h X' v d :=
  r.mono fun b o hb e => ⟨e, fun c => (x _ c).elim hb fun n => by rw [n] at e; cases e⟩

theorem RpAll.length {h : Heap} {X : Addr → Prop} : ∀ {vs : List Value} {ds : List D}, RpAll pr w h X vs ds → vs.length = ds.length
  | _, _, .nil => rfl
  | _, _, .cons _ rs => by simp [rs.length]
theorem RpAll.get {h : Heap} {X : Addr → Prop} : ∀ {vs : List Value} {ds : List D}, RpAll pr w h X vs ds → ∀ {i : Nat} {v : Value}, vs[i]? = some v → ∃ d, ds[i]? = some d ∧ Rp pr w h X v d
  | _, _, .nil, i, v, e => by simp at e
  | _, _, .cons r rs, 0, v, e => by simp at e; subst e; exact ⟨_, rfl, r⟩
  | _, _, .cons r rs, i + 1, v, e => by simp at e; obtain ⟨d, hd, q⟩ := rs.get e; exact ⟨d, by simpa using hd, q⟩
theorem RpAll.getD {h : Heap} {X : Addr → Prop} {vs : List Value} {ds : List D} (r : RpAll pr w h X vs ds) {i : Nat} {d : D} (e : ds[i]? = some d) : ∃ v, vs[i]? = some v ∧ Rp pr w h X v d := by
  have hl := r.length
  have hi : i < ds.length := (List.getElem?_eq_some_iff.mp e).1
  obtain ⟨d', hd', q⟩ := r.get (i := i) (v := vs[i]'(by omega)) (by simp)
  rw [e] at hd'; cases hd'
  exact ⟨_, by simp, q⟩
theorem RpAll.append {h : Heap} {X : Addr → Prop} : ∀ {vs vs' : List Value} {ds ds' : List D}, RpAll pr w h X vs ds → RpAll pr w h X vs' ds' → RpAll pr w h X (vs ++ vs') (ds ++ ds')
  | _, _, _, _, .nil, q => q
  | _, _, _, _, .cons r rs, q => .cons r (rs.append q)
theorem RpAll.erase {h : Heap} {X : Addr → Prop} : ∀ {vs : List Value} {ds : List D}, RpAll pr w h X vs ds → ∀ i, RpAll pr w h X (vs.eraseIdx i) (ds.eraseIdx i)
  | _, _, .nil, _ => .nil
  | _, _, .cons _ rs, 0 => rs
  | _, _, .cons r rs, i + 1 => .cons r (rs.erase i)

inductive Slot where
  | fz (d : D)
  | ol (xs : List D)
  | od (kvs : List (T × T))

abbrev VEnv := List (Str × Slot)
def VEnv.get : VEnv → Str → Option Slot
  | [], _ => none
  | (y, s) :: r, x => if x = y then some s else VEnv.get r x
def VEnv.set : VEnv → Str → Slot → VEnv
  | [], x, sl => [(x, sl)]
  | (y, s) :: r, x, sl => if x = y then (y, sl) :: r else (y, s) :: VEnv.set r x sl
theorem VEnv.get_set : ∀ (σ : VEnv) (x y : Str) (sl : Slot), (σ.set x sl).get y = if y = x then some sl else σ.get y
  | [], x, y, sl => by simp [VEnv.set, VEnv.get]
  | (z, s) :: r, x, y, sl => by
      unfold VEnv.set
      by_cases hz : x = z
      · subst hz; simp only [if_true, VEnv.get]; split <;> rfl
      · simp only [hz, if_false, VEnv.get, VEnv.get_set r x y sl]
        by_cases hy : y = z
        · subst hy; simp [Ne.symm hz]
        · simp [hy]

structure Cx where
  pr : Program
  w : World
  A : Around
  env : Env
  h0 : Heap
  t0 : Nat

def Cx.Mut (C : Cx) (W : List (Str × Addr)) (a : Addr) : Prop := a = C.env.locals ∨ (∃ n, (n, a) ∈ C.env.cells ∧ C.h0.objs.size ≤ a) ∨ ∃ x, (x, a) ∈ W
def Cx.X (C : Cx) (X0 : Addr → Prop) (W : List (Str × Addr)) (a : Addr) : Prop := X0 a ∨ C.Mut W a

def VarAt (C : Cx) (m cm : Str → Option Value) (x : Str) (v : Value) : Prop :=
  (C.env.kindOf x = some .local ∧ m x = some v) ∨ ((C.env.kindOf x = some .cell ∨ (C.env.kindOf x = some .free ∧ (x == ("__classdict__" : Str)) = false)) ∧ (C.env.cells.lookup x).isSome ∧ cm x = some v)

def OwnRep (pr : Program) (w : World) (h : Heap) (X : Addr → Prop) (a : Addr) : Slot → Prop
  | .fz _ => False
  | .ol xs => ∃ vs : List Value, h.PlainList a vs.toArray ∧ RpAll pr w h X vs xs
  | .od kvs => (a == sysModules) = false ∧ ∃ kts, h.DictOf (strKind pr w) a kts ∧ DK kts kvs

def SlotRep (C : Cx) (X0 : Addr → Prop) (W : List (Str × Addr)) (h : Heap) (x : Str) (v : Value) : Slot → Prop
  | .fz d => Rp C.pr C.w h (C.X X0 W) v d
  | sl => ∃ a, v = .ref a ∧ (x, a) ∈ W ∧ OwnRep C.pr C.w h (C.X X0 W) a sl

structure St (C : Cx) (X0 : Addr → Prop) (W : List (Str × Addr)) (σ : VEnv) (h : Heap) : Prop where
  keep : ∀ b o, C.h0.get? b = some o → h.get? b = some o
  hsize : C.h0.objs.size ≤ h.objs.size
  vars : ∃ m cm, h.Ns C.env.locals m ∧ (∀ n c, C.env.cells.lookup n = some c → h.IsCell c (cm n)) ∧
    ∀ x sl, σ.get x = some sl → ∃ v, VarAt C m cm x v ∧ SlotRep C X0 W h x v sl
  lt : ∀ a, C.X X0 W a → a < h.objs.size
  dis : ∀ a, C.Mut W a → ¬ X0 a
  wN : (W.map (·.2)).Nodup
  wF : ∀ x a, (x, a) ∈ W → C.h0.objs.size ≤ a ∧ a ≠ C.env.locals ∧ ∀ n, (n, a) ∉ C.env.cells
  wU : ∀ x a b, (x, a) ∈ W → (x, b) ∈ W → a = b

theorem SlotRep.le {C : Cx} {X0 : Addr → Prop} {W : List (Str × Addr)} {h h' : Heap} {x : Str} {v : Value} {sl : Slot} (r : SlotRep C X0 W h x v sl) (l : Le h h') : SlotRep C X0 W h' x v sl := by
  cases sl with
  | fz d => exact Rp.le r l
  | ol xs =>
    obtain ⟨a, e, m, vs, p, q⟩ := r
    exact ⟨a, e, m, vs, p.at (fun o => l.get a o), q.le l⟩
  | od kvs =>
    obtain ⟨a, e, m, hs, kts, p, q⟩ := r
    exact ⟨a, e, m, hs, kts, DictOf_at1 p (fun o => l.get a o), q⟩

theorem St.le {C : Cx} {X0 : Addr → Prop} {W : List (Str × Addr)} {σ : VEnv} {h h' : Heap} (S : St C X0 W σ h) (l : Le h h') : St C X0 W σ h' where
  keep := fun b o e => l.get _ _ (S.keep b o e)
  hsize := Nat.le_trans S.hsize l.size
  vars := by
    obtain ⟨m, cm, hn, hc, hv⟩ := S.vars
    refine ⟨m, cm, hn.keeps l.get, fun n c e => (hc n c e).keeps l.get, fun x sl e => ?_⟩
    obtain ⟨v, hv1, hv2⟩ := hv x sl e
    exact ⟨v, hv1, hv2.le l⟩
  lt := fun a ha => Nat.lt_of_lt_of_le (S.lt a ha) l.size
  dis := S.dis
  wN := S.wN
  wF := S.wF
  wU := S.wU
end

/-- an expression gives d; the heap only grows -/
structure Ev (C : Cx) (σ : VEnv) (e : Expr) (d : D) : Prop where
  run : ∀ (X0 : Addr → Prop) (W : List (Str × Addr)) (s : Shared) (Q : Value → Shared → Prop), C.t0 ≤ s.toks → St C X0 W σ s.heap →
  (∀ h' tk v, C.t0 ≤ tk → Le s.heap h' → Rp C.pr C.w h' (C.X X0 W) v d → Q v { s with heap := h', toks := tk }) → wpAny (model C.pr C.w) C.A (eval e C.env) Q (fun _ _ => False) s

/-- a number that the tokens have reached stays reached -/
theorem wp_toks {α : Type} {M : Model} {A : Around} {s : Shared} {t : Sem α} {Q : α → Shared → Prop} {n : Nat} (hn : n ≤ s.toks) (h : wpAny M A t (fun a s' => n ≤ s'.toks → Q a s') (fun _ _ => False) s) :
    wpAny M A t Q (fun _ _ => False) s :=
  wpAny_mono (wpAny_toks_of hn h) (fun a s' x => x.2 x.1) fun _ _ x => x.2

/-- a step on two values -/
def P2 (C : Cx) (t : Value → Value → Sem Value) (d1 d2 d : D) : Prop := ∀ (X : Addr → Prop) (s : Shared) (Q : Value → Shared → Prop) v1 v2, (∀ a, X a → a < s.heap.objs.size) → Rp C.pr C.w s.heap X v1 d1 → Rp C.pr C.w s.heap X v2 d2 →
  (∀ h' tk v, Le s.heap h' → Rp C.pr C.w h' X v d → Q v { s with heap := h', toks := tk }) → wpAny (model C.pr C.w) C.A (t v1 v2) Q (fun _ _ => False) s

theorem P2.use {C : Cx} {t : Value → Value → Sem Value} {d1 d2 d : D} (h : P2 C t d1 d2 d) {X : Addr → Prop} {s : Shared} {Q : Value → Shared → Prop} {v1 v2 : Value} (ht : C.t0 ≤ s.toks) (hX : ∀ a, X a → a < s.heap.objs.size)
    (r1 : Rp C.pr C.w s.heap X v1 d1) (r2 : Rp C.pr C.w s.heap X v2 d2)
    (hQ : ∀ h' tk v, C.t0 ≤ tk → Le s.heap h' → Rp C.pr C.w h' X v d → Q v { s with heap := h', toks := tk }) : wpAny (model C.pr C.w) C.A (t v1 v2) Q (fun _ _ => False) s :=
  wp_toks ht (h X s _ v1 v2 hX r1 r2 fun h' tk v l r ht' => hQ h' tk v ht' l r)

end Mine

namespace Mine

structure Base (gl : Str → Option Value) (h : Heap) : Prop where
  ns : ∃ mg mb, h.Ns mainGlobals mg ∧ h.Ns builtinsNs mb ∧ ∀ x v, gl x = some v → mg x = some v ∨ (mg x = none ∧ mb x = some v)
  nolimit : h.NoLimit

theorem Base.keeps {gl : Str → Option Value} {h h' : Heap} (B : Base gl h) (hk : ∀ b o, h.get? b = some o → h'.get? b = some o) : Base gl h' := by
  obtain ⟨⟨mg, mb, h1, h2, h3⟩, h4⟩ := B
  exact ⟨⟨mg, mb, h1.keeps hk, h2.keeps hk, h3⟩, h4.keeps hk⟩

theorem Base.sysMod {gl : Str → Option Value} {h : Heap} (B : Base gl h) : sysModules < h.objs.size := by
  obtain ⟨⟨mg, mb, h1, h2, h3⟩, h4⟩ := B
  obtain ⟨mc, h5, h6⟩ := h4
  first
    | exact Nat.lt_of_le_of_lt (by decide : sysModules ≤ mainGlobals) h1.lt
    | exact Nat.lt_of_le_of_lt (by decide : sysModules ≤ builtinsNs) h2.lt
    | exact Nat.lt_of_le_of_lt (by decide : sysModules ≤ cStatics) h5.lt

structure Cx.Ok (C : Cx) (gl : Str → Option Value) (r : Nat) : Prop where
  kind : C.env.scope.kind = .function
  hand : C.A.handled = none
  depth : C.A.depth + r < recursionLimit
  units : C.A.units + 3 * r + 80 < cLine
  globals : C.env.globals = mainGlobals
  builtins : C.env.builtins = builtinsNs
  base : Base gl C.h0
  cellL : ∀ n c, (n, c) ∈ C.env.cells → c ≠ C.env.locals
  Lhi : C.h0.objs.size ≤ C.env.locals

section
variable {C : Cx} {gl : Str → Option Value} {r : Nat} {σ : VEnv}

theorem Ev.of_val {e : Expr} {d : D} (v : Tok → Value) (k : Nat) (hv : ∀ (h : Heap) (X : Addr → Prop) t, Rp C.pr C.w h X (v t) d)
    (he : ∀ (s : Shared) (Q : Value → Shared → Prop), Q (v s.toks) { s with toks := s.toks + k } → wpAny (model C.pr C.w) C.A (eval e C.env) Q (fun _ _ => False) s) : Ev C σ e d :=
  .mk fun X0 W s Q ht S h => he s Q (h s.heap (s.toks + k) (v s.toks) (Nat.le_trans ht (Nat.le_add_right _ _)) (Le.refl _) (hv _ _ _))

theorem Ev.cint (i : Int) (k : Nat) (p : Pos) : Ev C σ (.Constant (.int i) k p) (.int i) :=
  Ev.of_val (fun t => .int i t) 1 (fun _ _ t => .rint i t) fun s Q h => wpAny_Constant_int h
theorem Ev.cstr (x : Str) (k : Nat) (p : Pos) : Ev C σ (.Constant (.str x) k p) (.str x.cps.toList) :=
  Ev.of_val (fun t => .str x t) 1 (fun _ _ t => .rstr x t) fun s Q h => Calls.Constant_str h
theorem Ev.cnone (k : Nat) (p : Pos) : Ev C σ (.Constant .none k p) .none :=
  Ev.of_val (fun t => .none) 0 (fun _ _ t => .rnone) fun s Q h => fun _ _ _ => h
theorem Ev.cbool (b : Bool) (k : Nat) (p : Pos) : Ev C σ (.Constant (.bool b) k p) (.bool b) :=
  Ev.of_val (fun t => .bool b) 0 (fun _ _ t => .rbool b) fun s Q h => fun _ _ _ => h

/-- a name read: what it holds -/
theorem load_name (K : C.Ok gl r) {x : Str} {sl : Slot} {X0 : Addr → Prop} {W : List (Str × Addr)} {s : Shared} {Q : Value → Shared → Prop} (S : St C X0 W σ s.heap) (hx : σ.get x = some sl)
    (h : ∀ v, SlotRep C X0 W s.heap x v sl → Q v s) : wpAny (model C.pr C.w) C.A (loadName C.env x) Q (fun _ _ => False) s := by
  obtain ⟨m, cm, hn, hc, hv⟩ := S.vars
  obtain ⟨v, hv1, hv2⟩ := hv x sl hx
  rcases hv1 with ⟨k, e⟩ | ⟨k, hs, e'⟩
  · exact wpAny_loadName_local K.kind k hn e (h v hv2)
  · obtain ⟨c, hcc⟩ := Option.isSome_iff_exists.mp hs
    have hcell := hc x c hcc
    rw [e'] at hcell
    rcases k with k | ⟨k, hcd⟩
    · exact wpAny_loadName_cell K.kind k hcc hcell (h v hv2)
    · exact wpAny_loadName_free K.kind k hcc hcell (h v hv2) hcd

theorem name_slot (K : C.Ok gl r) {x : Str} {p : Pos} {sl : Slot} {X0 : Addr → Prop} {W : List (Str × Addr)} {s : Shared} {Q : Value → Shared → Prop} (S : St C X0 W σ s.heap) (hx : σ.get x = some sl)
    (hd : (x == ("__debug__" : Str)) = false)
    (h : ∀ v, SlotRep C X0 W s.heap x v sl → Q v s) : wpAny (model C.pr C.w) C.A (eval (.Name x p) C.env) Q (fun _ _ => False) s :=
  wpAny_Name (load_name K S hx h) hd

theorem Ev.name (K : C.Ok gl r) {x : Str} {d : D} (p : Pos) (hx : σ.get x = some (.fz d)) (hd : (x == ("__debug__" : Str)) = false) : Ev C σ (.Name x p) d :=
  .mk fun X0 W s Q ht S h => name_slot K S hx hd fun v hv => h s.heap s.toks v ht (Le.refl _) hv

/-- a name of the top or a built-in -/
theorem name_glob (K : C.Ok gl r) {x : Str} {p : Pos} {v : Value} {X0 : Addr → Prop} {W : List (Str × Addr)} {s : Shared} {Q : Value → Shared → Prop} (S : St C X0 W σ s.heap) (hx : gl x = some v)
    (hk : C.env.kindOf x = some .globalImplicit) (hd : (x == ("__debug__" : Str)) = false) (h : Q v s) : wpAny (model C.pr C.w) C.A (eval (.Name x p) C.env) Q (fun _ _ => False) s := by
  obtain ⟨mg, mb, hg, hb, hall⟩ := (K.base.keeps S.keep).ns
  refine Calls.Name_function_global K.kind hk ?_ hd
  rcases hall x v hx with e | ⟨e1, e2⟩
  · exact Calls.loadGlobal_global (K.globals ▸ hg) e h
  · exact Calls.loadGlobal_builtin (K.globals ▸ hg) e1 (K.builtins ▸ hb) e2 h

theorem Ev.binop {l rr : Expr} {op : Operator} {p : Pos} {d1 d2 d : D} (h1 : Ev C σ l d1) (h2 : Ev C σ rr d2) (ho : P2 C (binaryOp op) d1 d2 d) : Ev C σ (.BinOp l op rr p) d :=
  .mk fun X0 W s Q ht S h => wpAny_BinOp (h1.run X0 W s _ ht S fun hp1 t1 v1 ht1 l1 r1 => h2.run X0 W _ _ ht1 (S.le l1) fun hp2 t2 v2 ht2 l2 r2 =>
    ho.use ht2 ((S.le l1).le l2).lt (r1.le l2) r2 fun h' tk v ht3 l3 r3 => h h' tk v ht3 ((l1.trans l2).trans l3) r3)

theorem Ev.cmp {l rr : Expr} {op : CmpOp} {p : Pos} {d1 d2 d : D} (h1 : Ev C σ l d1) (h2 : Ev C σ rr d2) (ho : P2 C (compareOp op) d1 d2 d) (hm : behindInMarks op rr = false) : Ev C σ (.Compare l [op] [rr] p) d :=
  .mk fun X0 W s Q ht S h => wpAny_Compare1 (h1.run X0 W s _ ht S fun hp1 t1 v1 ht1 l1 r1 => h2.run X0 W _ _ ht1 (S.le l1) fun hp2 t2 v2 ht2 l2 r2 =>
    ho.use ht2 ((S.le l1).le l2).lt (r1.le l2) r2 fun h' tk v ht3 l3 r3 => h h' tk v ht3 ((l1.trans l2).trans l3) r3) hm

theorem P2.add_int (a b : Int) : P2 C (binaryOp .Add) (.int a) (.int b) (.int (a + b)) := fun X s Q v1 v2 hX r1 r2 h => by
  cases r1; cases r2; exact PyProof.Rows.add_int (h s.heap _ _ (Le.refl _) (.rint _ _))
theorem P2.mod_int (a b : Int) (hb : b ≠ 0) : P2 C (binaryOp .Mod) (.int a) (.int b) (.int (a.fmod b)) := fun X s Q v1 v2 hX r1 r2 h => by
  cases r1; cases r2; exact PyProof.Rows.mod_int hb (h s.heap _ _ (Le.refl _) (.rint _ _))
theorem P2.div_int (a b : Int) (hb : b ≠ 0) (hs : Builtin.divisionGoesByPylong a b = false) : P2 C (binaryOp .FloorDiv) (.int a) (.int b) (.int (a.fdiv b)) := fun X s Q v1 v2 hX r1 r2 h => by
  cases r1; cases r2; exact PyProof.Rows.floordiv_int hb (h s.heap _ _ (Le.refl _) (.rint _ _)) (.inl hs)
theorem P2.pow_int (a b : Int) (hb : 0 ≤ b) (hs : (Builtin.Int.intBits a : Int) * b ≤ 2 ^ 27) : P2 C (binaryOp .Pow) (.int a) (.int b) (.int (a ^ b.toNat)) := fun X s Q v1 v2 hX r1 r2 h => by
  cases r1; cases r2; exact PyProof.Rows.pow_int hb hs (h s.heap _ _ (Le.refl _) (.rint _ _))
theorem P2.add_str (a b : T) (hz : a.length + b.length ≤ 16777216) : P2 C (binaryOp .Add) (.str a) (.str b) (.str (a ++ b)) := fun X s Q v1 v2 hX r1 r2 h => by
  cases r1 with | rstr x t => cases r2 with | rstr y u =>
    have e : x.cps.toList ++ y.cps.toList = (x ++ y).cps.toList := by rw [Str.cps_append]; simp
    rw [e] at h
    exact PyProof.Rows.add_str (fun t' tk => h s.heap _ _ (Le.refl _) (.rstr _ _)) (by simpa [Str.length, sizeLine] using hz)
theorem P2.eq_int (a b : Int) : P2 C (compareOp .Eq) (.int a) (.int b) (.bool (a == b)) := fun X s Q v1 v2 hX r1 r2 h => by
  cases r1; cases r2; exact PyProof.Rows.eq_int (h s.heap s.toks _ (Le.refl _) (.rbool _))
theorem P2.lt_int (a b : Int) : P2 C (compareOp .Lt) (.int a) (.int b) (.bool (decide (a < b))) := fun X s Q v1 v2 hX r1 r2 h => by
  cases r1; cases r2; exact PyProof.Rows.lt_int (h s.heap s.toks _ (Le.refl _) (.rbool _))
theorem P2.gt_int (a b : Int) : P2 C (compareOp .Gt) (.int a) (.int b) (.bool (decide (b < a))) := fun X s Q v1 v2 hX r1 r2 h => by
  cases r1; cases r2; exact PyProof.Rows.gt_int (h s.heap s.toks _ (Le.refl _) (.rbool _))
theorem P2.ge_int (a b : Int) : P2 C (compareOp .GtE) (.int a) (.int b) (.bool (decide (b ≤ a))) := fun X s Q v1 v2 hX r1 r2 h => by
  cases r1; cases r2; exact PyProof.Rows.ge_int (h s.heap s.toks _ (Le.refl _) (.rbool _))
theorem cps_inj {x y : Str} : (x == y) = (x.cps.toList == y.cps.toList) := by
  rw [Bool.eq_iff_iff]; simp only [beq_iff_eq]
  exact ⟨fun h => by rw [h], fun h => Str.ext' (Array.toList_inj.mp h)⟩
theorem P2.eq_str (a b : T) : P2 C (compareOp .Eq) (.str a) (.str b) (.bool (a == b)) := fun X s Q v1 v2 hX r1 r2 h => by
  cases r1 with | rstr x t => cases r2 with | rstr y u => exact PyProof.Rows.eq_str (by rw [cps_inj]; exact h s.heap s.toks _ (Le.refl _) (.rbool _))
theorem P2.ne_str (a b : T) : P2 C (compareOp .NotEq) (.str a) (.str b) (.bool (a != b)) := fun X s Q v1 v2 hX r1 r2 h => by
  cases r1 with | rstr x t => cases r2 with | rstr y u => exact PyProof.Rows.ne_str (by rw [bne, cps_inj]; exact h s.heap s.toks _ (Le.refl _) (.rbool _))
/-- y stands in x -/
def hasL (y : T) : T → Bool
  | [] => y.isEmpty
  | c :: r => y.isPrefixOf (c :: r) || hasL y r
theorem hasL_iff (y : T) : ∀ x : T, hasL y x = true ↔ ∃ i, i + y.length ≤ x.length ∧ (x.drop i).take y.length = y
  | [] => by
    unfold hasL
    constructor
    · intro h; exact ⟨0, by simp at h; simp [h], by simp at h; simp [h]⟩
    · rintro ⟨i, h1, h2⟩
      simp at h1 h2
      simp [h1.2]
  | c :: r => by
    unfold hasL
    rw [Bool.or_eq_true, hasL_iff y r, List.isPrefixOf_iff_prefix]
    constructor
    · rintro (h | ⟨i, h1, h2⟩)
      · exact ⟨0, by simpa using h.length_le, by rw [List.drop_zero]; exact (List.prefix_iff_eq_take.mp h).symm⟩
      · exact ⟨i + 1, by simp; omega, by simpa using h2⟩
    · rintro ⟨i, h1, h2⟩
      cases i with
      | zero => left; rw [List.drop_zero] at h2; exact List.prefix_iff_eq_take.mpr h2.symm
      | succ i => right; exact ⟨i, by simp at h1; omega, by simpa using h2⟩
theorem has_str (x y : Str) : (!(Builtin.Str.occurrences x y 0 x.length 1).isEmpty) = hasL y.cps.toList x.cps.toList := by
  rw [Bool.eq_iff_iff, StrLaws.found_iff, hasL_iff]
  constructor
  · rintro ⟨i, h1, h2⟩
    rw [StrLaws.subAt_eq] at h2
    exact ⟨i, by simpa [Str.length] using h1, by simpa [Str.length] using h2⟩
  · rintro ⟨i, h1, h2⟩
    refine ⟨i, by simpa [Str.length] using h1, ?_⟩
    rw [StrLaws.subAt_eq]; simpa [Str.length] using h2
theorem P2.in_str (y x : T) : P2 C (compareOp .In) (.str y) (.str x) (.bool (hasL y x)) := fun X s Q v1 v2 hX r1 r2 h => by
  cases r1 with | rstr a t => cases r2 with | rstr b u => exact PyProof.Rows.in_str (by rw [has_str]; exact h s.heap s.toks _ (Le.refl _) (.rbool _))
theorem P2.notin_str (y x : T) : P2 C (compareOp .NotIn) (.str y) (.str x) (.bool (!hasL y x)) := fun X s Q v1 v2 hX r1 r2 h => by
  cases r1 with | rstr a t => cases r2 with | rstr b u => exact PyProof.Rows.notIn_str (by rw [has_str]; exact h s.heap s.toks _ (Le.refl _) (.rbool _))
theorem P2.isnot_bool (a b : Bool) : P2 C (compareOp .IsNot) (.bool a) (.bool b) (.bool (a != b)) := fun X s Q v1 v2 hX r1 r2 h => by
  cases r1; cases r2; exact PyProof.Rows.isnot_bool (h s.heap s.toks _ (Le.refl _) (.rbool _))
/-- None or an int -/
def optInt : Option Int → D | none => .none | some i => .int i
theorem P2.is_none_opt (o : Option Int) : P2 C (compareOp .Is) (optInt o) .none (.bool o.isNone) := fun X s Q v1 v2 hX r1 r2 h => by
  cases o with
  | none => cases r1; cases r2; exact PyProof.Rows.is_none_none (h s.heap s.toks _ (Le.refl _) (.rbool _))
  | some i => cases r1; cases r2; exact PyProof.Rows.is_int_none (h s.heap s.toks _ (Le.refl _) (.rbool _))
end
end Mine

namespace Mine

structure Tr (C : Cx) (σ : VEnv) (e : Expr) (b : Bool) : Prop where
  run : ∀ (X0 : Addr → Prop) (W : List (Str × Addr)) (s : Shared) (Q : Bool → Shared → Prop), C.t0 ≤ s.toks → St C X0 W σ s.heap →
  (∀ h' tk, C.t0 ≤ tk → Le s.heap h' → Q b { s with heap := h', toks := tk }) → wpAny (model C.pr C.w) C.A (isTrue e C.env (eval e C.env)) Q (fun _ _ => False) s

inductive EvL (C : Cx) (σ : VEnv) : List Expr → List D → Prop
  | nil : EvL C σ [] []
  | cons {e : Expr} {es : List Expr} {d : D} {ds : List D} : Ev C σ e d → EvL C σ es ds → starEach (e :: es) C.env = (false, eval e C.env) :: starEach es C.env → EvL C σ (e :: es) (d :: ds)

/-- a built-in or a def, called with values -/
def PN (C : Cx) (f : Value) (ds : List D) (d : D) : Prop := ∀ (X : Addr → Prop) (s : Shared) (Q : Value → Shared → Prop) vs, C.t0 ≤ s.toks → (∀ b o, C.h0.get? b = some o → s.heap.get? b = some o) → (∀ a, X a → a < s.heap.objs.size) → RpAll C.pr C.w s.heap X vs ds →
  (∀ h' tk v, Le s.heap h' → Rp C.pr C.w h' X v d → Q v { s with heap := h', toks := tk }) → wpAny (model C.pr C.w) C.A (call f vs) Q (fun _ _ => False) s

section
variable {C : Cx} {gl : Str → Option Value} {r : Nat} {σ : VEnv}

theorem PN.use {f : Value} {ds : List D} {d : D} (h : PN C f ds d) {X : Addr → Prop} {s : Shared} {Q : Value → Shared → Prop} {vs : List Value} (ht : C.t0 ≤ s.toks) (hk : ∀ b o, C.h0.get? b = some o → s.heap.get? b = some o) (hX : ∀ a, X a → a < s.heap.objs.size)
    (r1 : RpAll C.pr C.w s.heap X vs ds)
    (hQ : ∀ h' tk v, C.t0 ≤ tk → Le s.heap h' → Rp C.pr C.w h' X v d → Q v { s with heap := h', toks := tk }) : wpAny (model C.pr C.w) C.A (call f vs) Q (fun _ _ => False) s :=
  wp_toks ht (h X s _ vs ht hk hX r1 fun h' tk v l r ht' => hQ h' tk v ht' l r)

def tru : D → Bool
  | .none => false
  | .bool b => b
  | .int i => i != 0
  | .str s => (s.length : Int) != 0
  | _ => true
def truOk : D → Bool
  | .none => true
  | .bool b => true
  | .int i => true
  | .str s => decide (s.length ≤ 16777216)
  | _ => false

theorem truthy_rp {A : Around} {X : Addr → Prop} {s : Shared} {v : Value} {d : D} {Q : Bool → Shared → Prop} (h : Rp C.pr C.w s.heap X v d) (hok : truOk d = true) (hQ : ∀ tk, Q (tru d) { s with toks := tk }) :
    wpAny (model C.pr C.w) A (truthy v) Q (fun _ _ => False) s := by
  cases h with
  | rnone => exact truthy_none (hQ s.toks)
  | rbool b => exact wpAny_truthy_bool (hQ s.toks)
  | rint i t => exact PyProof.Rows.truthy_int (hQ s.toks)
  | rstr x t =>
    have e : tru (.str x.cps.toList) = ((x.length : Int) != 0) := by simp [tru, Str.length]
    rw [e] at hQ
    exact P.truthy_str (by simp [truOk] at hok; simp [Str.length]; omega) (hQ _)
  | _ => cases hok

theorem Tr.plain {e : Expr} {d : D} (h : Ev C σ e d) (he : ∀ whole : Sem Value, isTrue e C.env whole = (do let v ← whole; standAt e.pos; holding [v] (truthy v))) (hok : truOk d = true) : Tr C σ e (tru d) :=
  .mk fun X0 W s Q ht S hQ => isTrue_plain (h.run X0 W s _ ht S fun h' tk v ht' l rr => wp_toks ht' (truthy_rp rr hok fun tk2 ht2 => hQ h' tk2 ht2 l)) (he _)
theorem Tr.cmp {l rr : Expr} {op : CmpOp} {p : Pos} {d1 d2 : D} {b : Bool} (h1 : Ev C σ l d1) (h2 : Ev C σ rr d2) (ho : P2 C (compareOp op) d1 d2 (.bool b)) (hm : behindInMarks op rr = false) : Tr C σ (.Compare l [op] [rr] p) b :=
  .mk fun X0 W s Q ht S h => wpAny_isTrue_Compare1 (h1.run X0 W s _ ht S fun hp1 t1 v1 ht1 l1 r1 => h2.run X0 W _ _ ht1 (S.le l1) fun hp2 t2 v2 ht2 l2 r2 =>
    ho.use ht2 ((S.le l1).le l2).lt (r1.le l2) r2 fun h' tk v ht3 l3 r3 => by
      cases r3
      exact wpAny_truthy_bool (h h' tk ht3 ((l1.trans l2).trans l3))) hm
theorem Tr.and_nil {p : Pos} : Tr C σ (.BoolOp .And [] p) true := .mk fun X0 W s Q ht S hQ => isTrue_and_nil (hQ s.heap s.toks ht (Le.refl _))
theorem Tr.or_nil {p : Pos} : Tr C σ (.BoolOp .Or [] p) false := .mk fun X0 W s Q ht S hQ => isTrue_or_nil (hQ s.heap s.toks ht (Le.refl _))
theorem Tr.and {x : Expr} {xs : List Expr} {p : Pos} {b c : Bool} (h : Tr C σ x b) (h2 : b = true → ∀ whole : Sem Value, Tr C σ (.BoolOp .And xs p) c) (he : ∀ whole, isTrue (.BoolOp .And xs p) C.env whole = isTrue (.BoolOp .And xs p) C.env (eval (.BoolOp .And xs p) C.env)) :
    Tr C σ (.BoolOp .And (x :: xs) p) (b && c) :=
  .mk fun X0 W s Q ht S hQ => isTrue_and (h.run X0 W s _ ht S fun h' tk ht' l => by
    cases b with
    | false => simpa using hQ h' tk ht' l
    | true => rw [if_pos rfl, he]; exact (h2 rfl (pure .none)).run X0 W _ _ ht' (S.le l) fun h'' tk' ht'' l' => by simpa using hQ h'' tk' ht'' (l.trans l'))
theorem Tr.or {x : Expr} {xs : List Expr} {p : Pos} {b c : Bool} (h : Tr C σ x b) (h2 : b = false → ∀ whole : Sem Value, Tr C σ (.BoolOp .Or xs p) c) (he : ∀ whole, isTrue (.BoolOp .Or xs p) C.env whole = isTrue (.BoolOp .Or xs p) C.env (eval (.BoolOp .Or xs p) C.env)) :
    Tr C σ (.BoolOp .Or (x :: xs) p) (b || c) :=
  .mk fun X0 W s Q ht S hQ => isTrue_or (h.run X0 W s _ ht S fun h' tk ht' l => by
    cases b with
    | true => simpa using hQ h' tk ht' l
    | false => rw [if_neg (by simp), he]; exact (h2 rfl (pure .none)).run X0 W _ _ ht' (S.le l) fun h'' tk' ht'' l' => by simpa using hQ h'' tk' ht'' (l.trans l'))
theorem Tr.and2 {x y : Expr} {p : Pos} {b c : Bool} (h : Tr C σ x b) (h2 : b = true → Tr C σ y c) : Tr C σ (.BoolOp .And [x, y] p) (b && c) :=
  Tr.and h (fun hb _ => by simpa using Tr.and (h2 hb) (fun _ _ => Tr.and_nil) (fun _ => rfl)) (fun _ => rfl)
theorem Tr.or2 {x y : Expr} {p : Pos} {b c : Bool} (h : Tr C σ x b) (h2 : b = false → Tr C σ y c) : Tr C σ (.BoolOp .Or [x, y] p) (b || c) :=
  Tr.or h (fun hb _ => by simpa using Tr.or (h2 hb) (fun _ _ => Tr.or_nil) (fun _ => rfl)) (fun _ => rfl)
theorem Tr.and3 {x y z : Expr} {p : Pos} {b c d : Bool} (h : Tr C σ x b) (h2 : b = true → Tr C σ y c) (h3 : b = true → c = true → Tr C σ z d) : Tr C σ (.BoolOp .And [x, y, z] p) (b && (c && d)) :=
  Tr.and h (fun hb _ => Tr.and2 (h2 hb) fun hc => h3 hb hc) (fun _ => rfl)

theorem Ev.not {e : Expr} {p : Pos} {d : D} (h : Ev C σ e d) (hok : truOk d = true) : Ev C σ (.UnaryOp .Not e p) (.bool (!tru d)) :=
  .mk fun X0 W s Q ht S hQ => wpAny_UnaryOp (h.run X0 W s _ ht S fun h' tk v ht' l rr => not_of (wp_toks ht' (truthy_rp rr hok fun tk2 ht2 => hQ h' tk2 _ ht2 l (.rbool _))))
theorem Ev.ifexp {t a b : Expr} {p : Pos} {c : Bool} {d : D} (ht : Tr C σ t c) (ha : c = true → Ev C σ a d) (hb : c = false → Ev C σ b d) : Ev C σ (.IfExp t a b p) d :=
  .mk fun X0 W s Q h0 S hQ => wpAny_IfExp (ht.run X0 W s _ h0 S fun h' tk ht' l => by
    cases c with
    | true => rw [if_pos rfl]; exact (ha rfl).run X0 W _ _ ht' (S.le l) fun h'' tk' v ht'' l' rr => hQ h'' tk' v ht'' (l.trans l') rr
    | false => rw [if_neg (by simp)]; exact (hb rfl).run X0 W _ _ ht' (S.le l) fun h'' tk' v ht'' l' rr => hQ h'' tk' v ht'' (l.trans l') rr)
/-- x and y, x or y as values, of bools -/
theorem Ev.and2 {x y : Expr} {p : Pos} {b c : Bool} (h1 : Ev C σ x (.bool b)) (h2 : b = true → Ev C σ y (.bool c)) : Ev C σ (.BoolOp .And [x, y] p) (.bool (b && c)) :=
  .mk fun X0 W s Q ht S hQ => by
    show wpAny _ _ (boolOp p .And [eval x C.env, eval y C.env]) _ _ _
    unfold boolOp
    refine wpAny_bind (h1.run X0 W s _ ht S fun h' tk v ht' l rr => ?_)
    cases rr
    refine wpAny_bind (wpAny_standAt (wpAny_bind (wpAny_holding (wpAny_truthy_bool ?_))))
    cases b with
    | false => exact wpAny_pure (hQ h' tk _ ht' l (.rbool _))
    | true => exact (h2 rfl).run X0 W _ _ ht' (S.le l) fun h'' tk' v ht'' l' rr => hQ h'' tk' v ht'' (l.trans l') (by simpa using rr)
theorem EvL.run : ∀ {es : List Expr} {ds : List D}, EvL C σ es ds → ∀ (p : Pos) (X0 : Addr → Prop) (W : List (Str × Addr)) (s : Shared) (Q : List Value → Shared → Prop), C.t0 ≤ s.toks → St C X0 W σ s.heap →
    (∀ h' tk vs, C.t0 ≤ tk → Le s.heap h' → RpAll C.pr C.w h' (C.X X0 W) vs ds → Q vs { s with heap := h', toks := tk }) → wpAny (model C.pr C.w) C.A (spliced (backTo p (starEach es C.env))) Q (fun _ _ => False) s
  | _, _, .nil, p, X0, W, s, Q, ht, S, hQ => args_nil (hQ s.heap s.toks [] ht (Le.refl _) .nil)
  | _, _, .cons h hs he, p, X0, W, s, Q, ht, S, hQ => args_cons (h.run X0 W s _ ht S fun h' tk v ht' l rr => hs.run p X0 W _ _ ht' (S.le l) fun h'' tk' vs ht'' l' rs => hQ h'' tk' _ ht'' (l.trans l') (.cons (rr.le l') rs)) he

theorem EvL.plain : ∀ {es : List Expr} {ds : List D}, EvL C σ es ds → ∀ p, (backTo p (starEach es C.env)).any (·.1) = false
  | _, _, .nil, p => rfl
  | _, _, .cons h hs he, p => by
    rw [he]
    show (false || _) = false
    rw [Bool.false_or]; exact hs.plain p

theorem EvL.args {f : Value} {es : List Expr} {ds : List D} {p : Pos} {X0 : Addr → Prop} {W : List (Str × Addr)} {s : Shared} {Q : Args → Shared → Prop} (ht : C.t0 ≤ s.toks) (S : St C X0 W σ s.heap) (hs : EvL C σ es ds)
    (hQ : ∀ h' tk vs, C.t0 ≤ tk → Le s.heap h' → RpAll C.pr C.w h' (C.X X0 W) vs ds → Q ⟨vs, []⟩ { s with heap := h', toks := tk }) :
    wpAny (model C.pr C.w) C.A (evalArgs f true (backTo p (starEach es C.env)) []) Q (fun _ _ => False) s := by
  have H := hs.run p X0 W s (fun vs s' => Q ⟨vs, []⟩ s') ht S hQ
  cases hs with
  | nil => exact PyProof.Rows.evalArgs_none (hQ s.heap s.toks [] ht (Le.refl _) .nil)
  | cons h hs he =>
    rw [he] at H ⊢
    exact Calls.evalArgs_plain H

/-- a call of a built-in by its name -/
theorem Ev.call_builtin (K : C.Ok gl r) {x : Str} {id : String} {es : List Expr} {ds : List D} {d : D} {p px : Pos} (hx : gl x = some (.builtin id)) (hk : C.env.kindOf x = some .globalImplicit) (hd : (x == ("__debug__" : Str)) = false)
    (hs : EvL C σ es ds) (hf : PN C (.builtin id) ds d) : Ev C σ (.Call (.Name x px) es [] p) d := .mk fun X0 W s Q ht S hQ =>
  Call_ (name_glob K S hx hk hd (Calls.callWith_builtin (hs.plain p) (hs.args ht S fun h' tk vs ht' l rs => hf.use ht' (S.le l).keep (S.le l).lt rs fun h'' tk' v ht'' l' rr => hQ h'' tk' v ht'' (l.trans l') rr))) rfl
theorem Ev.call_fn (K : C.Ok gl r) {x : Str} {a : Addr} {o : Obj} {fd : FuncData} {es : List Expr} {ds : List D} {d : D} {p px : Pos} (hx : gl x = some (.ref a)) (ho : C.h0.get? a = some o) (hfd : o.data = .func fd) (hk : C.env.kindOf x = some .globalImplicit) (hd : (x == ("__debug__" : Str)) = false)
    (hs : EvL C σ es ds) (hf : PN C (.ref a) ds d) : Ev C σ (.Call (.Name x px) es [] p) d := .mk fun X0 W s Q ht S hQ =>
  Call_ (name_glob K S hx hk hd (Calls.callWith_function (o := o) (fd := fd) (hs.args ht S fun h' tk vs ht' l rs => ⟨⟨(S.le l).keep _ _ ho, hfd⟩, hf.use ht' (S.le l).keep (S.le l).lt rs fun h'' tk' v ht'' l' rr => hQ h'' tk' v ht'' (l.trans l') rr⟩))) rfl

/-- the type of what bears d -/
def tyOf : D → String
  | .none => "NoneType"
  | .bool _ => "bool"
  | .int _ => "int"
  | .str _ => "str"
  | .list _ => "list"
  | .tup _ => "tuple"
  | .dict _ => "dict"
theorem Rp.typeIs {X : Addr → Prop} {s : Shared} {v : Value} {d : D} (h : Rp C.pr C.w s.heap X v d) : (∃ x, d = .str x) ∨ (∃ x, d = .list x) ∨ (∃ x, d = .dict x) → s.TypeIs v (tyOf d) ∧ ∀ a, v = .ref a → ∃ ob, s.heap.get? a = some ob ∧ ob.dict = none := by
  intro hd
  rcases hd with ⟨x, rfl⟩ | ⟨x, rfl⟩ | ⟨x, rfl⟩
  · cases h; exact ⟨typeIs_str _ _ _, fun a e => nomatch e⟩
  · cases h with
    | rlist ha hl r => exact ⟨hl.isList.typeIs, fun a e => by cases e; obtain ⟨n, q⟩ := hl; exact ⟨_, q, rfl⟩⟩
  · cases h with
    | rdict ha hs hd r => exact ⟨hd.mapOf.typeIs, fun a e => by cases e; exact hd.mapOf.noDict _ rfl⟩

/-- o.name(es), o a text or a list that is not changed -/
theorem Ev.meth {o : Expr} {name : Str} {id T : String} {es : List Expr} {d0 : D} {ds : List D} {d : D} {p pa : Pos} (h0 : Ev C σ o d0) (hT : T = tyOf d0) (hd : (∃ x, d0 = .str x) ∨ (∃ x, d0 = .list x) ∨ (∃ x, d0 = .dict x))
    (pat : PlainAttrs T) (slot : PySem.Slot T name id) (ty : typeOf (.builtin id) = pure (.type "method_descriptor"))
    (hbase : ∀ t, attributeBase o name C.env t = t) (hlen : es.length < 30) (hline : (pa.endLine == p.line) = true) (hs : EvL C σ es ds) (hf : PN C (.builtin id) (d0 :: ds) d) : Ev C σ (.Call (.Attribute o name pa) es [] p) d := by
  subst hT
  refine .mk fun X0 W s Q ht S hQ => ?_
  refine wpAny_Call_method_late (hbase _) ?_ hline rfl (h0.run X0 W s _ ht S fun h' tk v ht' l rr => ?_)
  · have : (backTo p (starEach es C.env)).all (fun x => !x.1) = true := by
      have := hs.plain p
      rw [List.all_eq_not_any_not]; simpa using this
    rw [this]; simp [backToKw, keywordEach, hlen]
  obtain ⟨hty, hnd⟩ := Rp.typeIs (s := { s with heap := h', toks := tk }) rr hd
  refine ⟨tyOf d0, id, pat, slot, ty, hty, hnd, ?_⟩
  refine Calls.callWith_builtin (hs.plain p) (hs.args ht' (S.le l) fun h'' tk' vs ht'' l' rs => ?_)
  exact hf.use ht'' ((S.le l).le l').keep ((S.le l).le l').lt (.cons (rr.le l') rs) fun h3 tk3 v3 ht3 l3 r3 => hQ h3 tk3 v3 ht3 ((l.trans l').trans l3) r3
end
end Mine

namespace Mine
open Builtin Builtin.Str StrLaws

/-- the pieces of a text between y's, the first first; n signs still to be passed over -/
def splitA (y : T) : T → Nat → List T
  | [], _ => [[]]
  | c :: r, k + 1 => splitA y r k
  | c :: r, 0 => if y.isPrefixOf (c :: r) then [] :: splitA y r (y.length - 1) else
      match splitA y r 0 with
      | [] => [[c]]
      | p :: ps => (c :: p) :: ps
def joinL (sep : T) : List T → T
  | [] => []
  | [x] => x
  | x :: y :: r => x ++ sep ++ joinL sep (y :: r)

theorem splitA_skip (y : T) : ∀ (l : T) (k : Nat), splitA y l k = splitA y (l.drop k) 0
  | [], k => by cases k <;> simp [splitA]
  | c :: r, 0 => by simp
  | c :: r, k + 1 => by rw [List.drop_succ_cons, ← splitA_skip y r k]; simp [splitA]

theorem splitA_none (y : T) (hy : 1 ≤ y.length) : ∀ (l : T), (∀ k, ¬ y <+: l.drop k) → splitA y l 0 = [l]
  | [], _ => by simp [splitA]
  | c :: r, h => by
    have h0 : y.isPrefixOf (c :: r) = false := by
      rw [Bool.eq_false_iff]; intro e; exact h 0 (by simpa using List.isPrefixOf_iff_prefix.mp e)
    rw [splitA, h0, splitA_none y hy r fun k hk => h (k + 1) (by simpa using hk)]
    simp

theorem splitA_at (y : T) (hy : 1 ≤ y.length) : ∀ (n : Nat) (l : T), (∀ k, k < n → ¬ y <+: l.drop k) → y <+: l.drop n → splitA y l 0 = l.take n :: splitA y (l.drop (n + y.length)) 0
  | 0, [], _, h => by
    simp at h; simp [h] at hy
  | 0, c :: r, _, h => by
    have h0 : y.isPrefixOf (c :: r) = true := List.isPrefixOf_iff_prefix.mpr (by simpa using h)
    rw [splitA, if_pos h0, splitA_skip]
    simp only [List.take_zero, Nat.zero_add, List.cons.injEq, true_and]
    obtain ⟨m, hm⟩ : ∃ m, y.length = m + 1 := ⟨y.length - 1, by omega⟩
    rw [hm, List.drop_succ_cons]; rfl
  | n + 1, [], _, h => by
    simp at h; simp [h] at hy
  | n + 1, c :: r, hn, h => by
    have h0 : ¬ (y.isPrefixOf (c :: r) = true) := fun e => hn 0 (by omega) (by simpa using List.isPrefixOf_iff_prefix.mp e)
    rw [splitA, if_neg h0, splitA_at y hy n r (fun k hk e => hn (k + 1) (by omega) (by simpa using e)) (by simpa using h)]
    simp [Nat.succ_add]

theorem at_iff (x y : Str) (i : Nat) (hy : 1 ≤ y.length) : At x y x.length i ↔ y.cps.toList <+: x.cps.toList.drop i := by
  unfold At
  rw [subAt_eq, List.prefix_iff_eq_take, beq_iff_eq]
  have e1 : y.length = y.cps.toList.length := by simp [Str.length]
  have e2 : x.length = x.cps.toList.length := by simp [Str.length]
  constructor
  · rintro ⟨h1, h2⟩; rw [← e1]; exact h2.symm
  · intro h
    rw [← e1] at h
    refine ⟨?_, h.symm⟩
    have := congrArg List.length h
    rw [List.length_take, List.length_drop] at this
    omega

theorem sub_list (x : Str) (a b : Nat) : (strSub x a b).cps.toList = (x.cps.toList.drop a).take (b - a) := strSub_toList x a b

theorem parts_split (x y : Str) (hy : 1 ≤ y.length) : ∀ (cuts : List Nat) (a f : Nat), ChainG x y x.length a cuts f → (∀ k, f ≤ k → ¬ At x y x.length k) →
    (partsFrom x y.length a cuts).map (·.cps.toList) = splitA y.cps.toList (x.cps.toList.drop a) 0
  | [], a, f, h, hn => by
    have hf : f = a := h
    subst hf
    have hy' : 1 ≤ y.cps.toList.length := by simpa [Str.length] using hy
    rw [splitA_none _ hy' _ fun k hk => hn (f + k) (by omega) ((at_iff x y _ hy).mpr (by rwa [List.drop_drop] at hk))]
    simp only [partsFrom, List.map_cons, List.map_nil, sub_list]
    rw [List.take_of_length_le]
    simp [Str.length]
  | c :: r, a, f, ⟨h1, h2, h3, h4⟩, hn => by
    have hy' : 1 ≤ y.cps.toList.length := by simpa [Str.length] using hy
    rw [splitA_at _ hy' (c - a) _ (fun k hk e => h3 (a + k) (by omega) (by omega) ((at_iff x y _ hy).mpr (by rwa [List.drop_drop] at e)))
      (by rw [List.drop_drop, show a + (c - a) = c by omega]; exact (at_iff x y _ hy).mp h2)]
    rw [partsFrom, List.map_cons, sub_list, parts_split x y hy r _ f h4 hn, List.drop_drop]
    have e1 : y.length = y.cps.toList.length := by simp [Str.length]
    rw [show a + (c - a + y.cps.toList.length) = c + y.length by omega]

theorem kind_ge (x : Str) : 1 ≤ Str.strKind x := by unfold Str.strKind; split <;> (try split) <;> decide

theorem split_list (x y : Str) (hy : 1 ≤ y.length) (hk : Str.strKind y = 1) : (Txt.split x y).map (·.cps.toList) = splitA y.cps.toList x.cps.toList 0 := by
  obtain ⟨f, h1, h2⟩ := occ_tight x y hy
  have H := parts_split x y hy _ 0 f h1 h2
  rw [List.drop_zero] at H
  have hk' : decide (Str.strKind x < Str.strKind y) = false := by have := kind_ge x; rw [hk]; simp; omega
  unfold Txt.split
  rw [hk', Bool.or_false]
  by_cases hl : x.length < y.length
  · simp only [hl, decide_true, if_true]
    rw [splitA_none _ (by simpa [Str.length] using hy)]
    · rfl
    · intro k hkk
      have := hkk.length_le
      simp [Str.length] at this hl; omega
  · simp only [hl, decide_false, Bool.false_eq_true, if_false]
    split
    · rename_i he
      have he' : occurrences x y 0 x.length (x.length + 1) = [] := by simpa using he
      rw [he'] at H
      rw [← H]
      simp only [partsFrom, List.map_cons, List.map_nil, sub_list]
      simp [Str.length, StrLaws.take_all]
    · rw [partsBetween_eq, H]

theorem join_list (sep : Str) : ∀ l : List Str, (Str.join sep l).cps.toList = joinL sep.cps.toList (l.map (·.cps.toList))
  | [] => rfl
  | [x] => rfl
  | x :: y :: r => by
    show (x ++ sep ++ Str.join sep (y :: r)).cps.toList = _
    rw [Str.cps_append, Str.cps_append]
    simp only [Array.toList_append, List.map_cons, joinL, join_list sep (y :: r)]

theorem replace_list (x y z : Str) (hy : 1 ≤ y.length) (hk : Str.strKind y = 1) : (Txt.replace x y z).cps.toList = joinL z.cps.toList (splitA y.cps.toList x.cps.toList 0) := by
  obtain ⟨f, h1, h2⟩ := occ_tight x y hy
  have H := parts_split x y hy _ 0 f h1 h2
  rw [List.drop_zero] at H
  unfold Txt.replace
  have hy0 : (y.length == 0) = false := by simp; omega
  rw [hy0, Bool.false_and, Bool.or_false]
  split
  · rename_i he
    have he' : occurrences x y 0 x.length (x.length + 1) = [] := by simpa using he
    rw [he'] at H
    rw [← H]
    simp only [partsFrom, List.map_cons, List.map_nil, sub_list, joinL]
    simp [Str.length, StrLaws.take_all]
  · rw [glued_eq_join, join_list, partsBetween_eq, H]

/-- one sign replaced -/
theorem join_split_one (c : Nat) (z : T) : ∀ l : T, joinL z (splitA [c] l 0) = l.flatMap fun d => if d = c then z else [d]
  | [] => by simp [splitA, joinL]
  | d :: r => by
    have ih := join_split_one c z r
    have hne : splitA [c] r 0 ≠ [] := by
      cases r with
      | nil => simp [splitA]
      | cons e r => rw [splitA]; split; · simp
                    · split <;> simp
    obtain ⟨p, ps, hp⟩ : ∃ p ps, splitA [c] r 0 = p :: ps := by
      cases h : splitA [c] r 0 with
      | nil => exact absurd h hne
      | cons p ps => exact ⟨p, ps, rfl⟩
    rw [splitA, List.flatMap_cons, ← ih, hp]
    by_cases h : d = c
    · subst h
      have : List.isPrefixOf [d] (d :: r) = true := by simp [List.isPrefixOf]
      simp [this, hp, joinL]
    · have : ¬ (List.isPrefixOf [c] (d :: r) = true) := by simp [List.isPrefixOf]; exact fun e => h e.symm
      rw [if_neg this]
      simp only [h, if_false]
      cases ps <;> simp [joinL]

/-- where y stands first -/
def idxL (y : T) : T → Option Nat
  | [] => if y.isEmpty then some 0 else none
  | c :: r => if y.isPrefixOf (c :: r) then some 0 else (idxL y r).map (· + 1)
theorem idxL_none (y : T) : ∀ l, (∀ k, ¬ y <+: l.drop k) → idxL y l = none
  | [], h => by
    have : y ≠ [] := fun e => h 0 (by simp [e])
    simp [idxL, this]
  | c :: r, h => by
    have h0 : y.isPrefixOf (c :: r) = false := by
      rw [Bool.eq_false_iff]; intro e; exact h 0 (by simpa using List.isPrefixOf_iff_prefix.mp e)
    rw [idxL, h0, idxL_none y r fun k hk => h (k + 1) (by simpa using hk)]
    rfl
theorem idxL_some (y : T) : ∀ (l : T) (n : Nat), n ≤ l.length → y <+: l.drop n → (∀ k, k < n → ¬ y <+: l.drop k) → idxL y l = some n
  | [], n, hn, h, _ => by
    simp at hn; subst hn
    simp at h; simp [idxL, h]
  | c :: r, 0, _, h, _ => by
    have h0 : y.isPrefixOf (c :: r) = true := List.isPrefixOf_iff_prefix.mpr (by simpa using h)
    rw [idxL, if_pos h0]
  | c :: r, n + 1, hn, h, hk => by
    have h0 : ¬ (y.isPrefixOf (c :: r) = true) := fun e => hk 0 (by omega) (by simpa using List.isPrefixOf_iff_prefix.mp e)
    rw [idxL, if_neg h0, idxL_some y r n (by simpa using hn) (by simpa using h) fun k hk' e => hk (k + 1) (by omega) (by simpa using e)]
    rfl

theorem at_iff' (x y : Str) (hi i : Nat) (hh : hi ≤ x.length) : At x y hi i ↔ i ≤ hi ∧ y.cps.toList <+: (x.cps.toList.take hi).drop i := by
  unfold At
  rw [subAt_eq, List.prefix_iff_eq_take, beq_iff_eq]
  have e1 : y.length = y.cps.toList.length := by simp [Str.length]
  have e2 : x.length = x.cps.toList.length := by simp [Str.length]
  rw [← e1]
  constructor
  · rintro ⟨h1, h2⟩
    refine ⟨by omega, ?_⟩
    rw [List.drop_take, List.take_take, Nat.min_eq_left (by omega)]; exact h2.symm
  · rintro ⟨h0, h⟩
    have := congrArg List.length h
    rw [List.length_take, List.length_drop, List.length_take] at this
    refine ⟨by omega, ?_⟩
    rw [List.drop_take, List.take_take, Nat.min_eq_left (by omega)] at h; exact h.symm

theorem find_list (x y : Str) (lo hi : Nat) (hlo : lo ≤ hi) (hh : hi ≤ x.length) :
    (match occurrences x y lo hi 1 with | i :: _ => (i : Int) | [] => -1) =
      (match idxL y.cps.toList ((x.cps.toList.take hi).drop lo) with | some k => ((lo + k : Nat) : Int) | none => -1) := by
  have e2 : x.length = x.cps.toList.length := by simp [Str.length]
  rw [occ_eq]
  rcases occ_first x y hi 1 (Nat.le_refl _) (List.range' lo (hi + 1 - lo)) lo (fun i hi => by have := List.mem_range'_1.mp hi; omega) with ⟨h0, hn⟩ | ⟨pre, a, post, e, h0, ha, hn⟩
  · rw [h0, idxL_none]
    intro k hk
    by_cases hkk : lo + k ≤ hi
    · refine hn (lo + k) (by rw [List.mem_range'_1]; omega) ((at_iff' x y hi _ hh).mpr ⟨hkk, ?_⟩)
      rwa [List.drop_drop] at hk
    · have hy : y.cps.toList = [] := by
        have := hk.length_le
        rw [List.length_drop, List.length_drop, List.length_take] at this
        exact List.eq_nil_of_length_eq_zero (by omega)
      refine hn lo (by rw [List.mem_range'_1]; omega) ((at_iff' x y hi _ hh).mpr ⟨hlo, ?_⟩)
      rw [hy]; exact List.nil_prefix
  · have hs := range'_split_from e
    have ha' := (at_iff' x y hi a hh).mp ha
    have hidx : idxL y.cps.toList ((x.cps.toList.take hi).drop lo) = some (a - lo) := by
      refine idxL_some _ _ _ ?_ ?_ ?_
      · rw [List.length_drop, List.length_take]; omega
      · rw [List.drop_drop, show lo + (a - lo) = a by omega]; exact ha'.2
      · intro k hk hp
        rw [List.drop_drop] at hp
        exact hn (lo + k) (hs.2 _ (by omega) (by omega)) ((at_iff' x y hi _ hh).mpr ⟨by omega, hp⟩)
    rw [hidx]
    generalize (forIn (List.range' lo (hi + 1 - lo)) ((#[] : Array Nat), lo) (occBody x y hi 1)).run.fst = arr at h0 ⊢
    have h1 : arr.toList[0]? = some a := by simpa using h0
    cases hL : arr.toList with
    | nil => rw [hL] at h1; cases h1
    | cons b t =>
      rw [hL] at h1; simp at h1; subst h1
      show (b : Int) = _
      simp only []
      rw [show lo + (b - lo) = b by omega]
end Mine

namespace Mine

theorem runs_size {M : Model} {Γ : Ctx} {p : Pos} {t : Sem Fin} {fs : List Frame} {s s' : Shared} {e : End} (h : Runs M Γ p t fs s e s') : s.heap.objs.size ≤ s'.heap.objs.size := by
  induction h <;> (try simp only [Shared.setGen, Heap.size_push, Heap.size_after_update] at *) <;> omega
theorem returns_size {M : Model} {Γ : Ctx} {p : Pos} {s s' : Shared} {r : Result} (h : Returns M Γ p s r s') : s.heap.objs.size ≤ s'.heap.objs.size := runs_size h
theorem wakes_size {M : Model} {Γ : Ctx} {p : Pos} {g : Nat} {r : Resume} {s s' : Shared} {res : GenResult} (h : Wakes M Γ p g r s res s') : s.heap.objs.size ≤ s'.heap.objs.size := by
  unfold Wakes at h
  split at h
  · exact h.elim
  · split at h
    · obtain ⟨e₁, s₁, hr, _, _, rfl⟩ := h; exact (runs_size hr : (s.setGen g .running).heap.objs.size ≤ s₁.heap.objs.size)
    · rw [h.2]; exact Nat.le_refl _
    · rw [h.2]; exact Nat.le_refl _
  · obtain ⟨e₁, s₁, hr, _, _, rfl⟩ := h; exact (runs_size hr : (s.setGen g .running).heap.objs.size ≤ s₁.heap.objs.size)
  · rw [h.2]; exact Nat.le_refl _
  · rw [h.2]; exact Nat.le_refl _
theorem wp_size0 {α : Type} (M : Model) (Γ : Ctx) (n : Nat) (t : Sem α) : ∀ (Q : α → Pos → Shared → Prop) (E : Value → Pos → Shared → Prop) (p : Pos) (s : Shared), n ≤ s.heap.objs.size → Sem.wp M Γ t Q E p s →
    Sem.wp M Γ t (fun a p' s' => n ≤ s'.heap.objs.size ∧ Q a p' s') (fun e p' s' => n ≤ s'.heap.objs.size ∧ E e p' s') p s := by
  induction t with
  | pure a => intro Q E p s hn h; exact ⟨hn, h⟩
  | raise e => intro Q E p s hn h; exact ⟨hn, h⟩
  | unsupported _ => intro Q E p s _ h; exact h
  | finish _ => intro Q E p s _ h; exact h
  | rule _ k ih => intro Q E p s hn h; exact ih () Q E p s hn h
  | «at» p' k ih => intro Q E p s hn h; exact ih () Q E p' s hn h
  | load a _ k ih => intro Q E p s hn h; obtain ⟨o, ho, h⟩ := h; exact ⟨o, ho, ih o Q E p s hn h⟩
  | update a _ f k ih => intro Q E p s hn h; exact ⟨h.1, ih () Q E p _ (by rw [show ({ s with heap := s.heap.update a f } : Shared).heap.objs.size = s.heap.objs.size from Heap.size_after_update ..]; exact hn) h.2⟩
  | loadIfAlive a k ih => intro Q E p s hn h; exact ih _ Q E p s hn h
  | point _ k ih => intro Q E p s hn h; exact ih () Q E p s hn h
  | register _ _ => intro Q E p s _ h; exact h
  | alloc o k ih => intro Q E p s hn h; exact ih _ Q E p _ (by rw [show ({ s with heap := s.heap.push o } : Shared).heap.objs.size = s.heap.objs.size + 1 from Heap.size_push ..]; omega) h
  | fresh k ih => intro Q E p s hn h; exact ih _ Q E p _ hn h
  | ask k ih => intro Q E p s hn h; exact ih _ Q E p _ hn h
  | choose src m k ih => intro Q E p s hn h; exact ⟨h.1, ih _ Q E p _ hn h.2⟩
  | os q _ k ih => intro Q E p s hn h; exact ih _ Q E p _ hn h
  | call c hd _ _ k ih => intro Q E p s hn h; obtain ⟨r, s', hr, h⟩ := h; exact ⟨r, s', hr, ih r Q E p s' (Nat.le_trans hn (returns_size hr)) h⟩
  | handled own k ih => intro Q E p s hn h; exact ih _ Q E p _ hn h
  | genState g k ih => intro Q E p s hn h; obtain ⟨st, hs, h⟩ := h; exact ⟨st, hs, ih _ Q E p s hn h⟩
  | newGen c k ih => intro Q E p s hn h; exact ih _ Q E p _ hn h
  | resume g r _ k ih => intro Q E p s hn h; obtain ⟨res, s', hw, h⟩ := h; exact ⟨res, s', hw, ih res Q E p s' (Nat.le_trans hn (wakes_size hw)) h⟩
  | yield _ _ _ _ => intro Q E p s _ h; exact h
  | stack k ih => intro Q E p s hn h; exact ih _ Q E p s hn h
  | fork _ _ => intro Q E p s _ h; exact h
  | thread k ih => intro Q E p s hn h; exact ih _ Q E p s hn h
  | await _ _ _ _ _ => intro Q E p s _ h; exact h

/-- the heap does not shrink -/
theorem wp_size {α : Type} {M : Model} {A : Around} {s : Shared} {t : Sem α} {Q : α → Shared → Prop} (h : wpAny M A t (fun a s' => s.heap.objs.size ≤ s'.heap.objs.size → Q a s') (fun _ _ => False) s) :
    wpAny M A t Q (fun _ _ => False) s := fun Γ p hΓ =>
  Sem.wp_mono M Γ t (fun a _ s' x => x.2 x.1) (fun _ _ _ x => x.2) p s (wp_size0 M Γ s.heap.objs.size t _ _ p s (Nat.le_refl _) (h Γ p hΓ))

section
variable {C : Cx} {gl : Str → Option Value} {r : Nat} {σ : VEnv}

theorem PN.mk {f : Value} {ds : List D} {d : D} (h : ∀ (X : Addr → Prop) (s : Shared) (Q : Value → Shared → Prop) vs, C.t0 ≤ s.toks → (∀ a, X a → a < s.heap.objs.size) → RpAll C.pr C.w s.heap X vs ds →
    (∀ h' tk v, (∀ b o, s.heap.get? b = some o → h'.get? b = some o) → Rp C.pr C.w h' X v d → Q v { s with heap := h', toks := tk }) → wpAny (model C.pr C.w) C.A (call f vs) Q (fun _ _ => False) s) : PN C f ds d :=
  fun X s Q vs ht hk hX rs hQ => wp_size (h X s _ vs ht hX rs fun h' tk v hk rr hz => hQ h' tk v ⟨hz, hk⟩ rr)

theorem PN.len_str (x : T) (hx : x.length ≤ 16777216) : PN C (.builtin "len") [.str x] (.int x.length) := .mk fun X s Q vs ht hX rs hQ => by
  cases rs with | cons r1 rs => cases rs; cases r1 with | rstr x t =>
    exact PyProof.Rows.len_str (by simp [Str.length]; simp at hx; omega) (by
      have := hQ s.heap (s.toks + 1 + 1) (.int x.length (s.toks + 1)) (fun _ _ e => e)
      rw [show x.length = x.cps.toList.length by simp [Str.length]] at this ⊢
      exact this (.rint _ _))
theorem PN.startswith (x y : T) : PN C (.builtin "str.startswith") [.str x, .str y] (.bool (y.isPrefixOf x)) := .mk fun X s Q vs ht hX rs hQ => by
  cases rs with | cons r1 rs => cases rs with | cons r2 rs => cases rs; cases r1 with | rstr x t => cases r2 with | rstr y u =>
    refine SC.startswith ?_
    have e : Txt.startswith x y = y.cps.toList.isPrefixOf x.cps.toList := by
      rw [Bool.eq_iff_iff, List.isPrefixOf_iff_prefix, List.prefix_iff_eq_take]
      simp only [Txt.startswith, Bool.and_eq_true, decide_eq_true_eq, StrLaws.subAt_eq, beq_iff_eq, List.drop_zero]
      have e1 : y.length = y.cps.toList.length := by simp [Str.length]
      rw [← e1]
      constructor
      · rintro ⟨_, h⟩; exact h.symm
      · intro h
        have := congrArg List.length h
        rw [List.length_take] at this
        refine ⟨?_, h.symm⟩
        have e2 : x.length = x.cps.toList.length := by simp [Str.length]
        omega
    rw [e]; exact hQ s.heap s.toks _ (fun _ _ e => e) (.rbool _)
theorem PN.endswith (x y : T) : PN C (.builtin "str.endswith") [.str x, .str y] (.bool (y.isSuffixOf x)) := .mk fun X s Q vs ht hX rs hQ => by
  cases rs with | cons r1 rs => cases rs with | cons r2 rs => cases rs; cases r1 with | rstr x t => cases r2 with | rstr y u =>
    refine SC.endswith ?_
    have e : Txt.endswith x y = y.cps.toList.isSuffixOf x.cps.toList := by
      rw [Bool.eq_iff_iff, List.isSuffixOf_iff_suffix, List.suffix_iff_eq_drop]
      simp only [Txt.endswith, Bool.and_eq_true, decide_eq_true_eq, StrLaws.subAt_eq, beq_iff_eq]
      have e1 : y.length = y.cps.toList.length := by simp [Str.length]
      have e2 : x.length = x.cps.toList.length := by simp [Str.length]
      rw [← e1, ← e2]
      constructor
      · rintro ⟨h1, h⟩
        rw [List.take_of_length_le (by rw [List.length_drop]; omega)] at h
        exact h.symm
      · intro h
        have h1 : y.length ≤ x.length := by
          have := congrArg List.length h
          rw [List.length_drop] at this
          omega
        refine ⟨by omega, ?_⟩
        rw [List.take_of_length_le (by rw [List.length_drop]; omega)]
        exact h.symm
    rw [e]; exact hQ s.heap s.toks _ (fun _ _ e => e) (.rbool _)

theorem gives_find4 (x y : Str) (i j : Int) (t u v v' : Tok) : Gives (Builtin.«str.find» ⟨[.str x t, .str y u, .int i v, .int j v'], []⟩)
    (.int (match Builtin.Str.occurrences x y (fromIndex x.length i) (min (fromIndex x.length j) x.length) 1 with | k :: _ => (k : Int) | [] => -1)) := by
  show Gives (match Builtin.Str.occurrences x y (fromIndex x.length i) (min (fromIndex x.length j) x.length) 1 with | k :: _ => retInt k | [] => (do rule "str.find.not-found"; retInt (-1))) _
  cases Builtin.Str.occurrences x y (fromIndex x.length i) (min (fromIndex x.length j) x.length) 1 with
  | nil => exact .rule (.of_eq rfl)
  | cons k _ => exact .of_eq rfl

/-- str.find between two places -/
def findL (x y : T) (lo hi : Nat) : Int := match idxL y ((x.take hi).drop lo) with | some k => ((lo + k : Nat) : Int) | none => -1
theorem PN.find4 (x y : T) (lo hi : Nat) (h1 : lo ≤ hi) (h2 : hi ≤ x.length) : PN C (.builtin "str.find") [.str x, .str y, .int lo, .int hi] (.int (findL x y lo hi)) := .mk fun X s Q vs ht hX rs hQ => by
  cases rs with | cons r1 rs => cases rs with | cons r2 rs => cases rs with | cons r3 rs => cases rs with | cons r4 rs =>
    cases rs; cases r3; cases r4; cases r1 with | rstr x t => cases r2 with | rstr y u =>
    refine call_gives F.slot_str_find (typeIs_str _ _ _) F.entry_str_find (F.args_str_find_4 _ _ _ _) (gives_find4 x y _ _ t u _ _) ?_
    have e2 : x.length = x.cps.toList.length := by simp [Str.length]
    have f1 : fromIndex x.length (lo : Int) = lo := by unfold fromIndex; rw [if_neg (by omega)]; omega
    have f2 : min (fromIndex x.length (hi : Int)) x.length = hi := by unfold fromIndex; rw [if_neg (by omega)]; omega
    rw [f1, f2]
    have e : _ = findL x.cps.toList y.cps.toList lo hi := find_list x y lo hi h1 (by omega)
    refine Eq.mpr (congrArg (fun z => (Made.int z).post Q s) e) ?_
    exact hQ s.heap _ _ (fun _ _ e => e) (.rint _ _)

theorem strs_of {h : Heap} {X : Addr → Prop} : ∀ {vs : List Value} {ts : List T}, RpAll C.pr C.w h X vs (ts.map .str) → ∃ l : List (Str × Tok), vs = strValues l ∧ l.map (fun p => p.1.cps.toList) = ts
  | _, [], .nil => ⟨[], rfl, rfl⟩
  | _, t :: ts, .cons r rs => by
    obtain ⟨l, e1, e2⟩ := strs_of rs
    cases r with | rstr x u => exact ⟨(x, u) :: l, by rw [e1]; rfl, by simp [e2]⟩

theorem PN.join (sep : T) (ts : List T) (hz : (ts.map List.length).sum + ts.length * sep.length ≤ 16777216) : PN C (.builtin "str.join") [.str sep, .list (ts.map .str)] (.str (joinL sep ts)) := .mk fun X s Q vs ht hX rs hQ => by
  cases rs with | cons r1 rs => cases rs with | cons r2 rs => cases rs; cases r1 with | rstr x t => cases r2 with | rlist ha hl rr =>
    obtain ⟨l, e1, e2⟩ := strs_of rr
    subst e1
    refine SC.join (texts := l.map (·.1)) hl.isList rfl ?_ (fun t' k => ?_)
    · unfold JoinOk
      rw [StrLaws.joinTotal]
      have e3 : ((l.map (·.1)).map (·.length)).sum + (l.map (·.1)).length * x.length = (ts.map List.length).sum + ts.length * x.cps.toList.length := by
        rw [← e2]; simp [Str.length, Function.comp_def]
      rw [e3]
      simp only [Builtin.Str.tooLong, Bool.not_eq_true', decide_eq_false_iff_not]
      rw [sizeLine_eq]; omega
    · have e4 : (Txt.join x (l.map (·.1))).cps.toList = joinL x.cps.toList ts := by
        show (Builtin.Str.glued x (l.map (·.1))).cps.toList = _
        rw [StrLaws.glued_eq_join, join_list, ← e2]; simp [Function.comp_def]
      have := hQ s.heap k (.str (Txt.join x (l.map (·.1))) t') (fun _ _ e => e)
      rw [← e4] at this
      exact this (.rstr _ _)
end
end Mine

namespace Mine

section
variable {C : Cx} {gl : Str → Option Value} {r : Nat} {σ : VEnv}

def getId : D → Option String
  | .str _ => some "str.__getitem__"
  | .list _ => some "list.__getitem__"
  | .dict _ => some "dict.__getitem__"
  | _ => none
theorem get_lookup {d : D} {id : String} (h : getId d = some id) : typeLookup (.type (tyOf d)) "__getitem__" = pure (some (.builtin id)) := by
  cases d <;> simp only [getId] at h
  all_goals (first | (cases h; first | exact F.slot_str_getitem.lookup | exact slot_list_getitem.lookup | exact slot_dict_getitem.lookup) | contradiction)
theorem get_three {d : D} {id : String} (h : getId d = some id) : (∃ x, d = .str x) ∨ (∃ x, d = .list x) ∨ (∃ x, d = .dict x) := by
  cases d <;> simp [getId] at h ⊢

/-- e[i], i no slice -/
theorem Ev.sub {e i : Expr} {p : Pos} {d0 d1 d : D} {id : String} (h0 : Ev C σ e d0) (h1 : Ev C σ i d1) (hid : getId d0 = some id) (hs : ∀ o i', subscripted i false o i' = operate [o, i'] (getItem o i')) (hp : P2 C getItem d0 d1 d) :
    Ev C σ (.Subscript e i p) d := .mk fun X0 W s Q ht S hQ =>
  Subscript_ (h0.run X0 W s _ ht S fun h' tk v ht' l rr => h1.run X0 W _ _ ht' (S.le l) fun h'' tk' v' ht'' l' rr' =>
    tail_any (Rp.typeIs (s := { s with heap := h'', toks := tk' }) (rr.le l') (get_three hid)).1 (get_lookup hid) (hp.use ht'' ((S.le l).le l').lt (rr.le l') rr' fun h3 tk3 v3 ht3 l3 r3 => hQ h3 tk3 v3 ht3 ((l.trans l').trans l3) r3) (hs _ _))

/-- the place i of a list of n -/
def pyIdx (n : Nat) (i : Int) : Nat := if 0 ≤ i then i.toNat else (i + n).toNat
theorem item_list_rp {A : Around} {X : Addr → Prop} {a : Addr} {s : Shared} {vs : List Value} {xs : List D} {i : Int} {u : Tok} {d : D} {Q : Value → Shared → Prop} (hl : s.heap.PlainList a vs.toArray) (rr : RpAll C.pr C.w s.heap X vs xs)
    (h1 : -(xs.length : Int) ≤ i) (h2 : i < 2 ^ 62) (hx : xs[pyIdx xs.length i]? = some d) (hz : xs.length ≤ 16777216) (hQ : ∀ v, Rp C.pr C.w s.heap X v d → Q v s) :
    wpAny (model C.pr C.w) A (getItem (.ref a) (.int i u)) Q (fun _ _ => False) s := by
  obtain ⟨v, hv, rv⟩ := rr.getD hx
  have e := rr.length
  unfold pyIdx at hv
  by_cases h0 : 0 ≤ i
  · rw [if_pos h0] at hv
    exact wpAny_getItem_list hl.isList h0 (by omega) (by simpa using hv) (hQ v rv)
  · rw [if_neg h0] at hv
    exact wpAny_getItem_list_neg hl.isList (by omega) (by simp [e]; omega) (by omega) (by simpa [e] using hv) (hQ v rv)
theorem P2.item_list (xs : List D) (i : Int) (d : D) (h1 : -(xs.length : Int) ≤ i) (h2 : i < 2 ^ 62) (hx : xs[pyIdx xs.length i]? = some d) (hz : xs.length ≤ 16777216) : P2 C getItem (.list xs) (.int i) d := fun X s Q v1 v2 hX r1 r2 hQ => by
  cases r2; cases r1 with | rlist ha hl rr => exact item_list_rp hl rr h1 h2 hx hz fun v rv => hQ s.heap s.toks v (Le.refl _) rv
theorem P2.item_str (x : T) (i : Int) (c : Nat) (h1 : 0 ≤ i) (h2 : i < 2 ^ 62) (hx : x[i.toNat]? = some c) : P2 C getItem (.str x) (.int i) (.str [c]) := fun X s Q v1 v2 hX r1 r2 hQ => by
  cases r2; cases r1 with | rstr x t =>
  exact PyProof.Rows.getItem_str (by simp; omega) (StrLaws.at_nonneg h1 (by simpa using hx)) (hQ s.heap _ _ (Le.refl _) (.rstr ⟨#[c]⟩ _))

/-- a dict of texts read -/
def dlook : List (T × T) → T → Option T
  | [], _ => none
  | (k, v) :: r, x => if k = x then some v else dlook r x
theorem DK_look : ∀ {kts : List (Str × Value)} {kvs : List (T × T)}, DK kts kvs → ∀ (x : Str), (∀ v, dlook kvs x.cps.toList = some v → ∃ (s : Str) (t : Tok), valueAt kts x = some (.str s t) ∧ v = s.cps.toList) ∧ ((valueAt kts x).isSome = (dlook kvs x.cps.toList).isSome)
  | [], [], _, x => by simp [dlook, valueAt]
  | (k, v) :: r, (k', y) :: r', h, x => by
    obtain ⟨rfl, ⟨s, t, rfl, rfl⟩, h3⟩ := h
    have ih := DK_look h3 x
    unfold dlook valueAt
    by_cases hk : k = x
    · subst hk; simp
    · have : ¬ k.cps.toList = x.cps.toList := fun e => hk (Str.ext' (Array.toList_inj.mp e))
      simp only [this, if_false, List.find?_cons, hk, decide_false]
      exact ih
  | [], _ :: _, h, _ => h.elim
  | _ :: _, [], h, _ => h.elim
theorem P2.item_dict (kvs : List (T × T)) (k v : T) (hx : dlook kvs k = some v) : P2 C getItem (.dict kvs) (.str k) (.str v) := fun X s Q v1 v2 hX r1 r2 hQ => by
  cases r2 with | rstr k t => cases r1 with | rdict ha hs hd rr =>
    obtain ⟨x, u, e1, rfl⟩ := (DK_look rr k).1 _ hx
    exact wpAny_getItem_of (knd := strKind C.pr C.w) (k := k) (strKind_is C.pr C.w k t) hd.mapOf e1 (hQ s.heap _ _ (Le.refl _) (.rstr _ _))
theorem P2.in_dict (kvs : List (T × T)) (k : T) : P2 C (compareOp .In) (.str k) (.dict kvs) (.bool (dlook kvs k).isSome) := fun X s Q v1 v2 hX r1 r2 hQ => by
  cases r1 with | rstr k t => cases r2 with | rdict ha hs hd rr =>
    have e := (DK_look rr k).2
    rw [← e] at hQ
    exact wpAny_in_of (knd := strKind C.pr C.w) (k := k) (strKind_is C.pr C.w k t) hs hd.mapOf (hQ s.heap _ _ (Le.refl _) (.rbool _))

theorem fresh_none {h : Heap} {a : Addr} (ha : h.objs.size ≤ a) : h.get? a = none := by
  cases e : h.get? a with
  | none => rfl
  | some o => exact absurd (Heap.lt_size e) (Nat.not_lt.mpr ha)

theorem newList_rp {A : Around} {X : Addr → Prop} {s : Shared} {vs : List Value} {xs : List D} {Q : Value → Shared → Prop} (hX : ∀ a, X a → a < s.heap.objs.size) (rr : RpAll C.pr C.w s.heap X vs xs) (hz : xs.length ≤ 16777216)
    (hQ : ∀ a h', s.heap.objs.size ≤ a → h'.get? a ≠ none → Le s.heap h' → h'.PlainList a vs.toArray → RpAll C.pr C.w h' (fun b => X b ∨ b = a) vs xs → Q (.ref a) { s with heap := h' }) : wpAny (model C.pr C.w) A (newList vs) Q (fun _ _ => False) s := by
  refine wpAny_newList ?_ (by rw [rr.length, sizeLine_eq]; omega)
  refine hQ _ _ (Nat.le_refl _) ?_ (Le.push _ _) ⟨0, Heap.get?_push_size _ rfl⟩ ((rr.forbid (X' := fun b => X b ∨ b = s.heap.objs.size) fun a ha => ?_).le (Le.push _ _))
  · rw [Heap.get?_push_size _ rfl]; simp
  · rcases ha with ha | rfl
    · exact .inl ha
    · exact .inr (fresh_none (Nat.le_refl _))

theorem Ev.list {es : List Expr} {ds : List D} {p : Pos} (h : EvL C σ es ds) (hz : ds.length ≤ 16777216) : Ev C σ (.List es p) (.list ds) := .mk fun X0 W s Q ht S hQ =>
  List_ (h.run p X0 W s _ ht S fun h' tk vs ht' l rs => newList_rp (S.le l).lt rs hz fun a h'' ha hg l' pl rr =>
    hQ h'' tk _ ht' (l.trans l') (.rlist (fun hx => Nat.lt_irrefl _ (Nat.lt_of_lt_of_le ((S.le l).lt _ hx) ha)) pl (rr.weaken fun _ => .inl)))
theorem Ev.tup {es : List Expr} {ds : List D} {k : Nat} {p : Pos} (h : EvL C σ es ds) (hz : ds.length ≤ 16777216) : Ev C σ (.Tuple es k p) (.tup ds) := .mk fun X0 W s Q ht S hQ =>
  Tuple_ (h.run p X0 W s _ ht S fun h' tk vs ht' l rs => wpAny_newTuple (hQ _ tk _ ht' (l.trans (Le.push _ _))
      (.rtup (fun hx => Nat.lt_irrefl _ ((S.le l).lt _ hx)) ⟨_, Heap.get?_push_size _ rfl, rfl, _, rfl⟩ (rs.le (Le.push _ _)))) (by rw [rs.length, sizeLine_eq]; omega))

/-- a bound of a slice -/
inductive EvO (C : Cx) (σ : VEnv) : Option Expr → Option Nat → Prop
  | no : EvO C σ none none
  | yes {e : Expr} {n : Nat} : Ev C σ e (.int n) → EvO C σ (some e) (some n)

theorem EvO.run {o : Option Expr} {n : Option Nat} (h : EvO C σ o n) {X0 : Addr → Prop} {W : List (Str × Addr)} {s : Shared} {Q : Value → Shared → Prop} (ht : C.t0 ≤ s.toks) (S : St C X0 W σ s.heap)
    (hQ : ∀ h' tk (p : Option (Int × Tok)), C.t0 ≤ tk → Le s.heap h' → p.map (·.1) = n.map (fun (k : Nat) => (k : Int)) → Q (partValue p) { s with heap := h', toks := tk }) : wpAny (model C.pr C.w) C.A (evalPart o C.env) Q (fun _ _ => False) s := by
  cases h with
  | no => exact wpAny_pure (hQ s.heap s.toks none ht (Le.refl _) rfl)
  | yes h => exact h.run X0 W s _ ht S fun h' tk v ht' l rr => by cases rr with | rint i t => exact hQ h' tk (some (_, t)) ht' l rfl

def sliceN {α : Type} (lo hi : Option Nat) (l : List α) : List α := (match hi with | none => l | some j => l.take j).drop (lo.getD 0)

def loN (n : Nat) (lo : Option Nat) : Nat := lo.elim 0 fun i => min i n
def hiN (n : Nat) (hi : Option Nat) : Nat := hi.elim n fun i => min i n
theorem picked_eq (lo hi : Option Nat) (n : Nat) :
    Builtin.Str.strSliceIndices (lo.map fun (k : Nat) => (k : Int)) (hi.map fun (k : Nat) => (k : Int)) 1 n = (List.range (hiN n hi - loN n lo)).map (loN n lo + ·) := by
  rw [← sliceRange_one]
  unfold Builtin.Str.strSliceIndices
  have e : ∀ i : Nat, max (0 : Int) (min (if (i : Int) < 0 then (i : Int) + n else i) n) = ((min i n : Nat) : Int) := fun i => by
    rw [if_neg (by omega)]; omega
  cases lo <;> cases hi <;> simp only [loN, hiN, Option.map_none, Option.map_some, Option.elim_none, Option.elim_some, gt_iff_lt, Int.zero_lt_one, if_true, e] <;> rfl
theorem sliceN_eq {α : Type} (xs : List α) (lo hi : Option Nat) : (xs.drop (loN xs.length lo)).take (hiN xs.length hi - loN xs.length lo) = sliceN lo hi xs := by
  unfold sliceN loN hiN
  cases lo <;> cases hi <;> simp only [Option.elim_none, Option.elim_some, Option.getD_none, Option.getD_some]
  · simp
  · rename_i j; simp
  · rename_i i
    rw [List.take_of_length_le (by simp)]
    by_cases h : i ≤ xs.length
    · rw [Nat.min_eq_left h]
    · rw [Nat.min_eq_right (by omega), List.drop_of_length_le (by simp), List.drop_of_length_le (by omega)]
  · rename_i i j
    by_cases h : i ≤ xs.length
    · rw [Nat.min_eq_left h, List.drop_take]
      by_cases h2 : j ≤ xs.length
      · rw [Nat.min_eq_left h2]
      · rw [Nat.min_eq_right (by omega), List.take_of_length_le (by simp)]
        rw [List.take_of_length_le (by simp; omega)]
    · rw [Nat.min_eq_right (by omega : xs.length ≤ i), List.drop_of_length_le (by simp), List.drop_of_length_le (by simp; omega)]
      simp
theorem sliceN_length_le {α : Type} (xs : List α) (lo hi : Option Nat) : (sliceN lo hi xs).length ≤ xs.length := by
  unfold sliceN; cases hi <;> simp <;> omega

/-- a text's slice -/
theorem Ev.slice_str {e : Expr} {lo hi : Option Expr} {p ps : Pos} {x : T} {a b : Option Nat} (h0 : Ev C σ e (.str x)) (h1 : EvO C σ lo a) (h2 : EvO C σ hi b) (hz : x.length ≤ 16777216)
    (hs : ∀ o i', subscripted (.Slice lo hi none ps) false o i' = operate [i', o] (getItem o i')) : Ev C σ (.Subscript e (.Slice lo hi none ps) p) (.str (sliceN a b x)) := .mk fun X0 W s Q ht S hQ =>
  Subscript_ (h0.run X0 W s _ ht S fun h' tk v ht' l rr => wpAny_Slice (h1.run ht' (S.le l) fun h1' tk1 p1 ht1 l1 e1 => h2.run ht1 ((S.le l).le l1) fun h2' tk2 p2 ht2 l2 e2 => wpAny_pure (by
    cases rr with | rstr x t =>
    refine tail_any (typeIs_str _ _ _) F.slot_str_getitem.lookup (wpAny_getItem_str_slice (l := p1) (u := p2) (st := none) ⟨_, Heap.get?_push_size _ rfl, rfl, rfl⟩ rfl ?_) (hs _ _)
    have hle : Le s.heap (h2'.push { cls := .type "slice", data := .fields #[partValue p1, partValue p2, .none] }) := ((l.trans l1).trans l2).trans (Le.push _ _)
    have ep : slicePicked x p1 p2 none = (List.range (hiN x.length b - loN x.length a)).map (loN x.length a + ·) := by
      unfold slicePicked; rw [e1, e2]; exact picked_eq a b x.length
    have en : x.cps.toList.length = x.length := by simp [Str.length]
    have e3 : (slicePicked x p1 p2 none).filterMap (x.cps[·]?) = sliceN a b x.cps.toList := by
      rw [ep, pick_run, ← sliceN_eq, en]
    unfold sliceMade
    split
    · rename_i hc
      have hlen : (slicePicked x p1 p2 none).length = x.length := by simpa using hc
      have hx : sliceN a b x.cps.toList = x.cps.toList := by
        rw [← sliceN_eq, en]
        rw [ep] at hlen
        simp at hlen
        have h3 : hiN x.length b ≤ x.length := by unfold hiN; cases b <;> simp <;> omega
        by_cases hz : x.length = 0
        · have : x.cps.toList = [] := List.eq_nil_of_length_eq_zero (by omega)
          rw [this]; simp
        · have h4 : loN x.length a = 0 := by omega
          rw [h4, List.drop_zero, List.take_of_length_le (by omega)]
      have := hQ _ tk2 (.str x t) ht2 hle
      rw [hx] at this
      exact this (.rstr _ _)
    · rw [e3]
      refine ⟨?_, hQ (h2'.push { cls := .type "slice", data := .fields #[partValue p1, partValue p2, .none] }) (tk2 + 1) (.str ⟨(sliceN a b x.cps.toList).toArray⟩ tk2) (by omega) hle (.rstr ⟨(sliceN a b x.cps.toList).toArray⟩ _)⟩
      have := sliceN_length_le x.cps.toList a b
      show (sliceN a b x.cps.toList).toArray.size ≤ sizeLine
      rw [sizeLine_eq, List.size_toArray]
      omega)))

theorem RpAll.pick {h : Heap} {X : Addr → Prop} {vs : List Value} {xs : List D} (rr : RpAll C.pr C.w h X vs xs) : ∀ idx : List Nat, RpAll C.pr C.w h X (idx.filterMap (vs[·]?)) (idx.filterMap (xs[·]?))
  | [] => .nil
  | i :: idx => by
    rw [List.filterMap_cons, List.filterMap_cons]
    have hl := rr.length
    cases hv : vs[i]? with
    | none =>
      have : xs[i]? = none := by rw [List.getElem?_eq_none_iff] at hv ⊢; omega
      rw [this]; exact rr.pick idx
    | some v =>
      obtain ⟨d, hd, q⟩ := rr.get hv
      rw [hd]; exact .cons q (rr.pick idx)

theorem isPart_of {p : Option (Int × Tok)} {n : Option Nat} (h : p.map (·.1) = n.map (fun (k : Nat) => (k : Int))) : IsPart (partValue p) (n.map fun (k : Nat) => (k : Int)) := by
  rw [← h]
  cases p with
  | none => exact .none
  | some q => exact .int _ _

/-- a list's slice, with a written step or none -/
theorem Ev.slice_list {e : Expr} {lo hi : Option Expr} {p ps : Pos} {xs : List D} {a b : Option Nat} (h0 : Ev C σ e (.list xs)) (h1 : EvO C σ lo a) (h2 : EvO C σ hi b) (hz : xs.length ≤ 16777216)
    (hs : ∀ o i', subscripted (.Slice lo hi none ps) false o i' = operate [i', o] (getItem o i')) : Ev C σ (.Subscript e (.Slice lo hi none ps) p) (.list (sliceN a b xs)) := .mk fun X0 W s Q ht S hQ =>
  Subscript_ (h0.run X0 W s _ ht S fun h' tk v ht' l rr => wpAny_Slice (h1.run ht' (S.le l) fun h1' tk1 p1 ht1 l1 e1 => h2.run ht1 ((S.le l).le l1) fun h2' tk2 p2 ht2 l2 e2 => wpAny_pure (by
    cases rr with | @rlist ad vs _ ha hl rr =>
    have hle : Le h' (h2'.push { cls := .type "slice", data := .fields #[partValue p1, partValue p2, .none] }) := (l1.trans l2).trans (Le.push _ _)
    have hlen := rr.length
    refine tail_any (Heap.IsList.typeIs (s := { s with heap := h2'.push { cls := .type "slice", data := .fields #[partValue p1, partValue p2, .none] }, toks := tk2 }) (hl.at fun o => hle.get ad o).isList) list_getitem_lookup
      (wpAny_getItem_list_slice (lo := a.map fun (k : Nat) => (k : Int)) (hi := b.map fun (k : Nat) => (k : Int)) (st := none) (hl.at fun o => hle.get ad o).isList (Heap.IsSliceOf.new ..) (isPart_of e1) (isPart_of e2) .none (by simp) ?_ (by rw [sizeLine_eq]; simp; omega)) (hs _ _)
    have hpick : slicePick vs.toArray (a.map fun (k : Nat) => (k : Int)) (b.map fun (k : Nat) => (k : Int)) none = (((List.range (hiN vs.length b - loN vs.length a)).map (loN vs.length a + ·)).filterMap (vs[·]?)).toArray := by
      rw [← picked_eq]
      unfold slicePick
      cases a <;> cases b <;> simp [sliceBounds, Builtin.Str.strSliceIndices]
    rw [hpick]
    have hrp := rr.pick ((List.range (hiN vs.length b - loN vs.length a)).map (loN vs.length a + ·))
    have e5 : ((List.range (hiN vs.length b - loN vs.length a)).map (loN vs.length a + ·)).filterMap (xs[·]?) = sliceN a b xs := by
      have := pick_run xs.toArray (loN vs.length a) (hiN vs.length b - loN vs.length a)
      rw [← sliceN_eq, ← hlen]
      simpa using this
    rw [e5] at hrp
    refine hQ _ tk2 _ ht2 ((l.trans hle).trans (Le.push _ _)) (.rlist (fun hx => Nat.lt_irrefl _ (((S.le l).le hle).lt _ hx)) ⟨0, Heap.get?_push_size _ rfl⟩ ((hrp.le hle).le (Le.push _ _))))))
end
end Mine

namespace Mine

section
variable {C : Cx} {gl : Str → Option Value} {r : Nat} {σ : VEnv} {X0 : Addr → Prop} {W W' : List (Str × Addr)} {h h' : Heap}

/-- what moves from (W, h) to (W', h'): what was no variable's stays, and stays no variable's -/
structure Mv (C : Cx) (W : List (Str × Addr)) (h : Heap) (W' : List (Str × Addr)) (h' : Heap) : Prop where
  size : h.objs.size ≤ h'.objs.size
  get : ∀ b o, h.get? b = some o → ¬ C.Mut W b → h'.get? b = some o ∧ ¬ C.Mut W' b
theorem Mv.refl (W : List (Str × Addr)) (h : Heap) : Mv C W h W h := ⟨Nat.le_refl _, fun _ _ e m => ⟨e, m⟩⟩
theorem Mv.trans {W'' : List (Str × Addr)} {h'' : Heap} (x : Mv C W h W' h') (y : Mv C W' h' W'' h'') : Mv C W h W'' h'' :=
  ⟨Nat.le_trans x.size y.size, fun b o e m => y.get b o (x.get b o e m).1 (x.get b o e m).2⟩
theorem Le.mv (l : Le h h') : Mv C W h W h' := ⟨l.size, fun b o e m => ⟨l.get b o e, m⟩⟩
theorem Mv.rp (m : Mv C W h W' h') (dis : ∀ a, C.Mut W a → ¬ X0 a) {v : Value} {d : D} (rr : Rp C.pr C.w h (C.X X0 W) v d) : Rp C.pr C.w h' (C.X X0 W') v d :=
  rr.mono fun b o hb e => ⟨(m.get b o e fun c => hb (.inr c)).1, fun c => c.elim (fun c => hb (.inl c)) (m.get b o e fun c => hb (.inr c)).2⟩
theorem Mv.rps (m : Mv C W h W' h') (dis : ∀ a, C.Mut W a → ¬ X0 a) {v : List Value} {d : List D} (rr : RpAll C.pr C.w h (C.X X0 W) v d) : RpAll C.pr C.w h' (C.X X0 W') v d :=
  rr.mono fun b o hb e => ⟨(m.get b o e fun c => hb (.inr c)).1, fun c => c.elim (fun c => hb (.inl c)) (m.get b o e fun c => hb (.inr c)).2⟩

/-- the owned, without those of a name -/
def dropW (W : List (Str × Addr)) (x : Str) : List (Str × Addr) := W.filter fun p => !decide (p.1 = x)
theorem mem_dropW {x y : Str} {a : Addr} : (y, a) ∈ dropW W x ↔ (y, a) ∈ W ∧ y ≠ x := by simp [dropW]
theorem mut_dropW {x : Str} {a : Addr} (hm : C.Mut (dropW W x) a) : C.Mut W a := by
  rcases hm with e | e | ⟨y, e⟩
  · exact .inl e
  · exact .inr (.inl e)
  · exact .inr (.inr ⟨y, (mem_dropW.mp e).1⟩)
theorem X_dropW {x : Str} {a : Addr} (hm : C.X X0 (dropW W x) a) : C.X X0 W a := hm.elim .inl fun m => .inr (mut_dropW m)

/-- a name that may be stored -/
def Sto (C : Cx) (x : Str) : Prop := C.env.kindOf x = some .local ∨ (C.env.kindOf x = some .cell ∧ (C.env.cells.Pairwise fun x y => x.2 ≠ y.2) ∧ ∃ c, C.env.cells.lookup x = some c ∧ C.h0.objs.size ≤ c)

theorem wN_unique (S : St C X0 W σ h) {x y : Str} {a : Addr} (h1 : (x, a) ∈ W) (h2 : (y, a) ∈ W) : x = y := by
  have hn := S.wN
  clear S
  induction W with
  | nil => cases h1
  | cons p W ih =>
    rw [List.map_cons, List.nodup_cons] at hn
    rcases List.mem_cons.mp h1 with e1 | e1 <;> rcases List.mem_cons.mp h2 with e2 | e2
    · rw [← e1] at e2; cases e2; rfl
    · subst e1; exact absurd (List.mem_map_of_mem (f := (·.2)) e2) hn.1
    · subst e2; exact absurd (List.mem_map_of_mem (f := (·.2)) e1) hn.1
    · exact ih e1 e2 hn.2

theorem nodup_drop {x : Str} (hn : (W.map (·.2)).Nodup) : ((dropW W x).map (·.2)).Nodup :=
  List.Nodup.sublist (List.Sublist.map _ (List.filter_sublist)) hn

theorem dropU (S : St C X0 W σ h) {x : Str} : ∀ y a b, (y, a) ∈ dropW W x → (y, b) ∈ dropW W x → a = b := fun y a b h1 h2 => S.wU y a b (mem_dropW.mp h1).1 (mem_dropW.mp h2).1

theorem SlotRep.move (S : St C X0 W σ h) (m : Mv C W h W' h') {x : Str} {v : Value} {sl : Slot} (rr : SlotRep C X0 W h x v sl)
    (hown : ∀ a, (x, a) ∈ W → (x, a) ∈ W' ∧ ∀ o, h.get? a = some o → h'.get? a = some o) : SlotRep C X0 W' h' x v sl := by
  cases sl with
  | fz d => exact m.rp S.dis rr
  | ol xs =>
    obtain ⟨a, e, hm, vs, p, q⟩ := rr
    exact ⟨a, e, (hown a hm).1, vs, p.at (hown a hm).2, m.rps S.dis q⟩
  | od kvs =>
    obtain ⟨a, e, hm, hs, kts, p, q⟩ := rr
    exact ⟨a, e, (hown a hm).1, hs, kts, DictOf_at1 p (hown a hm).2, q⟩

/-- a store to a name, at the heap: one address of the frame's own has changed -/
theorem store_name (K : C.Ok gl r) {x : Str} (hx : Sto C x) {s : Shared} {v : Value} {Q : Unit → Shared → Prop} (S : St C X0 W σ s.heap)
    (hQ : ∀ h' tk b, (C.h0.objs.size ≤ b ∧ C.Mut [] b) → Heap.SameBut b s.heap h' →
      (∃ m cm, h'.Ns C.env.locals m ∧ (∀ n c, C.env.cells.lookup n = some c → h'.IsCell c (cm n)) ∧ VarAt C m cm x v ∧
        ∀ y sl, y ≠ x → σ.get y = some sl → ∃ u, VarAt C m cm y u ∧ SlotRep C X0 W s.heap y u sl) → Q () { s with heap := h', toks := tk }) :
    wpAny (model C.pr C.w) C.A (storeName C.env x v) Q (fun _ _ => False) s := by
  obtain ⟨m, cm, hn, hc, hv⟩ := S.vars
  have hp : (C.env.scope.kind == .class || (C.env.scope.kind == .module && C.env.locals != C.env.globals)) = false := by rw [K.kind]; rfl
  rcases hx with hk | ⟨hk, hpw, c, hlk, hc0⟩
  · refine wpAny_storeName_local hk hn (fun h' hn' hs' => hQ h' _ C.env.locals ⟨K.Lhi, .inl rfl⟩ hs' ⟨_, cm, hn', fun n c e => (hc n c e).sameBut hs' (K.cellL n c (mem_of_lookup e)), .inl ⟨hk, by simp⟩, fun y sl hy e => ?_⟩) hp
    obtain ⟨u, hu1, hu2⟩ := hv y sl e
    refine ⟨u, ?_, hu2⟩
    rcases hu1 with ⟨k1, k2⟩ | k1
    · exact .inl ⟨k1, by simpa [hy] using k2⟩
    · exact .inr k1
  · have hmem : (x, c) ∈ C.env.cells := mem_of_lookup hlk
    refine wpAny_storeName_cell K.kind hk hlk (hc x c hlk) (fun h' hc' hs' => hQ h' s.toks c ⟨hc0, .inr (.inl ⟨x, hmem, hc0⟩)⟩ hs' ⟨m, fun y => if y = x then some v else cm y, hn.sameBut hs' (Ne.symm (K.cellL x c hmem)), fun n c' e => ?_, .inr ⟨.inl hk, by rw [hlk]; rfl, by simp⟩, fun y sl hy e => ?_⟩)
    · by_cases hn' : n = x
      · subst hn'; rw [hlk] at e; cases e; simpa using hc'
      · have hcc : c' ≠ c := fun q => hn' (name_of_addr hpw (mem_of_lookup e) (q ▸ hmem))
        simpa [hn'] using (hc n c' e).sameBut hs' hcc
    · obtain ⟨u, hu1, hu2⟩ := hv y sl e
      refine ⟨u, ?_, hu2⟩
      rcases hu1 with k1 | ⟨k1, k2, k3⟩
      · exact .inl k1
      · exact .inr ⟨k1, k2, by simpa [hy] using k3⟩

theorem sameBut_mv {b : Addr} (hb : C.Mut W b) (hs : Heap.SameBut b h h') (hW : ∀ a, h.get? a ≠ none → C.Mut W' a → C.Mut W a) : Mv C W h W' h' :=
  ⟨by rw [hs.1]; exact Nat.le_refl _, fun c o e m => ⟨(hs.2 c fun q => m (q ▸ hb)).trans e, fun m' => m (hW _ (by rw [e]; simp) m')⟩⟩

theorem mut_nil {a : Addr} (hm : C.Mut [] a) : C.Mut W a := by
  rcases hm with e | e | ⟨_, e⟩
  · exact .inl e
  · exact .inr (.inl e)
  · cases e

/-- a store of a value that is not the frame's own to change -/
theorem store_fz (K : C.Ok gl r) {x : Str} (hx : Sto C x) {s : Shared} {v : Value} {d : D} {Q : Unit → Shared → Prop} (S : St C X0 W σ s.heap) (rv : Rp C.pr C.w s.heap (C.X X0 W) v d)
    (hQ : ∀ h' tk, St C X0 (dropW W x) (σ.set x (.fz d)) h' → Mv C W s.heap (dropW W x) h' → Q () { s with heap := h', toks := tk }) :
    wpAny (model C.pr C.w) C.A (storeName C.env x v) Q (fun _ _ => False) s := by
  refine store_name K hx S fun h' tk b hb hs ⟨m, cm, hn, hc, hvx, hvs⟩ => ?_
  have hmv : Mv C W s.heap (dropW W x) h' := sameBut_mv (mut_nil hb.2) hs fun a _ => mut_dropW
  refine hQ h' tk ⟨fun c o e => ?_, by rw [hs.1]; exact S.hsize, ⟨m, cm, hn, hc, fun y sl e => ?_⟩, fun a ha => by rw [hs.1]; exact S.lt a (X_dropW ha), fun a ha => S.dis a (mut_dropW ha), nodup_drop S.wN, fun y a e => S.wF y a (mem_dropW.mp e).1, dropU S⟩ hmv
  · exact (hs.2 c (Nat.ne_of_lt (Nat.lt_of_lt_of_le (Heap.lt_size e) hb.1))).trans (S.keep c o e)
  · rw [VEnv.get_set] at e
    by_cases hy : y = x
    · subst hy
      rw [if_pos rfl] at e; cases e
      exact ⟨v, hvx, hmv.rp S.dis rv⟩
    · rw [if_neg hy] at e
      obtain ⟨u, hu1, hu2⟩ := hvs y sl hy e
      refine ⟨u, hu1, hu2.move S hmv fun a ha => ⟨mem_dropW.mpr ⟨ha, hy⟩, fun o eo => (hs.2 a ?_).trans eo⟩⟩
      intro q
      subst q
      have := S.wF y a ha
      rcases hb.2 with e1 | ⟨n, e1, _⟩ | ⟨_, e1⟩
      · exact this.2.1 e1
      · exact this.2.2 n e1
      · cases e1

/-- a fresh address may be forbidden -/
theorem St.forbid1 (S : St C X0 W σ h) {a : Addr} (ha : h.objs.size ≤ a) (l : Le h h') (hin : a < h'.objs.size) : St C (fun b => X0 b ∨ b = a) W σ h' where
  keep := fun b o e => l.get _ _ (S.keep b o e)
  hsize := Nat.le_trans S.hsize l.size
  vars := by
    obtain ⟨m, cm, hn, hc, hv⟩ := S.vars
    refine ⟨m, cm, hn.keeps l.get, fun n c e => (hc n c e).keeps l.get, fun x sl e => ?_⟩
    obtain ⟨v, hv1, hv2⟩ := hv x sl e
    refine ⟨v, hv1, ?_⟩
    have hf : ∀ c, C.X (fun b => X0 b ∨ b = a) W c → C.X X0 W c ∨ h.get? c = none := fun c hc => by
      rcases hc with (q | q) | q
      · exact .inl (.inl q)
      · exact .inr (q ▸ fresh_none ha)
      · exact .inl (.inr q)
    cases sl with
    | fz d => exact (Rp.forbid hv2 hf).le l
    | ol xs =>
      obtain ⟨a', e', hm, vs, p, q⟩ := hv2
      exact ⟨a', e', hm, vs, p.at (fun o => l.get a' o), (q.forbid hf).le l⟩
    | od kvs =>
      obtain ⟨a', e', hm, hss, kts, p, q⟩ := hv2
      exact ⟨a', e', hm, hss, kts, DictOf_at1 p (fun o => l.get a' o), q⟩
  lt := fun c hc => by
    rcases hc with (q | q) | q
    · exact Nat.lt_of_lt_of_le (S.lt c (.inl q)) l.size
    · exact q ▸ hin
    · exact Nat.lt_of_lt_of_le (S.lt c (.inr q)) l.size
  dis := fun c hc q => q.elim (S.dis c hc) fun e => Nat.lt_irrefl _ (Nat.lt_of_lt_of_le (S.lt c (.inr hc)) (e ▸ ha))
  wN := S.wN
  wF := S.wF
  wU := S.wU

/-- X0 may be made smaller -/
theorem St.weaken {X0' : Addr → Prop} (S : St C X0 W σ h) (hx : ∀ a, X0' a → X0 a) : St C X0' W σ h where
  keep := S.keep
  hsize := S.hsize
  vars := by
    obtain ⟨m, cm, hn, hc, hv⟩ := S.vars
    refine ⟨m, cm, hn, hc, fun x sl e => ?_⟩
    obtain ⟨v, hv1, hv2⟩ := hv x sl e
    refine ⟨v, hv1, ?_⟩
    have hf : ∀ c, C.X X0' W c → C.X X0 W c := fun c hc => hc.imp (hx c) id
    cases sl with
    | fz d => exact Rp.weaken hv2 hf
    | ol xs =>
      obtain ⟨a', e', hm, vs, p, q⟩ := hv2
      exact ⟨a', e', hm, vs, p, q.weaken hf⟩
    | od kvs => exact hv2
  lt := fun c hc => S.lt c (hc.imp (hx c) id)
  dis := fun c hc q => S.dis c hc (hx c q)
  wN := S.wN
  wF := S.wF
  wU := S.wU

/-- a store of a value that is the frame's own from here on -/
theorem store_own (K : C.Ok gl r) {x : Str} (hx : Sto C x) {s : Shared} {a : Addr} {sl : Slot} {Q : Unit → Shared → Prop} (S : St C (fun b => X0 b ∨ b = a) W σ s.heap) (hfr : C.h0.objs.size ≤ a) (hna : ¬ X0 a)
    (rv : OwnRep C.pr C.w s.heap (fun b => C.X X0 W b ∨ b = a) a sl) (hsl : ∀ d, sl ≠ .fz d)
    (hQ : ∀ h' tk, St C X0 ((x, a) :: dropW W x) (σ.set x sl) h' →
      (s.heap.objs.size ≤ h'.objs.size ∧ ∀ b o, s.heap.get? b = some o → ¬ C.Mut W b → b ≠ a → h'.get? b = some o ∧ ¬ C.Mut ((x, a) :: dropW W x) b) → Q () { s with heap := h', toks := tk }) :
    wpAny (model C.pr C.w) C.A (storeName C.env x (.ref a)) Q (fun _ _ => False) s := by
  refine store_name K hx S fun h' tk b hb hs ⟨m, cm, hn, hc, hvx, hvs⟩ => ?_
  have hnm : ¬ C.Mut W a := fun q => S.dis a q (.inr rfl)
  have hba : a ≠ b := fun q => hnm (q ▸ mut_nil hb.2)
  have hW : ∀ c, C.Mut ((x, a) :: dropW W x) c → C.Mut W c ∨ c = a := fun c hc => by
    rcases hc with e | e | ⟨y, e⟩
    · exact .inl (.inl e)
    · exact .inl (.inr (.inl e))
    · rcases List.mem_cons.mp e with e | e
      · cases e; exact .inr rfl
      · exact .inl (.inr (.inr ⟨y, (mem_dropW.mp e).1⟩))
  have hX : ∀ c, C.X X0 ((x, a) :: dropW W x) c → C.X X0 W c ∨ c = a := fun c hc => hc.elim (fun q => .inl (.inl q)) fun q => (hW c q).imp .inr id
  have hkeep : ∀ c o, ¬ (C.X X0 W c ∨ c = a) → s.heap.get? c = some o → h'.get? c = some o ∧ ¬ C.X X0 ((x, a) :: dropW W x) c := fun c o hc e =>
    ⟨(hs.2 c fun q => hc (.inl (.inr (q ▸ mut_nil hb.2)))).trans e, fun q => hc (hX c q)⟩
  have hkeep' : ∀ c o, ¬ C.X (fun b => X0 b ∨ b = a) W c → s.heap.get? c = some o → h'.get? c = some o ∧ ¬ C.X X0 ((x, a) :: dropW W x) c := fun c o hc e =>
    hkeep c o (fun q => hc (q.elim (fun q => q.elim (fun q => .inl (.inl q)) .inr) fun q => .inl (.inr q))) e
  have hobj : h'.get? a = s.heap.get? a := hs.2 a hba
  refine hQ h' tk ⟨fun c o e => ?_, by rw [hs.1]; exact S.hsize, ⟨m, cm, hn, hc, fun y sl' e => ?_⟩, fun c hc => by rw [hs.1]; exact S.lt c ((hX c hc).elim (fun q => q.imp .inl id) fun q => .inl (.inr q)),
    fun c hc => (hW c hc).elim (fun q q' => S.dis c q (.inl q')) fun q q' => hna (q ▸ q'), ?_, fun y c e => ?_, fun y c c' e e' => ?_⟩ ⟨by rw [hs.1]; exact Nat.le_refl _, fun c o e hm hca => ⟨(hs.2 c fun q => hm (q ▸ mut_nil hb.2)).trans e, fun q => (hW c q).elim hm hca⟩⟩
  · exact (hs.2 c (Nat.ne_of_lt (Nat.lt_of_lt_of_le (Heap.lt_size e) hb.1))).trans (S.keep c o e)
  · rw [VEnv.get_set] at e
    by_cases hy : y = x
    · subst hy
      rw [if_pos rfl] at e; cases e
      refine ⟨_, hvx, ?_⟩
      cases sl with
      | fz d => exact absurd rfl (hsl d)
      | ol xs =>
        obtain ⟨vs, p, q⟩ := rv
        exact ⟨a, rfl, List.mem_cons_self, vs, p.at (fun o e => hobj.trans e), q.mono hkeep⟩
      | od kvs =>
        obtain ⟨hss, kts, p, q⟩ := rv
        exact ⟨a, rfl, List.mem_cons_self, hss, kts, DictOf_at1 p (fun o e => hobj.trans e), q⟩
    · rw [if_neg hy] at e
      obtain ⟨u, hu1, hu3⟩ := hvs y sl' hy e
      refine ⟨u, hu1, ?_⟩
      have hneb : ∀ a', (y, a') ∈ W → a' ≠ b := fun a' hm q => by
        have := S.wF y a' hm
        rcases hb.2 with e1 | ⟨n, e1, _⟩ | ⟨_, e1⟩
        · exact this.2.1 (q.trans e1)
        · exact this.2.2 n (q ▸ e1)
        · cases e1
      cases sl' with
      | fz d => exact Rp.mono hkeep' hu3
      | ol xs =>
        obtain ⟨a', e', hm, vs, p, q⟩ := hu3
        exact ⟨a', e', List.mem_cons_of_mem _ (mem_dropW.mpr ⟨hm, hy⟩), vs, p.at (fun o e => (hs.2 a' (hneb a' hm)).trans e), RpAll.mono hkeep' q⟩
      | od kvs =>
        obtain ⟨a', e', hm, hss, kts, p, q⟩ := hu3
        exact ⟨a', e', List.mem_cons_of_mem _ (mem_dropW.mpr ⟨hm, hy⟩), hss, kts, DictOf_at1 p (fun o e => (hs.2 a' (hneb a' hm)).trans e), q⟩
  · rw [List.map_cons, List.nodup_cons]
    refine ⟨fun hm => ?_, nodup_drop S.wN⟩
    obtain ⟨⟨y, c⟩, hm1, hm2⟩ := List.mem_map.mp hm
    have : (y, a) ∈ W := by simp at hm2; subst hm2; exact (mem_dropW.mp hm1).1
    exact hnm (.inr (.inr ⟨y, this⟩))
  · rcases List.mem_cons.mp e with e | e
    · cases e
      exact ⟨hfr, fun q => hnm (.inl q), fun n q => hnm (.inr (.inl ⟨n, q, hfr⟩))⟩
    · exact S.wF y c (mem_dropW.mp e).1
  · rcases List.mem_cons.mp e with e | e <;> rcases List.mem_cons.mp e' with e' | e'
    · cases e; cases e'; rfl
    · cases e; exact absurd rfl (mem_dropW.mp e').2
    · cases e'; exact absurd rfl (mem_dropW.mp e).2
    · exact S.wU y c c' (mem_dropW.mp e).1 (mem_dropW.mp e').1

/-- the frame's own becomes anyone's -/
theorem St.freeze (S : St C X0 W σ h) {x : Str} {xs : List D} (hx : σ.get x = some (.ol xs)) : St C X0 (dropW W x) (σ.set x (.fz (.list xs))) h where
  keep := S.keep
  hsize := S.hsize
  vars := by
    obtain ⟨m, cm, hn, hc, hv⟩ := S.vars
    refine ⟨m, cm, hn, hc, fun y sl e => ?_⟩
    rw [VEnv.get_set] at e
    have hmv : Mv C W h (dropW W x) h := ⟨Nat.le_refl _, fun b o e m => ⟨e, fun q => m (mut_dropW q)⟩⟩
    by_cases hy : y = x
    · subst hy
      rw [if_pos rfl] at e; cases e
      obtain ⟨v, hv1, a, rfl, hm, vs, p, q⟩ := hv y _ hx
      refine ⟨_, hv1, .rlist (fun hX => ?_) p (hmv.rps S.dis q)⟩
      rcases hX with q' | q' | ⟨n, q', _⟩ | ⟨z, q'⟩
      · exact S.dis a (.inr (.inr ⟨y, hm⟩)) q'
      · exact (S.wF y a hm).2.1 q'
      · exact (S.wF y a hm).2.2 n q'
      · exact (mem_dropW.mp q').2 (wN_unique S (mem_dropW.mp q').1 hm)
    · rw [if_neg hy] at e
      obtain ⟨v, hv1, hv2⟩ := hv y sl e
      exact ⟨v, hv1, hv2.move S hmv fun a ha => ⟨mem_dropW.mpr ⟨ha, hy⟩, fun o e => e⟩⟩
  lt := fun a ha => S.lt a (X_dropW ha)
  dis := fun a ha => S.dis a (mut_dropW ha)
  wN := nodup_drop S.wN
  wF := fun y a e => S.wF y a (mem_dropW.mp e).1
  wU := dropU S
theorem St.freezeD (S : St C X0 W σ h) {x : Str} {kvs : List (T × T)} (hx : σ.get x = some (.od kvs)) : St C X0 (dropW W x) (σ.set x (.fz (.dict kvs))) h where
  keep := S.keep
  hsize := S.hsize
  vars := by
    obtain ⟨m, cm, hn, hc, hv⟩ := S.vars
    refine ⟨m, cm, hn, hc, fun y sl e => ?_⟩
    rw [VEnv.get_set] at e
    have hmv : Mv C W h (dropW W x) h := ⟨Nat.le_refl _, fun b o e m => ⟨e, fun q => m (mut_dropW q)⟩⟩
    by_cases hy : y = x
    · subst hy
      rw [if_pos rfl] at e; cases e
      obtain ⟨v, hv1, a, rfl, hm, hss, kts, p, q⟩ := hv y _ hx
      refine ⟨_, hv1, .rdict (fun hX => ?_) hss p q⟩
      rcases hX with q' | q' | ⟨n, q', _⟩ | ⟨z, q'⟩
      · exact S.dis a (.inr (.inr ⟨y, hm⟩)) q'
      · exact (S.wF y a hm).2.1 q'
      · exact (S.wF y a hm).2.2 n q'
      · exact (mem_dropW.mp q').2 (wN_unique S (mem_dropW.mp q').1 hm)
    · rw [if_neg hy] at e
      obtain ⟨v, hv1, hv2⟩ := hv y sl e
      exact ⟨v, hv1, hv2.move S hmv fun a ha => ⟨mem_dropW.mpr ⟨ha, hy⟩, fun o e => e⟩⟩
  lt := fun a ha => S.lt a (X_dropW ha)
  dis := fun a ha => S.dis a (mut_dropW ha)
  wN := nodup_drop S.wN
  wF := fun y a e => S.wF y a (mem_dropW.mp e).1
  wU := dropU S
theorem freeze_mv {x : Str} : Mv C W h (dropW W x) h := ⟨Nat.le_refl _, fun b o e m => ⟨e, fun q => m (mut_dropW q)⟩⟩

/-- the frame's own list is changed in place -/
theorem St.change (S : St C X0 W σ h) {x : Str} {a : Addr} {sl sl' : Slot} (hm : (x, a) ∈ W) (hsl : σ.get x = some sl) (hd : ∀ d, sl ≠ .fz d) (hs : Heap.SameBut a h h')
    (rv : OwnRep C.pr C.w h' (C.X X0 W) a sl') : St C X0 W (σ.set x sl') h' where
  keep := fun b o e => (hs.2 b (Nat.ne_of_lt (Nat.lt_of_lt_of_le (Heap.lt_size e) (S.wF x a hm).1))).trans (S.keep b o e)
  hsize := by rw [hs.1]; exact S.hsize
  vars := by
    obtain ⟨m, cm, hn, hc, hv⟩ := S.vars
    refine ⟨m, cm, hn.sameBut hs (Ne.symm (S.wF x a hm).2.1), fun n c e => (hc n c e).sameBut hs fun q => (S.wF x a hm).2.2 n (q ▸ mem_of_lookup e), fun y sl2 e => ?_⟩
    rw [VEnv.get_set] at e
    have hmv : Mv C W h W h' := ⟨by rw [hs.1]; exact Nat.le_refl _, fun b o e m => ⟨(hs.2 b fun q => m (q ▸ .inr (.inr ⟨x, hm⟩))).trans e, m⟩⟩
    by_cases hy : y = x
    · subst hy
      rw [if_pos rfl] at e; cases e
      obtain ⟨v, hv1, hv2⟩ := hv y _ hsl
      have hva : v = .ref a := by
        cases sl with
        | fz d => exact absurd rfl (hd d)
        | ol xs => obtain ⟨a', e', hm', _⟩ := hv2; rw [e', S.wU y a' a hm' hm]
        | od kvs => obtain ⟨a', e', hm', _⟩ := hv2; rw [e', S.wU y a' a hm' hm]
      refine ⟨v, hv1, ?_⟩
      cases sl' with
      | fz d => exact rv.elim
      | ol xs => exact ⟨a, hva, hm, rv⟩
      | od kvs => exact ⟨a, hva, hm, rv⟩
    · rw [if_neg hy] at e
      obtain ⟨v, hv1, hv2⟩ := hv y sl2 e
      refine ⟨v, hv1, hv2.move S hmv fun a' ha => ⟨ha, fun o e => (hs.2 a' fun q => hy (wN_unique S ha (q ▸ hm))).trans e⟩⟩
  lt := fun c hc => by rw [hs.1]; exact S.lt c hc
  dis := S.dis
  wN := S.wN
  wF := S.wF
  wU := S.wU
theorem change_mv {x : Str} {a : Addr} (hm : (x, a) ∈ W) (hs : Heap.SameBut a h h') : Mv C W h W h' :=
  ⟨by rw [hs.1]; exact Nat.le_refl _, fun b o e m => ⟨(hs.2 b fun q => m (q ▸ .inr (.inr ⟨x, hm⟩))).trans e, m⟩⟩
/-- what is borne stays so where the frame's own is changed -/
theorem change_rps {x : Str} {a : Addr} (hm : (x, a) ∈ W) (hs : Heap.SameBut a h h') {vs : List Value} {ds : List D} (rr : RpAll C.pr C.w h (C.X X0 W) vs ds) : RpAll C.pr C.w h' (C.X X0 W) vs ds :=
  rr.mono fun b o hb e => ⟨(hs.2 b fun q => hb (q ▸ .inr (.inr (.inr ⟨x, hm⟩)))).trans e, hb⟩
end
end Mine

namespace Mine

inductive Out where
  | next (σ : VEnv)
  | ret (d : D)

structure Res (C : Cx) (X0 : Addr → Prop) (W : List (Str × Addr)) (s : Shared) (P : Out → Prop) (Q : Flow → Shared → Prop) : Prop where
  next : ∀ σ' W' h' tk, P (.next σ') → C.t0 ≤ tk → St C X0 W' σ' h' → Mv C W s.heap W' h' → Q .next { s with heap := h', toks := tk }
  ret : ∀ d v W' σ' h' tk, P (.ret d) → C.t0 ≤ tk → St C X0 W' σ' h' → Mv C W s.heap W' h' → Rp C.pr C.w h' (C.X X0 W') v d → Q (.ret v) { s with heap := h', toks := tk }

structure Ex (C : Cx) (σ : VEnv) (st : Stmt) (P : Out → Prop) : Prop where
  run : ∀ (X0 : Addr → Prop) (W : List (Str × Addr)) (s : Shared) (Q : Flow → Shared → Prop), C.t0 ≤ s.toks → St C X0 W σ s.heap → Res C X0 W s P Q →
  wpAny (model C.pr C.w) C.A (exec st C.env) Q (fun _ _ => False) s
structure Exs (C : Cx) (σ : VEnv) (sts : List Stmt) (P : Out → Prop) : Prop where
  run : ∀ (X0 : Addr → Prop) (W : List (Str × Addr)) (s : Shared) (Q : Flow → Shared → Prop), C.t0 ≤ s.toks → St C X0 W σ s.heap → Res C X0 W s P Q →
  wpAny (model C.pr C.w) C.A (execs sts C.env) Q (fun _ _ => False) s

section
variable {C : Cx} {gl : Str → Option Value} {r : Nat} {σ : VEnv} {P : Out → Prop}

theorem Res.step {X0 : Addr → Prop} {W W' : List (Str × Addr)} {s : Shared} {h' : Heap} {tk : Nat} {Q : Flow → Shared → Prop} (R : Res C X0 W s P Q) (m : Mv C W s.heap W' h') : Res C X0 W' { s with heap := h', toks := tk } P Q :=
  ⟨fun σ2 W2 h2 tk2 hp ht S m2 => R.next σ2 W2 h2 tk2 hp ht S (m.trans m2), fun d v W2 σ2 h2 tk2 hp ht S m2 rr => R.ret d v W2 σ2 h2 tk2 hp ht S (m.trans m2) rr⟩
theorem Exs.nil (hp : P (.next σ)) : Exs C σ [] P := .mk fun X0 W s Q ht S R => wpAny_execs_nil (R.next σ W s.heap s.toks hp ht S (Mv.refl _ _))

/-- behind a statement: the rest, or the answer -/
def Then (C : Cx) (rest : List Stmt) (P : Out → Prop) : Out → Prop
  | .next σ' => Exs C σ' rest P
  | .ret d => P (.ret d)
theorem Exs.cons {st : Stmt} {rest : List Stmt} (H : Ex C σ st (Then C rest P)) : Exs C σ (st :: rest) P := .mk fun X0 W s Q ht S R =>
  wpAny_execs_cons (H.run X0 W s _ ht S ⟨fun σ' W' h' tk hp ht' S' m => hp.run X0 W' _ Q ht' S' (R.step m), fun d v W' σ' h' tk hp ht' S' m rr => R.ret d v W' σ' h' tk hp ht' S' m rr⟩)

/-- the frame's own list (dict) is anyone's from here on -/
theorem Exs.freeze {x : Str} {xs : List D} {sts : List Stmt} (hx : σ.get x = some (.ol xs)) (H : Exs C (σ.set x (.fz (.list xs))) sts P) : Exs C σ sts P := .mk fun X0 W s Q ht S R =>
  H.run X0 _ s Q ht (S.freeze hx) (R.step (tk := s.toks) freeze_mv)
theorem Exs.freezeD {x : Str} {kvs : List (T × T)} {sts : List Stmt} (hx : σ.get x = some (.od kvs)) (H : Exs C (σ.set x (.fz (.dict kvs))) sts P) : Exs C σ sts P := .mk fun X0 W s Q ht S R =>
  H.run X0 _ s Q ht (S.freezeD hx) (R.step (tk := s.toks) freeze_mv)

theorem Ex.ret {e : Expr} {p : Pos} {d : D} (H : Ev C σ e d) (hp : P (.ret d)) : Ex C σ (.Return (some e) p) P := .mk fun X0 W s Q ht S R =>
  wpAny_Return_some (H.run X0 W s _ ht S fun h' tk v ht' l rr => R.ret d v W σ h' tk hp ht' (S.le l) l.mv rr)
theorem Ex.ite {t : Expr} {a b : List Stmt} {p : Pos} {c : Bool} (H : Tr C σ t c) (ha : c = true → Exs C σ a P) (hb : c = false → Exs C σ b P) : Ex C σ (.If t a b p) P := .mk fun X0 W s Q ht S R =>
  wpAny_If (H.run X0 W s _ ht S fun h' tk ht' l => by
    cases c with
    | true => rw [if_pos rfl]; exact (ha rfl).run X0 W _ Q ht' (S.le l) (R.step l.mv)
    | false => rw [if_neg (by simp)]; exact (hb rfl).run X0 W _ Q ht' (S.le l) (R.step l.mv))
theorem Ex.assert {t : Expr} {m : Option Expr} {p : Pos} (H : Tr C σ t true) (hp : P (.next σ)) : Ex C σ (.Assert t m p) P := .mk fun X0 W s Q ht S R =>
  wpAny_Assert_holds (H.run X0 W s _ ht S fun h' tk ht' l => ⟨rfl, R.next σ W h' tk hp ht' (S.le l) l.mv⟩)
theorem Ex.try_ {body orelse : List Stmt} {h0 : ExceptHandler} {hs : List ExceptHandler} {p : Pos} (H : Exs C σ body (Then C orelse P)) : Ex C σ (.Try body (h0 :: hs) orelse [] p) P := .mk fun X0 W s Q ht S R =>
  wpAny_Try_except (wpAny_mono (H.run X0 W s (fun f s₁ => match f with | .next => wpAny (model C.pr C.w) C.A (execs orelse C.env) Q (fun _ _ => False) s₁ | f => Q f s₁) ht S
    ⟨fun σ' W' h' tk hp ht' S' m => hp.run X0 W' _ Q ht' S' (R.step m), fun d v W' σ' h' tk hp ht' S' m rr => R.ret d v W' σ' h' tk hp ht' S' m rr⟩) (fun _ _ x => x) fun _ _ x => x.elim)

/-- an expression that may change the frame's own lists -/
structure EvM (C : Cx) (σ : VEnv) (e : Expr) (σ' : VEnv) (d : D) : Prop where
  run : ∀ (X0 : Addr → Prop) (W : List (Str × Addr)) (s : Shared) (Q : Value → Shared → Prop), C.t0 ≤ s.toks → St C X0 W σ s.heap →
  (∀ h' tk v, C.t0 ≤ tk → St C X0 W σ' h' → Mv C W s.heap W h' → Rp C.pr C.w h' (C.X X0 W) v d → Q v { s with heap := h', toks := tk }) → wpAny (model C.pr C.w) C.A (eval e C.env) Q (fun _ _ => False) s
theorem Ev.m {e : Expr} {d : D} (H : Ev C σ e d) : EvM C σ e σ d := .mk fun X0 W s Q ht S hQ => H.run X0 W s Q ht S fun h' tk v ht' l rr => hQ h' tk v ht' (S.le l) l.mv rr

/-- an expression that makes a list or a dict -/
structure EvF (C : Cx) (σ : VEnv) (e : Expr) (sl : Slot) : Prop where
  run : ∀ (X0 : Addr → Prop) (W : List (Str × Addr)) (s : Shared) (Q : Value → Shared → Prop), C.t0 ≤ s.toks → St C X0 W σ s.heap →
  (∀ h' tk a, C.t0 ≤ tk → Le s.heap h' → s.heap.objs.size ≤ a → a < h'.objs.size → OwnRep C.pr C.w h' (fun b => C.X X0 W b ∨ b = a) a sl → Q (.ref a) { s with heap := h', toks := tk }) →
  wpAny (model C.pr C.w) C.A (eval e C.env) Q (fun _ _ => False) s

theorem not_X {X0 : Addr → Prop} {W : List (Str × Addr)} {h : Heap} (S : St C X0 W σ h) {a : Addr} (ha : h.objs.size ≤ a) : ¬ C.X X0 W a := fun q => Nat.lt_irrefl _ (Nat.lt_of_lt_of_le (S.lt a q) ha)
theorem EvF.ev {e : Expr} {xs : List D} (H : EvF C σ e (.ol xs)) : Ev C σ e (.list xs) := .mk fun X0 W s Q ht S hQ => H.run X0 W s Q ht S fun h' tk a ht' l ha hin ⟨vs, p, q⟩ =>
  hQ h' tk _ ht' l (.rlist (not_X S ha) p (q.weaken fun _ => .inl))
theorem EvF.list {es : List Expr} {ds : List D} {p : Pos} (h : EvL C σ es ds) (hz : ds.length ≤ 16777216) : EvF C σ (.List es p) (.ol ds) := .mk fun X0 W s Q ht S hQ =>
  List_ (h.run p X0 W s _ ht S fun h' tk vs ht' l rs => newList_rp (S.le l).lt rs hz fun a h'' ha hg l' pl rr =>
    hQ h'' tk a ht' (l.trans l') (Nat.le_trans l.size ha) (by obtain ⟨n, e⟩ := pl; exact Heap.lt_size e) ⟨vs, pl, rr⟩)
theorem sysMod_ne (K : C.Ok gl r) {X0 : Addr → Prop} {W : List (Str × Addr)} {h : Heap} (S : St C X0 W σ h) {a : Addr} (ha : h.objs.size ≤ a) : (a == sysModules) = false := by
  have := K.base.sysMod
  rw [beq_eq_false_iff_ne]
  exact Nat.ne_of_gt (Nat.lt_of_lt_of_le (Nat.lt_of_lt_of_le this S.hsize) ha)
theorem EvF.dict0 (K : C.Ok gl r) {p : Pos} : EvF C σ (.Dict [] [] p) (.od []) := .mk fun X0 W s Q ht S hQ =>
  wpAny_Dict_empty (hQ _ s.toks _ ht (Le.push _ _) (Nat.le_refl _) (by rw [Heap.size_push]; exact Nat.lt_succ_self _) ⟨sysMod_ne K S (Nat.le_refl _), [], Heap.DictOf.new _, trivial⟩)

/-- a display of written texts -/
inductive CDict : List (Option Expr) → List Expr → List (Str × Str) → Prop
  | nil : CDict [] [] []
  | cons {k v : Str} {n m : Nat} {p q : Pos} {ks : List (Option Expr)} {vs : List Expr} {kvs : List (Str × Str)} : CDict ks vs kvs → CDict (some (.Constant (.str k) n p) :: ks) (.Constant (.str v) m q :: vs) ((k, v) :: kvs)

def KtOf : List (Str × Value) → List (Str × Str) → Prop
  | [], [] => True
  | (k, v) :: r, (k', x) :: r' => k = k' ∧ (∃ t, v = .str x t) ∧ KtOf r r'
  | _, _ => False
theorem KtOf.keys : ∀ {kts : List (Str × Value)} {kvs : List (Str × Str)}, KtOf kts kvs → kts.map (·.1) = kvs.map (·.1)
  | [], [], _ => rfl
  | (k, v) :: r, (k', x) :: r', ⟨h1, _, h3⟩ => by rw [List.map_cons, List.map_cons, h3.keys, h1]
  | [], _ :: _, h => h.elim
  | _ :: _, [], h => h.elim
theorem KtOf.dk : ∀ {kts : List (Str × Value)} {kvs : List (Str × Str)}, KtOf kts kvs → DK kts (kvs.map fun p => (p.1.cps.toList, p.2.cps.toList))
  | [], [], _ => trivial
  | (k, v) :: r, (k', x) :: r', ⟨h1, ⟨t, h2⟩, h3⟩ => ⟨by rw [h1], ⟨x, t, h2, rfl⟩, h3.dk⟩
  | [], _ :: _, h => h.elim
  | _ :: _, [], h => h.elim

theorem CDict.run {pr : Program} {w : World} {A : Around} {env : Env} {pos : Pos} : ∀ {ks : List (Option Expr)} {vs : List Expr} {kvs : List (Str × Str)}, CDict ks vs kvs → ∀ (s : Shared) (Q : List (Value × Value) → Shared → Prop),
    (∀ tk vals kts, Carries (strKind pr w) vals kts → KtOf kts kvs → Q vals { s with toks := tk }) → wpAny (model pr w) A (evalPairs (pairTrees ks vs env pos)) Q (fun _ _ => False) s
  | _, _, _, .nil, s, Q, hQ => pairTrees_nil_walk (hQ s.toks [] [] trivial trivial)
  | _, _, _, .cons (k := k) (v := v) h, s, Q, hQ => pairTrees_cons_walk (Calls.Constant_str (Calls.Constant_str (h.run _ _ fun tk vals kts hc hk => hQ tk _ ((k, .str v (s.toks + 1)) :: kts) ⟨strKind_is _ _ _ _, rfl, hc⟩ ⟨rfl, ⟨_, rfl⟩, hk⟩)))
theorem CDict.lens : ∀ {ks : List (Option Expr)} {vs : List Expr} {kvs : List (Str × Str)}, CDict ks vs kvs → ks.all (·.isSome) = true ∧ ks.length = vs.length ∧ ks.length = kvs.length
  | _, _, _, .nil => ⟨rfl, rfl, rfl⟩
  | _, _, _, .cons h => by obtain ⟨a, b, c⟩ := h.lens; exact ⟨by simp [a], by simp [b], by simp [c]⟩

theorem merged_nodup : ∀ (kts acc : List (Str × Value)), ((acc ++ kts).map (·.1)).Nodup → merged acc kts = acc ++ kts
  | [], acc, _ => by simp [merged]
  | (k, v) :: r, acc, h => by
    have hk : acc.any (fun kv => kv.1 = k) = false := by
      rw [List.any_eq_false]
      intro x hx e
      simp only [decide_eq_true_eq] at e
      rw [List.map_append, List.nodup_append] at h
      exact h.2.2 x.1 (List.mem_map_of_mem hx) k (by simp) e
    have hs : stored acc k v = acc ++ [(k, v)] := by unfold stored; rw [hk]; rfl
    have := merged_nodup r (acc ++ [(k, v)]) (by simpa using h)
    simp only [merged, List.foldl_cons, hs] at this ⊢
    rw [this]; simp

theorem Ev.cdict (K : C.Ok gl r) {ks : List (Option Expr)} {vs : List Expr} {kvs : List (Str × Str)} {p : Pos} (h : CDict ks vs kvs) (h0 : ks ≠ []) (hl : kvs.length ≤ 15) (hn : (kvs.map (·.1)).Nodup) :
    Ev C σ (.Dict ks vs p) (.dict (kvs.map fun p => (p.1.cps.toList, p.2.cps.toList))) := .mk fun X0 W s Q ht S hQ => by
  obtain ⟨a, b, c⟩ := h.lens
  refine wp_toks ht (wpAny_Dict_walk (knd := strKind C.pr C.w) a b h0 (by omega) (h.run _ _ fun tk vals kts hc hk => ⟨kts, hc, Heap.DictOf.new _, fun h' hd hs ht' => ?_⟩))
  rw [merged_nodup kts [] (by simpa [hk.keys] using hn), List.nil_append] at hd
  refine hQ h' _ _ ht' ⟨by rw [hs.1, Heap.size_push]; exact Nat.le_succ _, fun b o e => (hs.2 b (Nat.ne_of_lt (Heap.lt_size e))).trans (Heap.get?_push_of_some _ e)⟩ (.rdict (not_X S (Nat.le_refl _)) (sysMod_ne K S (Nat.le_refl _)) hd hk.dk)
theorem Ex.assign (K : C.Ok gl r) {x : Str} {e : Expr} {p px : Pos} {σ' : VEnv} {d : D} (H : EvM C σ e σ' d) (hx : Sto C x) (hs : swapsWith e (some (.Name x px)) p.line C.env = pure false) (hp : P (.next (σ'.set x (.fz d)))) :
    Ex C σ (.Assign [.Name x px] e p) P := .mk fun X0 W s Q ht S R =>
  wpAny_Assign_Name (H.run X0 W s _ ht S fun h' tk v ht' S' m rr => wp_toks ht' (store_fz K hx S' rr fun h'' tk' S'' m' ht'' => R.next _ _ h'' tk' hp ht'' S'' (m.trans m'))) hs
theorem Ex.assign_own (K : C.Ok gl r) {x : Str} {e : Expr} {p px : Pos} {sl : Slot} (H : EvF C σ e sl) (hx : Sto C x) (hs : swapsWith e (some (.Name x px)) p.line C.env = pure false) (hp : P (.next (σ.set x sl))) (hsl : ∀ d, sl ≠ .fz d) :
    Ex C σ (.Assign [.Name x px] e p) P := .mk fun X0 W s Q ht S R =>
  wpAny_Assign_Name (H.run X0 W s _ ht S fun h' tk a ht' l ha hin rr => wp_toks ht' (store_own K hx (S.forbid1 ha l hin) (Nat.le_trans S.hsize ha) (fun q => not_X S ha (.inl q)) rr hsl fun h'' tk' S'' m' ht'' => R.next _ _ h'' tk' hp ht'' S''
    ⟨Nat.le_trans l.size m'.1, fun b o e hm => m'.2 b o (l.get b o e) hm fun q => Nat.lt_irrefl _ (Nat.lt_of_lt_of_le (Heap.lt_size e) (q ▸ ha))⟩)) hs
theorem Ex.aug (K : C.Ok gl r) {x : Str} {e : Expr} {op : Operator} {p px : Pos} {d0 d1 d : D} (h0 : σ.get x = some (.fz d0)) (H : Ev C σ e d1) (ho : P2 C (inplaceOp op) d0 d1 d) (hx : Sto C x) (hp : P (.next (σ.set x (.fz d)))) :
    Ex C σ (.AugAssign (.Name x px) op e p) P := .mk fun X0 W s Q ht S R =>
  wpAny_AugAssign_Name (load_name K S h0 fun v0 r0 => H.run X0 W s _ ht S fun h' tk v ht' l rr => ho.use ht' (S.le l).lt (Rp.le r0 l) rr fun h2 tk2 v2 ht2 l2 r2 =>
    wp_toks ht2 (store_fz K hx ((S.le l).le l2) r2 fun h'' tk' S'' m' ht'' => R.next _ _ h'' tk' hp ht'' S'' ((l.trans l2).mv.trans m')))
theorem P2.iadd_int (a b : Int) : P2 C (inplaceOp .Add) (.int a) (.int b) (.int (a + b)) := fun X s Q v1 v2 hX r1 r2 h => by
  cases r1; cases r2; exact PyProof.Rows.iadd_int (h s.heap _ _ (Le.refl _) (.rint _ _))
theorem P2.isub_int (a b : Int) : P2 C (inplaceOp .Sub) (.int a) (.int b) (.int (a - b)) := fun X s Q v1 v2 hX r1 r2 h => by
  cases r1; cases r2; exact PyProof.Rows.isub_int (h s.heap _ _ (Le.refl _) (.rint _ _))
end
end Mine

namespace Mine

section
variable {C : Cx} {gl : Str → Option Value} {r : Nat} {σ : VEnv} {P : Out → Prop}

/-- a method of the frame's own list, called: the arguments may change other lists of the frame's -/
theorem own_meth (K : C.Ok gl r) {x : Str} {name : Str} {id : String} {xs xs' : List D} {es : List Expr} {p pa px : Pos} {X0 : Addr → Prop} {W : List (Str × Addr)} {s : Shared} {Q : Value → Shared → Prop} {σ' : VEnv}
    (ht : C.t0 ≤ s.toks) (S : St C X0 W σ s.heap) (hx : σ.get x = some (.ol xs)) (hd : (x == ("__debug__" : Str)) = false)
    (slot : PySem.Slot "list" name id) (ty : typeOf (.builtin id) = pure (.type "method_descriptor"))
    (hbase : ∀ t, attributeBase (.Name x px) name C.env t = t) (hfew : es.length < 30) (hline : (pa.endLine == p.line) = true) (hpl : ∀ p, (backTo p (starEach es C.env)).any (·.1) = false)
    (hx' : σ'.get x = some (.ol xs'))
    (hargs : ∀ (Q' : Args → Shared → Prop), (∀ h' tk vs, C.t0 ≤ tk → St C X0 W σ' h' → Mv C W s.heap W h' →
        (∀ a vl, (x, a) ∈ W → h'.PlainList a vl.toArray → RpAll C.pr C.w h' (C.X X0 W) vl xs' → wpAny (model C.pr C.w) C.A (call (.builtin id) (.ref a :: vs)) Q (fun _ _ => False) { s with heap := h', toks := tk }) → Q' ⟨vs, []⟩ { s with heap := h', toks := tk }) →
      wpAny (model C.pr C.w) C.A (evalArgs (.builtin id) true (backTo p (starEach es C.env)) []) Q' (fun _ _ => False) s) :
    wpAny (model C.pr C.w) C.A (eval (.Call (.Attribute (.Name x px) name pa) es [] p) C.env) Q (fun _ _ => False) s := by
  refine wpAny_Call_method_late (hbase _) ?_ hline rfl (name_slot K S hx hd fun v ⟨a, e, hm, vl, pl, rr⟩ => ?_)
  · have : (backTo p (starEach es C.env)).all (fun x => !x.1) = true := by
      rw [List.all_eq_not_any_not]; simpa using hpl p
    rw [this]; simp [backToKw, keywordEach, hfew]
  subst e
  refine ⟨"list", id, F.plainAttrs_list, slot, ty, pl.isList.typeIs, fun a' e => by cases e; obtain ⟨n, q⟩ := pl; exact ⟨_, q, rfl⟩, ?_⟩
  refine Calls.callWith_builtin (hpl p) (hargs _ fun h' tk vs ht' S' m hcall => ?_)
  obtain ⟨mm, cm, hn, hc, hv⟩ := S'.vars
  obtain ⟨v', hv1, a', e', hm', vl', pl', rr'⟩ := hv x _ hx'
  have := S.wU x a a' hm hm'
  subst this
  exact hcall a vl' hm pl' rr'

theorem append_own (K : C.Ok gl r) {x : Str} {xs xs' : List D} {e : Expr} {d : D} {p pa px : Pos} {σ' : VEnv} (hx : σ.get x = some (.ol xs)) (hd : (x == ("__debug__" : Str)) = false)
    (hbase : ∀ t, attributeBase (.Name x px) "append" C.env t = t) (hline : (pa.endLine == p.line) = true) (H : EvM C σ e σ' d) (he : starEach [e] C.env = [(false, eval e C.env)]) (hx' : σ'.get x = some (.ol xs')) (hz : xs'.length ≤ 1000000)
    {X0 : Addr → Prop} {W : List (Str × Addr)} {s : Shared} {Q : Value → Shared → Prop} (ht : C.t0 ≤ s.toks) (S : St C X0 W σ s.heap)
    (hQ : ∀ h' tk, C.t0 ≤ tk → St C X0 W (σ'.set x (.ol (xs' ++ [d]))) h' → Mv C W s.heap W h' → Q .none { s with heap := h', toks := tk }) :
    wpAny (model C.pr C.w) C.A (eval (.Call (.Attribute (.Name x px) "append" pa) [e] [] p) C.env) Q (fun _ _ => False) s := by
  refine own_meth K ht S hx hd F.slot_list_append F.type_list_append hbase (by simp) hline (fun p => by rw [he]; rfl) hx' fun Q' hQ' => ?_
  rw [he]
  refine Calls.evalArgs_plain (Calls.spliced_cons (H.run X0 W s _ ht S fun h' tk v ht' S' m rv => Calls.spliced_nil (hQ' h' tk [v] ht' S' m fun a vl hm pl rr => ?_)))
  refine wp_toks ht' (wpAny_list_append_plain (hsz := by have := rr.length; rw [sizeLine_eq]; simp; omega) pl fun h2 pl2 hs ht2 => ?_)
  refine hQ h2 tk ht2 (S'.change hm hx' (fun _ => by simp) hs ⟨vl ++ [v], by simpa using pl2, change_rps hm hs (rr.append (.cons rv .nil))⟩) (m.trans (change_mv hm hs))
theorem Ex.append (K : C.Ok gl r) {x : Str} {xs xs' : List D} {e : Expr} {d : D} {p pa px pp : Pos} {σ' : VEnv} (hx : σ.get x = some (.ol xs)) (hd : (x == ("__debug__" : Str)) = false)
    (hbase : ∀ t, attributeBase (.Name x px) "append" C.env t = t) (hline : (pa.endLine == p.line) = true) (H : EvM C σ e σ' d) (he : starEach [e] C.env = [(false, eval e C.env)]) (hx' : σ'.get x = some (.ol xs')) (hz : xs'.length ≤ 1000000)
    (hi : interactive C.env = false) (hp : P (.next (σ'.set x (.ol (xs' ++ [d]))))) : Ex C σ (.Expr (.Call (.Attribute (.Name x px) "append" pa) [e] [] p) pp) P := .mk fun X0 W s Q ht S R =>
  wpAny_Expr (append_own K hx hd hbase hline H he hx' hz ht S fun h' tk ht' S' m => R.next _ W h' tk hp ht' S' m) hi

theorem erase_toArray (vl : List Value) (k : Nat) (hk : k < vl.length) : vl.toArray.eraseIdxIfInBounds k = (vl.eraseIdx k).toArray := by
  simp [Array.eraseIdxIfInBounds, hk]

theorem popped {X0 : Addr → Prop} {W : List (Str × Addr)} {x : Str} {xs : List D} {h' : Heap} {a : Addr} {vl : List Value} {k : Nat} {n : Nat} (S : St C X0 W σ h') (hx : σ.get x = some (.ol xs)) (hm : (x, a) ∈ W)
    (ea : h'.get? a = some { cls := .type "list", dict := none, data := .seq vl.toArray n, slots := #[] }) (rr : RpAll C.pr C.w h' (C.X X0 W) vl xs) (hk : k < vl.length) :
    St C X0 W (σ.set x (.ol (xs.eraseIdx k))) (h'.update a (Obj.mapSeq fun xs => xs.eraseIdxIfInBounds k)) ∧ Mv C W h' W (h'.update a (Obj.mapSeq fun xs => xs.eraseIdxIfInBounds k)) := by
  have hs : Heap.SameBut a h' (h'.update a (Obj.mapSeq fun xs => xs.eraseIdxIfInBounds k)) := Heap.SameBut.update ..
  have pl2 : (h'.update a (Obj.mapSeq fun xs => xs.eraseIdxIfInBounds k)).PlainList a (vl.eraseIdx k).toArray := by
    refine ⟨if (vl.eraseIdx k).toArray.size == vl.toArray.size then n else n + 1, ?_⟩
    rw [Heap.get?_update_self _ ea (by rfl)]
    show some (Obj.mk _ _ (.seq (vl.toArray.eraseIdxIfInBounds k) (if (vl.toArray.eraseIdxIfInBounds k).size == vl.toArray.size then n else n + 1)) _) = _
    rw [erase_toArray vl k hk]
  exact ⟨S.change hm hx (fun _ => by simp) hs ⟨_, pl2, change_rps hm hs (rr.erase k)⟩, change_mv hm hs⟩

/-- x.pop(i), i at a place of the list -/
theorem EvM.pop_at (K : C.Ok gl r) {x : Str} {xs : List D} {e : Expr} {i : Int} {d : D} {p pa px : Pos} (hx : σ.get x = some (.ol xs)) (hd : (x == ("__debug__" : Str)) = false)
    (hbase : ∀ t, attributeBase (.Name x px) "pop" C.env t = t) (hline : (pa.endLine == p.line) = true) (H : Ev C σ e (.int i)) (he : starEach [e] C.env = [(false, eval e C.env)])
    (h0 : 0 ≤ i) (hi : xs[i.toNat]? = some d) (hz : xs.length ≤ 1000000) : EvM C σ (.Call (.Attribute (.Name x px) "pop" pa) [e] [] p) (σ.set x (.ol (xs.eraseIdx i.toNat))) d := .mk fun X0 W s Q ht S hQ => by
  refine own_meth (σ' := σ) K ht S hx hd F.slot_list_pop F.type_list_pop hbase (by simp) hline (fun p => by rw [he]; rfl) hx fun Q' hQ' => ?_
  rw [he]
  refine Calls.evalArgs_plain (Calls.spliced_cons (H.run X0 W s _ ht S fun h' tk v ht' l rv => Calls.spliced_nil (hQ' h' tk [v] ht' (S.le l) l.mv fun a vl hm pl rr => ?_)))
  cases rv with | rint _ u =>
  obtain ⟨n, ea⟩ := pl
  have hl := rr.length
  obtain ⟨y, hy, ry⟩ := rr.getD hi
  have hlt : i.toNat < vl.length := (List.getElem?_eq_some_iff.mp hy).1
  refine call_meets F.slot_list_pop ⟨_, ea, rfl⟩ F.entry_list_pop (F.args_list_pop_2 _ _) (MeetsSeq.list_pop_at a vl.toArray n i u i.toNat y (fitsIndex_of h0 (by omega)) (by rw [seqIndex_of h0 (by simp; omega)]) (by simpa using hy) (by rw [sizeLine_eq]; simp; omega)) ⟨ea, ?_⟩
  obtain ⟨S2, m2⟩ := popped (S.le l) hx hm ea rr hlt
  exact hQ _ tk y ht' S2 (l.mv.trans m2) (m2.rp S.dis ry)
/-- del x[i] -/
theorem Ex.del (K : C.Ok gl r) {x : Str} {xs : List D} {e : Expr} {i : Int} {k : Nat} {p px ps : Pos} (hx : σ.get x = some (.ol xs)) (hd : (x == ("__debug__" : Str)) = false)
    (H : Ev C σ e (.int i)) (hk : seqIndex? i xs.length = some k) (hkl : k < xs.length) (hf : Builtin.List.listFitsIndex i = true) (hz : xs.length ≤ 1000000) (hp : P (.next (σ.set x (.ol (xs.eraseIdx k))))) :
    Ex C σ (.Delete [.Subscript (.Name x px) e ps] p) P := .mk fun X0 W s Q ht S R => by
  refine wpAny_Delete (wpAny_deleteEach_cons (wpAny_delete_Subscript (name_slot K S hx hd fun v ⟨a, ev, hm, vl0, pl0, rr0⟩ => H.run X0 W s _ ht S fun h' tk vi ht' l ri => ?_)))
  subst ev
  cases ri with | rint _ u =>
  have rr := rr0.le l
  have pl := pl0.at (h' := h') fun o => l.get a o
  obtain ⟨n, ea⟩ := pl
  have hl := rr.length
  refine PySem.P.delItem_list (n := n) (k := k) ea hf (by simpa [hl] using hk) (wpAny_deleteEach_nil ?_) (by rw [sizeLine_eq]; simp; omega)
  obtain ⟨S2, m2⟩ := popped (k := k) (S.le l) hx hm ea rr (by omega)
  exact R.next _ W _ tk hp ht' S2 (l.mv.trans m2)
end
end Mine

namespace Mine

section
variable {C : Cx} {gl : Str → Option Value} {r : Nat} {σ : VEnv} {P : Out → Prop}

/-! ### a dict of the frame's own -/
def dput (kvs : List (T × T)) (k v : T) : List (T × T) := if kvs.any (fun kv => kv.1 = k) then kvs.map (fun kv => if kv.1 = k then (kv.1, v) else kv) else kvs ++ [(k, v)]
theorem cps_eq {a b : Str} : a.cps.toList = b.cps.toList ↔ a = b := ⟨fun h => Str.ext' (Array.toList_inj.mp h), fun h => by rw [h]⟩
theorem DK_any : ∀ {kts : List (Str × Value)} {kvs : List (T × T)}, DK kts kvs → ∀ k : Str, kts.any (fun kv => kv.1 = k) = kvs.any (fun kv => kv.1 = k.cps.toList)
  | [], [], _, k => rfl
  | (k', v) :: r, (k'', y) :: r', ⟨e1, _, h3⟩, k => by
    subst e1
    rw [List.any_cons, List.any_cons, DK_any h3 k]
    congr 1
    exact decide_eq_decide.mpr cps_eq.symm
  | [], _ :: _, h, _ => h.elim
  | _ :: _, [], h, _ => h.elim
theorem DK_map : ∀ {kts : List (Str × Value)} {kvs : List (T × T)}, DK kts kvs → ∀ (k v : Str) (t : Tok), DK (kts.map fun kv => if kv.1 = k then (kv.1, .str v t) else kv) (kvs.map fun kv => if kv.1 = k.cps.toList then (kv.1, v.cps.toList) else kv)
  | [], [], _, k, v, t => trivial
  | (k', u) :: r, (k'', y) :: r', ⟨e1, e2, h3⟩, k, v, t => by
    subst e1
    have ih := DK_map h3 k v t
    by_cases hk : k' = k
    · subst hk
      simp only [List.map_cons, if_true]
      exact ⟨rfl, ⟨v, t, rfl, rfl⟩, ih⟩
    · have hk' : ¬ k'.cps.toList = k.cps.toList := fun e => hk (cps_eq.mp e)
      simp only [List.map_cons, hk, hk', if_false]
      exact ⟨rfl, e2, ih⟩
  | [], _ :: _, h, _, _, _ => h.elim
  | _ :: _, [], h, _, _, _ => h.elim
theorem DK_snoc : ∀ {kts : List (Str × Value)} {kvs : List (T × T)}, DK kts kvs → ∀ (k v : Str) (t : Tok), DK (kts ++ [(k, .str v t)]) (kvs ++ [(k.cps.toList, v.cps.toList)])
  | [], [], _, k, v, t => ⟨rfl, ⟨v, t, rfl, rfl⟩, trivial⟩
  | (k', u) :: r, (k'', y) :: r', ⟨e1, e2, h3⟩, k, v, t => ⟨e1, e2, DK_snoc h3 k v t⟩
  | [], _ :: _, h, _, _, _ => h.elim
  | _ :: _, [], h, _, _, _ => h.elim
theorem DK_put {kts : List (Str × Value)} {kvs : List (T × T)} (h : DK kts kvs) (k v : Str) (t : Tok) : DK (stored kts k (.str v t)) (dput kvs k.cps.toList v.cps.toList) := by
  unfold stored dput
  rw [DK_any h k]
  split
  · exact DK_map h k v t
  · exact DK_snoc h k v t
theorem DK_len : ∀ {kts : List (Str × Value)} {kvs : List (T × T)}, DK kts kvs → kts.length = kvs.length
  | [], [], _ => rfl
  | (_, _) :: _, (_, _) :: _, h => by rw [List.length_cons, List.length_cons, DK_len h.2.2]
  | [], _ :: _, h => h.elim
  | _ :: _, [], h => h.elim

theorem Ex.dstore (K : C.Ok gl r) {x : Str} {kvs : List (T × T)} {e i : Expr} {k v : T} {p px ps : Pos} (hx : σ.get x = some (.od kvs)) (hd : (x == ("__debug__" : Str)) = false) (H : Ev C σ e (.str v)) (Hi : Ev C σ i (.str k))
    (hz : kvs.length ≤ 1000) (hs : swapsWith e (some (.Subscript (.Name x px) i ps)) p.line C.env = pure false) (hp : P (.next (σ.set x (.od (dput kvs k v))))) :
    Ex C σ (.Assign [.Subscript (.Name x px) i ps] e p) P := .mk fun X0 W s Q ht S R =>
  wpAny_Assign_Subscript (H.run X0 W s _ ht S fun h1 t1 v1 ht1 l1 r1 => name_slot K (S.le l1) hx hd fun va ⟨a, ea, hm, hss, kts0, pd0, dk⟩ => Hi.run X0 W _ _ ht1 (S.le l1) fun h2 t2 v2 ht2 l2 r2 => by
    subst ea
    cases r1 with | rstr v t => cases r2 with | rstr k u =>
    have pd := DictOf_at1 pd0 (h' := h2) fun o => l2.get a o
    refine wp_toks ht2 (wpAny_setItem_pairs (knd := strKind C.pr C.w) (k := k) (strKind_is _ _ _ _) pd (fun h3 pd3 hs3 ht3 => ?_) (by rw [DK_len dk, sizeLine_eq]; omega))
    exact R.next _ W h3 _ hp ht3 (((S.le l1).le l2).change hm hx (fun _ => by simp) hs3 ⟨hss, _, pd3, DK_put dk k v t⟩) ((l1.trans l2).mv.trans (change_mv hm hs3))) hs

theorem RpAll.rev {h : Heap} {X : Addr → Prop} : ∀ {vs : List Value} {ds : List D}, RpAll C.pr C.w h X vs ds → RpAll C.pr C.w h X vs.reverse ds.reverse
  | _, _, .nil => .nil
  | _, _, .cons r rs => by rw [List.reverse_cons, List.reverse_cons]; exact rs.rev.append (.cons r .nil)

/-! ### names of a tuple -/
def setAll : VEnv → List Str → List D → VEnv
  | σ, x :: xs, d :: ds => setAll (σ.set x (.fz d)) xs ds
  | σ, _, _ => σ
def StoreOf (C : Cx) (f : Value → Sem Unit) (x : Str) : Prop := ∀ (v : Value) (s : Shared) (Q : Unit → Shared → Prop), wpAny (model C.pr C.w) C.A (storeName C.env x v) Q (fun _ _ => False) s → wpAny (model C.pr C.w) C.A (f v) Q (fun _ _ => False) s
inductive StoresOf (C : Cx) : List (Value → Sem Unit) → List Str → Prop
  | nil : StoresOf C [] []
  | cons {f : Value → Sem Unit} {x : Str} {fs : List (Value → Sem Unit)} {xs : List Str} : StoreOf C f x → Sto C x → StoresOf C fs xs → StoresOf C (f :: fs) (x :: xs)
theorem StoreOf.bind (C : Cx) (x : Str) : StoreOf C (fun v => bindName C.env x v) x := fun v s Q h => wpAny_bindName h

theorem store_all (K : C.Ok gl r) : ∀ {fs : List (Value → Sem Unit)} {xs : List Str}, StoresOf C fs xs → ∀ {σ : VEnv} {vs : List Value} {ds : List D} {X0 : Addr → Prop} {W : List (Str × Addr)} {s : Shared} {Q : Unit → Shared → Prop}, C.t0 ≤ s.toks → xs.length = ds.length → St C X0 W σ s.heap →
    RpAll C.pr C.w s.heap (C.X X0 W) vs ds → (∀ W' h' tk, C.t0 ≤ tk → St C X0 W' (setAll σ xs ds) h' → Mv C W s.heap W' h' → Q () { s with heap := h', toks := tk }) → wpAny (model C.pr C.w) C.A (assignInOrder fs vs) Q (fun _ _ => False) s
  | _, _, .nil, σ, vs, ds, X0, W, s, Q, ht, hl, S, rr, hQ => by
    cases ds with
    | nil => unfold assignInOrder; exact wpAny_pure (hQ W s.heap s.toks ht S (Mv.refl _ _))
    | cons => simp at hl
  | _, _, .cons (f := f) (x := x) (fs := fs) (xs := xs) hf hx hr, σ, _, _, X0, W, s, Q, ht, hl, S, .cons (v := v) (vs := vs) rv rr, hQ => by
    show wpAny _ _ (do holding vs (f v); assignInOrder fs vs) _ _ _
    exact wpAny_bind (wpAny_holding (hf v s _ (wp_toks ht (store_fz K hx S rv fun h' tk S' m ht' => store_all K hr ht' (by simpa using hl) S' (m.rps S.dis rr) fun W' h2 tk2 ht2 S2 m2 => hQ W' h2 tk2 ht2 S2 (m.trans m2)))))
  | _, _, .cons _ _ _, σ, _, _, X0, W, s, Q, ht, hl, S, .nil, hQ => by simp at hl

theorem Le.extSize {h h' : Heap} (hk : Heap.ExtBut h.objs.size h h') (hz : h.objs.size ≤ h'.objs.size) : Le h h' := ⟨hz, fun b o e => hk b o (Nat.ne_of_lt (Heap.lt_size e)) e⟩

/-- a value into a target -/
structure As (C : Cx) (σ : VEnv) (t : Expr) (d : D) (σ' : VEnv) : Prop where
  run : ∀ (X0 : Addr → Prop) (W : List (Str × Addr)) (s : Shared) (v : Value) (Q : Unit → Shared → Prop), C.t0 ≤ s.toks → St C X0 W σ s.heap → Rp C.pr C.w s.heap (C.X X0 W) v d →
  (∀ W' h' tk, C.t0 ≤ tk → St C X0 W' σ' h' → Mv C W s.heap W' h' → Q () { s with heap := h', toks := tk }) → wpAny (model C.pr C.w) C.A (assign t C.env v) Q (fun _ _ => False) s
theorem As.name (K : C.Ok gl r) {x : Str} {p : Pos} {d : D} (hx : Sto C x) : As C σ (.Name x p) d (σ.set x (.fz d)) := .mk fun X0 W s v Q ht S rv hQ =>
  wpAny_assign_Name (wp_toks ht (store_fz K hx S rv fun h' tk S' m ht' => hQ _ h' tk ht' S' m))
/-- a, b = x, y as the machine stores it: from behind -/
theorem Ex.assign_swap (K : C.Ok gl r) {elts : List Expr} {k : Nat} {p pt : Pos} {e : Expr} {names : List Str} {ds : List D} (H : Ev C σ e (.tup ds)) (hs : swapsWithSole [.Tuple elts k pt] e p.line C.env = pure false)
    (hw : swappedStores [.Tuple elts k pt] e C.env = pure (some names)) (hst : StoresOf C (names.reverse.map fun n => bindName C.env n) names.reverse) (hl : names.length = ds.length) (hp : P (.next (setAll σ names.reverse ds.reverse))) :
    Ex C σ (.Assign [.Tuple elts k pt] e p) P := .mk fun X0 W s Q ht S R =>
  Assign_Tuple_swapped (H.run X0 W s _ ht S fun h' tk v ht' l rv => by
    cases rv with | @rtup a vs _ ha htp rr =>
    have e : names.length = vs.toArray.size := by simp [hl, rr.length]
    rw [e]
    refine wp_toks ht' (wp_size (unpackItems_tuple K.hand htp fun h2 he hz ht2 => ?_))
    have l2 := Le.extSize he hz
    exact store_all K hst ht2 (by simpa using hl) ((S.le l).le l2) (by simpa using (rr.le l2).rev) fun W' h3 tk3 ht3 S3 m3 => R.next _ W' h3 tk3 hp ht3 S3 ((l.trans l2).mv.trans m3)) hs hw

/-! ### the frame's own list, read -/
theorem Ev.len_own (K : C.Ok gl r) {x : Str} {xs : List D} {p px pl : Pos} (hg : gl "len" = some (.builtin "len")) (hk : C.env.kindOf "len" = some .globalImplicit) (hx : σ.get x = some (.ol xs)) (hd : (x == ("__debug__" : Str)) = false) (hz : xs.length ≤ 1000000) :
    Ev C σ (.Call (.Name "len" pl) [.Name x px] [] p) (.int xs.length) := .mk fun X0 W s Q ht S hQ =>
  Call_ (name_glob K S hg hk (by decide) (Calls.callWith_builtin rfl (Calls.evalArgs_plain (Calls.spliced_cons (name_slot K S hx hd fun v ⟨a, e, hm, vl, pl', rr⟩ => Calls.spliced_nil (by
    subst e
    have el := rr.length
    refine wp_toks ht (PyProof.Rows.len_list pl'.isList (by simp [el]; omega) fun ht2 => ?_)
    have := hQ s.heap (s.toks + 1 + 1) (.int xs.length (s.toks + 1)) ht2 (Le.refl _) (.rint _ _)
    simpa [el] using this)))))) rfl
theorem Ev.sub_own (K : C.Ok gl r) {x : Str} {xs : List D} {i : Expr} {n : Int} {d : D} {p px : Pos} (hx : σ.get x = some (.ol xs)) (hd : (x == ("__debug__" : Str)) = false) (H : Ev C σ i (.int n))
    (hs : ∀ o i', subscripted i false o i' = operate [o, i'] (getItem o i')) (h1 : -(xs.length : Int) ≤ n) (h2 : n < 2 ^ 62) (hi : xs[pyIdx xs.length n]? = some d) (hz : xs.length ≤ 1000000) :
    Ev C σ (.Subscript (.Name x px) i p) d := .mk fun X0 W s Q ht S hQ =>
  Subscript_ (name_slot K S hx hd fun v ⟨a, e, hm, vl, pl0, rr⟩ => H.run X0 W s _ ht S fun h' tk vi ht' l ri => by
    subst e
    cases ri with | rint _ u =>
    have pl := pl0.at (h' := h') fun o => l.get a o
    exact tail_any (Heap.IsList.typeIs (s := { s with heap := h', toks := tk }) pl.isList) slot_list_getitem.lookup (item_list_rp (s := { s with heap := h', toks := tk }) pl (rr.le l) h1 h2 hi (by omega) fun v rv => hQ h' tk v ht' l rv) (hs _ _))
/-- the same of anyone's -/
theorem P2.ne_nil (hu : C.A.units < cLine) (xs : List D) : P2 C (compareOp .NotEq) (.list xs) (.list []) (.bool (!xs.isEmpty)) := fun X s Q v1 v2 hX r1 r2 hQ => by
  cases r1 with | @rlist a vl _ ha pl rr => cases r2 with | @rlist b vb _ hb plb rb =>
  have hl := rr.length
  cases rb
  cases xs with
  | nil =>
    cases vl with
    | nil => exact SeqAt.RcNeAt.lists (e := fun _ => true) pl.isList plb.isList rfl hu (fun j h1 => by simp at h1) C.pr C.w _ _ (hQ s.heap s.toks _ (Le.refl _) (.rbool _))
    | cons => simp at hl
  | cons d xs =>
    cases vl with
    | nil => simp at hl
    | cons v vl => exact SeqAt.RcNeAt.lists_lengths pl.isList plb.isList (by simp) hu C.pr C.w _ _ (hQ s.heap s.toks _ (Le.refl _) (.rbool _))
end
end Mine

namespace Mine

section
variable {C : Cx} {gl : Str → Option Value} {r : Nat} {σ : VEnv} {P : Out → Prop}

/-! ### not in a list of texts, of tuples of texts -/
open Classical in
/-- an int in a list of ints -/
theorem P2.in_ints (k : Int) (ns : List Int) : P2 C (compareOp .In) (.int k) (.list (ns.map .int)) (.bool (decide (k ∈ ns))) := fun X s Q v1 v2 hX r1 r2 hQ => by
  cases r1 with | rint _ t => cases r2 with | @rlist a vl _ ha pl rr =>
  have hi : IntsAre vl ns := by
    clear pl hQ
    induction ns generalizing vl with
    | nil => cases rr; exact .nil
    | cons n ns ih => cases rr with | cons r rs => cases r; exact .cons _ _ (ih rs)
  refine PyProof.Rows.in_list_ints pl.isList hi ?_
  have e : ns.any (· == k) = decide (k ∈ ns) := by rw [Bool.eq_iff_iff]; simp
  first
    | (rw [e]; exact hQ s.heap s.toks _ (Le.refl _) (.rbool _))
    | (have := hQ s.heap s.toks _ (Le.refl _) (.rbool _); rw [← e] at this; exact this)
end
end Mine

namespace Mine

/-- at I stands an iterator that will give what bears ds -/
def Iter (C : Cx) (X : Addr → Prop) (h0 h : Heap) (t : Expr) (I : Addr) (ds : List D) : Prop :=
  ∃ fp P St', Walks C.pr C.w C.A I fp [I] ds.length P St' ∧ St' 0 h ∧ h0.objs.size ≤ I ∧ I < h.objs.size ∧ (∀ b ∈ fp, b = I ∨ (b ≠ I ∧ ¬ X b ∧ ∃ o, h.get? b = some o)) ∧
    (∀ i v, i < ds.length → P i v → ∃ d, ds[i]? = some d ∧ Rp C.pr C.w h (fun a => X a ∨ a = I) v d) ∧
    (∀ i (s : Shared) (v : Value) (Q : Unit → Shared → Prop), St' i s.heap → Q () s → wpAny (model C.pr C.w) C.A (letOwnedTupleGo t (.ref I) v) Q (fun _ _ => False) s)

/-- an expression over whose value one goes with the target t -/
structure EvIter (C : Cx) (σ : VEnv) (e t : Expr) (ds : List D) : Prop where
  run : ∀ (X0 : Addr → Prop) (W : List (Str × Addr)) (s : Shared) (Q : Value → Shared → Prop), C.t0 ≤ s.toks → St C X0 W σ s.heap →
  (∀ h' tk I, C.t0 ≤ tk → Le s.heap h' → Iter C (C.X X0 W) s.heap h' t I ds → Q (.ref I) { s with heap := h', toks := tk }) →
  wpAny (model C.pr C.w) C.A (eval e C.env) (fun x s₁ => wpAny (model C.pr C.w) C.A (pyIter x) Q (fun _ _ => False) s₁) (fun _ _ => False) s

section
variable {C : Cx} {gl : Str → Option Value} {r : Nat} {σ : VEnv} {P : Out → Prop}

def isName : Expr → Bool
  | .Name .. => true
  | _ => false
theorem letOwned_name {t : Expr} (h : isName t = true) (it v : Value) : letOwnedTupleGo t it v = pure () := by
  cases t <;> first | rfl | cases h

theorem letOwned_list {A : Around} {t : Expr} {I l : Addr} {i : Nat} {s : Shared} {v : Value} {Q : Unit → Shared → Prop} (hi : s.heap.IsListIter I l i) (hQ : Q () s) : wpAny (model C.pr C.w) A (letOwnedTupleGo t (.ref I) v) Q (fun _ _ => False) s := by
  obtain ⟨o, ho, hc, hd⟩ := hi
  unfold letOwnedTupleGo
  split
  · cases v with
    | ref a =>
      refine wpAny_bind (wpAny_load ho ?_)
      rw [hc, hd]
      exact wpAny_pure hQ
    | _ => exact wpAny_pure hQ
  · cases v with
    | ref a =>
      refine wpAny_bind (wpAny_load ho ?_)
      rw [hc, hd]
      exact wpAny_pure hQ
    | _ => exact wpAny_pure hQ
  · exact wpAny_pure hQ

theorem EvIter.list (K : C.Ok gl r) {e t : Expr} {ds : List D} (H : Ev C σ e (.list ds)) : EvIter C σ e t ds := .mk fun X0 W s Q ht S hQ => H.run X0 W s _ ht S fun h' tk v ht' l rv => by
  cases rv with | @rlist ax vs _ ha pl rr =>
  refine wpAny_pyIter_list pl.isList ?_
  obtain ⟨n, eax⟩ := pl
  have hne : ax ≠ h'.objs.size := Nat.ne_of_lt (Heap.lt_size eax)
  have el : ds.length = vs.toArray.size := by simp [rr.length]
  refine hQ _ tk _ ht' (l.trans (Le.push _ _)) ⟨[h'.objs.size, ax], fun i v => vs.toArray[i]? = some v, fun i h => h.IsListIter h'.objs.size ax i ∧ h.IsList ax vs.toArray, ?_, ?_, l.size, by rw [Heap.size_push]; exact Nat.lt_succ_self _, ?_, ?_, ?_⟩
  · rw [el]; exact Walks.list K.hand h'.objs.size ax hne vs.toArray
  · exact ⟨⟨_, Heap.get?_push_size _ rfl, rfl, rfl⟩, _, Heap.get?_push_of_some _ eax, rfl, n, rfl⟩
  · intro b hb
    simp at hb
    rcases hb with rfl | rfl
    · exact .inl rfl
    · exact .inr ⟨hne, ha, _, Heap.get?_push_of_some _ eax⟩
  · intro i v _ hv
    obtain ⟨d, hd, rd⟩ := rr.get (i := i) (v := v) (by simpa using hv)
    refine ⟨d, hd, (rd.forbid fun a ha => ?_).le (Le.push _ _)⟩
    rcases ha with ha | rfl
    · exact .inl ha
    · exact .inr (fresh_none (Nat.le_refl _))
  · intro i s2 v Q2 hst hq
    exact letOwned_list (C := C) hst.1 hq

theorem EvIter.str (K : C.Ok gl r) {e t : Expr} {x : T} (H : Ev C σ e (.str x)) (hn : isName t = true) : EvIter C σ e t (x.map fun c => .str [c]) := .mk fun X0 W s Q ht S hQ => H.run X0 W s _ ht S fun h' tk v ht' l rv => by
  cases rv with | rstr x t =>
  refine wpAny_pyIter_str fun o St' W' hst => ?_
  have el : (x.cps.toList.map fun c => D.str [c]).length = x.cps.size := by simp
  refine hQ _ tk _ ht' (l.trans (Le.push _ _)) ⟨[h'.objs.size], SignAt x, St', by rw [el]; exact W' C.A K.hand, hst, l.size, by rw [Heap.size_push]; exact Nat.lt_succ_self _, fun b hb => .inl (by simpa using hb), ?_, ?_⟩
  · rintro i v _ ⟨c, u, hc, rfl⟩
    exact ⟨.str [c], by simp [hc], .rstr ⟨#[c]⟩ u⟩
  · intro i s2 v Q2 _ hq
    exact wpAny_of_eq (letOwned_name hn _ _) hq

theorem range_small {a b : Int} (h1 : -1000000000 ≤ a) (h2 : a ≤ 1000000000) (h3 : -1000000000 ≤ b) (h4 : b ≤ 1000000000) : Builtin.Range.small a b 1 = true := by
  unfold Builtin.Range.small
  rw [rangeSize_one]
  have f : ∀ x : Int, -4000000000 ≤ x → x ≤ 4000000000 → Builtin.Range.rangeFitsLong x = true := fun x p q => by
    unfold Builtin.Range.rangeFitsLong
    simp only [Bool.and_eq_true, decide_eq_true_eq]; omega
  have : Builtin.Range.rangeFitsLong (if a < b then b - a else 0) = true := by split <;> exact f _ (by omega) (by omega)
  simp only [f a (by omega) (by omega), f b (by omega) (by omega), f 1 (by omega) (by omega), this, Bool.true_and]
  simp only [gt_iff_lt, Int.zero_lt_one, if_true, f (b + (1 - 1)) (by omega) (by omega), Bool.or_true]

theorem iter_range (K : C.Ok gl r) {X : Addr → Prop} {s : Shared} {Q : Value → Shared → Prop} {a b : Int} {t u v : Tok} {ra : Addr} {h0 : Heap} {tg : Expr} {n : Nat} (hl : Le h0 s.heap) (hr : IsRange s.heap ra a b 1 t u v) (hn : (n : Int) = if a < b then b - a else 0) (hnm : isName tg = true)
    (h1 : -1000000000 ≤ a) (h2 : a ≤ 1000000000) (h3 : -1000000000 ≤ b) (h4 : b ≤ 1000000000)
    (hQ : ∀ h' I, Le s.heap h' → Iter C X h0 h' tg I ((List.range n).map fun (k : Nat) => .int (a + k)) → Q (.ref I) { s with heap := h' }) : wpAny (model C.pr C.w) C.A (pyIter (.ref ra)) Q (fun _ _ => False) s := by
  refine wpAny_pyIter_range hr (range_small h1 h2 h3 h4) ?_
  have el : ((List.range n).map fun (k : Nat) => D.int (a + k)).length = n := by simp
  refine hQ _ _ (Le.push _ _) ⟨[s.heap.objs.size], _, _, by rw [el]; exact Walks.range K.hand s.heap.objs.size a 1 n, ?_, hl.size, by rw [Heap.size_push]; exact Nat.lt_succ_self _, fun b hb => .inl (by simpa using hb), ?_, ?_⟩
  · show IsRangeIter _ _ _ _ _
    rw [rangeSize_one, ← hn]
    have := Heap.get?_push_size s.heap (o := { cls := .type "range_iterator", data := .fields #[rawInt a, rawInt (n : Int), rawInt 1] }) rfl
    simpa using this
  · rintro i v hi ⟨t', rfl⟩
    rw [el] at hi
    refine ⟨.int (a + i), by simp [hi], ?_⟩
    rw [Int.mul_one]; exact .rint _ _
  · intro i s2 v Q2 _ hq
    exact wpAny_of_eq (letOwned_name hnm _ _) hq

theorem St.ext {X0 : Addr → Prop} {W : List (Str × Addr)} {h h' : Heap} {I : Addr} (S : St C X0 W σ h) (hz : h.objs.size ≤ h'.objs.size) (hk : ∀ b o, b ∉ [I] → h.get? b = some o → h'.get? b = some o) (hI : X0 I) (hI0 : C.h0.objs.size ≤ I) : St C X0 W σ h' := by
  have hk' : ∀ b o, ¬ C.X X0 W b → h.get? b = some o → h'.get? b = some o ∧ ¬ C.X X0 W b := fun b o hb e => ⟨hk b o (fun q => hb (by simp at q; exact q ▸ .inl hI)) e, hb⟩
  have hm' : ∀ b o, C.Mut W b → h.get? b = some o → h'.get? b = some o := fun b o hb e => hk b o (fun q => S.dis b hb (by simp at q; exact q ▸ hI)) e
  refine ⟨fun b o e => hk b o (fun q => ?_) (S.keep b o e), Nat.le_trans S.hsize hz, ?_, fun a ha => Nat.lt_of_lt_of_le (S.lt a ha) hz, S.dis, S.wN, S.wF, S.wU⟩
  · simp at q
    exact Nat.lt_irrefl _ (Nat.lt_of_lt_of_le (Heap.lt_size e) (q ▸ hI0))
  · obtain ⟨m, cm, hn, hc, hv⟩ := S.vars
    refine ⟨m, cm, hn.at' fun o e => hm' _ o (.inl rfl) e, fun n c e => ?_, fun x sl e => ?_⟩
    · obtain ⟨o, ho, hd⟩ := hc n c e
      refine ⟨o, ?_, hd⟩
      by_cases h0 : C.h0.objs.size ≤ c
      · exact hm' c o (.inr (.inl ⟨n, mem_of_lookup e, h0⟩)) ho
      · exact hk c o (fun q => h0 (by simp at q; exact q ▸ hI0)) ho
    · obtain ⟨v, hv1, hv2⟩ := hv x sl e
      refine ⟨v, hv1, ?_⟩
      cases sl with
      | fz d => exact Rp.mono hk' hv2
      | ol xs =>
        obtain ⟨a, e', hm, vs, p, q⟩ := hv2
        exact ⟨a, e', hm, vs, p.at fun o e => hm' a o (.inr (.inr ⟨x, hm⟩)) e, q.mono hk'⟩
      | od kvs =>
        obtain ⟨a, e', hm, hs, kts, p, q⟩ := hv2
        exact ⟨a, e', hm, hs, kts, DictOf_at1 p fun o e => hm' a o (.inr (.inr ⟨x, hm⟩)) e, q⟩

/-- the turns of a loop, one a thing -/
def ForL (C : Cx) (t : Expr) (tg : VEnv → D → VEnv) (body : List Stmt) : List D → VEnv → (Out → Prop) → Prop
  | [], σ, P => P (.next σ)
  | d :: ds, σ, P => As C σ t d (tg σ d) ∧ Exs C (tg σ d) body fun o => match o with | .next σ' => ForL C t tg body ds σ' P | .ret d => P (.ret d)

/-- what moves, the iterator at I aside -/
structure MvI (C : Cx) (I : Addr) (W : List (Str × Addr)) (h : Heap) (W' : List (Str × Addr)) (h' : Heap) : Prop where
  size : h.objs.size ≤ h'.objs.size
  get : ∀ b o, b ≠ I → h.get? b = some o → ¬ C.Mut W b → h'.get? b = some o ∧ ¬ C.Mut W' b
theorem MvI.refl (I : Addr) (W : List (Str × Addr)) (h : Heap) : MvI C I W h W h := ⟨Nat.le_refl _, fun _ _ _ e m => ⟨e, m⟩⟩
theorem MvI.trans {I : Addr} {W W' W'' : List (Str × Addr)} {h h' h'' : Heap} (x : MvI C I W h W' h') (y : MvI C I W' h' W'' h'') : MvI C I W h W'' h'' :=
  ⟨Nat.le_trans x.size y.size, fun b o hb e m => y.get b o hb (x.get b o hb e m).1 (x.get b o hb e m).2⟩
theorem Mv.i {I : Addr} {W W' : List (Str × Addr)} {h h' : Heap} (x : Mv C W h W' h') : MvI C I W h W' h' := ⟨x.size, fun b o _ e m => x.get b o e m⟩
theorem MvI.rp {I : Addr} {X0 : Addr → Prop} {W W' : List (Str × Addr)} {h h' : Heap} (m : MvI C I W h W' h') (hI : X0 I) {v : Value} {d : D} (rr : Rp C.pr C.w h (C.X X0 W) v d) : Rp C.pr C.w h' (C.X X0 W') v d :=
  rr.mono fun b o hb e => have hbI : b ≠ I := fun q => hb (q ▸ .inl hI); ⟨(m.get b o hbI e fun c => hb (.inr c)).1, fun c => c.elim (fun c => hb (.inl c)) (m.get b o hbI e fun c => hb (.inr c)).2⟩
theorem MvI.mv {I : Addr} {W W' : List (Str × Addr)} {h0 h h' : Heap} (m : MvI C I W h W' h') (l : Le h0 h) (hI : h0.objs.size ≤ I) : Mv C W h0 W' h' :=
  ⟨Nat.le_trans l.size m.size, fun b o e hm => m.get b o (fun q => Nat.lt_irrefl _ (Nat.lt_of_lt_of_le (Heap.lt_size e) (q ▸ hI))) (l.get b o e) hm⟩
theorem next_mvi {I : Addr} {W : List (Str × Addr)} {h h' : Heap} (hz : h.objs.size ≤ h'.objs.size) (hk : ∀ b o, b ∉ [I] → h.get? b = some o → h'.get? b = some o) : MvI C I W h W h' :=
  ⟨hz, fun b o hb e m => ⟨hk b o (by simpa using hb) e, m⟩⟩

theorem Ex.for_ (K : C.Ok gl r) {t e : Expr} {tg : VEnv → D → VEnv} {body : List Stmt} {p : Pos} {ds : List D} (H : EvIter C σ e t ds) (hb : ForL C t tg body ds σ P) (hs : ∀ x, foldedSetIterable e C.env x = pure x) :
    Ex C σ (.For t e body [] p) P := .mk fun X0 W s Q ht S R => by
  refine wpAny_For (H.run X0 W s _ ht S fun h' tk I ht' l ⟨fp, Pv, St', Wk, st0, hI0, hIs, hfp, hP, hown⟩ => ?_) hs
  have S1 : St C (fun b => X0 b ∨ b = I) W σ h' := S.forbid1 hI0 l hIs
  have hI0' : C.h0.objs.size ≤ I := Nat.le_trans S.hsize hI0
  refine codeAny_loop' (M := model C.pr C.w) rfl
    (fun n s' => ∃ i σ' W' h2 tk2, s' = { s with heap := h2, toks := tk2 } ∧ i ≤ ds.length ∧ n = ds.length - i ∧ C.t0 ≤ tk2 ∧ St' i h2 ∧ St C (fun b => X0 b ∨ b = I) W' σ' h2 ∧ MvI C I W h' W' h2 ∧ ForL C t tg body (ds.drop i) σ' P)
    ?_ ds.length ⟨0, σ, W, h', tk, rfl, Nat.zero_le _, rfl, ht', st0, S1, MvI.refl _ _ _, by simpa using hb⟩
  rintro n s' ⟨i, σ', W', h2, tk2, rfl, hi, rfl, ht2, st, S2, m2, hF⟩
  show wpAny _ C.A ((forTurn t (.ref I) body [] C.env).onRaise (fun x => do noteFrame x C.env; theTreesLotGoes x)) _ _ _
  refine wpAny_noted (wpAny_mono (E := fun _ _ => False) ?_ (fun _ _ x => x) fun _ _ x => x.elim)
  simp only [forTurn]
  refine wpAny_bind (wpAny_standAt (wpAny_bind (wpAny_onRaise (wpAny_mono (E := fun _ _ => False) (wp_toks ht2 (wp_size ?_)) (fun _ _ x => x) fun _ _ x => x.elim))))
  by_cases hlt : i < ds.length
  · refine Wk.item i _ _ _ hlt st fun v h3 tk3 hPv st3 hk3 hz3 ht3 => ?_
    obtain ⟨d, hd, rd⟩ := hP i v hlt hPv
    have S3 : St C (fun b => X0 b ∨ b = I) W' σ' h3 := S2.ext hz3 hk3 (.inr rfl) hI0'
    have hdrop : ds.drop i = d :: ds.drop (i + 1) := by rw [List.drop_eq_getElem_cons hlt]; congr 1; rw [List.getElem?_eq_getElem hlt] at hd; exact Option.some.inj hd
    rw [hdrop] at hF
    obtain ⟨hAs, hEx⟩ := hF
    have m3 : MvI C I W h' W' h3 := m2.trans (next_mvi hz3 hk3)
    have rd3 : Rp C.pr C.w h3 (C.X (fun b => X0 b ∨ b = I) W') v d := m3.rp (X0 := fun b => X0 b ∨ b = I) (.inr rfl) (rd.weaken fun a ha => by
      rcases ha with (q | q) | q
      · exact .inl (.inl q)
      · exact .inr q
      · exact .inl (.inr q))
    have fpk : ∀ {W2 : List (Str × Addr)} {h4 h5 : Heap}, MvI C I W h' W2 h4 → Mv C W2 h4 W2 h5 → True := fun _ _ => trivial
    refine wpAny_bind (hown (i + 1) _ v _ st3 (wpAny_bind (hAs.run _ W' _ v _ ht3 S3 rd3 fun W4 h4 tk4 ht4 S4 m4 => wpAny_bind (hEx.run _ W4 _ _ ht4 S4 ⟨fun σ5 W5 h5 tk5 hF5 ht5 S5 m5 => ?_, fun d5 v5 W5 σ5 h5 tk5 hp5 ht5 S5 m5 r5 => ?_⟩))))
    · have m6 : Mv C W' h3 W5 h5 := m4.trans m5
      refine wpAny_pure (.inl ⟨rfl, ds.length - (i + 1), by omega, i + 1, σ5, W5, h5, tk5, rfl, hlt, rfl, ht5, ?_, S5, m3.trans m6.i, hF5⟩)
      refine Wk.frame _ _ _ st3 fun b hb o e => ?_
      have hbm : ¬ C.Mut W' b := by
        rcases hfp b hb with rfl | ⟨hne, hnX, o0, e0⟩
        · exact fun q => S3.dis b q (.inr rfl)
        · exact (m3.get b o0 hne e0 fun q => hnX (.inr q)).2
      exact (m6.get b o e hbm).1
    · have m6 : MvI C I W h' W5 h5 := m3.trans (m4.trans m5).i
      exact wpAny_pure (R.ret d5 v5 W5 σ5 h5 tk5 hp5 ht5 (S5.weaken fun a => .inl) (m6.mv l hI0) (r5.weaken fun a ha => ha.imp .inl id))
  · have hie : i = ds.length := by omega
    subst hie
    refine Wk.done _ _ _ st fun h3 tk3 hk3 hz3 ht3 => ?_
    have S3 : St C (fun b => X0 b ∨ b = I) W' σ' h3 := S2.ext hz3 hk3 (.inr rfl) hI0'
    rw [List.drop_length] at hF
    have m3 : MvI C I W h' W' h3 := m2.trans (next_mvi hz3 hk3)
    exact wpAny_pure (.inr ⟨rfl, codeAny_block (wpAny_execs_nil (R.next σ' W' h3 tk3 hF ht3 (S3.weaken fun a => .inl) (m3.mv l hI0)))⟩)
end
end Mine

namespace Mine

section
variable {C : Cx} {gl : Str → Option Value} {r : Nat} {σ : VEnv} {P : Out → Prop}

theorem Ex.while_ (I : Nat → VEnv → Prop) {test : Expr} {body : List Stmt} {p : Pos}
    (H : ∀ n σ', I n σ' → ∃ b, Tr C σ' test b ∧ (b = false → P (.next σ')) ∧ (b = true → Exs C σ' body fun o => match o with | .next σ2 => ∃ m, m < n ∧ I m σ2 | .ret d => P (.ret d)))
    (n : Nat) (h : I n σ) : Ex C σ (.While test body [] p) P := .mk fun X0 W s Q ht S R => by
  refine wpAny_While (codeAny_whileLoop (fun n s' => ∃ σ' W' h2 tk2, s' = { s with heap := h2, toks := tk2 } ∧ C.t0 ≤ tk2 ∧ St C X0 W' σ' h2 ∧ Mv C W s.heap W' h2 ∧ I n σ') ?_ n ⟨σ, W, s.heap, s.toks, rfl, ht, S, Mv.refl _ _, h⟩)
  rintro n s' ⟨σ', W', h2, tk2, rfl, ht2, S2, m2, hI⟩
  obtain ⟨b, hT, h0, h1⟩ := H n σ' hI
  refine wpAny_mono (E := fun _ _ => False) (hT.run X0 W' _ _ ht2 S2 fun h3 tk3 ht3 l3 => ?_) (fun _ _ x => x) fun _ _ x => x.elim
  have m3 := m2.trans l3.mv
  cases b with
  | false =>
    rw [if_neg (by simp)]
    exact wpAny_execs_nil (R.next σ' W' h3 tk3 (h0 rfl) ht3 (S2.le l3) m3)
  | true =>
    rw [if_pos rfl]
    refine wpAny_mono (E := fun _ _ => False) ((h1 rfl).run X0 W' _ (fun f s₃ => match f with
            | .next | .cont => ∃ m, m < n ∧ ∃ σ' W' h2 tk2, s₃ = { s with heap := h2, toks := tk2 } ∧ C.t0 ≤ tk2 ∧ St C X0 W' σ' h2 ∧ Mv C W s.heap W' h2 ∧ I m σ'
            | .brk => Q .next s₃
            | .ret v => Q (.ret v) s₃) ht3 (S2.le l3) ⟨fun σ4 W4 h4 tk4 ⟨m, hm, hIm⟩ ht4 S4 m4 => ⟨m, hm, σ4, W4, h4, tk4, rfl, ht4, S4, m3.trans m4, hIm⟩, fun d4 v4 W4 σ4 h4 tk4 hp4 ht4 S4 m4 r4 => R.ret d4 v4 W4 σ4 h4 tk4 hp4 ht4 S4 (m3.trans m4) r4⟩) (fun f s3 x => by cases f <;> exact x) fun _ _ x => x.elim

/-! ### comprehensions -/
/-- all is kept but what E and the frame's own are -/
structure MvE (C : Cx) (E : Addr → Prop) (h h' : Heap) : Prop where
  size : h.objs.size ≤ h'.objs.size
  get : ∀ b o, ¬ E b → ¬ C.Mut [] b → h.get? b = some o → h'.get? b = some o
theorem MvE.refl (E : Addr → Prop) (h : Heap) : MvE C E h h := ⟨Nat.le_refl _, fun _ _ _ _ e => e⟩
theorem MvE.trans {E : Addr → Prop} {a b c : Heap} (x : MvE C E a b) (y : MvE C E b c) : MvE C E a c := ⟨Nat.le_trans x.size y.size, fun b o h1 h2 e => y.get b o h1 h2 (x.get b o h1 h2 e)⟩
theorem MvE.more {E E' : Addr → Prop} {a b : Heap} (x : MvE C E a b) (h : ∀ b, E b → E' b) : MvE C E' a b := ⟨x.size, fun b o h1 h2 e => x.get b o (fun q => h1 (h b q)) h2 e⟩
theorem MvE.rps {E X0 : Addr → Prop} {h h' : Heap} (m : MvE C E h h') (hE : ∀ b, E b → X0 b) {v : List Value} {d : List D} (rr : RpAll C.pr C.w h (C.X X0 []) v d) : RpAll C.pr C.w h' (C.X X0 []) v d :=
  rr.mono fun b o hb e => ⟨m.get b o (fun q => hb (.inl (hE b q))) (fun q => hb (.inr q)) e, hb⟩
theorem MvE.rp {E X0 : Addr → Prop} {h h' : Heap} (m : MvE C E h h') (hE : ∀ b, E b → X0 b) {v : Value} {d : D} (rr : Rp C.pr C.w h (C.X X0 []) v d) : Rp C.pr C.w h' (C.X X0 []) v d :=
  rr.mono fun b o hb e => ⟨m.get b o (fun q => hb (.inl (hE b q))) (fun q => hb (.inr q)) e, hb⟩

/-- what a turn does behind its item -/
def KSpec (C : Cx) (c : Code) (t : Expr) (it : Value) (K : Value → Sem Fin) (A : Addr) (σc : VEnv) (d : D) (out : List D) : Prop := ∀ (X0 : Addr → Prop) (s : Shared) (v : Value) (vs : List Value) (Q : Fin → Shared → Prop),
  C.t0 ≤ s.toks → St C X0 [] σc s.heap → X0 A → s.heap.PlainList A vs.toArray → vs.length + out.length ≤ 1000000 → Rp C.pr C.w s.heap (C.X X0 []) v d →
  (∀ Q' : Unit → Shared → Prop, Q' () s → wpAny (model C.pr C.w) C.A (letOwnedTupleGo t it v) Q' (fun _ _ => False) s) →
  (∀ h' tk vs', C.t0 ≤ tk → St C X0 [] σc h' → h'.PlainList A (vs ++ vs').toArray → RpAll C.pr C.w h' (C.X X0 []) vs' out → MvE C (· = A) s.heap h' → Q (.again c) { s with heap := h', toks := tk }) →
  wpAny (model C.pr C.w) C.A (K v) Q (fun _ _ => False) s

theorem St.sub {X0 : Addr → Prop} {W : List (Str × Addr)} {σ' : VEnv} {h : Heap} (S : St C X0 W σ' h) (hs : ∀ x sl, σ.get x = some sl → σ'.get x = some sl) : St C X0 W σ h :=
  ⟨S.keep, S.hsize, (by obtain ⟨m, cm, hn, hc, hv⟩ := S.vars; exact ⟨m, cm, hn, hc, fun x sl e => hv x sl (hs x sl e)⟩), S.lt, S.dis, S.wN, S.wF, S.wU⟩
theorem comp_loop {c : Code} {σc : VEnv} {t : Expr} {I A : Addr} {ds : List D} {em : D → List D} {X0 : Addr → Prop} {s : Shared} {vs0 : List Value} {R : Result → Shared → Prop} {hd : Value → Sem Unit} {p : Pos} {K : Value → Sem Fin}
    (hq : c.quiet = true) (hun : C.A.under c = C.A) (hden : (model C.pr C.w).den c = ((standAt p >>= fun _ => pyNext (.ref I) >>= fun r => match r with | none => pure (.done .next) | some v => K v) : Sem Fin).onRaise hd)
    (ht : C.t0 ≤ s.toks) (S : St C X0 [] σc s.heap) (hA0 : C.h0.objs.size ≤ A) (hI0 : C.h0.objs.size ≤ I) (hXA : X0 A) (hXI : X0 I) (hAI : A ≠ I)
    {fp : List Addr} {Pv : Nat → Value → Prop} {St' : Nat → Heap → Prop} (Wk : Walks C.pr C.w C.A I fp [I] ds.length Pv St') (st0 : St' 0 s.heap)
    (hfp : ∀ b ∈ fp, b = I ∨ (b ≠ I ∧ ¬ C.X X0 [] b ∧ ∃ o, s.heap.get? b = some o))
    (hP : ∀ i v, i < ds.length → Pv i v → ∃ d, ds[i]? = some d ∧ Rp C.pr C.w s.heap (C.X X0 []) v d)
    (hown : ∀ i (s : Shared) (v : Value) (Q : Unit → Shared → Prop), St' i s.heap → Q () s → wpAny (model C.pr C.w) C.A (letOwnedTupleGo t (.ref I) v) Q (fun _ _ => False) s)
    (pl0 : s.heap.PlainList A vs0.toArray) (hz : vs0.length + (ds.flatMap em).length ≤ 1000000)
    (hK : ∀ d ∈ ds, KSpec C c t (.ref I) K A σc d (em d))
    (hR : ∀ h' tk vs, C.t0 ≤ tk → St C X0 [] σc h' → h'.PlainList A (vs0 ++ vs).toArray → RpAll C.pr C.w h' (C.X X0 []) vs (ds.flatMap em) → MvE C (fun b => b = A ∨ b = I) s.heap h' → R (.ok .next) { s with heap := h', toks := tk }) :
    codeAny (model C.pr C.w) C.A c R s := by
  refine codeAny_loop hq (fun n s' => ∃ i h2 tk2 vs, s' = { s with heap := h2, toks := tk2 } ∧ i ≤ ds.length ∧ n = ds.length - i ∧ C.t0 ≤ tk2 ∧ St' i h2 ∧ St C X0 [] σc h2 ∧ h2.PlainList A (vs0 ++ vs).toArray ∧
      RpAll C.pr C.w h2 (C.X X0 []) vs ((ds.take i).flatMap em) ∧ MvE C (fun b => b = A ∨ b = I) s.heap h2) ?_ ds.length
    ⟨0, s.heap, s.toks, [], rfl, Nat.zero_le _, rfl, ht, st0, S, by simpa using pl0, .nil, MvE.refl _ _⟩
  rintro n s' ⟨i, h2, tk2, vs, rfl, hi, rfl, ht2, st, S2, pl2, rr2, m2⟩
  rw [hun, hden]
  have hEX : ∀ b, (b = A ∨ b = I) → X0 b := fun b hb => hb.elim (fun q => q ▸ hXA) fun q => q ▸ hXI
  refine wpAny_onRaise (wpAny_mono (E := fun _ _ => False) ?_ (fun _ _ x => x) fun _ _ x => x.elim)
  refine wpAny_bind (wpAny_standAt (wpAny_bind (wp_toks ht2 (wp_size ?_))))
  by_cases hlt : i < ds.length
  · refine Wk.item i _ _ _ hlt st fun v h3 tk3 hPv st3 hk3 hz3 ht3 => ?_
    obtain ⟨d, hd, rd⟩ := hP i v hlt hPv
    have S3 : St C X0 [] σc h3 := S2.ext hz3 hk3 hXI hI0
    have m3 : MvE C (fun b => b = A ∨ b = I) h2 h3 := ⟨hz3, fun b o hb _ e => hk3 b o (fun q => hb (.inr (by simpa using q))) e⟩
    have hmem : d ∈ ds := by rw [List.getElem?_eq_getElem hlt] at hd; exact Option.some.inj hd ▸ List.getElem_mem hlt
    have htake : (ds.take (i + 1)).flatMap em = (ds.take i).flatMap em ++ em d := by
      rw [List.take_add_one, hd]; simp
    have hlen := rr2.length
    have hle : ((ds.take (i + 1)).flatMap em).length ≤ (ds.flatMap em).length := by
      conv => rhs; rw [← List.take_append_drop (i + 1) ds, List.flatMap_append, List.length_append]
      omega
    rw [htake, List.length_append] at hle
    have rd3 : Rp C.pr C.w h3 (C.X X0 []) v d := (m2.trans m3).rp hEX rd
    refine hK d hmem X0 _ v (vs0 ++ vs) _ ht3 S3 hXA (pl2.at fun o e => hk3 A o (by simpa using hAI) e) (by rw [List.length_append, hlen]; omega) rd3 (fun Q' hq' => hown (i + 1) _ v Q' st3 hq') fun h4 tk4 vs' ht4 S4 pl4 rr4 m4 => ?_
    refine ⟨rfl, ds.length - (i + 1), by omega, i + 1, h4, tk4, vs ++ vs', rfl, hlt, rfl, ht4, ?_, S4, by rw [← List.append_assoc]; exact pl4, ?_, (m2.trans m3).trans (m4.more fun b => .inl)⟩
    · refine Wk.frame _ _ _ st3 fun b hb o e => ?_
      rcases hfp b hb with rfl | ⟨hne, hnX, o0, e0⟩
      · exact m4.get b o (fun q => hAI q.symm) (fun q => S3.dis b q hXI) e
      · exact m4.get b o (fun q => hnX (q ▸ .inl hXA)) (fun q => hnX (.inr q)) e
    · rw [htake]
      exact (((m3.rps hEX rr2)) |> fun q => m4.rps (fun b hb => hb ▸ hXA) q).append rr4
  · have hie : i = ds.length := by omega
    subst hie
    refine Wk.done _ _ _ st fun h3 tk3 hk3 hz3 ht3 => ?_
    have S3 : St C X0 [] σc h3 := S2.ext hz3 hk3 hXI hI0
    have m3 : MvE C (fun b => b = A ∨ b = I) h2 h3 := ⟨hz3, fun b o hb _ e => hk3 b o (fun q => hb (.inr (by simpa using q))) e⟩
    rw [List.take_length] at rr2
    exact wpAny_pure (hR h3 tk3 vs ht3 S3 (pl2.at fun o e => hk3 A o (by simpa using hAI) e) (m3.rps hEX rr2) (m2.trans m3))
end
end Mine

namespace Mine

section
variable {C : Cx} {gl : Str → Option Value} {r : Nat} {σ : VEnv} {P : Out → Prop}

theorem St.forbid {X0 F : Addr → Prop} {W : List (Str × Addr)} {h h' : Heap} (S : St C X0 W σ h) (hF : ∀ a, F a → h.objs.size ≤ a ∧ a < h'.objs.size) (l : Le h h') : St C (fun b => X0 b ∨ F b) W σ h' where
  keep := fun b o e => l.get _ _ (S.keep b o e)
  hsize := Nat.le_trans S.hsize l.size
  vars := by
    obtain ⟨m, cm, hn, hc, hv⟩ := S.vars
    refine ⟨m, cm, hn.keeps l.get, fun n c e => (hc n c e).keeps l.get, fun x sl e => ?_⟩
    obtain ⟨v, hv1, hv2⟩ := hv x sl e
    refine ⟨v, hv1, ?_⟩
    have hf : ∀ c, C.X (fun b => X0 b ∨ F b) W c → C.X X0 W c ∨ h.get? c = none := fun c hc => by
      rcases hc with (q | q) | q
      · exact .inl (.inl q)
      · exact .inr (fresh_none (hF c q).1)
      · exact .inl (.inr q)
    cases sl with
    | fz d => exact (Rp.forbid hv2 hf).le l
    | ol xs =>
      obtain ⟨a', e', hm, vs, p, q⟩ := hv2
      exact ⟨a', e', hm, vs, p.at (fun o => l.get a' o), (q.forbid hf).le l⟩
    | od kvs =>
      obtain ⟨a', e', hm, hss, kts, p, q⟩ := hv2
      exact ⟨a', e', hm, hss, kts, DictOf_at1 p (fun o => l.get a' o), q⟩
  lt := fun c hc => by
    rcases hc with (q | q) | q
    · exact Nat.lt_of_lt_of_le (S.lt c (.inl q)) l.size
    · exact (hF c q).2
    · exact Nat.lt_of_lt_of_le (S.lt c (.inr q)) l.size
  dis := fun c hc q => q.elim (S.dis c hc) fun e => Nat.lt_irrefl _ (Nat.lt_of_lt_of_le (S.lt c (.inr hc)) (hF c e).1)
  wN := S.wN
  wF := S.wF
  wU := S.wU

/-- the frame of a comprehension -/
def Cx.comp (C : Cx) (scope : Scope) (cl : List (Str × Addr)) (Ca : Addr) (h : Heap) : Cx := { C with env := compEnvC scope cl Ca C.env, h0 := h }

/-- what a comprehension sees: names of the frame's, captured -/
structure Cap (C : Cx) (scope : Scope) (cl : List (Str × Addr)) (σ σc : VEnv) : Prop where
  clos : closureFor scope C.env = pure cl
  sub : ∀ n c, cl.lookup n = some c → C.env.cells.lookup n = some c
  mem : ∀ n c, (n, c) ∈ cl → ∃ n', C.env.cells.lookup n' = some c
  vars : ∀ x sl, σc.get x = some sl → (∃ d, sl = .fz d) ∧ σ.get x = some sl ∧ C.env.kindOf x ≠ some .local ∧ (cl.lookup x).isSome = true ∧
    ∀ Ca, ((compEnvC scope cl Ca C.env).kindOf x = some .cell ∨ ((compEnvC scope cl Ca C.env).kindOf x = some .free ∧ (x == ("__classdict__" : Str)) = false))

theorem Cx.Ok.comp (K : C.Ok gl r) {scope : Scope} {cl : List (Str × Addr)} {Ca : Addr} {X0 : Addr → Prop} {W : List (Str × Addr)} {h : Heap} (S : St C X0 W σ h) (hk : scope.kind = .function) (hC : h.objs.size ≤ Ca)
    (hm : ∀ n c, (n, c) ∈ cl → ∃ n', C.env.cells.lookup n' = some c) : (C.comp scope cl Ca h).Ok gl r where
  kind := hk
  hand := K.hand
  depth := K.depth
  units := K.units
  globals := K.globals
  builtins := K.builtins
  base := K.base.keeps S.keep
  cellL := fun n c hc e => by
    obtain ⟨n', e'⟩ := hm n c hc
    obtain ⟨m, cm, hn, hcell, _⟩ := S.vars
    have := (hcell n' c e').lt
    exact Nat.lt_irrefl _ (Nat.lt_of_lt_of_le this (e ▸ hC))
  Lhi := hC

theorem comp_state {X0 : Addr → Prop} {W : List (Str × Addr)} {h h1 : Heap} {scope : Scope} {cl : List (Str × Addr)} {σc : VEnv} {Ca A I : Addr} (S : St C X0 W σ h) (cap : Cap C scope cl σ σc)
    (hA : h.objs.size ≤ A) (hI : h.objs.size ≤ I) (hC : h.objs.size ≤ Ca) (hA1 : A < h1.objs.size) (hI1 : I < h1.objs.size) (hC1 : Ca < h1.objs.size) (hAC : A ≠ Ca) (hIC : I ≠ Ca) (l : Le h h1) {m0 : Str → Option Value} (hn : h1.Ns Ca m0) :
    St (C.comp scope cl Ca h) (fun a => C.X X0 W a ∨ a = A ∨ a = I) [] σc h1 := by
  obtain ⟨m, cm, hns, hcell, hv⟩ := S.vars
  have hcl : ∀ n c, (n, c) ∈ cl → c < h.objs.size := fun n c hc => by
    obtain ⟨n', e'⟩ := cap.mem n c hc
    exact (hcell n' c e').lt
  have hmut : ∀ a, (C.comp scope cl Ca h).Mut [] a → a = Ca := fun a ha => by
    rcases ha with q | ⟨n, q, q'⟩ | ⟨_, q⟩
    · exact q
    · exact absurd (hcl n a q) (Nat.not_lt.mpr q')
    · cases q
  refine ⟨l.get, l.size, ⟨m0, cm, hn, fun n c e => (hcell n c (cap.sub n c e)).keeps l.get, fun x sl e => ?_⟩, fun a ha => ?_, fun a ha q => ?_, by simp, fun x a e => (nomatch e), fun x a b e => (nomatch e)⟩
  · obtain ⟨⟨d, rfl⟩, e1, e2, e3, e4⟩ := cap.vars x sl e
    obtain ⟨v, hv1, hv2⟩ := hv x _ e1
    refine ⟨v, .inr ⟨e4 Ca, e3, ?_⟩, ?_⟩
    · rcases hv1 with ⟨q, _⟩ | ⟨_, _, q⟩
      · exact absurd q e2
      · exact q
    · refine (Rp.forbid hv2 fun a ha => ?_).le l
      rcases ha with (q | rfl | rfl) | q
      · exact .inl q
      · exact .inr (fresh_none hA)
      · exact .inr (fresh_none hI)
      · exact .inr (hmut a q ▸ fresh_none hC)
  · rcases ha with (q | rfl | rfl) | q
    · exact Nat.lt_of_lt_of_le (S.lt a q) l.size
    · exact hA1
    · exact hI1
    · exact hmut a q ▸ hC1
  · have := hmut a ha
    subst this
    rcases q with q | q | q
    · exact not_X S hC q
    · exact hAC q.symm
    · exact hIC q.symm

/-- the comprehension's own work: from the iterator to the list that is filled -/
theorem comp_core (K : C.Ok gl r) {elt t iter : Expr} {ifs : List Expr} {rest : List Comprehension} {scope : Scope} {cl : List (Str × Addr)} {pos : Pos} {σc : VEnv} {ds : List D} {em : D → List D} {X0 : Addr → Prop} {W : List (Str × Addr)} {s : Shared} {h' : Heap} {tk : Nat} {I : Addr}
    {RR : Value → Addr → Result → Shared → Prop}
    (S : St C X0 W σ s.heap) (ht : C.t0 ≤ tk) (l : Le s.heap h') (hIt : Iter C (C.X X0 W) s.heap h' t I ds) (cap : Cap C scope cl σ σc) (hcell : ∀ y ∈ scope.names, y.2 ≠ .cell) (hkind : scope.kind = .function) (hz : (ds.flatMap em).length ≤ 1000000)
    (hden : ∀ (acc : Value) (env : Env), ∃ p K hd, (model C.pr C.w).den (.compLoop (.ListComp elt (⟨t, iter, ifs, 0⟩ :: rest) scope pos) 0 (.ref I) acc env) = ((standAt p >>= fun _ => pyNext (.ref I) >>= fun r => match r with | none => pure (.done .next) | some v => K v) : Sem Fin).onRaise hd ∧
      ∀ Ca A, acc = .ref A → env = compEnvC scope cl Ca C.env → (C.comp scope cl Ca s.heap).Ok gl r → s.heap.objs.size ≤ A → ∀ d ∈ ds, KSpec (C.comp scope cl Ca s.heap) (.compLoop (.ListComp elt (⟨t, iter, ifs, 0⟩ :: rest) scope pos) 0 (.ref I) acc env) t (.ref I) K A σc d (em d))
    (hRR : ∀ A Ca h4 tk4 m vs, C.t0 ≤ tk4 → s.heap.objs.size ≤ A → A < h4.objs.size → s.heap.objs.size ≤ Ca → Ca < h4.objs.size → A ≠ Ca → Le s.heap h4 → h4.Ns Ca m → h4.PlainList A vs.toArray → RpAll C.pr C.w h4 (fun b => C.X X0 W b ∨ b = A ∨ b = Ca) vs (ds.flatMap em) → RR (.ref A) Ca (.ok .next) { s with heap := h4, toks := tk4 }) :
    wpAny (model C.pr C.w) C.A (newList []) (fun acc s₃ => wpAny (model C.pr C.w) C.A (newFunctionEnv scope C.env.globals cl [] C.env.qual none .none (some C.env)) (fun cenv s₄ =>
      codeAny (model C.pr C.w) C.A (.compStart (.ListComp elt (⟨t, iter, ifs, 0⟩ :: rest) scope pos) 0 (.ref I) acc { cenv with scope := relabel scope C.env }) (RR acc cenv.locals) s₄) (fun _ _ => False) s₃) (fun _ _ => False) { s with heap := h', toks := tk } := by
  obtain ⟨fp, Pv, St', Wk, st0, hI0, hIs, hfp, hP, hown⟩ := hIt
  refine wpAny_newList (wpAny_newFunctionEnv hcell (by intro y hy; simp at hy) (fun h₁ hns₁ hsb₁ => ?_) hkind) (by simp [sizeLine_eq])
  dsimp only at hns₁ hsb₁ ⊢
  generalize hH2 : h'.push { cls := .type "list", data := .seq ([] : List Value).toArray } = H2 at hns₁ hsb₁ ⊢
  have hC : H2.objs.size = h'.objs.size + 1 := by rw [← hH2, Heap.size_push]
  have hsz1 : h₁.objs.size = H2.objs.size + 1 := by rw [hsb₁.1, Heap.size_push]
  have hls : s.heap.objs.size ≤ h'.objs.size := l.size
  have hIs' : h'.objs.size > I := hIs
  have hAC : h'.objs.size ≠ H2.objs.size := by omega
  have old : ∀ b o, h'.get? b = some o → h₁.get? b = some o := fun b o e => hsb₁.extBut b o (by have : h'.objs.size > b := Heap.lt_size e; show @Ne Nat _ _; omega) (Heap.get?_push_of_some _ (hH2 ▸ Heap.get?_push_of_some _ e))
  have l1 : Le h' h₁ := ⟨by omega, old⟩
  have pl1 : h₁.PlainList h'.objs.size ([] : List Value).toArray := ⟨0, hsb₁.extBut _ _ hAC (Heap.get?_push_of_some _ (hH2 ▸ Heap.get?_push_size _ rfl))⟩
  have hIn : I ≠ h'.objs.size := Nat.ne_of_lt hIs
  have S2 := comp_state (Ca := H2.objs.size) (A := h'.objs.size) (I := I) S cap hls hI0 (by omega) (by show @LT.lt Nat _ _ _; omega) (by show @LT.lt Nat _ _ _; omega) (by show @LT.lt Nat _ _ _; omega) hAC (by show @Ne Nat _ _; omega) (l.trans l1) hns₁
  have K2 := K.comp S (Ca := H2.objs.size) hkind (by omega) cap.mem
  generalize hs4 : ({ s with heap := h₁, toks := tk + ([] : List (Str × Value)).length } : Shared) = s4
  have st1 : St' 0 h₁ := Wk.frame _ _ _ st0 fun b _ o e => old b o e
  have hmutC : ∀ b, (C.comp scope cl H2.objs.size s.heap).Mut [] b → b = H2.objs.size := fun b hb => by
    rcases hb with q | ⟨n, q, q'⟩ | ⟨_, q⟩
    · exact q
    · obtain ⟨n', e'⟩ := cap.mem n b q
      obtain ⟨m, cm, _, hcl, _⟩ := S.vars
      exact absurd (hcl n' b e').lt (Nat.not_lt.mpr q')
    · cases q
  have loop : codeAny (model C.pr C.w) C.A (.compLoop (.ListComp elt (⟨t, iter, ifs, 0⟩ :: rest) scope pos) 0 (.ref I) (.ref h'.objs.size) (compEnvC scope cl H2.objs.size C.env)) (RR (.ref h'.objs.size) H2.objs.size) s4 := by
    subst hs4
    obtain ⟨p, Kt, hd, hden1, hK⟩ := hden (.ref h'.objs.size) (compEnvC scope cl H2.objs.size C.env)
    refine comp_loop (C := C.comp scope cl H2.objs.size s.heap) (I := I) (A := h'.objs.size) (ds := ds) (em := em) (vs0 := []) rfl rfl hden1 (show C.t0 ≤ tk + 0 from ht) S2 hls hI0 (.inr (.inl rfl)) (.inr (.inr rfl)) (Ne.symm hIn)
      Wk st1 (fun b hb => ?_) (fun i v hi hPv => ?_) hown pl1 (by simpa using hz) (hK _ _ rfl rfl K2 hls) fun h4 tk4 vs ht4 S4 pl4 rr4 m4 => ?_
    · rcases hfp b hb with rfl | ⟨hne, hnX, o, e⟩
      · exact .inl rfl
      · refine .inr ⟨hne, fun q => ?_, o, old b o e⟩
        have hlt : h'.objs.size > b := Heap.lt_size e
        rcases q with (q | rfl | rfl) | q
        · exact hnX q
        · exact Nat.lt_irrefl _ hlt
        · exact hne rfl
        · have e2 : b = H2.objs.size := hmutC b q
          rw [e2] at hlt; omega
    · obtain ⟨d, hd, rd⟩ := hP i v hi hPv
      refine ⟨d, hd, (rd.forbid fun a ha => ?_).le l1⟩
      rcases ha with (q | rfl | rfl) | q
      · exact .inl (.inl q)
      · exact .inr (fresh_none (Nat.le_refl _))
      · exact .inl (.inr rfl)
      · exact .inr (hmutC a q ▸ fresh_none (by omega))
    · obtain ⟨m, cm, hn4, _, _⟩ := S4.vars
      have hz4 := m4.size
      dsimp only at hz4
      refine hRR h'.objs.size H2.objs.size h4 tk4 m vs ht4 hls (by show @LT.lt Nat _ _ _; omega) (by omega) (by show @LT.lt Nat _ _ _; omega) hAC ⟨by omega, fun b o e => ?_⟩ hn4 (by simpa using pl4) (rr4.weaken fun a ha => ?_)
      · have hlt : s.heap.objs.size > b := Heap.lt_size e
        exact m4.get b o (fun q => by rcases q with q | q <;> (rw [q] at hlt; omega)) (fun q => by rw [hmutC b q] at hlt; omega) (old b o (l.get b o e))
      · rcases ha with q | q | q
        · exact .inl (.inl q)
        · exact .inl (.inr (.inl q))
        · exact .inr (.inl q)
  subst hs4
  exact codeAny_compStart_list loop (Wk.self 0 _ _ _ st1 loop)

theorem St.dropAll {X0 : Addr → Prop} {W : List (Str × Addr)} {h : Heap} (S : St C X0 W σ h) (hf : ∀ x sl, σ.get x = some sl → ∃ d, sl = .fz d) : St C X0 [] σ h where
  keep := S.keep
  hsize := S.hsize
  vars := by
    obtain ⟨m, cm, hn, hc, hv⟩ := S.vars
    refine ⟨m, cm, hn, hc, fun x sl e => ?_⟩
    obtain ⟨d, rfl⟩ := hf x sl e
    obtain ⟨v, hv1, hv2⟩ := hv x _ e
    exact ⟨v, hv1, Rp.weaken hv2 fun a ha => ha.imp id mut_nil⟩
  lt := fun a ha => S.lt a (ha.imp id mut_nil)
  dis := fun a ha => S.dis a (mut_nil ha)
  wN := by simp
  wF := fun _ _ e => nomatch e
  wU := fun _ _ _ e => nomatch e

theorem SameBut_le {h h' h'' : Heap} {a : Addr} (l : Le h h') (hs : Heap.SameBut a h' h'') (ha : h.objs.size ≤ a) : Le h h'' :=
  ⟨by rw [hs.1]; exact l.size, fun b o e => (hs.2 b (Nat.ne_of_lt (Nat.lt_of_lt_of_le (Heap.lt_size e) ha))).trans (l.get b o e)⟩

/-- a comprehension makes a list -/
theorem EvF.comp (K : C.Ok gl r) {elt t iter : Expr} {ifs : List Expr} {rest : List Comprehension} {scope : Scope} {cl : List (Str × Addr)} {pos : Pos} {σc : VEnv} {ds : List D} {em : D → List D}
    (H : EvIter C σ iter t ds) (hs : ∀ x, foldedSetIterable iter C.env x = pure x) (cap : Cap C scope cl σ σc) (hcell : ∀ y ∈ scope.names, y.2 ≠ .cell) (hkind : scope.kind = .function)
    (hnames : ∀ y ∈ scope.names, y.2 = .local → scope.names.lookup y.1 = some .local) (hz : (ds.flatMap em).length ≤ 1000000)
    (hden : ∀ (I : Addr) (acc : Value) (env : Env), ∃ p K hd, (model C.pr C.w).den (.compLoop (.ListComp elt (⟨t, iter, ifs, 0⟩ :: rest) scope pos) 0 (.ref I) acc env) = ((standAt p >>= fun _ => pyNext (.ref I) >>= fun r => match r with | none => pure (.done .next) | some v => K v) : Sem Fin).onRaise hd ∧
      ∀ h Ca A, acc = .ref A → env = compEnvC scope cl Ca C.env → (C.comp scope cl Ca h).Ok gl r → h.objs.size ≤ A → (∀ b o, C.h0.get? b = some o → h.get? b = some o) → ∀ d ∈ ds, KSpec (C.comp scope cl Ca h) (.compLoop (.ListComp elt (⟨t, iter, ifs, 0⟩ :: rest) scope pos) 0 (.ref I) acc env) t (.ref I) K A σc d (em d)) :
    EvF C σ (.ListComp elt (⟨t, iter, ifs, 0⟩ :: rest) scope pos) (.ol (ds.flatMap em)) := .mk fun X0 W s Q ht S hQ => by
  rw [eval_ListComp]
  refine wpAny_comprehension_free (use := none) rfl hs cap.clos hkind hnames (H.run X0 W s _ ht S fun h' tk I ht' l hIt => ?_)
  refine comp_core (RR := fun acc Ca => compPost (model C.pr C.w) C.A (fun _ _ => False) none Q acc Ca) K S ht' l hIt cap hcell hkind hz (fun acc env => ?_) fun A Ca h4 tk4 m vs ht4 hA hA4 hC hC4 hAC l4 hn4 pl4 rr4 => ?_
  · obtain ⟨p, Kt, hd, e, hK⟩ := hden I acc env
    exact ⟨p, Kt, hd, e, fun Ca A h1 h2 h3 h4 => hK s.heap Ca A h1 h2 h3 h4 S.keep⟩
  · refine ⟨m, hn4, fun h5 hs5 => ?_⟩
    have l5 := SameBut_le l4 hs5 hC
    exact hQ h5 tk4 A ht4 l5 hA (by rw [hs5.1]; exact hA4) ⟨vs, pl4.at fun o e => (hs5.2 A hAC).trans e, rr4.mono fun b o hb e => ⟨(hs5.2 b fun q => hb (.inr (.inr q))).trans e, fun q => hb (q.imp id .inl)⟩⟩

/-- x = [..] as the machine stores it: within the comprehension's end -/
theorem Ex.assign_comp (K : C.Ok gl r) {elt t iter : Expr} {ifs : List Expr} {rest : List Comprehension} {scope : Scope} {cl : List (Str × Addr)} {pos p px : Pos} {σc : VEnv} {ds : List D} {em : D → List D} {x : Str}
    (H : EvIter C σ iter t ds) (hs : ∀ x, foldedSetIterable iter C.env x = pure x) (cap : Cap C scope cl σ σc) (hcell : ∀ y ∈ scope.names, y.2 ≠ .cell) (hkind : scope.kind = .function)
    (hnames : ∀ y ∈ scope.names, y.2 = .local → scope.names.lookup y.1 = some .local) (hz : (ds.flatMap em).length ≤ 1000000)
    (hden : ∀ (I : Addr) (acc : Value) (env : Env), ∃ p K hd, (model C.pr C.w).den (.compLoop (.ListComp elt (⟨t, iter, ifs, 0⟩ :: rest) scope pos) 0 (.ref I) acc env) = ((standAt p >>= fun _ => pyNext (.ref I) >>= fun r => match r with | none => pure (.done .next) | some v => K v) : Sem Fin).onRaise hd ∧
      ∀ h Ca A, acc = .ref A → env = compEnvC scope cl Ca C.env → (C.comp scope cl Ca h).Ok gl r → h.objs.size ≤ A → (∀ b o, C.h0.get? b = some o → h.get? b = some o) → ∀ d ∈ ds, KSpec (C.comp scope cl Ca h) (.compLoop (.ListComp elt (⟨t, iter, ifs, 0⟩ :: rest) scope pos) 0 (.ref I) acc env) t (.ref I) K A σc d (em d))
    (hsw : swapsWith (.ListComp elt (⟨t, iter, ifs, 0⟩ :: rest) scope pos) (some (.Name x px)) p.line C.env = pure true) (hx : Sto C x) (hp : P (.next (σ.set x (.ol (ds.flatMap em))))) :
    Ex C σ (.Assign [.Name x px] (.ListComp elt (⟨t, iter, ifs, 0⟩ :: rest) scope pos) p) P := .mk fun X0 W s Q ht S R => by
  rw [exec_Assign_Name_used _ _ _ _ hsw]
  refine wpAny_bind (wpAny_standAt (wpAny_bind ?_))
  show wpAny _ C.A (do let _ ← comprehension (.ListComp elt (⟨t, iter, ifs, 0⟩ :: rest) scope pos) scope C.env _ (newList []) false (eval iter C.env) (some (PySem.assign (.Name x px) C.env))) _ _ s
  refine wpAny_bind (wpAny_mono (wpAny_comprehension_free (use := some (PySem.assign (.Name x px) C.env)) (Q := fun _ s' => Q .next s') rfl hs cap.clos hkind hnames (H.run X0 W s _ ht S fun h' tk I ht' l hIt => ?_)) (fun _ s' hq => wpAny_pure (wpAny_pure hq)) fun _ _ e => e)
  refine comp_core (RR := fun acc Ca => compPost (model C.pr C.w) C.A (fun _ _ => False) (some (PySem.assign (.Name x px) C.env)) (fun _ s' => Q .next s') acc Ca) K S ht' l hIt cap hcell hkind hz (fun acc env => ?_) fun A Ca h4 tk4 m vs ht4 hA hA4 hC hC4 hAC l4 hn4 pl4 rr4 => ?_
  · obtain ⟨p, Kt, hd, e, hK⟩ := hden I acc env
    exact ⟨p, Kt, hd, e, fun Ca A h1 h2 h3 h4 => hK s.heap Ca A h1 h2 h3 h4 S.keep⟩
  · show wpAny _ C.A (PySem.assign (.Name x px) C.env (.ref A)) _ _ _
    have S4 : St C (fun b => (X0 b ∨ b = Ca) ∨ b = A) W σ h4 := (S.forbid (F := fun b => b = Ca ∨ b = A) (fun a ha => by rcases ha with rfl | rfl; exact ⟨hC, hC4⟩; exact ⟨hA, hA4⟩) l4).weaken fun a ha => by
      rcases ha with (q | q) | q
      · exact .inl q
      · exact .inr (.inl q)
      · exact .inr (.inr q)
    refine wpAny_assign_Name (wp_toks ht4 (store_own (X0 := fun b => X0 b ∨ b = Ca) (sl := .ol (ds.flatMap em)) K hx S4 (Nat.le_trans S.hsize hA) (fun q => q.elim (fun q => not_X S hA (.inl q)) hAC) ⟨vs, pl4, rr4.weaken fun a ha => ?_⟩ (fun _ => by simp) fun h5 tk5 S5 m5 ht5 => ?_))
    · rcases ha with ((q | q) | q) | q
      · exact .inl (.inl q)
      · exact .inr (.inr q)
      · exact .inl (.inr q)
      · exact .inr (.inl q)
    · have hCm : ¬ C.Mut W Ca := fun q => S4.dis Ca q (.inl (.inr rfl))
      have hk5 : ∀ o, h4.get? Ca = some o → h5.get? Ca = some o := fun o e => (m5.2 Ca o e hCm (Ne.symm hAC)).1
      refine ⟨m, hn4.at' hk5, fun h6 hs6 => ?_⟩
      have S6 : St C (fun b => X0 b ∨ b = Ca) ((x, A) :: dropW W x) (σ.set x (.ol (ds.flatMap em))) h6 := S5.ext (by rw [hs6.1]; exact Nat.le_refl _) (fun b o hb e => (hs6.2 b (by simpa using hb)).trans e) (.inr rfl) (Nat.le_trans S.hsize hC)
      refine R.next _ _ h6 _ hp ht5 (S6.weaken fun a => .inl) ⟨by rw [hs6.1]; exact Nat.le_trans l4.size m5.1, fun b o e hm => ?_⟩
      have hlt : s.heap.objs.size > b := Heap.lt_size e
      obtain ⟨q1, q2⟩ := m5.2 b o (l4.get b o e) hm (fun q => by rw [q] at hlt; omega)
      exact ⟨(hs6.2 b fun q => by rw [q] at hlt; omega).trans q1, q2⟩

end
end Mine

namespace Mine

section
variable {C : Cx} {gl : Str → Option Value} {r : Nat} {σ : VEnv} {P : Out → Prop}

/-- what one turn makes, behind its target -/
def Emit (C : Cx) (σ1 : VEnv) (ifs : List Expr) (elt : Expr) (out : List D) : Prop :=
  match ifs with
  | [] => ∃ f, Ev C σ1 elt f ∧ out = [f]
  | [c] => ∃ b, Tr C σ1 c b ∧ ((b = false ∧ out = []) ∨ (b = true ∧ ∃ f, Ev C σ1 elt f ∧ out = [f]))
  | _ => False

def AllFz (σ : VEnv) : Prop := ∀ x sl, σ.get x = some sl → ∃ d, sl = .fz d
def Sub (σ σ' : VEnv) : Prop := ∀ x sl, σ.get x = some sl → σ'.get x = some sl

theorem append_step {elt : Expr} {A : Addr} {X0 : Addr → Prop} {W' : List (Str × Addr)} {σ1 : VEnv} {s : Shared} {vs : List Value} {f : D} {Q : Unit → Shared → Prop} (H : Ev C σ1 elt f) (ht : C.t0 ≤ s.toks) (S : St C X0 W' σ1 s.heap) (hXA : X0 A) (hA0 : C.h0.objs.size ≤ A)
    (pl : s.heap.PlainList A vs.toArray) (hz : vs.length < 1000000)
    (hQ : ∀ h4 tk y, C.t0 ≤ tk → St C X0 W' σ1 h4 → h4.PlainList A (vs ++ [y]).toArray → Rp C.pr C.w h4 (C.X X0 W') y f → (s.heap.objs.size ≤ h4.objs.size ∧ ∀ b o, b ≠ A → s.heap.get? b = some o → h4.get? b = some o) → Q () { s with heap := h4, toks := tk }) :
    wpAny (model C.pr C.w) C.A (eval elt C.env >>= fun x => call (.builtin "list.append") [.ref A, x] >>= fun _ => pure ()) Q (fun _ _ => False) s :=
  wpAny_bind (H.run X0 W' _ _ ht S fun h3 tk3 y ht3 l3 ry => wpAny_bind (wp_toks ht3 (wpAny_list_append_plain (hsz := by simp [sizeLine_eq]; omega) (pl.at fun o => l3.get A o) fun h4 pl4 hs4 ht4 => wpAny_pure (by
    have S4 : St C X0 W' σ1 h4 := (S.le l3).ext (I := A) (by rw [hs4.1]; exact Nat.le_refl _) (fun b o hb e => (hs4.2 b (by simpa using hb)).trans e) hXA hA0
    exact hQ h4 _ y ht4 S4 (by simpa using pl4) (ry.mono fun b o hb e => ⟨(hs4.2 b fun q => hb (.inl (q ▸ hXA))).trans e, hb⟩) ⟨Nat.le_trans l3.size (by rw [hs4.1]; exact Nat.le_refl _), fun b o hb e => (hs4.2 b hb).trans (l3.get b o e)⟩))))

/-- the turn of one clause, up to its end -/
theorem den_one (elt t iter : Expr) (ifs : List Expr) (scope : Scope) (pos : Pos) (I : Addr) (acc : Value) (env : Env) : ∃ (p : Pos) (K : Value → Sem Fin) (hd : Value → Sem Unit), (model C.pr C.w).den (.compLoop (.ListComp elt [⟨t, iter, ifs, 0⟩] scope pos) 0 (.ref I) acc env) = ((standAt p >>= fun _ => pyNext (.ref I) >>= fun r => match r with | none => pure (.done .next) | some v => K v) : Sem Fin).onRaise hd ∧
    ∀ (A : Around) (s : Shared) (v : Value) (Q : Fin → Shared → Prop) (E : Value → Shared → Prop), wpAny (model C.pr C.w) A (letOwnedTupleGo t (.ref I) v) (fun _ s1 => wpAny (model C.pr C.w) A (PySem.assign t env v) (fun _ s2 =>
      wpAny (model C.pr C.w) A (forIn ifs true fun c r => if r = true then do let ok ← isTrue c env (eval c env); pure (ForInStep.yield ok) else pure (ForInStep.yield r)) (fun ok s3 =>
        if ok = true then wpAny (model C.pr C.w) A (eval elt env >>= fun x => call (.builtin "list.append") [acc, x] >>= fun _ => pure ()) (fun _ s4 => Q (.again (.compLoop (.ListComp elt [⟨t, iter, ifs, 0⟩] scope pos) 0 (.ref I) acc env)) s4) E s3
        else Q (.again (.compLoop (.ListComp elt [⟨t, iter, ifs, 0⟩] scope pos) 0 (.ref I) acc env)) s3) E s2) E s1) E s → wpAny (model C.pr C.w) A (K v) Q E s := by
  refine ⟨iter.pos, _, _, congrArg (fun z => Sem.onRaise z _) (compTurn_list elt t iter ifs scope pos (.ref I) acc env), fun A s v Q E h => ?_⟩
  refine wpAny_bind (wpAny_mono h (fun _ s1 h1 => wpAny_bind (wpAny_mono h1 (fun _ s2 h2 => wpAny_bind (wpAny_mono h2 (fun ok s3 h3 => ?_) fun _ _ e => e)) fun _ _ e => e)) fun _ _ e => e)
  cases ok with
  | false => exact wpAny_pure h3
  | true => exact wpAny_bind (wpAny_mono h3 (fun _ s4 h4 => wpAny_pure h4) fun _ _ e => e)

theorem KSpec.one {t elt : Expr} {ifs : List Expr} {it : Value} {A : Addr} {σc σ1 : VEnv} {d : D} {out : List D} {c : Code} {K : Value → Sem Fin} (hA0 : C.h0.objs.size ≤ A) (hs : As C σc t d σ1) (hsub : Sub σc σ1) (hne : AllFz σc) (H : Emit C σ1 ifs elt out)
    (hK : ∀ (A1 : Around) (s : Shared) (v : Value) (Q : Fin → Shared → Prop) (E : Value → Shared → Prop), wpAny (model C.pr C.w) A1 (letOwnedTupleGo t it v) (fun _ s1 => wpAny (model C.pr C.w) A1 (PySem.assign t C.env v) (fun _ s2 =>
      wpAny (model C.pr C.w) A1 (forIn ifs true fun c r => if r = true then do let ok ← isTrue c C.env (eval c C.env); pure (ForInStep.yield ok) else pure (ForInStep.yield r)) (fun ok s3 =>
        if ok = true then wpAny (model C.pr C.w) A1 (eval elt C.env >>= fun x => call (.builtin "list.append") [.ref A, x] >>= fun _ => pure ()) (fun _ s4 => Q (.again c) s4) E s3
        else Q (.again c) s3) E s2) E s1) E s → wpAny (model C.pr C.w) A1 (K v) Q E s) :
    KSpec C c t it K A σc d out := fun X0 s v vs Q ht S hXA pl hz rv hlo hQ => by
  refine hK _ _ _ _ _ (hlo _ (hs.run X0 [] s v _ ht S rv fun W' h2 tk2 ht2 S2 m2 => ?_))
  have hAk : ∀ o, s.heap.get? A = some o → h2.get? A = some o := fun o e => (m2.get A o e fun q => S.dis A q hXA).1
  have fin0 : ∀ h3 tk3, C.t0 ≤ tk3 → Le h2 h3 → out = [] → Q (.again c) { s with heap := h3, toks := tk3 } := fun h3 tk3 ht3 l3 ho =>
    hQ h3 tk3 [] ht3 (((S2.le l3).sub hsub).dropAll hne) (by simpa using (pl.at hAk).at fun o => l3.get A o) (ho ▸ .nil) ⟨Nat.le_trans m2.size l3.size, fun b o hb hm e => l3.get b o (m2.get b o e hm).1⟩
  have fin1 : ∀ h3 tk3 f, C.t0 ≤ tk3 → Le h2 h3 → Ev C σ1 elt f → out = [f] → wpAny (model C.pr C.w) C.A (eval elt C.env >>= fun x => call (.builtin "list.append") [.ref A, x] >>= fun _ => pure ()) (fun _ s4 => Q (.again c) s4) (fun _ _ => False) { s with heap := h3, toks := tk3 } := fun h3 tk3 f ht3 l3 He ho =>
    append_step (vs := vs) He ht3 (S2.le l3) hXA hA0 ((pl.at hAk).at fun o => l3.get A o) (by rw [ho] at hz; simp at hz; omega) fun h4 tk4 y ht4 S4 pl4 ry m4 => by
      refine hQ h4 tk4 [y] ht4 ((S4.sub hsub).dropAll hne) pl4 (ho ▸ .cons (ry.weaken fun a ha => ha.imp id mut_nil) .nil) ⟨Nat.le_trans m2.size (Nat.le_trans l3.size m4.1), fun b o hb hm e => m4.2 b o hb (l3.get b o (m2.get b o e hm).1)⟩
  match ifs, H with
  | [], H =>
    obtain ⟨f, He, ho⟩ := H
    exact wpAny_tests_nil (by rw [if_pos rfl]; exact fin1 h2 tk2 f ht2 (Le.refl _) He ho)
  | [c0], H =>
    obtain ⟨b, Hb, hH⟩ := H
    refine wpAny_tests_one (Hb.run X0 W' _ _ ht2 S2 fun h3 tk3 ht3 l3 => ?_)
    rcases hH with ⟨rfl, ho⟩ | ⟨rfl, f, He, ho⟩
    · rw [if_neg (by simp)]; exact fin0 h3 tk3 ht3 l3 ho
    · rw [if_pos rfl]; exact fin1 h3 tk3 f ht3 l3 He ho
  | _ :: _ :: _, H => exact H.elim

/-- what a comprehension of one clause needs -/
structure Comp1 (C : Cx) (gl : Str → Option Value) (r : Nat) (σ : VEnv) (elt t iter : Expr) (ifs : List Expr) (scope : Scope) (cl : List (Str × Addr)) (σc : VEnv) (ds : List D) (em : D → List D) : Prop where
  hit : EvIter C σ iter t ds
  set : ∀ x, foldedSetIterable iter C.env x = pure x
  cap : Cap C scope cl σ σc
  cell : ∀ y ∈ scope.names, y.2 ≠ .cell
  kind : scope.kind = .function
  names : ∀ y ∈ scope.names, y.2 = .local → scope.names.lookup y.1 = some .local
  size : (ds.flatMap em).length ≤ 1000000
  turn : ∀ h Ca, (C.comp scope cl Ca h).Ok gl r → (∀ b o, C.h0.get? b = some o → h.get? b = some o) → ∀ d ∈ ds, ∃ σ1, As (C.comp scope cl Ca h) σc t d σ1 ∧ Sub σc σ1 ∧ Emit (C.comp scope cl Ca h) σ1 ifs elt (em d)

theorem Cap.fz {scope : Scope} {cl : List (Str × Addr)} {σc : VEnv} (c : Cap C scope cl σ σc) : AllFz σc := fun x sl e => (c.vars x sl e).1

theorem Comp1.den {elt t iter : Expr} {ifs : List Expr} {scope : Scope} {cl : List (Str × Addr)} {σc : VEnv} {ds : List D} {em : D → List D} {pos : Pos} (Y : Comp1 C gl r σ elt t iter ifs scope cl σc ds em) (I : Addr) (acc : Value) (env : Env) :
    ∃ p K hd, (model C.pr C.w).den (.compLoop (.ListComp elt (⟨t, iter, ifs, 0⟩ :: []) scope pos) 0 (.ref I) acc env) = ((standAt p >>= fun _ => pyNext (.ref I) >>= fun r => match r with | none => pure (.done .next) | some v => K v) : Sem Fin).onRaise hd ∧
      ∀ h Ca A, acc = .ref A → env = compEnvC scope cl Ca C.env → (C.comp scope cl Ca h).Ok gl r → h.objs.size ≤ A → (∀ b o, C.h0.get? b = some o → h.get? b = some o) → ∀ d ∈ ds, KSpec (C.comp scope cl Ca h) (.compLoop (.ListComp elt (⟨t, iter, ifs, 0⟩ :: []) scope pos) 0 (.ref I) acc env) t (.ref I) K A σc d (em d) := by
  obtain ⟨p, K, hd, e, hK⟩ := den_one (C := C) elt t iter ifs scope pos I acc env
  refine ⟨p, K, hd, e, fun h Ca A ha he K2 hA hkp d hd => ?_⟩
  subst ha; subst he
  obtain ⟨σ1, h1, h2, h3⟩ := Y.turn h Ca K2 hkp d hd
  exact KSpec.one (C := C.comp scope cl Ca h) hA h1 h2 Y.cap.fz h3 hK

theorem EvF.comp1 (K : C.Ok gl r) {elt t iter : Expr} {ifs : List Expr} {scope : Scope} {cl : List (Str × Addr)} {pos : Pos} {σc : VEnv} {ds : List D} {em : D → List D} (Y : Comp1 C gl r σ elt t iter ifs scope cl σc ds em) :
    EvF C σ (.ListComp elt [⟨t, iter, ifs, 0⟩] scope pos) (.ol (ds.flatMap em)) := EvF.comp K Y.hit Y.set Y.cap Y.cell Y.kind Y.names Y.size fun I acc env => Y.den I acc env
theorem Ex.assign_comp1 (K : C.Ok gl r) {elt t iter : Expr} {ifs : List Expr} {scope : Scope} {cl : List (Str × Addr)} {pos p px : Pos} {σc : VEnv} {ds : List D} {em : D → List D} {x : Str} (Y : Comp1 C gl r σ elt t iter ifs scope cl σc ds em)
    (hsw : swapsWith (.ListComp elt [⟨t, iter, ifs, 0⟩] scope pos) (some (.Name x px)) p.line C.env = pure true) (hx : Sto C x) (hp : P (.next (σ.set x (.ol (ds.flatMap em))))) :
    Ex C σ (.Assign [.Name x px] (.ListComp elt [⟨t, iter, ifs, 0⟩] scope pos) p) P := Ex.assign_comp K Y.hit Y.set Y.cap Y.cell Y.kind Y.names Y.size (fun I acc env => Y.den I acc env) hsw hx hp
end
end Mine

namespace Mine

section
variable {C : Cx} {gl : Str → Option Value} {r : Nat} {σ : VEnv} {P : Out → Prop}

theorem den_two0 (elt t1 i1 t2 i2 : Expr) (scope : Scope) (pos : Pos) (I : Addr) (acc : Value) (env : Env) : ∃ (p : Pos) (K : Value → Sem Fin) (hd : Value → Sem Unit), (model C.pr C.w).den (.compLoop (.ListComp elt [⟨t1, i1, [], 0⟩, ⟨t2, i2, [], 0⟩] scope pos) 0 (.ref I) acc env) = ((standAt p >>= fun _ => pyNext (.ref I) >>= fun r => match r with | none => pure (.done .next) | some v => K v) : Sem Fin).onRaise hd ∧
    ∀ (A : Around) (s : Shared) (v : Value) (Q : Fin → Shared → Prop), wpAny (model C.pr C.w) A (letOwnedTupleGo t1 (.ref I) v) (fun _ s1 => wpAny (model C.pr C.w) A (PySem.assign t1 env v) (fun _ s2 =>
      wpAny (model C.pr C.w) A (eval i2 env) (fun x s3 => wpAny (model C.pr C.w) A (foldedSetIterable i2 env x) (fun x s4 => wpAny (model C.pr C.w) A (pyIter x) (fun it2 s5 =>
        codeAny (model C.pr C.w) A (.compStart (.ListComp elt [⟨t1, i1, [], 0⟩, ⟨t2, i2, [], 0⟩] scope pos) 1 it2 acc env) (fun r s6 => match r with | .ok _ => Q (.again (.compLoop (.ListComp elt [⟨t1, i1, [], 0⟩, ⟨t2, i2, [], 0⟩] scope pos) 0 (.ref I) acc env)) s6 | .error _ => False) s5)
        (fun _ _ => False) s4) (fun _ _ => False) s3) (fun _ _ => False) s2) (fun _ _ => False) s1) (fun _ _ => False) s → wpAny (model C.pr C.w) A (K v) Q (fun _ _ => False) s := by
  refine ⟨i1.pos, (fun v => letOwnedTupleGo t1 (.ref I) v >>= fun _ => PySem.assign t1 env v >>= fun _ =>
        eval i2 env >>= fun x => standAt i2.pos >>= fun _ => foldedSetIterable i2 env x >>= fun x => holding [x] (pyIter x) >>= fun it2 => runOwn (.compStart (.ListComp elt [⟨t1, i1, [], 0⟩, ⟨t2, i2, [], 0⟩] scope pos) 1 it2 acc env) env >>= fun _ =>
          again (.compLoop (.ListComp elt [⟨t1, i1, [], 0⟩, ⟨t2, i2, [], 0⟩] scope pos) 0 (.ref I) acc env)), (fun x => do noteFrame x env; theTreesLotGoes x), rfl, fun A s v Q h => ?_⟩
  refine wpAny_bind (wpAny_mono h (fun _ s1 h1 => wpAny_bind (wpAny_mono h1 (fun _ s2 h2 => wpAny_bind (wpAny_mono h2 (fun x s3 h3 => ?_) fun _ _ e => e)) fun _ _ e => e)) fun _ _ e => e)
  refine wpAny_bind (wpAny_standAt (wpAny_bind (wpAny_mono h3 (fun x s4 h4 => ?_) fun _ _ e => e)))
  refine wpAny_bind (wpAny_holding (wpAny_mono h4 (fun it2 s5 h5 => ?_) fun _ _ e => e))
  refine wpAny_bind (wpAny_runOwn ?_)
  rw [Around.mark_none]
  refine codeAny_mono h5 fun r s6 h6 => ?_
  cases r with
  | ok f => exact wpAny_pure h6
  | error e => exact h6.elim

theorem den_two1 (elt t1 i1 t2 i2 : Expr) (scope : Scope) (pos : Pos) (I : Addr) (acc : Value) (env : Env) : ∃ (p : Pos) (K : Value → Sem Fin) (hd : Value → Sem Unit), (model C.pr C.w).den (.compLoop (.ListComp elt [⟨t1, i1, [], 0⟩, ⟨t2, i2, [], 0⟩] scope pos) 1 (.ref I) acc env) = ((standAt p >>= fun _ => pyNext (.ref I) >>= fun r => match r with | none => pure (.done .next) | some v => K v) : Sem Fin).onRaise hd ∧
    ∀ (A : Around) (s : Shared) (v : Value) (Q : Fin → Shared → Prop) (E : Value → Shared → Prop), wpAny (model C.pr C.w) A (letOwnedTupleGo t2 (.ref I) v) (fun _ s1 => wpAny (model C.pr C.w) A (PySem.assign t2 env v) (fun _ s2 =>
      wpAny (model C.pr C.w) A (forIn ([] : List Expr) true fun c r => if r = true then do let ok ← isTrue c env (eval c env); pure (ForInStep.yield ok) else pure (ForInStep.yield r)) (fun ok s3 =>
        if ok = true then wpAny (model C.pr C.w) A (eval elt env >>= fun x => call (.builtin "list.append") [acc, x] >>= fun _ => pure ()) (fun _ s4 => Q (.again (.compLoop (.ListComp elt [⟨t1, i1, [], 0⟩, ⟨t2, i2, [], 0⟩] scope pos) 1 (.ref I) acc env)) s4) E s3
        else Q (.again (.compLoop (.ListComp elt [⟨t1, i1, [], 0⟩, ⟨t2, i2, [], 0⟩] scope pos) 1 (.ref I) acc env)) s3) E s2) E s1) E s → wpAny (model C.pr C.w) A (K v) Q E s := by
  refine ⟨i2.pos, (fun v => letOwnedTupleGo t2 (.ref I) v >>= fun _ => PySem.assign t2 env v >>= fun _ => (forIn ([] : List Expr) true fun c r => if r = true then do let ok ← isTrue c env (eval c env); pure (ForInStep.yield ok) else pure (ForInStep.yield r)) >>= fun ok =>
      if ok = true then (eval elt env >>= fun x => call (.builtin "list.append") [acc, x] >>= fun _ => pure ()) >>= fun _ => again (.compLoop (.ListComp elt [⟨t1, i1, [], 0⟩, ⟨t2, i2, [], 0⟩] scope pos) 1 (.ref I) acc env)
      else again (.compLoop (.ListComp elt [⟨t1, i1, [], 0⟩, ⟨t2, i2, [], 0⟩] scope pos) 1 (.ref I) acc env)), (fun x => do noteFrame x env; theTreesLotGoes x), rfl, fun A s v Q E h => ?_⟩
  refine wpAny_bind (wpAny_mono h (fun _ s1 h1 => wpAny_bind (wpAny_mono h1 (fun _ s2 h2 => wpAny_bind (wpAny_mono h2 (fun ok s3 h3 => ?_) fun _ _ e => e)) fun _ _ e => e)) fun _ _ e => e)
  cases ok with
  | false => exact wpAny_pure h3
  | true => exact wpAny_bind (wpAny_mono h3 (fun _ s4 h4 => wpAny_pure h4) fun _ _ e => e)

theorem start_two {A : Around} {R : Result → Shared → Prop} {s : Shared} {elt t1 i1 t2 i2 : Expr} {scope : Scope} {pos : Pos} {it acc : Value} {env : Env} (h0 : codeAny (model C.pr C.w) A (.compLoop (.ListComp elt [⟨t1, i1, [], 0⟩, ⟨t2, i2, [], 0⟩] scope pos) 1 it acc env) R s)
    (h : wpAny (model C.pr C.w) A (pyIter it) (fun it' s' => codeAny (model C.pr C.w) A (.compLoop (.ListComp elt [⟨t1, i1, [], 0⟩, ⟨t2, i2, [], 0⟩] scope pos) 1 it' acc env) R s') (fun _ _ => False) s) :
    codeAny (model C.pr C.w) A (.compStart (.ListComp elt [⟨t1, i1, [], 0⟩, ⟨t2, i2, [], 0⟩] scope pos) 1 it acc env) R s := by
  refine codeAny_of_tree ?_
  show wpAny _ _ ((compStart (.ListComp elt [⟨t1, i1, [], 0⟩, ⟨t2, i2, [], 0⟩] scope pos) 1 it acc env).onRaise (fun x => do noteFrame x env; standAt theWindowsPlace)) _ _ s
  refine wpAny_onRaise (wpAny_mono (E := fun _ _ => False) ?_ (fun _ _ x => x) fun _ _ x => x.elim)
  unfold compStart
  show wpAny _ _ (ask >>= _) _ _ s
  refine wpAny_bind (wpAny_askSetting (wpAny_ite ?_))
  split
  · first
      | exact wpAny_bind (wpAny_pure (wpAny_pure (And.intro rfl h0)))
      | exact wpAny_pure (And.intro rfl h0)
  · first
      | exact wpAny_bind (wpAny_rule (wpAny_bind (wpAny_standAt (wpAny_bind (wpAny_mono h (fun it' s' h' => wpAny_pure (And.intro rfl h')) fun _ _ x => x)))))
      | (refine wpAny_bind (wpAny_rule ?_); show wpAny _ _ (standAt i2.pos >>= _) _ _ s; exact wpAny_bind (wpAny_standAt (wpAny_bind (wpAny_mono h (fun it' s' h' => wpAny_pure (And.intro rfl h')) fun _ _ x => x))))

structure Comp2 (C : Cx) (gl : Str → Option Value) (r : Nat) (σ : VEnv) (elt t1 i1 t2 i2 : Expr) (scope : Scope) (cl : List (Str × Addr)) (σc : VEnv) (ds : List D) (em : D → List D) : Prop where
  hit : EvIter C σ i1 t1 ds
  set : ∀ x, foldedSetIterable i1 C.env x = pure x
  cap : Cap C scope cl σ σc
  cell : ∀ y ∈ scope.names, y.2 ≠ .cell
  kind : scope.kind = .function
  names : ∀ y ∈ scope.names, y.2 = .local → scope.names.lookup y.1 = some .local
  size : (ds.flatMap em).length ≤ 1000000
  turn : ∀ h Ca, (C.comp scope cl Ca h).Ok gl r → (∀ b o, C.h0.get? b = some o → h.get? b = some o) → ∀ d ∈ ds, ∃ σ1 ds2 em2, As (C.comp scope cl Ca h) σc t1 d σ1 ∧ Sub σc σ1 ∧ AllFz σ1 ∧ EvIter (C.comp scope cl Ca h) σ1 i2 t2 ds2 ∧ (∀ x, foldedSetIterable i2 (C.comp scope cl Ca h).env x = pure x) ∧ em d = ds2.flatMap em2 ∧
    ∀ d2 ∈ ds2, ∃ σ2, As (C.comp scope cl Ca h) σ1 t2 d2 σ2 ∧ Sub σ1 σ2 ∧ Emit (C.comp scope cl Ca h) σ2 [] elt (em2 d2)

theorem KSpec.two (K : C.Ok gl r) {elt t1 i1 t2 i2 : Expr} {scope : Scope} {pos : Pos} {I A : Addr} {σc σ1 : VEnv} {d : D} {ds2 : List D} {em2 : D → List D} {K1 : Value → Sem Fin} (hA0 : C.h0.objs.size ≤ A) (hs : As C σc t1 d σ1) (hsub : Sub σc σ1) (hne : AllFz σc) (hne1 : AllFz σ1)
    (hit : EvIter C σ1 i2 t2 ds2) (hset : ∀ x, foldedSetIterable i2 C.env x = pure x) (hin : ∀ d2 ∈ ds2, ∃ σ2, As C σ1 t2 d2 σ2 ∧ Sub σ1 σ2 ∧ Emit C σ2 [] elt (em2 d2))
    (hK : ∀ (A1 : Around) (s : Shared) (v : Value) (Q : Fin → Shared → Prop), wpAny (model C.pr C.w) A1 (letOwnedTupleGo t1 (.ref I) v) (fun _ s1 => wpAny (model C.pr C.w) A1 (PySem.assign t1 C.env v) (fun _ s2 =>
      wpAny (model C.pr C.w) A1 (eval i2 C.env) (fun x s3 => wpAny (model C.pr C.w) A1 (foldedSetIterable i2 C.env x) (fun x s4 => wpAny (model C.pr C.w) A1 (pyIter x) (fun it2 s5 =>
        codeAny (model C.pr C.w) A1 (.compStart (.ListComp elt [⟨t1, i1, [], 0⟩, ⟨t2, i2, [], 0⟩] scope pos) 1 it2 (.ref A) C.env) (fun r s6 => match r with | .ok _ => Q (.again (.compLoop (.ListComp elt [⟨t1, i1, [], 0⟩, ⟨t2, i2, [], 0⟩] scope pos) 0 (.ref I) (.ref A) C.env)) s6 | .error _ => False) s5)
        (fun _ _ => False) s4) (fun _ _ => False) s3) (fun _ _ => False) s2) (fun _ _ => False) s1) (fun _ _ => False) s → wpAny (model C.pr C.w) A1 (K1 v) Q (fun _ _ => False) s) :
    KSpec C (.compLoop (.ListComp elt [⟨t1, i1, [], 0⟩, ⟨t2, i2, [], 0⟩] scope pos) 0 (.ref I) (.ref A) C.env) t1 (.ref I) K1 A σc d (ds2.flatMap em2) := fun X0 s v vs Q ht S hXA pl hz rv hlo hQ => by
  refine hK _ _ _ _ (hlo _ (hs.run X0 [] s v _ ht S rv fun W' h2 tk2 ht2 S2 m2 => ?_))
  have hAk : ∀ o, s.heap.get? A = some o → h2.get? A = some o := fun o e => (m2.get A o e fun q => S.dis A q hXA).1
  have S2' : St C X0 [] σ1 h2 := S2.dropAll hne1
  refine wpAny_mono (hit.run X0 [] { s with heap := h2, toks := tk2 } _ ht2 S2' fun h3 tk3 I2 ht3 l3 hIt => ?_) (fun x s3 h3 => by rw [hset x]; exact wpAny_pure h3) (fun _ _ e => e)
  obtain ⟨fp, Pv, St', Wk, st0, hI0, hIs, hfp, hP, hown⟩ := hIt
  dsimp only at hI0 hIs hfp hP l3
  have S3 : St C (fun b => X0 b ∨ b = I2) [] σ1 h3 := S2'.forbid1 hI0 l3 hIs
  have hA2 : A < h2.objs.size := by obtain ⟨n, e⟩ := pl; exact Heap.lt_size (hAk _ e)
  have hAI : A ≠ I2 := Nat.ne_of_lt (Nat.lt_of_lt_of_le hA2 hI0)
  have loop : codeAny (model C.pr C.w) C.A (.compLoop (.ListComp elt [⟨t1, i1, [], 0⟩, ⟨t2, i2, [], 0⟩] scope pos) 1 (.ref I2) (.ref A) C.env) (fun r s6 => match r with | .ok _ => Q (.again (.compLoop (.ListComp elt [⟨t1, i1, [], 0⟩, ⟨t2, i2, [], 0⟩] scope pos) 0 (.ref I) (.ref A) C.env)) s6 | .error _ => False) { s with heap := h3, toks := tk3 } := by
    obtain ⟨p, K2, hd, e2, hK2⟩ := den_two1 (C := C) elt t1 i1 t2 i2 scope pos I2 (.ref A) C.env
    refine comp_loop (C := C) (I := I2) (A := A) (ds := ds2) (em := em2) (vs0 := vs) (X0 := fun b => X0 b ∨ b = I2) (s := { s with heap := h3, toks := tk3 }) rfl rfl e2 ht3 S3 hA0 (Nat.le_trans S2'.hsize hI0) (.inl hXA) (.inr rfl) hAI Wk st0 (fun b hb => ?_) (fun i v hi hPv => ?_) hown ((pl.at hAk).at fun o => l3.get A o) hz ?_ ?_
    · rcases hfp b hb with q | ⟨q1, q2, q3⟩
      · exact .inl q
      · exact .inr ⟨q1, fun q => q2 (q.elim (fun q => q.elim .inl fun q => absurd q q1) .inr), q3⟩
    · obtain ⟨d2, hd2, rd⟩ := hP i v hi hPv
      refine ⟨d2, hd2, rd.weaken fun a ha => ?_⟩
      rcases ha with (q | q) | q
      · exact .inl (.inl q)
      · exact .inr q
      · exact .inl (.inr q)
    · intro d2 hd2
      obtain ⟨σ2, g1, g2, g3⟩ := hin d2 hd2
      exact KSpec.one hA0 g1 g2 hne1 g3 hK2
    · intro h4 tk4 vs' ht4 S4 pl4 rr4 m4
      refine hQ h4 tk4 vs' ht4 ((S4.weaken (X0' := X0) fun a => .inl).sub hsub) pl4 (rr4.weaken fun a ha => ha.imp .inl id) ⟨Nat.le_trans m2.size (Nat.le_trans l3.size m4.size), fun b o hb hm e => ?_⟩
      have e2 := (m2.get b o e hm).1
      exact m4.get b o (fun q => q.elim hb fun q => Nat.lt_irrefl _ (Nat.lt_of_lt_of_le (Heap.lt_size e2) (q ▸ hI0))) hm (l3.get b o e2)
  exact start_two loop (Wk.self 0 _ _ _ st0 loop)

theorem Comp2.den {elt t1 i1 t2 i2 : Expr} {scope : Scope} {cl : List (Str × Addr)} {σc : VEnv} {ds : List D} {em : D → List D} {pos : Pos} (Y : Comp2 C gl r σ elt t1 i1 t2 i2 scope cl σc ds em) (I : Addr) (acc : Value) (env : Env) :
    ∃ p K hd, (model C.pr C.w).den (.compLoop (.ListComp elt (⟨t1, i1, [], 0⟩ :: [⟨t2, i2, [], 0⟩]) scope pos) 0 (.ref I) acc env) = ((standAt p >>= fun _ => pyNext (.ref I) >>= fun r => match r with | none => pure (.done .next) | some v => K v) : Sem Fin).onRaise hd ∧
      ∀ h Ca A, acc = .ref A → env = compEnvC scope cl Ca C.env → (C.comp scope cl Ca h).Ok gl r → h.objs.size ≤ A → (∀ b o, C.h0.get? b = some o → h.get? b = some o) → ∀ d ∈ ds, KSpec (C.comp scope cl Ca h) (.compLoop (.ListComp elt (⟨t1, i1, [], 0⟩ :: [⟨t2, i2, [], 0⟩]) scope pos) 0 (.ref I) acc env) t1 (.ref I) K A σc d (em d) := by
  obtain ⟨p, K, hd, e, hK⟩ := den_two0 (C := C) elt t1 i1 t2 i2 scope pos I acc env
  refine ⟨p, K, hd, e, fun h Ca A ha he K2 hA hkp d hd => ?_⟩
  subst ha; subst he
  obtain ⟨σ1, ds2, em2, h1, h2, h3, h4, h5, h6, h7⟩ := Y.turn h Ca K2 hkp d hd
  rw [h6]
  exact KSpec.two (C := C.comp scope cl Ca h) K2 hA h1 h2 Y.cap.fz h3 h4 h5 h7 hK

theorem Ex.assign_comp2 (K : C.Ok gl r) {elt t1 i1 t2 i2 : Expr} {scope : Scope} {cl : List (Str × Addr)} {pos p px : Pos} {σc : VEnv} {ds : List D} {em : D → List D} {x : Str} (Y : Comp2 C gl r σ elt t1 i1 t2 i2 scope cl σc ds em)
    (hsw : swapsWith (.ListComp elt [⟨t1, i1, [], 0⟩, ⟨t2, i2, [], 0⟩] scope pos) (some (.Name x px)) p.line C.env = pure true) (hx : Sto C x) (hp : P (.next (σ.set x (.ol (ds.flatMap em))))) :
    Ex C σ (.Assign [.Name x px] (.ListComp elt [⟨t1, i1, [], 0⟩, ⟨t2, i2, [], 0⟩] scope pos) p) P := Ex.assign_comp K Y.hit Y.set Y.cap Y.cell Y.kind Y.names Y.size (fun I acc env => Y.den I acc env) hsw hx hp
end
end Mine

namespace Mine

section
variable {C : Cx} {gl : Str → Option Value} {r : Nat} {σ : VEnv} {P : Out → Prop}

/-- a call that makes a list of its own -/
def PNF (C : Cx) (f : Value) (ds : List D) (sl : Slot) : Prop := ∀ (X : Addr → Prop) (s : Shared) (Q : Value → Shared → Prop) vs, C.t0 ≤ s.toks → (∀ b o, C.h0.get? b = some o → s.heap.get? b = some o) → (∀ a, X a → a < s.heap.objs.size) → RpAll C.pr C.w s.heap X vs ds →
  (∀ h' tk a, Le s.heap h' → s.heap.objs.size ≤ a → a < h'.objs.size → OwnRep C.pr C.w h' (fun b => X b ∨ b = a) a sl → Q (.ref a) { s with heap := h', toks := tk }) → wpAny (model C.pr C.w) C.A (call f vs) Q (fun _ _ => False) s
theorem PNF.use {f : Value} {ds : List D} {sl : Slot} (h : PNF C f ds sl) {X : Addr → Prop} {s : Shared} {Q : Value → Shared → Prop} {vs : List Value} (ht : C.t0 ≤ s.toks) (hk : ∀ b o, C.h0.get? b = some o → s.heap.get? b = some o) (hX : ∀ a, X a → a < s.heap.objs.size)
    (r1 : RpAll C.pr C.w s.heap X vs ds)
    (hQ : ∀ h' tk a, C.t0 ≤ tk → Le s.heap h' → s.heap.objs.size ≤ a → a < h'.objs.size → OwnRep C.pr C.w h' (fun b => X b ∨ b = a) a sl → Q (.ref a) { s with heap := h', toks := tk }) : wpAny (model C.pr C.w) C.A (call f vs) Q (fun _ _ => False) s :=
  wp_toks ht (h X s _ vs ht hk hX r1 fun h' tk a l h1 h2 r ht' => hQ h' tk a ht' l h1 h2 r)
theorem EvF.call_type (K : C.Ok gl r) {x : Str} {id : String} {es : List Expr} {ds : List D} {sl : Slot} {p px : Pos} (hx : gl x = some (.type id)) (hk : C.env.kindOf x = some .globalImplicit) (hd : (x == ("__debug__" : Str)) = false)
    (hs : EvL C σ es ds) (hf : PNF C (.type id) ds sl) : EvF C σ (.Call (.Name x px) es [] p) sl := .mk fun X0 W s Q ht S hQ =>
  Call_ (name_glob K S hx hk hd (PyProof.Rows.callWith_type (hs.plain p) (hs.args ht S fun h' tk vs ht' l rs => hf.use ht' (S.le l).keep (S.le l).lt rs fun h'' tk' a ht'' l' h1 h2 rr => hQ h'' tk' a ht'' (l.trans l') (Nat.le_trans l.size h1) h2 rr))) rfl
theorem EvF.meth {o : Expr} {name : Str} {id T : String} {es : List Expr} {d0 : D} {ds : List D} {sl : Slot} {p pa : Pos} (h0 : Ev C σ o d0) (hT : T = tyOf d0) (hd : (∃ x, d0 = .str x) ∨ (∃ x, d0 = .list x) ∨ (∃ x, d0 = .dict x))
    (pat : PlainAttrs T) (slot : PySem.Slot T name id) (ty : typeOf (.builtin id) = pure (.type "method_descriptor"))
    (hbase : ∀ t, attributeBase o name C.env t = t) (hlen : es.length < 30) (hline : (pa.endLine == p.line) = true) (hs : EvL C σ es ds) (hf : PNF C (.builtin id) (d0 :: ds) sl) : EvF C σ (.Call (.Attribute o name pa) es [] p) sl := by
  subst hT
  refine .mk fun X0 W s Q ht S hQ => ?_
  refine wpAny_Call_method_late (hbase _) ?_ hline rfl (h0.run X0 W s _ ht S fun h' tk v ht' l rr => ?_)
  · have : (backTo p (starEach es C.env)).all (fun x => !x.1) = true := by
      have := hs.plain p
      rw [List.all_eq_not_any_not]; simpa using this
    rw [this]; simp [backToKw, keywordEach, hlen]
  obtain ⟨hty, hnd⟩ := Rp.typeIs (s := { s with heap := h', toks := tk }) rr hd
  refine ⟨tyOf d0, id, pat, slot, ty, hty, hnd, ?_⟩
  refine Calls.callWith_builtin (hs.plain p) (hs.args ht' (S.le l) fun h'' tk' vs ht'' l' rs => ?_)
  exact hf.use ht'' ((S.le l).le l').keep ((S.le l).le l').lt (.cons (rr.le l') rs) fun h3 tk3 a3 ht3 l3 h1 h2 r3 => hQ h3 tk3 a3 ht3 ((l.trans l').trans l3) (Nat.le_trans (l.trans l').size h1) h2 r3

/-! ### range -/
theorem EvIter.range1 (K : C.Ok gl r) {e t : Expr} {n : Nat} {p px : Pos} (hx : gl "range" = some (.type "range")) (hk : C.env.kindOf "range" = some .globalImplicit) (H : Ev C σ e (.int n)) (hse : starEach [e] C.env = [(false, eval e C.env)]) (hn : n ≤ 1000000000) (ht : isName t = true) :
    EvIter C σ (.Call (.Name "range" px) [e] [] p) t ((List.range n).map fun (k : Nat) => .int k) := .mk fun X0 W s Q h0 S hQ =>
  Call_ (name_glob K S hx hk (by decide) (PyProof.Rows.callWith_type (by rw [hse]; rfl) ((EvL.cons H .nil hse).args h0 S fun h' tk vs ht' l rs => by
    cases rs with | cons rv rs => cases rs; cases rv with | rint i u =>
    refine call_range_1 (wp_toks (n := C.t0) (show C.t0 ≤ tk + 1 + 1 by omega) (iter_range (C := C) (gl := gl) (r := r) (X := C.X X0 W) (h0 := s.heap) (n := n) K (l.trans (Le.push _ _)) (IsRange.new _ 0 _ 1 _ _ _) (by split <;> omega) ht (by omega) (by omega) (by omega) (by omega) fun h'' I l' hI ht2 => ?_))
    have e2 : ((List.range n).map fun (k : Nat) => D.int (0 + k)) = (List.range n).map fun (k : Nat) => .int k := by congr 1; funext k; rw [Int.zero_add]
    rw [e2] at hI
    exact hQ h'' _ I ht2 ((l.trans (Le.push _ _)).trans l') hI))) rfl
theorem EvIter.range2 (K : C.Ok gl r) {e f t : Expr} {a b n : Nat} {p px : Pos} (hx : gl "range" = some (.type "range")) (hk : C.env.kindOf "range" = some .globalImplicit) (H : Ev C σ e (.int a)) (H2 : Ev C σ f (.int b)) (hse : starEach [e, f] C.env = [(false, eval e C.env), (false, eval f C.env)]) (hse2 : starEach [f] C.env = [(false, eval f C.env)])
    (ha : a ≤ 1000000000) (hb : b ≤ 1000000000) (hn : n = b - a) (ht : isName t = true) :
    EvIter C σ (.Call (.Name "range" px) [e, f] [] p) t ((List.range n).map fun (k : Nat) => .int (a + k)) := .mk fun X0 W s Q h0 S hQ =>
  Call_ (name_glob K S hx hk (by decide) (PyProof.Rows.callWith_type (by rw [hse]; rfl) ((EvL.cons H (.cons H2 .nil hse2) (by rw [hse, hse2])).args h0 S fun h' tk vs ht' l rs => by
    cases rs with | cons rv rs => cases rs with | cons rv2 rs => cases rs; cases rv with | rint i u => cases rv2 with | rint j u2 =>
    refine call_range_2 (wp_toks (n := C.t0) (show C.t0 ≤ tk + 1 by omega) (iter_range (C := C) (gl := gl) (r := r) (X := C.X X0 W) (h0 := s.heap) (n := n) K (l.trans (Le.push _ _)) (IsRange.new _ _ _ 1 _ _ _) (by split <;> omega) ht (by omega) (by omega) (by omega) (by omega) fun h'' I l' hI ht2 => ?_))
    exact hQ h'' _ I ht2 ((l.trans (Le.push _ _)).trans l') hI))) rfl

/-! ### calls -/
theorem ints_of {h : Heap} {X : Addr → Prop} : ∀ {vs : List Value} {ns : List Int}, RpAll C.pr C.w h X vs (ns.map .int) → IntsAre vs ns
  | _, [], .nil => .nil
  | _, n :: ns, .cons r rs => by cases r with | rint i t => exact .cons _ t (ints_of rs)
theorem PN.sum (hh : C.A.handled = none) (ns : List Int) : PN C (.builtin "sum") [.list (ns.map .int)] (.int ns.sum) := .mk fun X s Q vs ht hX rs hQ => by
  cases rs with | cons r1 rs => cases rs; cases r1 with | rlist ha hl rr =>
    have hi := ints_of rr
    have hl := hl.isList
    obtain ⟨xs, e⟩ := hi.allInts.items
    have hns : ns = xs.toList.map (·.1) := by rw [← hi.numsOf, ← nums_intItems, ← e]
    rw [e] at hl
    refine sum_intListG hh hl fun h' tk t' hk => ?_
    have := hQ h' tk (.int ns.sum t') hk (.rint _ _)
    rw [preSum_eq, List.take_of_length_le (by simp), ← hns]; exact this
theorem PN.max (hh : C.A.handled = none) (ns : List Int) (m : Int) (hm : m ∈ ns) (hle : ∀ a ∈ ns, a ≤ m) : PN C (.builtin "max") [.list (ns.map .int)] (.int m) := .mk fun X s Q vs ht hX rs hQ => by
  cases rs with | cons r1 rs => cases rs; cases r1 with | rlist ha hl rr =>
    have hi := ints_of rr
    have hl := hl.isList
    obtain ⟨xs, e⟩ := hi.allInts.items
    have hns : ns = xs.toList.map (·.1) := by rw [← hi.numsOf, ← nums_intItems, ← e]
    rw [e] at hl
    have hsz : 0 < xs.size := by
      have h3 := List.length_pos_of_mem hm; rw [hns, List.length_map, Array.length_toList] at h3; exact h3
    refine max_intList hh hl hsz fun v h' tk hv hk => ?_
    obtain ⟨t, rfl⟩ := intItems_at hv
    obtain ⟨h1, h2⟩ := argBest_gt (numAt xs) (xs.size - 1)
    have g1 : numAt xs (argBest (fun i j => decide (numAt xs i > numAt xs j)) (xs.size - 1)) ∈ ns := by
      rw [hns, numAt_eq]; exact getD_mem (by rw [List.length_map, Array.length_toList]; omega)
    have g2 : ∀ a, a ∈ ns → a ≤ numAt xs (argBest (fun i j => decide (numAt xs i > numAt xs j)) (xs.size - 1)) := fun a ha => by
      rw [hns] at ha
      obtain ⟨j, hj, rfl⟩ := mem_getD ha
      rw [List.length_map, Array.length_toList] at hj
      rw [← numAt_eq]; exact h2 j (by omega)
    have : numAt xs (argBest (fun i j => decide (numAt xs i > numAt xs j)) (xs.size - 1)) = m := Int.le_antisymm (hle _ g1) (g2 _ hm)
    rw [this]
    exact hQ h' tk _ hk (.rint _ _)

theorem strs_rp {h : Heap} {X : Addr → Prop} : ∀ (l : List (Str × Tok)), RpAll C.pr C.w h X (strValues l) ((l.map fun p => p.1.cps.toList).map .str)
  | [] => .nil
  | (x, t) :: l => .cons (.rstr x t) (strs_rp l)

theorem kind_one {y : Str} (h : ∀ c ∈ y.cps.toList, c < 256) : Builtin.Str.strKind y = 1 := by
  unfold Builtin.Str.strKind
  rw [if_pos]
  rw [Array.all_eq_true]
  intro i hi
  exact decide_eq_true (h _ (by simp))

theorem owned_strs {X : Addr → Prop} {s : Shared} (hX : ∀ a, X a → a < s.heap.objs.size) {l : List (Str × Tok)} {ts : List T} (e : l.map (fun p => p.1.cps.toList) = ts) :
    OwnRep C.pr C.w (s.heap.push { cls := .type "list", data := .seq (strValues l).toArray }) (fun b => X b ∨ b = s.heap.objs.size) s.heap.objs.size (.ol (ts.map .str)) := by
  subst e
  exact ⟨strValues l, ⟨0, Heap.get?_push_size _ rfl⟩, strs_rp l⟩

theorem PNF.split (x y : T) (hy : 1 ≤ y.length) (hya : ∀ c ∈ y, c < 256) (hx : x.length ≤ 1000000) : PNF C (.builtin "str.split") [.str x, .str y] (.ol ((splitA y x 0).map .str)) := fun X s Q vs ht hk hX rs hQ => by
  cases rs with | cons r1 rs => cases rs with | cons r2 rs => cases rs; cases r1 with | rstr x t => cases r2 with | rstr y u =>
    have hyl : y.cps.toList.length = y.length := by simp [Str.length]
    have hxl : x.cps.toList.length = x.length := by simp [Str.length]
    have hy0 : (y.length == 0) = false := by rw [beq_eq_false_iff_ne]; omega
    have hsp : ∀ l : List (Str × Tok), l.map (·.1) = Txt.split x y → l.map (fun p => p.1.cps.toList) = splitA y.cps.toList x.cps.toList 0 := fun l e => by
      rw [← split_list x y (by omega) (kind_one hya), ← e]; simp [Function.comp_def]
    have fin : ∀ (l : List (Str × Tok)) k, l.map (·.1) = Txt.split x y → Q (.ref s.heap.objs.size) { s with heap := s.heap.push { cls := .type "list", data := .seq (strValues l).toArray }, toks := k } := fun l k e =>
      hQ _ k _ (Le.push _ _) (Nat.le_refl _) (by rw [Heap.size_push]; exact Nat.lt_succ_self _) (owned_strs hX (hsp l e))
    have hn : (Builtin.Str.partsBetween x (Builtin.Str.occurrences x y 0 x.length (x.length + 1)) y.length).length ≤ sizeLine := by
      have e1 := StrLaws.occ_length_le x y 0 x.length (x.length + 1)
      rw [length_partsBetween, sizeLine_eq]; omega
    cases h1 : (decide (x.length < y.length) || decide (Builtin.Str.strKind x < Builtin.Str.strKind y))
    · cases hf : (Builtin.Str.occurrences x y 0 x.length (x.length + 1)).isEmpty
      · refine call_meets F.slot_str_split (typeIs_str _ _ _) F.entry_str_split (F.args_str_split_2 _ _) (meets_str_split_sep x y t u h1 hy0 hf (by rw [sizeLine_eq]; omega) hn) ?_
        show wants Q _ _ { s with toks := _, heap := s.heap.push { cls := .type "list", data := .seq (strsFrom s.toks (Builtin.Str.partsBetween x (Builtin.Str.occurrences x y 0 x.length (x.length + 1)) y.length)).toArray } }
        rw [strsFrom_eq]
        exact fin (numbered s.toks _) _ ((numbered_texts _ _).trans ((if_neg (ne_true_of_eq_false h1)).trans (if_neg (ne_true_of_eq_false hf))).symm)
      · exact call_meets F.slot_str_split (typeIs_str _ _ _) F.entry_str_split (F.args_str_split_2 _ _) (meets_str_split_not_found x y t u h1 hy0 hf)
          (fin [(x, t)] s.toks ((if_neg (ne_true_of_eq_false h1)).trans (if_pos hf)).symm)
    · exact call_meets F.slot_str_split (typeIs_str _ _ _) F.entry_str_split (F.args_str_split_2 _ _) (meets_str_split_cannot_occur x y t u h1)
        (fin [(x, t)] s.toks (if_pos h1).symm)

/-- list of a text -/
theorem signs_rp {h : Heap} {X : Addr → Prop} (x : Str) : ∀ (vs : List Value) (k : Nat), (∀ j v, vs[j]? = some v → SignAt x (k + j) v) → k + vs.length = x.cps.size → RpAll C.pr C.w h X vs ((x.cps.toList.drop k).map fun c => .str [c])
  | [], k, hv, hl => by
    rw [List.drop_of_length_le (by simp at hl ⊢; omega)]; exact .nil
  | v :: vs, k, hv, hl => by
    have hk : k < x.cps.toList.length := by simp at hl ⊢; omega
    obtain ⟨c, u, hc, rfl⟩ := hv 0 v (by simp)
    rw [List.drop_eq_getElem_cons hk, List.map_cons]
    have hcc : x.cps.toList[k] = c := by simpa using (Array.getElem?_eq_some_iff.mp hc).2
    rw [hcc]
    exact .cons (.rstr ⟨#[c]⟩ u) (signs_rp x vs (k + 1) (fun j v e => by have := hv (j + 1) v (by simpa using e); rwa [show k + (j + 1) = k + 1 + j by omega] at this) (by simp at hl; omega))
theorem PNF.list_str (hh : C.A.handled = none) (x : T) (hx : x.length ≤ 1000000) : PNF C (.type "list") [.str x] (.ol (x.map fun c => .str [c])) := fun X s Q vs ht hk hX rs hQ => by
  cases rs with | cons r1 rs => cases rs; cases r1 with | rstr x t =>
    refine wp_size (call_list_str hh x t (fun h' tk acc' c' hk hS' hacc hz => ?_) (by simp at hx; rw [sizeLine_eq]; omega))
    refine hQ h' tk _ ⟨hz, hk⟩ (Nat.le_refl _) (Heap.lt_size hS') ⟨acc'.toList, ⟨c', by simpa using hS'⟩, ?_⟩
    have := signs_rp (C := C) (h := h') (X := fun b => X b ∨ b = s.heap.objs.size) x acc'.toList 0 (fun j v e => by rw [Nat.zero_add]; exact hacc.2 j v (by simpa using e)) (by simp [hacc.1])
    simpa using this

/-! ### text.replace with two written texts -/
theorem Ev.replace {o : Expr} {x : T} {y z : Str} {k1 k2 : Nat} {p pa p1 p2 : Pos} (ht0 : 1 ≤ C.t0) (h0 : Ev C σ o (.str x)) (hy : 1 ≤ y.length) (hya : ∀ c ∈ y.cps.toList, c < 256) (hyz : (y == z) = false) (hx : x.length ≤ 1048576) (hz : z.length ≤ 14)
    (hbase : ∀ t, attributeBase o "replace" C.env t = t) (hline : (pa.endLine == p.line) = true) :
    Ev C σ (.Call (.Attribute o "replace" pa) [.Constant (.str y) k1 p1, .Constant (.str z) k2 p2] [] p) (.str (joinL z.cps.toList (splitA y.cps.toList x 0))) := .mk fun X0 W s Q ht S hQ => by
  refine wpAny_Call_method_late (hbase _) (by simp [backToKw, keywordEach, backTo, starEach]) hline rfl (h0.run X0 W s _ ht S fun h' tk v ht' l rr => ?_)
  obtain ⟨hty, hnd⟩ := Rp.typeIs (s := { s with heap := h', toks := tk }) rr (.inl ⟨x, rfl⟩)
  refine ⟨_, "str.replace", F.plainAttrs_str, F.slot_str_replace, rfl, hty, hnd, ?_⟩
  refine Calls.callWith_builtin (by rfl) (Calls.evalArgs_plain (Calls.spliced_cons (Calls.Constant_str (k := k1) (pos := p1) (Calls.spliced_cons (Calls.Constant_str (k := k2) (pos := p2) (Calls.spliced_nil ?_))))))
  cases rr with | rstr x t =>
  have hxl : x.cps.toList.length = x.length := by simp [Str.length]
  refine wp_toks (n := C.t0) (show C.t0 ≤ tk + 1 + 1 by omega) (SC.replaceW (by show tk ≠ 0; omega) (by show tk + 1 ≠ 0; omega) (by show tk ≠ tk + 1; omega) hyz (by omega) hz fun t' k ht2 => ?_)
  have e := replace_list x y z hy (kind_one hya)
  rw [← e] at hQ
  exact hQ h' k _ ht2 l (.rstr _ _)

/-! ### a list's slice with a step -/
def stepPick {α : Type} (xs : List α) (lo st : Int) : List α := (Builtin.Str.strSliceIndices (some lo) none st xs.length).filterMap (xs[·]?)
theorem stepPick_map {α β : Type} (f : α → β) (xs : List α) (lo st : Int) : stepPick (xs.map f) lo st = (stepPick xs lo st).map f := by
  unfold stepPick
  rw [List.map_filterMap, List.length_map]
  congr 1; funext i; simp
theorem Ev.slice_step {e e1 e2 : Expr} {p ps : Pos} {xs : List D} {a b : Int} (h0 : Ev C σ e (.list xs)) (h1 : Ev C σ e1 (.int a)) (h2 : Ev C σ e2 (.int b)) (hb : b ≠ 0) (hz : xs.length ≤ 16777216)
    (hs : ∀ o i', subscripted (.Slice (some e1) none (some e2) ps) false o i' = operate [o, i'] (getItem o i')) : Ev C σ (.Subscript e (.Slice (some e1) none (some e2) ps) p) (.list (stepPick xs a b)) := .mk fun X0 W s Q ht S hQ =>
  Subscript_ (h0.run X0 W s _ ht S fun h' tk v ht' l rr => wpAny_Slice (h1.run X0 W _ _ ht' (S.le l) fun h1' tk1 v1 ht1 l1 r1 => wpAny_pure (h2.run X0 W _ _ ht1 ((S.le l).le l1) fun h2' tk2 v2 ht2 l2 r2 => by
    cases r1 with | rint _ u1 => cases r2 with | rint _ u2 =>
    cases rr with | @rlist ad vs _ ha hl rr =>
    have hle : Le h' (h2'.push { cls := .type "slice", data := .fields #[.int a u1, .none, .int b u2] }) := (l1.trans l2).trans (Le.push _ _)
    have hlen := rr.length
    refine tail_any (Heap.IsList.typeIs (s := { s with heap := h2'.push { cls := .type "slice", data := .fields #[.int a u1, .none, .int b u2] }, toks := tk2 }) (hl.at fun o => hle.get ad o).isList) list_getitem_lookup
      (wpAny_getItem_list_slice (lo := some a) (hi := none) (st := some b) (hl.at fun o => hle.get ad o).isList (Heap.IsSliceOf.new ..) (.int _ _) .none (.int _ _) (by simpa using hb) ?_ (by rw [sizeLine_eq]; simp; omega)) (hs _ _)
    have hpick : slicePick vs.toArray (some a) none (some b) = (stepPick vs a b).toArray := by
      unfold slicePick stepPick
      simp [sliceBounds, Builtin.Str.strSliceIndices]
    rw [hpick]
    have hrp := rr.pick (Builtin.Str.strSliceIndices (some a) none b xs.length)
    have : stepPick vs a b = (Builtin.Str.strSliceIndices (some a) none b xs.length).filterMap (vs[·]?) := by unfold stepPick; rw [hlen]
    rw [this]
    refine hQ _ tk2 _ ht2 ((l.trans hle).trans (Le.push _ _)) (.rlist (fun hx => Nat.lt_irrefl _ (((S.le l).le hle).lt _ hx)) ⟨0, Heap.get?_push_size _ rfl⟩ ((hrp.le hle).le (Le.push _ _))))))

theorem P2.add_list (xs ys : List D) (hz : xs.length + ys.length ≤ 16777216) : P2 C (binaryOp .Add) (.list xs) (.list ys) (.list (xs ++ ys)) := fun X s Q v1 v2 hX r1 r2 hQ => by
  cases r1 with | @rlist a1 vs1 _ ha hl rr => cases r2 with | @rlist a2 vs2 _ ha2 hl2 rr2 =>
  obtain ⟨n, e1⟩ := hl
  obtain ⟨n2, e2⟩ := hl2
  have e : vs1.toArray ++ vs2.toArray = (vs1 ++ vs2).toArray := by simp
  refine concat_meets ⟨_, e1, rfl⟩ ⟨_, e2, rfl⟩ noFill_list_add seq_list_add PySem.F.slot_list_add PySem.F.entry_list_add (PySem.F.args_list_add_2 _ _) (list_addW a1 a2 vs1.toArray vs2.toArray n n2 _ _ _ _ (by simp [rr.length, rr2.length, sizeLine_eq]; omega)) ⟨e1, e2, ?_⟩
  rw [e]
  exact hQ _ _ _ (Le.push _ _) (.rlist (fun hx => Nat.lt_irrefl _ (hX _ hx)) ⟨0, Heap.get?_push_size _ rfl⟩ ((rr.append rr2).le (Le.push _ _)))

theorem P2.ne_opt (a b : Option Int) : P2 C (compareOp .NotEq) (optInt a) (optInt b) (.bool (decide (a ≠ b))) := fun X s Q v1 v2 hX r1 r2 h => by
  cases a with
  | none => cases b with
    | none => cases r1; cases r2; exact EqNone.ne_none_none (h s.heap s.toks _ (Le.refl _) (by simpa using Rp.rbool false))
    | some b => cases r1; cases r2; exact EqNone.ne_none_int (h s.heap s.toks _ (Le.refl _) (by simpa using Rp.rbool true))
  | some a => cases b with
    | none => cases r1; cases r2; exact EqNone.ne_int_none (h s.heap s.toks _ (Le.refl _) (by simpa using Rp.rbool true))
    | some b => cases r1; cases r2; exact PyProof.Rows.ne_int (h s.heap s.toks _ (Le.refl _) (by
        have : (a != b) = decide (some a ≠ some b) := by rw [bne, Bool.eq_iff_iff]; simp
        rw [this]; exact Rp.rbool _))
end
end Mine

namespace Mine

/-- a def of the top, as the heap hG has it -/
def Def (hG : Heap) (mg : Str → Option Value) (x : Str) (params : Arguments) (body : List Stmt) (scope : Scope) : Prop :=
  ∃ a c' o pm doc, mg x = some (.ref a) ∧ hG.get? a = some o ∧ o.data = .func (Calls.docDef x params body scope pm (.ref c') doc) ∧ hG.CodeRec (.ref c') x

theorem cellsFrom_nodup : ∀ (names : List (Str × NameKind)) (n : Nat) (acc : List (Str × Addr)), (names.map (·.1)).Nodup → (acc.map (·.1)).Nodup → (∀ x ∈ acc.map (·.1), x ∉ names.map (·.1)) → ((cellsFrom n names acc).map (·.1)).Nodup
  | [], n, acc, _, h, _ => h
  | (x, k) :: r, n, acc, h1, h2, h3 => by
    rw [List.map_cons, List.nodup_cons] at h1
    unfold cellsFrom
    split
    · refine cellsFrom_nodup r _ _ h1.2 ?_ fun y hy => ?_
      · rw [List.map_cons, List.nodup_cons]
        exact ⟨fun hm => h3 x hm (by simp), h2⟩
      · rw [List.map_cons] at hy
        rcases List.mem_cons.mp hy with rfl | hy
        · exact h1.1
        · exact fun hm => h3 y hy (by rw [List.map_cons]; exact List.mem_cons_of_mem _ hm)
    · exact cellsFrom_nodup r _ _ h1.2 h2 fun y hy hm => h3 y hy (by rw [List.map_cons]; exact List.mem_cons_of_mem _ hm)
theorem lookup_mem_nodup {β : Type} : ∀ {l : List (Str × β)} {n : Str} {c : β}, (l.map (·.1)).Nodup → (n, c) ∈ l → l.lookup n = some c
  | (x, d) :: r, n, c, h, hm => by
    rw [List.map_cons, List.nodup_cons] at h
    rcases List.mem_cons.mp hm with e | hm
    · cases e; simp
    · have hne : n ≠ x := fun e => h.1 (e ▸ List.mem_map_of_mem (f := (·.1)) hm)
      rw [List.lookup_cons]
      have : (n == x) = false := by rw [beq_eq_false_iff_ne]; exact hne
      rw [this]; exact lookup_mem_nodup h.2 hm

def env0 (names : List Str) (ds : List D) : VEnv := names.zip (ds.map .fz)

theorem bindL_out {k : Str → Option NameKind} {x : Str} : ∀ {names : List Str} {vs : List Value} {m : Str → Option Value}, x ∉ names → bindL k (names.zip vs) m x = m x
  | [], vs, m, h => by simp [bindL]
  | n :: names, [], m, h => by simp [bindL]
  | n :: names, v :: vs, m, h => by
    simp only [List.mem_cons, not_or] at h
    rw [List.zip_cons_cons, bindL, bindL_out h.2]
    split
    · simp [h.1]
    · rfl
theorem bindC_out {k : Str → Option NameKind} {x : Str} : ∀ {names : List Str} {vs : List Value} {m : Str → Option Value}, x ∉ names → bindC k (names.zip vs) m x = m x
  | [], vs, m, h => by simp [bindC]
  | n :: names, [], m, h => by simp [bindC]
  | n :: names, v :: vs, m, h => by
    simp only [List.mem_cons, not_or] at h
    rw [List.zip_cons_cons, bindC, bindC_out h.2]
    split
    · rfl
    · simp [h.1]

theorem bind_get {pr : Program} {w : World} {h : Heap} {X : Addr → Prop} {k : Str → Option NameKind} : ∀ {names : List Str} {vs : List Value} {ds : List D} {m cm : Str → Option Value} {x : Str} {sl : Slot}, RpAll pr w h X vs ds → names.length = ds.length → names.Nodup →
    (env0 names ds).get x = some sl → ∃ v d, sl = .fz d ∧ Rp pr w h X v d ∧ x ∈ names ∧ (k x = some .local → bindL k (names.zip vs) m x = some v) ∧ (k x ≠ some .local → bindC k (names.zip vs) cm x = some v)
  | [], vs, ds, m, cm, x, sl, rr, hl, hn, e => by simp [env0, VEnv.get] at e
  | n :: names, _, _, m, cm, x, sl, .nil, hl, hn, e => by simp at hl
  | n :: names, _, _, m, cm, x, sl, .cons (v := v) (d := d) (vs := vs) (ds := ds) r rr, hl, hn, e => by
    rw [List.nodup_cons] at hn
    have e' : (if x = n then some (Slot.fz d) else (env0 names ds).get x) = some sl := by
      simpa [env0, VEnv.get] using e
    by_cases hx : x = n
    · subst hx
      rw [if_pos rfl] at e'
      refine ⟨v, d, (Option.some.inj e').symm, r, by simp, fun hk => ?_, fun hk => ?_⟩
      · rw [List.zip_cons_cons, bindL, bindL_out hn.1, if_pos hk]; simp
      · rw [List.zip_cons_cons, bindC, bindC_out hn.1, if_neg hk]; simp
    · rw [if_neg hx] at e'
      obtain ⟨v', d', h1, h2, h3, h4, h5⟩ := bind_get (k := k) (m := if k n = some .local then fun y => if y = n then some v else m y else m) (cm := if k n = some .local then cm else fun y => if y = n then some v else cm y) rr (by simpa using hl) hn.2 e'
      exact ⟨v', d', h1, h2, List.mem_cons_of_mem _ h3, by rw [List.zip_cons_cons, bindL]; exact h4, by rw [List.zip_cons_cons, bindC]; exact h5⟩

/-- the frame of a def -/
structure Frm (C : Cx) (hG : Heap) (pr : Program) (t0 : Nat) (x : Str) (scope : Scope) : Prop where
  pr : C.pr = pr
  t0 : C.t0 = t0
  env : ∃ a cd, C.env = envOfC x scope C.env.locals a cd
  loc : C.h0.objs.size ≤ C.env.locals
  hG : ∀ b o, hG.get? b = some o → C.h0.get? b = some o

def RetIs (d : D) : Out → Prop
  | .ret d' => d' = d
  | .next _ => d = .none

structure ScopeOk (scope : Scope) (names : List Str) : Prop where
  co : scope.isCoroutine = false
  gen : scope.isGenerator = false
  kind : scope.kind = .function
  nod : (scope.names.map (·.1)).Nodup
  nodp : names.Nodup
  par : ∀ x ∈ names, scope.names.lookup x = some .local ∨ scope.names.lookup x = some .cell

theorem cellsFrom_has : ∀ (names : List (Str × NameKind)) (n : Nat) (acc : List (Str × Addr)) (x : Str), (names.lookup x = some .cell ∨ (acc.lookup x).isSome = true) → ((cellsFrom n names acc).lookup x).isSome = true
  | [], n, acc, x, h => h.elim (fun h => by simp at h) id
  | (y, k) :: r, n, acc, x, h => by
    unfold cellsFrom
    split
    · rename_i hk
      refine cellsFrom_has r _ _ x ?_
      by_cases hx : x = y
      · subst hx; right; simp
      · rcases h with h | h
        · left
          rw [List.lookup_cons] at h
          have : (x == y) = false := by rw [beq_eq_false_iff_ne]; exact hx
          rw [this] at h; exact h
        · right
          rw [List.lookup_cons]
          have : (x == y) = false := by rw [beq_eq_false_iff_ne]; exact hx
          rw [this]; exact h
    · rename_i hk
      refine cellsFrom_has r _ _ x ?_
      rcases h with h | h
      · left
        by_cases hx : x = y
        · subst hx
          simp at h
          subst h; exact absurd rfl hk
        · rw [List.lookup_cons] at h
          have : (x == y) = false := by rw [beq_eq_false_iff_ne]; exact hx
          rw [this] at h; exact h
      · exact .inr h

theorem enter_state {C : Cx} {hG : Heap} {x : Str} {scope : Scope} {names : List Str} {ds : List D} {X : Addr → Prop} {s : Shared} {vs : List Value} {a : Addr} {cd : Value} {h₁ : Heap} {t0 : Nat} {m cm : Str → Option Value}
    (hS : ScopeOk scope names) (hl : names.length = ds.length) (hX : ∀ a, X a → a < s.heap.objs.size) (rs : RpAll C.pr C.w s.heap X vs ds)
    (F : Fr s.heap s.heap.objs.size h₁ m) (Y : ∀ n c, (cellsFrom (s.heap.objs.size + 1) scope.names []).lookup n = some c → h₁.IsCell c (cm n)) (hab : ∀ n c, (n, c) ∈ cellsFrom (s.heap.objs.size + 1) scope.names [] → s.heap.objs.size < c)
    (hb : ∀ y v, y ∈ names → (scope.names.lookup y = some .local → bindL (envOfC x scope s.heap.objs.size a cd).kindOf (names.zip vs) (fun _ => none) y = some v → m y = some v) ∧
       (scope.names.lookup y ≠ some .local → bindC (envOfC x scope s.heap.objs.size a cd).kindOf (names.zip vs) (fun _ => none) y = some v → cm y = some v)) :
    St ⟨C.pr, C.w, C.A.deeper (envOfC x scope s.heap.objs.size a cd), envOfC x scope s.heap.objs.size a cd, s.heap, t0⟩ X [] (env0 names ds) h₁ := by
  have hLt : s.heap.objs.size < h₁.objs.size := F.ns.lt
  have hnd := cellsFrom_nodup scope.names (s.heap.objs.size + 1) [] hS.nod (by simp) (fun x hx => by simp at hx)
  have hmut : ∀ b, Cx.Mut ⟨C.pr, C.w, C.A.deeper (envOfC x scope s.heap.objs.size a cd), envOfC x scope s.heap.objs.size a cd, s.heap, t0⟩ [] b → s.heap.objs.size ≤ b ∧ b < h₁.objs.size := fun b hb => by
    rcases hb with q | ⟨n, q, q'⟩ | ⟨_, q⟩
    · have q : b = s.heap.objs.size := q
      subst q; exact ⟨Nat.le_refl _, hLt⟩
    · exact ⟨q', (Y n b (lookup_mem_nodup hnd q)).lt⟩
    · cases q
  have l : Le s.heap h₁ := ⟨Nat.le_of_lt hLt, F.keep⟩
  refine ⟨F.keep, Nat.le_of_lt hLt, ⟨m, cm, F.ns, Y, fun y sl e => ?_⟩, fun b hb => ?_, fun b hb q => ?_, by simp, fun _ _ e => (nomatch e), fun _ _ _ e => (nomatch e)⟩
  · obtain ⟨v, d, rfl, rv, hy, h4, h5⟩ := bind_get (k := (envOfC x scope s.heap.objs.size a cd).kindOf) (m := fun _ => none) (cm := fun _ => none) rs hl hS.nodp e
    refine ⟨v, ?_, (Rp.forbid rv fun b hb => ?_).le l⟩
    · rcases hS.par y hy with k | k
      · exact .inl ⟨k, (hb y v hy).1 k (h4 k)⟩
      · have kn : scope.names.lookup y ≠ some .local := by rw [k]; simp
        exact .inr ⟨.inl k, cellsFrom_has _ _ _ _ (.inl k), (hb y v hy).2 kn (h5 kn)⟩
    · rcases hb with q | q
      · exact .inl q
      · exact .inr (fresh_none (hmut b q).1)
  · rcases hb with q | q
    · exact Nat.lt_trans (hX b q) hLt
    · exact (hmut b q).2
  · exact Nat.lt_irrefl _ (Nat.lt_of_lt_of_le (hX b q) (hmut b hb).1)

theorem cellsFrom_above : ∀ (names : List (Str × NameKind)) (n : Nat) (acc : List (Str × Addr)) (p : Str × Addr), p ∈ cellsFrom n names acc → p ∈ acc ∨ n ≤ p.2
  | [], n, acc, p, h => .inl h
  | (x, k) :: r, n, acc, p, h => by
    unfold cellsFrom at h
    split at h
    · rcases cellsFrom_above r _ _ p h with h | h
      · rcases List.mem_cons.mp h with rfl | h
        · exact .inr (Nat.le_refl _)
        · exact .inl h
      · exact .inr (by omega)
    · exact cellsFrom_above r _ _ p h

theorem enter_ok {C : Cx} {gl : Str → Option Value} {r : Nat} {x : Str} {scope : Scope} {s : Shared} {a : Addr} {cd : Value} {t0 : Nat} (K : C.Ok gl (r + 1)) (hk : scope.kind = .function) (hkeep : ∀ b o, C.h0.get? b = some o → s.heap.get? b = some o) :
    Cx.Ok ⟨C.pr, C.w, C.A.deeper (envOfC x scope s.heap.objs.size a cd), envOfC x scope s.heap.objs.size a cd, s.heap, t0⟩ gl r where
  kind := hk
  hand := K.hand
  depth := by
    have := K.depth
    show (C.A.depth + 1) + r < _
    omega
  units := by
    have := K.units
    show (C.A.units + 3) + 3 * r + 80 < _
    omega
  globals := rfl
  builtins := rfl
  base := K.base.keeps hkeep
  cellL := fun n c hc e => by
    rcases cellsFrom_above _ _ _ _ hc with q | q
    · cases q
    · have e : c = s.heap.objs.size := e
      have q : s.heap.objs.size + 1 ≤ c := q
      rw [e] at q; exact absurd q (Nat.not_succ_le_self _)
  Lhi := Nat.le_refl _

/-- a def, called -/
theorem PN.fn {C : Cx} {gl : Str → Option Value} {r : Nat} {hG : Heap} {mg : Str → Option Value} {x : Str} {params : Arguments} {body : List Stmt} {scope : Scope} {names : List Str} {ds : List D} {d : D}
    (Df : Def hG mg x params body scope) (K : C.Ok gl (r + 1)) (hG0 : ∀ b o, hG.get? b = some o → C.h0.get? b = some o) (hS : ScopeOk scope names) (hl : names.length = ds.length)
    (hb : ∀ pm cd doc vs, vs.length = names.length → bindArgs (Calls.docDef x params body scope pm cd doc) ⟨vs, []⟩ = pure (names.zip vs))
    (H : ∀ C' : Cx, C'.Ok gl r → Frm C' hG C.pr 0 x scope → Exs C' (env0 names ds) body (RetIs d)) : ∃ a o fd, mg x = some (.ref a) ∧ C.h0.get? a = some o ∧ o.data = .func fd ∧ PN C (.ref a) ds d := by
  obtain ⟨a, c', o, pm, doc, h1, h2, h3, h4⟩ := Df
  refine ⟨a, o, _, h1, hG0 _ _ h2, h3, fun X s Q vs ht hk hX rs hQ => ?_⟩
  have hkG : ∀ b o, hG.get? b = some o → s.heap.get? b = some o := fun b o e => hk _ _ (hG0 _ _ e)
  refine wpAny_call (call_cells_ret (by have := K.depth; omega) (hkG _ _ h2) h3 (K.base.keeps hk).nolimit (h4.keeps hkG) (hb pm (.ref c') doc vs (by rw [rs.length, hl])) (fun p hp => ?_) (fun h₁ tk F Y => ?_) hS.co hS.gen hS.kind)
  · have hp1 : p.1 ∈ names := (List.of_mem_zip hp).1
    rcases hS.par _ hp1 with k | k
    · exact .inl k
    · exact .inr ⟨k, cellsFrom_has _ _ _ _ (.inl k)⟩
  · have S := enter_state (C := C) (hG := hG) (t0 := 0) (a := a) (cd := .ref c') (x := x) hS hl hX rs F Y.cell Y.above fun y v hy => ⟨fun _ e => e, fun _ e => e⟩
    refine (H ⟨C.pr, C.w, C.A.deeper (envOfC x scope s.heap.objs.size a (.ref c')), envOfC x scope s.heap.objs.size a (.ref c'), s.heap, 0⟩ (enter_ok K hS.kind hk) ⟨rfl, rfl, ⟨a, .ref c', rfl⟩, Nat.le_refl _, hkG⟩).run X [] { s with heap := h₁, toks := tk } _ (Nat.zero_le _) S ⟨fun σ' W' h' tk' hp _ S' m => ?_, fun d' v W' σ' h' tk' hp _ S' m rr => ?_⟩
    · have hp : d = .none := hp
      subst hp
      exact hQ h' tk' _ ⟨S'.hsize, S'.keep⟩ .rnone
    · have hp : d' = d := hp
      subst hp
      exact hQ h' tk' v ⟨S'.hsize, S'.keep⟩ (Rp.weaken rr fun b hb => .inl hb)
/-- the same where a token has been spent on a parameter -/
theorem PN.fn1 {C : Cx} {gl : Str → Option Value} {r : Nat} {hG : Heap} {mg : Str → Option Value} {x : Str} {params : Arguments} {body : List Stmt} {scope : Scope} {names : List Str} {ds : List D} {d : D}
    (Df : Def hG mg x params body scope) (K : C.Ok gl (r + 1)) (hG0 : ∀ b o, hG.get? b = some o → C.h0.get? b = some o) (hS : ScopeOk scope names) (hl : names.length = ds.length) (hne : names ≠ [])
    (hnc : ∀ y ∈ scope.names, y.2 ≠ .cell)
    (hb : ∀ pm cd doc vs, vs.length = names.length → bindArgs (Calls.docDef x params body scope pm cd doc) ⟨vs, []⟩ = pure (names.zip vs))
    (H : ∀ C' : Cx, C'.Ok gl r → Frm C' hG C.pr 1 x scope → Exs C' (env0 names ds) body (RetIs d)) : ∃ a o fd, mg x = some (.ref a) ∧ C.h0.get? a = some o ∧ o.data = .func fd ∧ PN C (.ref a) ds d := by
  obtain ⟨a, c', o, pm, doc, h1, h2, h3, h4⟩ := Df
  refine ⟨a, o, _, h1, hG0 _ _ h2, h3, fun X s Q vs ht hk hX rs hQ => ?_⟩
  have hkG : ∀ b o, hG.get? b = some o → s.heap.get? b = some o := fun b o e => hk _ _ (hG0 _ _ e)
  have hvl : vs.length = names.length := by rw [rs.length, hl]
  have hcf : ∀ n, cellsFrom n scope.names [] = [] := by
    intro n
    have : ∀ (l : List (Str × NameKind)) n, (∀ y ∈ l, y.2 ≠ .cell) → cellsFrom n l [] = [] := by
      intro l
      induction l with
      | nil => intro n _; rfl
      | cons p l ih =>
        intro n h
        obtain ⟨y, k⟩ := p
        have hk : (k == NameKind.cell) = false := by have := h (y, k) (by simp); rw [beq_eq_false_iff_ne]; exact this
        unfold cellsFrom
        rw [hk, if_neg (by simp)]
        exact ih n fun z hz => h z (List.mem_cons_of_mem _ hz)
    exact this _ n hnc
  have henv : ∀ L cd, envOf x scope L a cd = envOfC x scope L a cd := fun L cd => by unfold envOf envOfC; rw [hcf]
  refine wpAny_call (call_plain_ret (by have := K.depth; omega) (hkG _ _ h2) h3 (K.base.keeps hk).nolimit (h4.keeps hkG) (hb pm (.ref c') doc vs hvl) (fun p hp => ?_) (fun h₁ F => ?_) hS.co hS.gen hS.kind hnc)
  · have hp1 : p.1 ∈ names := (List.of_mem_zip hp).1
    rcases hS.par _ hp1 with k | k
    · exact k
    · exact absurd rfl (hnc _ (mem_of_lookup k))
  · rw [henv]
    have hbl : ∀ (k : Str → Option NameKind) (y : Str) (v : Value), (∀ z ∈ names, k z = some .local) → names.Nodup → bindL k (names.zip vs) (fun _ => none) y = some v → ((names.zip vs).reverse.lookup y) = some v := by
      intro k
      have gen : ∀ (ns : List Str) (vs : List Value) (m : Str → Option Value) y v, (∀ z ∈ ns, k z = some .local) → bindL k (ns.zip vs) m y = some v → ((ns.zip vs).reverse.lookup y = some v ∨ ((ns.zip vs).reverse.lookup y = none ∧ m y = some v)) := by
        intro ns
        induction ns with
        | nil => intro vs m y v _ e; right; exact ⟨by simp, by simpa [bindL] using e⟩
        | cons n ns ih =>
          intro vs m y v hz e
          cases vs with
          | nil => right; exact ⟨by simp, by simpa [bindL] using e⟩
          | cons u vs =>
            rw [List.zip_cons_cons, bindL, if_pos (hz n (by simp))] at e
            rw [List.zip_cons_cons, List.reverse_cons, List.lookup_append]
            rcases ih vs _ y v (fun z hzz => hz z (List.mem_cons_of_mem _ hzz)) e with q | ⟨q, q'⟩
            · left; rw [q]; rfl
            · rw [q, Option.none_or]
              by_cases hy : y = n
              · subst hy; left; simpa using q'
              · right
                rw [if_neg hy] at q'
                refine ⟨?_, q'⟩
                have : (y == n) = false := by rw [beq_eq_false_iff_ne]; exact hy
                simp [List.lookup_cons, this]
      intro y v hz _ e
      rcases gen names vs _ y v hz e with q | ⟨_, q⟩
      · exact q
      · cases q
    have S := enter_state (C := C) (hG := hG) (t0 := 1) (a := a) (cd := .ref c') (x := x) (cm := fun _ => none) hS hl hX rs F (fun n c e => by rw [hcf] at e; cases e) (fun n c e => by rw [hcf] at e; cases e) fun y v hy => ⟨fun _ e => hbl _ y v (fun z hz => (hS.par z hz).elim id fun k => absurd rfl (hnc _ (mem_of_lookup k))) hS.nodp e,
      fun k _ => absurd ((hS.par y hy).elim id fun k => absurd rfl (hnc _ (mem_of_lookup k))) k⟩
    refine (H ⟨C.pr, C.w, C.A.deeper (envOfC x scope s.heap.objs.size a (.ref c')), envOfC x scope s.heap.objs.size a (.ref c'), s.heap, 1⟩ (enter_ok K hS.kind hk) ⟨rfl, rfl, ⟨a, .ref c', rfl⟩, Nat.le_refl _, hkG⟩).run X [] { s with heap := h₁, toks := s.toks + (names.zip vs).length } _ ?_ S ⟨fun σ' W' h' tk' hp _ S' m => ?_, fun d' v W' σ' h' tk' hp _ S' m rr => ?_⟩
    · show 1 ≤ s.toks + (names.zip vs).length
      have : 0 < names.length := List.length_pos_iff.mpr hne
      rw [List.length_zip, hvl]; omega
    · have hp : d = .none := hp
      subst hp
      exact hQ h' tk' _ ⟨S'.hsize, S'.keep⟩ .rnone
    · have hp : d' = d := hp
      subst hp
      exact hQ h' tk' v ⟨S'.hsize, S'.keep⟩ (Rp.weaken rr fun b hb => .inl hb)
end Mine

namespace Mine

section
variable {C : Cx} {gl : Str → Option Value} {r : Nat} {σ : VEnv} {P : Out → Prop} {hG : Heap} {pr : Program} {t0 : Nat} {fn : Str} {scope : Scope}

theorem Frm.kindOf (F : Frm C hG pr t0 fn scope) (x : Str) : C.env.kindOf x = scope.names.lookup x := by
  obtain ⟨a, cd, e⟩ := F.env
  rw [e]; rfl
theorem Frm.cells (F : Frm C hG pr t0 fn scope) : C.env.cells = cellsFrom (C.env.locals + 1) scope.names [] := by
  obtain ⟨a, cd, e⟩ := F.env
  have : C.env.cells = (envOfC fn scope C.env.locals a cd).cells := congrArg Env.cells e
  exact this
theorem Frm.sto (F : Frm C hG pr t0 fn scope) {x : Str} (h : scope.names.lookup x = some .local) : Sto C x := .inl (by rw [F.kindOf]; exact h)

theorem cellsFrom_below : ∀ (names : List (Str × NameKind)) (n : Nat) (acc : List (Str × Addr)), (∀ p ∈ acc, p.2 < n) → (acc.Pairwise fun x y => x.2 ≠ y.2) → ((cellsFrom n names acc).Pairwise fun x y => x.2 ≠ y.2)
  | [], n, acc, _, h => h
  | (x, k) :: r, n, acc, h1, h2 => by
    unfold cellsFrom
    split
    · refine cellsFrom_below r _ _ (fun p hp => ?_) (List.pairwise_cons.mpr ⟨fun p hp => Nat.ne_of_gt (h1 p hp), h2⟩)
      rcases List.mem_cons.mp hp with rfl | hp
      · exact Nat.lt_succ_self _
      · exact Nat.lt_succ_of_lt (h1 p hp)
    · exact cellsFrom_below r _ _ h1 h2

theorem Frm.stoC (F : Frm C hG pr t0 fn scope) {x : Str} (h : scope.names.lookup x = some .cell) : Sto C x := by
  have hs := cellsFrom_has scope.names (C.env.locals + 1) [] x (.inl h)
  obtain ⟨c, hc⟩ := Option.isSome_iff_exists.mp hs
  refine .inr ⟨by rw [F.kindOf]; exact h, ?_, c, by rw [F.cells]; exact hc, ?_⟩
  · rw [F.cells]; exact cellsFrom_below _ _ _ (fun p hp => by cases hp) .nil
  · rcases cellsFrom_above _ _ _ _ (mem_of_lookup hc) with q | q
    · cases q
    · exact Nat.le_trans F.loc (Nat.le_of_succ_le q)

/-! ### the five escapes: one sign by its name -/
def spells (l : List (Nat × T)) (d : Nat) : T := match l.lookup d with | some z => z | none => [d]
theorem spells_step {l : List (Nat × T)} {c : Nat} {z : T} (h : ∀ p ∈ l, c ∉ p.2 ∧ p.1 ≠ c) (d : Nat) : (spells l d).flatMap (fun e => if e = c then z else [e]) = spells (l ++ [(c, z)]) d := by
  unfold spells
  rw [List.lookup_append]
  cases e : l.lookup d with
  | some y =>
    have hm := mem_of_lookup_nat e
    have hc := (h _ hm).1
    simp only [Option.some_or]
    have : ∀ y : T, c ∉ y → y.flatMap (fun e => if e = c then z else [e]) = y := by
      intro y
      induction y with
      | nil => intro _; rfl
      | cons a y ih =>
        intro hy
        simp only [List.mem_cons, not_or] at hy
        rw [List.flatMap_cons, ih hy.2, if_neg (Ne.symm hy.1)]; rfl
    exact this y hc
  | none =>
    simp only [Option.none_or, List.flatMap_cons, List.flatMap_nil, List.append_nil]
    by_cases hd : d = c
    · subst hd; simp
    · have : (d == c) = false := by rw [beq_eq_false_iff_ne]; exact hd
      simp [hd, List.lookup_cons, this]
where
  mem_of_lookup_nat : ∀ {l : List (Nat × T)} {d : Nat} {y : T}, l.lookup d = some y → (d, y) ∈ l
  | (a, b) :: l, d, y, e => by
    rw [List.lookup_cons] at e
    by_cases h : d = a
    · subst h; simp at e; subst e; simp
    · have : (d == a) = false := by rw [beq_eq_false_iff_ne]; exact h
      rw [this] at e
      exact List.mem_cons_of_mem _ (mem_of_lookup_nat e)

theorem hasL_one (c : Nat) : ∀ t : T, hasL [c] t = decide (c ∈ t)
  | [] => by simp [hasL]
  | d :: t => by
    rw [hasL, hasL_one c t]
    by_cases h : c = d
    · subst h; simp [List.isPrefixOf]
    · simp [List.isPrefixOf, h, Ne.symm]
theorem flatMap_id_of {c : Nat} {z : T} : ∀ {t : T}, c ∉ t → t.flatMap (fun e => if e = c then z else [e]) = t
  | [], _ => rfl
  | a :: y, hy => by
    simp only [List.mem_cons, not_or] at hy
    rw [List.flatMap_cons, flatMap_id_of hy.2, if_neg (Ne.symm hy.1)]; rfl

theorem spells_le {l : List (Nat × T)} {n : Nat} (h : ∀ p ∈ l, p.2.length ≤ n) (hn : 1 ≤ n) (d : Nat) : (spells l d).length ≤ n := by
  unfold spells
  cases e : l.lookup d with
  | none => simpa using hn
  | some y => exact h _ (spells_step.mem_of_lookup_nat e)
theorem flatMap_le {f : Nat → T} {n : Nat} (h : ∀ d, (f d).length ≤ n) : ∀ t : T, (t.flatMap f).length ≤ t.length * n
  | [] => by simp
  | a :: t => by
    have := flatMap_le h t
    have := h a
    rw [List.flatMap_cons, List.length_append, List.length_cons, Nat.add_mul]; omega

theorem Ex.esc1 {l : List (Nat × T)} {t : T} {c : Nat} {y z : Str} {k1 k2 k3 : Nat} {p1 p2 p3 p4 p5 p6 p7 p8 p9 p10 p11 : Pos} (K : C.Ok gl r) (hk : C.env.kindOf "text" = some .local) (ht0 : 1 ≤ C.t0)
    (hy : y.cps.toList = [c]) (hc : c < 256) (hyz : (y == z) = false) (hz : z.length ≤ 6) (hcl : ∀ p ∈ l, c ∉ p.2 ∧ p.1 ≠ c) (hln : ∀ p ∈ l, p.2.length ≤ 6) (ht : t.length ≤ 100000)
    (hl6 : (p6.endLine == p9.line) = true)
    (hs : swapsWith (.Call (.Attribute (.Name "text" p5) "replace" p6) [.Constant (.str y) k2 p7, .Constant (.str z) k3 p8] [] p9) (some (.Name "text" p4)) p10.line C.env = pure false)
    (hp : P (.next [("text", .fz (.str (t.flatMap (spells (l ++ [(c, z.cps.toList)])))))])) :
    Ex C [("text", .fz (.str (t.flatMap (spells l))))] (.If (.Compare (.Constant (.str y) k1 p1) [.In] [.Name "text" p2] p3) [.Assign [.Name "text" p4] (.Call (.Attribute (.Name "text" p5) "replace" p6) [.Constant (.str y) k2 p7, .Constant (.str z) k3 p8] [] p9) p10] [] p11) P := by
  have hlen := flatMap_le (spells_le hln (by omega)) t
  have hst : (t.flatMap (spells l)).flatMap (fun e => if e = c then z.cps.toList else [e]) = t.flatMap (spells (l ++ [(c, z.cps.toList)])) := by
    rw [List.flatMap_assoc]; congr 1; funext d; exact spells_step hcl d
  have hn : (VEnv.get [("text", Slot.fz (.str (t.flatMap (spells l))))] "text") = some (.fz (.str (t.flatMap (spells l)))) := by simp [VEnv.get]
  have hyl : y.length = 1 := by
    have : y.cps.toList.length = 1 := by rw [hy]; rfl
    simpa [Str.length] using this
  refine Ex.ite (Tr.cmp (Ev.cstr _ _ _) (Ev.name K _ hn (by decide)) (P2.in_str _ _) (by rfl)) (fun hb => Exs.cons (Ex.assign K (Ev.m (Ev.replace ht0 (Ev.name K _ hn (by decide)) (by omega) (by rw [hy]; simpa using hc) hyz (by omega) (by omega) (fun _ => rfl) hl6)) (.inl hk) hs (Exs.nil ?_))) fun hb => Exs.nil ?_
  · rw [hy, join_split_one, hst]
    have : (VEnv.set [("text", Slot.fz (.str (t.flatMap (spells l))))] "text" (.fz (.str (t.flatMap (spells (l ++ [(c, z.cps.toList)])))))) = ([(("text" : Str), Slot.fz (.str (t.flatMap (spells (l ++ [(c, z.cps.toList)])))))] : VEnv) := by simp [VEnv.set]
    rw [this]; exact hp
  · rw [hy, hasL_one] at hb
    rw [← hst, flatMap_id_of (by simpa using hb)] at hp
    exact hp
end
end Mine

namespace Mine

theorem VEnv.gse (σ : VEnv) (x : Str) (sl : Slot) : (σ.set x sl).get x = some sl := by rw [VEnv.get_set, if_pos rfl]
theorem VEnv.gsn {σ : VEnv} {x y : Str} {sl : Slot} {o : Option Slot} (h : (y == x) = false) (e : σ.get y = o) : (σ.set x sl).get y = o := by
  rw [VEnv.get_set, if_neg (by rw [beq_eq_false_iff_ne] at h; exact h)]; exact e

section
variable {C : Cx} {gl : Str → Option Value} {r : Nat} {σ : VEnv} {P : Out → Prop} {hG : Heap} {pr : Program} {t0 : Nat} {fn : Str} {scope : Scope}

/-- a def at hand: what a call of it gives -/
def FnAt (C : Cx) (gl : Str → Option Value) (x : Str) (ds : List D) (d : D) : Prop := ∃ a o fd, gl x = some (.ref a) ∧ C.h0.get? a = some o ∧ o.data = .func fd ∧ PN C (.ref a) ds d
theorem Ev.callD (K : C.Ok gl r) {x : Str} {es : List Expr} {ds : List D} {d : D} {p px : Pos} (H : FnAt C gl x ds d) (hk : C.env.kindOf x = some .globalImplicit) (hd : (x == ("__debug__" : Str)) = false)
    (hs : EvL C σ es ds) : Ev C σ (.Call (.Name x px) es [] p) d := by
  obtain ⟨a, o, fd, h1, h2, h3, h4⟩ := H
  exact Ev.call_fn K h1 h2 h3 hk hd hs h4
theorem Ev.glob_str (K : C.Ok gl r) {x y : Str} {p : Pos} (H : ∃ t, gl x = some (.str y t)) (hk : C.env.kindOf x = some .globalImplicit) (hd : (x == ("__debug__" : Str)) = false) : Ev C σ (.Name x p) (.str y.cps.toList) := .mk fun X0 W s Q ht S hQ => by
  obtain ⟨t, e⟩ := H
  exact name_glob K S e hk hd (hQ s.heap s.toks _ ht (Le.refl _) (.rstr _ _))

theorem EvL.one {e : Expr} {d : D} (h : Ev C σ e d) (hs : starEach [e] C.env = [(false, eval e C.env)]) : EvL C σ [e] [d] := .cons h .nil hs
theorem EvL.two {e f : Expr} {d d' : D} (h : Ev C σ e d) (h' : Ev C σ f d') (hs : starEach [e, f] C.env = (false, eval e C.env) :: starEach [f] C.env) (hs' : starEach [f] C.env = [(false, eval f C.env)]) : EvL C σ [e, f] [d, d'] := .cons h (.one h' hs') hs
theorem EvL.three {e f g : Expr} {d d' d'' : D} (h : Ev C σ e d) (h' : Ev C σ f d') (h'' : Ev C σ g d'') (hs : starEach [e, f, g] C.env = (false, eval e C.env) :: starEach [f, g] C.env)
    (hs2 : starEach [f, g] C.env = (false, eval f C.env) :: starEach [g] C.env) (hs' : starEach [g] C.env = [(false, eval g C.env)]) : EvL C σ [e, f, g] [d, d', d''] := .cons h (.two h' h'' hs2 hs') hs

/-- if x: of a text -/
theorem Tr.name_str (K : C.Ok gl r) {x : Str} {s : T} {p : Pos} (hx : σ.get x = some (.fz (.str s))) (hd : (x == ("__debug__" : Str)) = false) (hz : s.length ≤ 16777216) : Tr C σ (.Name x p) (decide (s ≠ [])) := by
  have := Tr.plain (Ev.name K p hx hd) (fun _ => rfl) (by simp [truOk]; exact hz)
  have e : tru (.str s) = decide (s ≠ []) := by
    cases s with
    | nil => rfl
    | cons a s => simp [tru]; omega
  rwa [e] at this
theorem Tr.name_bool (K : C.Ok gl r) {x : Str} {b : Bool} {p : Pos} (hx : σ.get x = some (.fz (.bool b))) (hd : (x == ("__debug__" : Str)) = false) : Tr C σ (.Name x p) b :=
  Tr.plain (Ev.name K p hx hd) (fun _ => rfl) rfl
theorem Tr.call {f : Expr} {es : List Expr} {kws : List Keyword} {p : Pos} {b : Bool} (H : Ev C σ (.Call f es kws p) (.bool b)) (h : ∀ whole : Sem Value, isTrue (.Call f es kws p) C.env whole = (do let v ← whole; standAt (Expr.Call f es kws p).pos; holding [v] (truthy v))) : Tr C σ (.Call f es kws p) b :=
  Tr.plain H h rfl
end

/-! ### the matcher -/
def dots : T := [46, 46, 46]
def findLoop (got : T) (ep : Nat) : List T → Nat → Bool
  | [], _ => true
  | w :: ws, sp => match idxL w ((got.take ep).drop sp) with
    | none => false
    | some k => findLoop got ep ws (sp + k + w.length)
/-- behind the first piece's test -/
def ell2 (got : T) (sp : Nat) (ws : List T) : Bool :=
  if ws.getLastD [] ≠ [] then
    if (ws.getLastD []).isSuffixOf got then (if got.length < sp + (ws.getLastD []).length then false else findLoop got (got.length - (ws.getLastD []).length) ws.dropLast sp) else false
  else if got.length < sp then false else findLoop got got.length ws sp
def ell1 (got : T) (ws : List T) : Bool :=
  if ws.headD [] ≠ [] then (if (ws.headD []).isPrefixOf got then ell2 got (ws.headD []).length ws.tail else false) else ell2 got 0 ws
def ellm (want got : T) : Bool := if hasL dots want then ell1 got (splitA dots want 0) else want == got

theorem idxL_le (y : T) : ∀ (l : T) (k : Nat), idxL y l = some k → k + y.length ≤ l.length
  | [], k, h => by
    unfold idxL at h
    split at h
    · rename_i hy
      cases h
      have : y = [] := by simpa using hy
      simp [this]
    · cases h
  | c :: r, k, h => by
    unfold idxL at h
    split at h
    · rename_i hp
      cases h
      have := (List.isPrefixOf_iff_prefix.mp hp).length_le
      omega
    · cases hr : idxL y r with
      | none => rw [hr] at h; cases h
      | some j =>
        rw [hr] at h
        have := idxL_le y r j hr
        simp at h
        simp; omega

theorem splitA_ne (y : T) : ∀ (l : T) (k : Nat), splitA y l k ≠ []
  | [], _ => by simp [splitA]
  | c :: r, k + 1 => by rw [splitA]; exact splitA_ne y r k
  | c :: r, 0 => by
    rw [splitA]
    split
    · simp
    · split <;> simp
theorem splitA_two (y : T) (hy : 1 ≤ y.length) : ∀ l : T, hasL y l = true → 2 ≤ (splitA y l 0).length
  | [], h => by
    unfold hasL at h
    have : y = [] := by simpa using h
    subst this; simp at hy
  | c :: r, h => by
    rw [splitA]
    unfold hasL at h
    split
    · rename_i hp
      have := List.length_pos_iff.mpr (splitA_ne y r (y.length - 1))
      simp; omega
    · rename_i hp
      have hr : hasL y r = true := by
        rcases Bool.or_eq_true _ _ |>.mp h with h | h
        · exact absurd h hp
        · exact h
      have ih := splitA_two y hy r hr
      split
      · rename_i e; rw [e] at ih; simp at ih
      · rename_i p ps e; rw [e] at ih; simpa using ih
theorem splitA_len (y : T) : ∀ (l : T) (k : Nat), (splitA y l k).length ≤ l.length + 1
  | [], _ => by simp [splitA]
  | c :: r, k + 1 => by rw [splitA]; have := splitA_len y r k; simp; omega
  | c :: r, 0 => by
    rw [splitA]
    split
    · have := splitA_len y r (y.length - 1); simp; omega
    · have := splitA_len y r 0
      split
      · simp
      · rename_i p ps e; rw [e] at this; simp at this ⊢; omega
theorem splitA_piece (y : T) : ∀ (l : T) (k : Nat), ∀ p ∈ splitA y l k, p.length ≤ l.length
  | [], _, p, h => by simp [splitA] at h; simp [h]
  | c :: r, k + 1, p, h => by
    rw [splitA] at h
    have := splitA_piece y r k p h
    simp; omega
  | c :: r, 0, p, h => by
    rw [splitA] at h
    split at h
    · rcases List.mem_cons.mp h with rfl | h
      · simp
      · have := splitA_piece y r _ p h; simp; omega
    · split at h
      · simp at h; simp [h]
      · rename_i q qs e
        have ih := splitA_piece y r 0
        rw [e] at ih
        rcases List.mem_cons.mp h with rfl | h
        · have := ih q (by simp); simp; omega
        · have := ih p (List.mem_cons_of_mem _ h); simp; omega
end Mine

namespace Mine

section
variable {C : Cx} {gl : Str → Option Value} {r : Nat} {σ : VEnv} {P : Out → Prop}

theorem Ev.m_startswith {o e : Expr} {x y : T} {p pa : Pos} (h0 : Ev C σ o (.str x)) (h1 : Ev C σ e (.str y)) (hbase : ∀ t, attributeBase o "startswith" C.env t = t) (hl : (pa.endLine == p.line) = true) (hs : starEach [e] C.env = [(false, eval e C.env)]) :
    Ev C σ (.Call (.Attribute o "startswith" pa) [e] [] p) (.bool (y.isPrefixOf x)) :=
  Ev.meth (T := "str") h0 rfl (.inl ⟨_, rfl⟩) F.plainAttrs_str F.slot_str_startswith rfl hbase (by simp) hl (EvL.one h1 hs) (PN.startswith _ _)
theorem Ev.m_endswith {o e : Expr} {x y : T} {p pa : Pos} (h0 : Ev C σ o (.str x)) (h1 : Ev C σ e (.str y)) (hbase : ∀ t, attributeBase o "endswith" C.env t = t) (hl : (pa.endLine == p.line) = true) (hs : starEach [e] C.env = [(false, eval e C.env)]) :
    Ev C σ (.Call (.Attribute o "endswith" pa) [e] [] p) (.bool (y.isSuffixOf x)) :=
  Ev.meth (T := "str") h0 rfl (.inl ⟨_, rfl⟩) F.plainAttrs_str F.slot_str_endswith rfl hbase (by simp) hl (EvL.one h1 hs) (PN.endswith _ _)
theorem EvF.m_split {o e : Expr} {x y : T} {p pa : Pos} (h0 : Ev C σ o (.str x)) (h1 : Ev C σ e (.str y)) (hy : 1 ≤ y.length) (hya : ∀ c ∈ y, c < 256) (hx : x.length ≤ 1000000) (hbase : ∀ t, attributeBase o "split" C.env t = t) (hl : (pa.endLine == p.line) = true) (hs : starEach [e] C.env = [(false, eval e C.env)]) :
    EvF C σ (.Call (.Attribute o "split" pa) [e] [] p) (.ol ((splitA y x 0).map .str)) :=
  EvF.meth (T := "str") h0 rfl (.inl ⟨_, rfl⟩) F.plainAttrs_str F.slot_str_split rfl hbase (by simp) hl (EvL.one h1 hs) (PNF.split _ _ hy hya hx)
theorem Ev.m_join {o e : Expr} {sep : T} {ts : List T} {p pa : Pos} (h0 : Ev C σ o (.str sep)) (h1 : Ev C σ e (.list (ts.map .str))) (hz : (ts.map List.length).sum + ts.length * sep.length ≤ 16777216) (hbase : ∀ t, attributeBase o "join" C.env t = t) (hl : (pa.endLine == p.line) = true) (hs : starEach [e] C.env = [(false, eval e C.env)]) :
    Ev C σ (.Call (.Attribute o "join" pa) [e] [] p) (.str (joinL sep ts)) :=
  Ev.meth (T := "str") h0 rfl (.inl ⟨_, rfl⟩) F.plainAttrs_str F.slot_str_join rfl hbase (by simp) hl (EvL.one h1 hs) (PN.join _ _ hz)
theorem Ev.m_find {o e f g : Expr} {x y : T} {lo hi : Nat} {p pa : Pos} (h0 : Ev C σ o (.str x)) (h1 : Ev C σ e (.str y)) (h2 : Ev C σ f (.int lo)) (h3 : Ev C σ g (.int hi)) (hlo : lo ≤ hi) (hhi : hi ≤ x.length) (hbase : ∀ t, attributeBase o "find" C.env t = t) (hl : (pa.endLine == p.line) = true)
    (hs : starEach [e, f, g] C.env = (false, eval e C.env) :: starEach [f, g] C.env) (hs2 : starEach [f, g] C.env = (false, eval f C.env) :: starEach [g] C.env) (hs' : starEach [g] C.env = [(false, eval g C.env)]) :
    Ev C σ (.Call (.Attribute o "find" pa) [e, f, g] [] p) (.int (findL x y lo hi)) :=
  Ev.meth (T := "str") h0 rfl (.inl ⟨_, rfl⟩) F.plainAttrs_str F.slot_str_find rfl hbase (by simp) hl (EvL.three h1 h2 h3 hs hs2 hs') (PN.find4 _ _ _ _ hlo hhi)
theorem Ev.len_str (K : C.Ok gl r) {e : Expr} {x : T} {p px : Pos} (hg : gl "len" = some (.builtin "len")) (hk : C.env.kindOf "len" = some .globalImplicit) (H : Ev C σ e (.str x)) (hz : x.length ≤ 16777216) (hs : starEach [e] C.env = [(false, eval e C.env)]) :
    Ev C σ (.Call (.Name "len" px) [e] [] p) (.int x.length) := Ev.call_builtin K hg hk (by decide) (EvL.one H hs) (PN.len_str x hz)
theorem Tr.of {e : Expr} {b b' : Bool} (h : Tr C σ e b) (hb : b = b') : Tr C σ e b' := hb ▸ h
theorem Ev.of {e : Expr} {b b' : D} (h : Ev C σ e b) (hb : b = b') : Ev C σ e b' := hb ▸ h
theorem Ev.neg {e : Expr} {i : Int} {p : Pos} (h : Ev C σ e (.int i)) : Ev C σ (.UnaryOp .USub e p) (.int (-i)) := .mk fun X0 W s Q ht S hQ =>
  wpAny_UnaryOp (h.run X0 W s _ ht S fun h' tk v ht' l rr => by
    cases rr with | rint _ u => exact PyProof.Rows.neg_int (hQ h' _ _ (by show C.t0 ≤ tk + 1; omega) l (.rint _ _)))
theorem Ev.neg1 {k : Nat} {p p2 : Pos} : Ev C σ (.UnaryOp .USub (.Constant (.int 1) k p2) p) (.int (-1)) := Ev.neg (Ev.cint _ _ _)
/-- o[i] of a list -/
theorem Ev.item {e i : Expr} {p : Pos} {xs : List D} {n : Int} {d : D} (h0 : Ev C σ e (.list xs)) (h1 : Ev C σ i (.int n)) (hs : ∀ o i', subscripted i false o i' = operate [o, i'] (getItem o i')) (hl : -(xs.length : Int) ≤ n) (hu : n < 2 ^ 62) (hx : xs[pyIdx xs.length n]? = some d) (hz : xs.length ≤ 16777216) :
    Ev C σ (.Subscript e i p) d := Ev.sub h0 h1 rfl hs (P2.item_list _ _ _ hl hu hx hz)
theorem Ev.item_s {e i : Expr} {p : Pos} {x : T} {n : Int} {c : Nat} (h0 : Ev C σ e (.str x)) (h1 : Ev C σ i (.int n)) (hs : ∀ o i', subscripted i false o i' = operate [o, i'] (getItem o i')) (hl : 0 ≤ n) (hu : n < 2 ^ 62) (hx : x[n.toNat]? = some c) :
    Ev C σ (.Subscript e i p) (.str [c]) := Ev.sub h0 h1 rfl hs (P2.item_str _ _ _ hl hu hx)
theorem Ev.item_d {e i : Expr} {p : Pos} {kvs : List (T × T)} {k v : T} (h0 : Ev C σ e (.dict kvs)) (h1 : Ev C σ i (.str k)) (hs : ∀ o i', subscripted i false o i' = operate [o, i'] (getItem o i')) (hx : dlook kvs k = some v) :
    Ev C σ (.Subscript e i p) (.str v) := Ev.sub h0 h1 rfl hs (P2.item_dict _ _ _ hx)
end
end Mine

namespace Mine

def clOf (cells : List (Str × Addr)) : List (Str × NameKind) → List (Str × Addr) → List (Str × Addr)
  | [], acc => acc
  | (n, k) :: r, acc => if k == .free then clOf cells r ((n, (cells.lookup n).getD 0) :: acc) else clOf cells r acc

theorem closure_go {env : Env} : ∀ (l : List (Str × NameKind)) (acc : List (Str × Addr)), (∀ y ∈ l, y.2 = .free → (env.cells.lookup y.1).isSome = true) →
    (forIn l acc fun (p : Str × NameKind) r => (do
      if p.2 == .free then
        let a ← cellOf env p.1
        pure (ForInStep.yield ((p.1, a) :: r))
      else pure (ForInStep.yield r) : Sem _)) = pure (clOf env.cells l acc)
  | [], acc, h => rfl
  | (n, k) :: l, acc, h => by
    rw [List.forIn_cons, clOf]
    by_cases hk : k = .free
    · subst hk
      obtain ⟨c, hc⟩ := Option.isSome_iff_exists.mp (h (n, .free) (by simp) rfl)
      have hco : cellOf env n = pure c := by unfold cellOf; rw [hc]
      have := closure_go l ((n, c) :: acc) fun y hy => h y (List.mem_cons_of_mem _ hy)
      simp only [hco, hc, Option.getD_some]
      exact this
    · have : (k == NameKind.free) = false := by rw [beq_eq_false_iff_ne]; exact hk
      simp only [this, Bool.false_eq_true, if_false]
      exact closure_go l acc fun y hy => h y (List.mem_cons_of_mem _ hy)

theorem closureFor_of {env : Env} {scope : Scope} (h : ∀ y ∈ scope.names, y.2 = .free → (env.cells.lookup y.1).isSome = true) : closureFor scope env = pure (clOf env.cells scope.names []) := by
  have := closure_go scope.names [] h
  unfold closureFor
  exact (congrArg (fun z => z >>= fun r => pure r) this).trans rfl

theorem clOf_mem {cells : List (Str × Addr)} : ∀ (l : List (Str × NameKind)) (acc : List (Str × Addr)), (∀ y ∈ l, y.2 = .free → (cells.lookup y.1).isSome = true) → (∀ p ∈ acc, cells.lookup p.1 = some p.2) → ∀ p ∈ clOf cells l acc, cells.lookup p.1 = some p.2
  | [], acc, h, ha, p, hp => ha p hp
  | (n, k) :: l, acc, h, ha, p, hp => by
    unfold clOf at hp
    split at hp
    · rename_i hk
      refine clOf_mem l _ (fun y hy => h y (List.mem_cons_of_mem _ hy)) (fun q hq => ?_) p hp
      rcases List.mem_cons.mp hq with rfl | hq
      · obtain ⟨c, hc⟩ := Option.isSome_iff_exists.mp (h (n, k) (by simp) (by simpa using hk))
        simp only [hc, Option.getD_some]
      · exact ha q hq
    · exact clOf_mem l _ (fun y hy => h y (List.mem_cons_of_mem _ hy)) ha p hp
theorem clOf_has {cells : List (Str × Addr)} {x : Str} : ∀ (l : List (Str × NameKind)) (acc : List (Str × Addr)), (l.lookup x = some .free ∨ (acc.lookup x).isSome = true) → ((clOf cells l acc).lookup x).isSome = true
  | [], acc, h => h.elim (fun h => by simp at h) id
  | (y, k) :: r, acc, h => by
    unfold clOf
    split
    · refine clOf_has r _ ?_
      by_cases hx : x = y
      · subst hx; right; simp
      · have : (x == y) = false := by rw [beq_eq_false_iff_ne]; exact hx
        rcases h with h | h
        · left; rw [List.lookup_cons, this] at h; exact h
        · right; rw [List.lookup_cons, this]; exact h
    · rename_i hk
      refine clOf_has r _ ?_
      rcases h with h | h
      · by_cases hx : x = y
        · subst hx
          simp at h; subst h; exact absurd rfl hk
        · have : (x == y) = false := by rw [beq_eq_false_iff_ne]; exact hx
          left; rw [List.lookup_cons, this] at h; exact h
      · exact .inr h

def Gets (σ : VEnv) : List Str → List D → Prop
  | n :: ns, d :: ds => σ.get n = some (.fz d) ∧ Gets σ ns ds
  | _, _ => True
theorem Gets.get {σ : VEnv} : ∀ {ns : List Str} {ds : List D}, Gets σ ns ds → ∀ {x : Str} {sl : Slot}, (env0 ns ds).get x = some sl → (∃ d, sl = .fz d) ∧ σ.get x = some sl ∧ x ∈ ns
  | [], ds, _, x, sl, e => by simp [env0, VEnv.get] at e
  | n :: ns, [], _, x, sl, e => by simp [env0, VEnv.get] at e
  | n :: ns, d :: ds, ⟨h1, h2⟩, x, sl, e => by
    have e' : (if x = n then some (Slot.fz d) else (env0 ns ds).get x) = some sl := by simpa [env0, VEnv.get] using e
    by_cases hx : x = n
    · subst hx
      rw [if_pos rfl] at e'; cases e'
      exact ⟨⟨d, rfl⟩, h1, by simp⟩
    · rw [if_neg hx] at e'
      obtain ⟨a, b, c⟩ := h2.get e'
      exact ⟨a, b, List.mem_cons_of_mem _ c⟩

section
variable {C : Cx} {gl : Str → Option Value} {r : Nat} {σ : VEnv} {P : Out → Prop} {hG : Heap} {pr : Program} {t0 : Nat} {fn : Str} {fscope scope : Scope}

theorem relabel_lookup {env : Env} {x : Str} : ∀ {names : List (Str × NameKind)} {k : NameKind}, names.lookup x = some k →
    (names.map fun (n, k) => if (k == NameKind.free && env.scope.kind == .function && env.kindOf n == some .cell) then (n, NameKind.cell) else (n, k)).lookup x = some (if (k == NameKind.free && env.scope.kind == .function && env.kindOf x == some .cell) then NameKind.cell else k)
  | [], k, h => by simp at h
  | (n, j) :: r, k, h => by
    by_cases hx : x = n
    · subst hx
      simp at h; subst h
      simp only [List.map_cons]
      split <;> simp
    · have hb : (x == n) = false := by rw [beq_eq_false_iff_ne]; exact hx
      rw [List.lookup_cons, hb] at h
      have ih := relabel_lookup (env := env) h
      simp only [List.map_cons]
      split
      · rw [List.lookup_cons, hb]; exact ih
      · rw [List.lookup_cons, hb]; exact ih

theorem comp_kind {cl : List (Str × Addr)} {Ca : Addr} {h : Heap} {x : Str} {k : NameKind} (hx : scope.names.lookup x = some k) (hk : k ≠ .free) : (C.comp scope cl Ca h).env.kindOf x = some k := by
  have := relabel_lookup (env := C.env) hx
  have hf : (k == NameKind.free) = false := by rw [beq_eq_false_iff_ne]; exact hk
  simp only [hf, Bool.false_and, Bool.false_eq_true, if_false] at this
  exact this
theorem comp_sto {cl : List (Str × Addr)} {Ca : Addr} {h : Heap} {x : Str} (hx : scope.names.lookup x = some .local) : Sto (C.comp scope cl Ca h) x := .inl (comp_kind hx (by decide))

theorem Frm.cap (Fm : Frm C hG pr t0 fn fscope) (hk : fscope.kind = .function) {ns : List Str} {ds : List D} (hf : ∀ n ∈ ns, scope.names.lookup n = some .free)
    (hall : ∀ y ∈ scope.names, y.2 = .free → fscope.names.lookup y.1 = some .cell) (hg : Gets σ ns ds) : Cap C scope (clOf C.env.cells scope.names []) σ (env0 ns ds) := by
  have hsome : ∀ y ∈ scope.names, y.2 = .free → (C.env.cells.lookup y.1).isSome = true := fun y hy hyk => by
    rw [Fm.cells]; exact cellsFrom_has _ _ _ _ (.inl (hall y hy hyk))
  have hkind : C.env.scope.kind = .function := by
    obtain ⟨a, cd, e⟩ := Fm.env
    rw [e]; exact hk
  refine ⟨closureFor_of hsome, fun n c e => ?_, fun n c e => ⟨n, ?_⟩, fun x sl e => ?_⟩
  · exact clOf_mem _ _ hsome (fun p hp => by cases hp) (n, c) (mem_of_lookup e)
  · exact clOf_mem _ _ hsome (fun p hp => by cases hp) (n, c) e
  · obtain ⟨h1, h2, h3⟩ := hg.get e
    have hfx := hf x h3
    have hcx : C.env.kindOf x = some .cell := by rw [Fm.kindOf]; exact hall (x, .free) (mem_of_lookup hfx) rfl
    refine ⟨h1, h2, by rw [hcx]; simp, clOf_has _ _ (.inl hfx), fun Ca => .inl ?_⟩
    have := relabel_lookup (env := C.env) hfx
    have e2 : (if ((NameKind.free == NameKind.free) && (C.env.scope.kind == ScopeKind.function) && (C.env.kindOf x == some NameKind.cell)) = true then NameKind.cell else NameKind.free) = NameKind.cell := by rw [hkind, hcx]; rfl
    rw [e2] at this
    exact this

theorem PN.join_str (hh : C.A.handled = none) (sep y : T) (hz : y.length + y.length * sep.length ≤ 16777216) : PN C (.builtin "str.join") [.str sep, .str y] (.str (joinL sep (y.map fun c => [c]))) := .mk fun X s Q vs ht hX rs hQ => by
  cases rs with | cons r1 rs => cases rs with | cons r2 rs => cases rs; cases r1 with | rstr x t => cases r2 with | rstr y u =>
    refine SC.joinStr hh ?_ fun h' k t' hk => ?_
    · unfold JoinOk
      rw [StrLaws.joinTotal]
      have e3 : ((signs y).map (·.length)).sum + (signs y).length * x.length = y.cps.toList.length + y.cps.toList.length * x.cps.toList.length := by
        unfold signs
        rw [signLens_sum]
        simp [Str.length]
      rw [e3]
      simp only [Builtin.Str.tooLong, Bool.not_eq_true', decide_eq_false_iff_not]
      rw [sizeLine_eq]; omega
    · have e4 : (Txt.join x (signs y)).cps.toList = joinL x.cps.toList (y.cps.toList.map fun c => [c]) := by
        show (Builtin.Str.glued x (signs y)).cps.toList = _
        rw [StrLaws.glued_eq_join, join_list]; unfold signs; simp [Function.comp_def]
      have := hQ h' k (.str (Txt.join x (signs y)) t') hk
      rw [← e4] at this
      exact this (.rstr _ _)
theorem Ev.m_join_str {o e : Expr} {sep y : T} {p pa : Pos} (hh : C.A.handled = none) (h0 : Ev C σ o (.str sep)) (h1 : Ev C σ e (.str y)) (hz : y.length + y.length * sep.length ≤ 16777216) (hbase : ∀ t, attributeBase o "join" C.env t = t) (hl : (pa.endLine == p.line) = true) (hs : starEach [e] C.env = [(false, eval e C.env)]) :
    Ev C σ (.Call (.Attribute o "join" pa) [e] [] p) (.str (joinL sep (y.map fun c => [c]))) :=
  Ev.meth (T := "str") h0 rfl (.inl ⟨_, rfl⟩) F.plainAttrs_str F.slot_str_join rfl hbase (by simp) hl (EvL.one h1 hs) (PN.join_str hh _ _ hz)
end

theorem joinL_len (sep : T) : ∀ l : List T, (joinL sep l).length ≤ (l.map List.length).sum + l.length * sep.length
  | [] => by simp [joinL]
  | [x] => by simp [joinL]
  | x :: y :: r => by
    have := joinL_len sep (y :: r)
    rw [joinL]
    simp only [List.length_append, List.map_cons, List.sum_cons, List.length_cons, Nat.add_mul] at this ⊢
    omega
theorem sum_ones : ∀ t : T, ((t.map fun c => [c]).map List.length).sum = t.length
  | [] => rfl
  | a :: t => by
    rw [List.map_cons, List.map_cons, List.sum_cons, sum_ones t]
    exact Nat.add_comm 1 t.length
def holesL (t : T) : T := dots ++ joinL dots (t.map fun c => [c]) ++ dots
theorem holesL_len (t : T) : (holesL t).length ≤ 4 * t.length + 6 := by
  have := joinL_len dots (t.map fun c => [c])
  rw [sum_ones] at this
  simp [holesL, dots] at this ⊢
  omega
/-- how far a row of letters leads through the asked ones -/
def through : T → T → Nat
  | _, [] => 0
  | [], _ :: _ => 0
  | a :: l, c :: row => if a = c then through l row + 1 else through (a :: l) row
end Mine

namespace Mine

theorem Sub.set {σ : VEnv} {x : Str} {sl : Slot} (h : σ.get x = none) : Sub σ (σ.set x sl) := fun y s e => by
  rw [VEnv.get_set]
  by_cases hy : y = x
  · subst hy; rw [h] at e; cases e
  · rw [if_neg hy]; exact e
theorem AllFz.set {σ : VEnv} {x : Str} {d : D} (h : AllFz σ) : AllFz (σ.set x (.fz d)) := fun y s e => by
  rw [VEnv.get_set] at e
  by_cases hy : y = x
  · rw [if_pos hy] at e; cases e; exact ⟨d, rfl⟩
  · rw [if_neg hy] at e; exact h y s e
theorem env0_fz (ns : List Str) : ∀ ds : List D, AllFz (env0 ns ds) := by
  induction ns with
  | nil => intro ds x sl e; simp [env0, VEnv.get] at e
  | cons n ns ih =>
    intro ds x sl e
    cases ds with
    | nil => simp [env0, VEnv.get] at e
    | cons d ds =>
      have e' : (if x = n then some (Slot.fz d) else (env0 ns ds).get x) = some sl := by simpa [env0, VEnv.get] using e
      by_cases hx : x = n
      · rw [if_pos hx] at e'; cases e'; exact ⟨d, rfl⟩
      · rw [if_neg hx] at e'; exact ih ds x sl e'

/-- a function of texts, one thing each -/
def emS (f : T → D) : D → List D
  | .str x => [f x]
  | _ => []
theorem flat_emS (f : T → D) : ∀ l : List T, (l.map D.str).flatMap (emS f) = l.map f
  | [] => rfl
  | a :: l => by rw [List.map_cons, List.flatMap_cons, flat_emS f l]; rfl
/-- of texts, those that hold -/
def emT (p : T → Bool) (f : T → D) : D → List D
  | .str x => if p x then [f x] else []
  | _ => []
theorem flat_emT (p : T → Bool) (f : T → D) : ∀ l : List T, (l.map D.str).flatMap (emT p f) = (l.filter p).map f
  | [] => rfl
  | a :: l => by
    rw [List.map_cons, List.flatMap_cons, flat_emT p f l, List.filter_cons]
    show (if p a then [f a] else []) ++ _ = _
    split <;> simp
/-- of a range's numbers, those that hold -/
def emN (p : Nat → Bool) (f : Nat → D) : D → List D
  | .int x => if p x.toNat then [f x.toNat] else []
  | _ => []
theorem flat_emN (p : Nat → Bool) (f : Nat → D) : ∀ l : List Nat, (l.map fun (k : Nat) => D.int k).flatMap (emN p f) = (l.filter p).map f
  | [] => rfl
  | a :: l => by
    rw [List.map_cons, List.flatMap_cons, flat_emN p f l, List.filter_cons]
    show (if p a then [f a] else []) ++ _ = _
    split <;> simp

/-! ### where the pieces may end -/
def liesStep (text : T) (ends : List Nat) (piece : T) : List Nat :=
  ((List.range (text.length + 1)).filter fun p => !ends.isEmpty && (decide (ends.headD 0 ≤ p) && ((text.take (p + piece.length)).drop p == piece))).map (· + piece.length)
def liesF (text : T) : List T → List Nat
  | [] => []
  | p0 :: ps => ps.foldl (liesStep text) (if p0.isPrefixOf text then [p0.length] else [])
def lies (asked text : T) : Bool := decide (text.length ∈ liesF text (splitA dots asked 0))
def natD (l : List Nat) : D := .list ((l.map fun (n : Nat) => (n : Int)).map .int)

/-! ### tried -/
def extT (others : List T) (texts : List T) : List T := texts.flatMap fun t => others.map fun o => t ++ o
def triedF (ok : T → Bool) (others : List T) : Nat → Nat → List T → Option Nat
  | _, 0, _ => none
  | c, n + 1, texts => if (extT others texts).any ok then some c else triedF ok others (c + 1) n (extT others texts)

/-! ### the fewest -/
def stepOf (l : T) : List T → Nat
  | [] => 0
  | row :: rows => max (through l row) (stepOf l rows)
theorem stepOf_le (l : T) : ∀ rows : List T, ∀ row ∈ rows, through l row ≤ stepOf l rows
  | [], row, h => by cases h
  | r :: rows, row, h => by
    rw [stepOf]
    rcases List.mem_cons.mp h with rfl | h
    · omega
    · have := stepOf_le l rows row h; omega
theorem stepOf_mem (l : T) : ∀ rows : List T, rows ≠ [] → ∃ row ∈ rows, stepOf l rows = through l row
  | [], h => absurd rfl h
  | [r], _ => ⟨r, by simp, by simp [stepOf]⟩
  | r :: r' :: rows, _ => by
    obtain ⟨row, h1, h2⟩ := stepOf_mem l (r' :: rows) (by simp)
    rw [stepOf]
    by_cases h : through l r ≤ stepOf l (r' :: rows)
    · exact ⟨row, List.mem_cons_of_mem _ h1, by omega⟩
    · exact ⟨r, by simp, by omega⟩
def fewest (rows : List T) : Nat → T → Nat → Option Nat
  | 0, _, count => some count
  | n + 1, l, count => if l = [] then some count else if stepOf l rows = 0 then none else fewest rows n (l.drop (stepOf l rows)) (count + 1)
def optN (o : Option Nat) : D := optInt (o.map fun (n : Nat) => (n : Int))
theorem through_le : ∀ (b a : T), through a b ≤ a.length
  | [], a => by cases a <;> simp [through]
  | c :: b, [] => by simp [through]
  | c :: b, x :: a => by
    rw [through]
    split
    · have := through_le b a; simp; omega
    · exact through_le b (x :: a)
theorem stepOf_len (l : T) : ∀ rows : List T, stepOf l rows ≤ l.length
  | [] => by simp [stepOf]
  | r :: rows => by have := stepOf_len l rows; have := through_le r l; rw [stepOf]; omega
theorem fewest_fuel (rows : List T) : ∀ (n m : Nat) (l : T) (c : Nat), l.length ≤ n → l.length ≤ m → fewest rows n l c = fewest rows m l c
  | 0, m, l, c, h1, h2 => by
    have : l = [] := List.eq_nil_of_length_eq_zero (by omega)
    subst this
    cases m <;> simp [fewest]
  | n + 1, 0, l, c, h1, h2 => by
    have : l = [] := List.eq_nil_of_length_eq_zero (by omega)
    subst this
    simp [fewest]
  | n + 1, m + 1, l, c, h1, h2 => by
    rw [fewest, fewest]
    by_cases hl : l = []
    · rw [if_pos hl, if_pos hl]
    · rw [if_neg hl, if_neg hl]
      by_cases hs : stepOf l rows = 0
      · rw [if_pos hs, if_pos hs]
      · rw [if_neg hs, if_neg hs]
        have := stepOf_len l rows
        exact fewest_fuel rows n m _ _ (by simp; omega) (by simp; omega)

section
variable {C : Cx} {gl : Str → Option Value} {r : Nat} {σ : VEnv} {P : Out → Prop}
theorem EvF.compF (K : C.Ok gl r) {elt t iter : Expr} {ifs : List Expr} {scope : Scope} {pos : Pos} {σc : VEnv} {ds : List D} {em : D → List D} {sl : Slot} (Y : Comp1 C gl r σ elt t iter ifs scope (clOf C.env.cells scope.names []) σc ds em) (hsl : .ol (ds.flatMap em) = sl) :
    EvF C σ (.ListComp elt [⟨t, iter, ifs, 0⟩] scope pos) sl := hsl ▸ EvF.comp1 K Y
theorem Ex.assign_compF (K : C.Ok gl r) {elt t iter : Expr} {ifs : List Expr} {scope : Scope} {pos p px : Pos} {σc : VEnv} {ds : List D} {em : D → List D} {x : Str} (Y : Comp1 C gl r σ elt t iter ifs scope (clOf C.env.cells scope.names []) σc ds em)
    (hsw : swapsWith (.ListComp elt [⟨t, iter, ifs, 0⟩] scope pos) (some (.Name x px)) p.line C.env = pure true) (hx : Sto C x) (hp : P (.next (σ.set x (.ol (ds.flatMap em))))) :
    Ex C σ (.Assign [.Name x px] (.ListComp elt [⟨t, iter, ifs, 0⟩] scope pos) p) P := Ex.assign_comp1 K Y hsw hx hp
theorem Ex.assign_compF2 (K : C.Ok gl r) {elt t1 i1 t2 i2 : Expr} {scope : Scope} {pos p px : Pos} {σc : VEnv} {ds : List D} {em : D → List D} {x : Str} (Y : Comp2 C gl r σ elt t1 i1 t2 i2 scope (clOf C.env.cells scope.names []) σc ds em)
    (hsw : swapsWith (.ListComp elt [⟨t1, i1, [], 0⟩, ⟨t2, i2, [], 0⟩] scope pos) (some (.Name x px)) p.line C.env = pure true) (hx : Sto C x) (hp : P (.next (σ.set x (.ol (ds.flatMap em))))) :
    Ex C σ (.Assign [.Name x px] (.ListComp elt [⟨t1, i1, [], 0⟩, ⟨t2, i2, [], 0⟩] scope pos) p) P := Ex.assign_comp2 K Y hsw hx hp
end
end Mine

namespace Mine

theorem noPylong (a b : Int) (hb : b.natAbs < 2 ^ 30) : Builtin.divisionGoesByPylong a b = false := by
  unfold Builtin.divisionGoesByPylong
  have : (if (b == 0) = true then 0 else b.natAbs.log2 / 30 + 1) ≤ 1 := by
    split
    · omega
    · rename_i h
      have hb0 : b.natAbs ≠ 0 := by simpa using h
      have := (Nat.log2_lt hb0).mpr hb
      omega
  simp only [Bool.and_eq_false_iff, decide_eq_false_iff_not]
  left; omega

section
variable {C : Cx} {gl : Str → Option Value} {r : Nat} {σ : VEnv} {P : Out → Prop}
theorem Ev.lit (n : Nat) {i : Int} {k : Nat} {p : Pos} (h : i = (n : Int)) : Ev C σ (.Constant (.int i) k p) (.int n) := h ▸ Ev.cint _ _ _
theorem P2.nadd (a b : Nat) : P2 C (binaryOp .Add) (.int a) (.int b) (.int ((a + b : Nat) : Int)) := by
  have := P2.add_int (C := C) (a : Int) (b : Int)
  rwa [show ((a : Int) + b) = ((a + b : Nat) : Int) by omega] at this
theorem P2.nmod (a b : Nat) (hb : 0 < b) : P2 C (binaryOp .Mod) (.int a) (.int b) (.int ((a % b : Nat) : Int)) := by
  have := P2.mod_int (C := C) (a : Int) (b : Int) (by omega)
  rwa [Int.fmod_eq_emod_of_nonneg _ (by omega), ← Int.natCast_emod] at this
theorem P2.ndiv (a b : Nat) (hb : 0 < b) (hb2 : b < 2 ^ 30) : P2 C (binaryOp .FloorDiv) (.int a) (.int b) (.int ((a / b : Nat) : Int)) := by
  have := P2.div_int (C := C) (a : Int) (b : Int) (by omega) (noPylong _ _ (by omega))
  rwa [Int.fdiv_eq_ediv_of_nonneg _ (by omega), ← Int.natCast_ediv] at this
theorem P2.npow (a b : Nat) (ha : a < 16) (hb : b ≤ 64) : P2 C (binaryOp .Pow) (.int a) (.int b) (.int ((a ^ b : Nat) : Int)) := by
  have := P2.pow_int (C := C) (a : Int) (b : Int) (by omega) (by
    have h1 : Builtin.Int.intBits a ≤ 4 := by
      unfold Builtin.Int.intBits
      split
      · omega
      · rename_i h
        have h0 : (a : Int).natAbs ≠ 0 := by simpa using h
        have : (a : Int).natAbs.log2 < 4 := (Nat.log2_lt h0).mpr (by omega)
        omega
    have h2 : (Builtin.Int.intBits a : Int) * b ≤ 4 * b := Int.mul_le_mul_of_nonneg_right (by omega) (by omega)
    omega)
  rwa [Int.toNat_natCast, ← Int.natCast_pow] at this

/-- what a place of a list of numbers gives -/
theorem Ev.cellAt {cs : List Nat} {x : Str} {e : Expr} {j : Nat} {p p3 : Pos} (K : C.Ok gl r) (hx : σ.get x = some (.fz (.list (cs.map fun (n : Nat) => .int n)))) (hd : (x == ("__debug__" : Str)) = false) (H : Ev C σ e (.int j)) (hj : j < cs.length) (hz : cs.length ≤ 1000)
    (hs : ∀ o i', subscripted e false o i' = operate [o, i'] (getItem o i')) : Ev C σ (.Subscript (.Name x p) e p3) (.int (cs.getD j 0 : Nat)) :=
  Ev.item (n := j) (Ev.name K _ hx hd) H hs (by omega) (by omega) (by unfold pyIdx; simp [List.getElem?_eq_getElem hj]) (by rw [List.length_map]; omega)
end

def emNN (f : Nat → D) : D → List D
  | .int x => [f x.toNat]
  | _ => []
theorem flat_emNN (f : Nat → D) : ∀ l : List Nat, (l.map fun (k : Nat) => D.int k).flatMap (emNN f) = l.map f
  | [] => rfl
  | a :: l => by rw [List.map_cons, List.flatMap_cons, flat_emNN f l]; rfl

theorem joinL_nil : ∀ l : List T, joinL [] l = l.flatten
  | [] => rfl
  | [x] => by simp [joinL]
  | x :: y :: r => by rw [joinL, joinL_nil (y :: r)]; simp
end Mine

namespace Mine
def fArgs : Stmt → Arguments
  | .FunctionDef _ a .. => a
  | _ => ⟨[], [], none, [], [], none, []⟩
def fBody : Stmt → List Stmt
  | .FunctionDef _ _ b .. => b
  | _ => []
def fScope : Stmt → Scope
  | .FunctionDef _ _ _ _ _ _ s .. => s
  | _ => default
def fForBody : Stmt → List Stmt
  | .For _ _ b .. => b
  | _ => []
def fForT : Stmt → Expr
  | .For t .. => t
  | _ => .Constant .none 0 default
def fWhileBody : Stmt → List Stmt
  | .While _ b .. => b
  | _ => []
def stm (k : Nat) : Stmt := PySem.Challenge.pw_pg0150_01.main.body.getD k default

def sub (l : List Stmt) (k : Nat) : Stmt := l.getD k default
end Mine

namespace Mine
section
variable {C : Cx} {gl : Str → Option Value} {r : Nat} {hG : Heap} {pr : Program} {σ : VEnv}
theorem ell_loop (K : C.Ok gl r) (Fm : Frm C hG pr 0 "_ellipsis_match" (fScope (stm 9))) (hlen : gl "len" = some (.builtin "len")) (got : T) (hg : got.length ≤ 100000) (ep : Nat) (hep : ep ≤ got.length) :
    ∀ (ws : List T) (sp : Nat) (σ : VEnv), (∀ w ∈ ws, w.length ≤ 100000) → sp ≤ ep → σ.get "got" = some (.fz (.str got)) → σ.get "startpos" = some (.fz (.int sp)) → σ.get "endpos" = some (.fz (.int ep)) →
      ForL C (fForT (sub (fBody (stm 9)) 9)) (fun σ d => σ.set "w" (.fz d)) (fForBody (sub (fBody (stm 9)) 9)) (ws.map .str) σ (Then C ((fBody (stm 9)).drop 10) (RetIs (.bool (findLoop got ep ws sp)))) := by
  have hkl : C.env.kindOf "len" = some .globalImplicit := by rw [Fm.kindOf]; rfl
  have sw : Sto C "w" := Fm.sto (by rfl)
  have ss : Sto C "startpos" := Fm.sto (by rfl)
  intro ws
  induction ws with
  | nil =>
    intro sp σ _ hsp g1 g2 g3
    exact Exs.cons (Ex.ret (Ev.cbool _ _ _) rfl)
  | cons w ws ih =>
    intro sp σ hw hsp g1 g2 g3
    have hwl := hw w (by simp)
    refine ⟨As.name K sw, ?_⟩
    have e1 : ((σ.set "w" (.fz (.str w)))).get "w" = some (.fz (.str w)) := VEnv.gse _ _ _
    have e2 := VEnv.gsn (x := "w") (sl := .fz (.str w)) (by decide) g1
    have e3 := VEnv.gsn (x := "w") (sl := .fz (.str w)) (by decide) g2
    have e4 := VEnv.gsn (x := "w") (sl := .fz (.str w)) (by decide) g3
    refine Exs.cons (Ex.assign K (Ev.m (Ev.m_find (Ev.name K _ e2 (by decide)) (Ev.name K _ e1 (by decide)) (Ev.name K _ e3 (by decide)) (Ev.name K _ e4 (by decide)) hsp hep (fun _ => rfl) (by rfl) (by rfl) (by rfl) (by rfl))) ss (by rfl) ?_)
    refine Exs.cons (Ex.ite (Tr.cmp (Ev.name K _ (VEnv.gse _ _ _) (by decide)) (Ev.cint _ _ _) (P2.lt_int _ _) (by rfl)) (fun hb => Exs.cons (Ex.ret (Ev.cbool _ _ _) ?_)) fun hb => Exs.nil ?_)
    · have hb := of_decide_eq_true hb
      unfold findL at hb
      show D.bool false = _
      rw [findLoop]
      split
      · rfl
      · rename_i k hk; rw [hk] at hb; simp at hb; omega
    · have hb := of_decide_eq_false hb
      unfold findL at hb
      cases hk : idxL w ((got.take ep).drop sp) with
      | none => rw [hk] at hb; simp at hb
      | some k =>
        have hle := idxL_le _ _ _ hk
        simp at hle
        refine Exs.cons (Ex.aug K (d0 := .int ((sp + k : Nat) : Int)) (d := .int ((sp + k + w.length : Nat) : Int)) (by rw [VEnv.gse, findL, hk]) (Ev.len_str K hlen hkl (Ev.name K _ (VEnv.gsn (by decide) e1) (by decide)) (by omega) (by rfl)) ?_ ss (Exs.nil ?_))
        · have := P2.iadd_int (C := C) ((sp + k : Nat) : Int) (w.length : Int)
          rwa [show ((sp + k : Nat) : Int) + (w.length : Int) = ((sp + k + w.length : Nat) : Int) by omega] at this
        · have := ih (sp + k + w.length) (((σ.set "w" (.fz (.str w))).set "startpos" (.fz (.int (findL got w sp ep)))).set "startpos" (.fz (.int ((sp + k + w.length : Nat) : Int)))) (fun w' hw' => hw w' (List.mem_cons_of_mem _ hw')) (by omega)
            (VEnv.gsn (by decide) (VEnv.gsn (by decide) e2)) (VEnv.gse _ _ _) (VEnv.gsn (by decide) (VEnv.gsn (by decide) e4))
          rw [show findLoop got ep (w :: ws) sp = findLoop got ep ws (sp + k + w.length) by rw [findLoop, hk]]
          exact this

theorem erase_last {α : Type} (xs : List α) (d : α) : (xs ++ [d]).eraseIdx xs.length = xs := by
  rw [List.eraseIdx_append_of_length_le (Nat.le_refl _)]; simp
theorem splitLast (ws : List T) (h : ws ≠ []) : ∃ l, ws = ws.dropLast ++ [l] ∧ ws.getLastD [] = l := by
  refine ⟨ws.getLast h, (List.dropLast_concat_getLast h).symm, ?_⟩
  rw [List.getLastD_eq_getLast?, List.getLast?_eq_some_getLast h]; rfl

/-- from `if startpos > endpos` on -/
theorem ell_end (K : C.Ok gl r) (Fm : Frm C hG pr 0 "_ellipsis_match" (fScope (stm 9))) (hlen : gl "len" = some (.builtin "len")) (got : T) (hg : got.length ≤ 100000) (ep : Int) (hep : ep ≤ got.length)
    (ws : List T) (sp : Nat) (σ : VEnv) (hw : ∀ w ∈ ws, w.length ≤ 100000) (g1 : σ.get "got" = some (.fz (.str got))) (g2 : σ.get "startpos" = some (.fz (.int sp))) (g3 : σ.get "endpos" = some (.fz (.int ep))) (g4 : σ.get "ws" = some (.ol (ws.map .str))) :
    Exs C σ ((fBody (stm 9)).drop 8) (RetIs (.bool (if ep < sp then false else findLoop got ep.toNat ws sp))) := by
  refine Exs.cons (Ex.ite (Tr.cmp (Ev.name K _ g2 (by decide)) (Ev.name K _ g3 (by decide)) (P2.gt_int _ _) (by rfl)) (fun hb => Exs.cons (Ex.ret (Ev.cbool _ _ _) ?_)) fun hb => Exs.nil ?_)
  · rw [if_pos (of_decide_eq_true hb)]; rfl
  · have hb := of_decide_eq_false hb
    rw [if_neg hb]
    refine Exs.freeze g4 (Exs.cons (Ex.for_ K (tg := fun σ d => σ.set "w" (.fz d)) (EvIter.list K (Ev.name K _ (VEnv.gse _ _ _) (by decide))) ?_ (fun _ => rfl)))
    have g3' : σ.get "endpos" = some (.fz (.int ep.toNat)) := by rw [g3]; congr; omega
    exact ell_loop K Fm hlen got hg ep.toNat (by omega) ws sp _ hw (by omega) (VEnv.gsn (by decide) g1) (VEnv.gsn (by decide) g2) (VEnv.gsn (by decide) g3')

/-- from `w = ws[-1]` on -/
theorem ell_last (K : C.Ok gl r) (Fm : Frm C hG pr 0 "_ellipsis_match" (fScope (stm 9))) (hlen : gl "len" = some (.builtin "len")) (got : T) (hg : got.length ≤ 100000)
    (ws : List T) (hne : ws ≠ []) (hwl : ws.length ≤ 200000) (sp : Nat) (σ : VEnv) (hw : ∀ w ∈ ws, w.length ≤ 100000) (g1 : σ.get "got" = some (.fz (.str got))) (g2 : σ.get "startpos" = some (.fz (.int sp))) (g3 : σ.get "endpos" = some (.fz (.int got.length))) (g4 : σ.get "ws" = some (.ol (ws.map .str))) :
    Exs C σ ((fBody (stm 9)).drop 6) (RetIs (.bool (ell2 got sp ws))) := by
  have hkl : C.env.kindOf "len" = some .globalImplicit := by rw [Fm.kindOf]; rfl
  have sw : Sto C "w" := Fm.sto (by rfl)
  have se : Sto C "endpos" := Fm.sto (by rfl)
  obtain ⟨l, hl1, hl2⟩ := splitLast ws hne
  have hlen1 : ws.length = ws.dropLast.length + 1 := by conv => lhs; rw [hl1]
                                                        simp
  have hlm : l ∈ ws := by rw [hl1]; simp
  have hll := hw l hlm
  have hidx : (ws.map D.str)[pyIdx (ws.map D.str).length (-1)]? = some (.str l) := by
    unfold pyIdx
    rw [if_neg (by decide)]
    have : ((-1 : Int) + ((ws.map D.str).length : Nat)).toNat = ws.dropLast.length := by simp at hlen1 ⊢; omega
    rw [this, List.getElem?_map]
    conv => lhs; rw [hl1]
    simp
  refine Exs.cons (Ex.assign K (Ev.m (Ev.sub_own K (n := -1) g4 (by decide) ?_ (fun _ _ => rfl) (by simp; omega) (by decide) hidx (by simp; omega))) sw (by rfl) ?_)
  · exact Ev.neg1
  have e1 : (σ.set "w" (.fz (.str l))).get "w" = some (.fz (.str l)) := VEnv.gse _ _ _
  have f1 := VEnv.gsn (x := "w") (sl := .fz (.str l)) (by decide) g1
  have f2 := VEnv.gsn (x := "w") (sl := .fz (.str l)) (by decide) g2
  have f3 := VEnv.gsn (x := "w") (sl := .fz (.str l)) (by decide) g3
  have f4 := VEnv.gsn (x := "w") (sl := .fz (.str l)) (by decide) g4
  unfold ell2
  rw [hl2]
  refine Exs.cons (Ex.ite (Tr.name_str K e1 (by decide) (by omega)) (fun hb => ?_) fun hb => Exs.nil ?_)
  · have hb := of_decide_eq_true hb
    rw [if_pos hb]
    refine Exs.cons (Ex.ite (Tr.call (Ev.m_endswith (Ev.name K _ f1 (by decide)) (Ev.name K _ e1 (by decide)) (fun _ => rfl) (by rfl) (by rfl)) (fun _ => rfl)) (fun hc => ?_) fun hc => Exs.cons (Ex.ret (Ev.cbool _ _ _) ?_))
    · rw [hc, if_pos rfl]
      have hsl := (List.isSuffixOf_iff_suffix.mp hc).length_le
      refine Exs.cons (Ex.aug K f3 (Ev.len_str K hlen hkl (Ev.name K _ e1 (by decide)) (by omega) (by rfl)) (P2.isub_int _ _) se ?_)
      refine Exs.cons (Ex.del K (k := ws.dropLast.length) (VEnv.gsn (by decide) f4) (by decide) Ev.neg1 (by unfold seqIndex?; simp; omega) (by simp; omega) (by rfl) (by simp; omega) (Exs.nil (Exs.nil ?_)))
      have hdel : (ws.map D.str).eraseIdx ws.dropLast.length = ws.dropLast.map D.str := by
        have : ws.map D.str = ws.dropLast.map D.str ++ [D.str l] := by conv => lhs; rw [hl1]
                                                                       simp
        rw [this, ← List.length_map (f := D.str) (as := ws.dropLast)]
        exact erase_last _ _
      rw [hdel]
      have := ell_end K Fm hlen got hg ((got.length : Int) - (l.length : Int)) (by omega) ws.dropLast sp (((σ.set "w" (.fz (.str l))).set "endpos" (.fz (.int ((got.length : Int) - (l.length : Int))))).set "ws" (.ol (ws.dropLast.map D.str)))
        (fun w hw' => hw w (List.dropLast_subset _ hw')) (VEnv.gsn (by decide) (VEnv.gsn (by decide) f1)) (VEnv.gsn (by decide) (VEnv.gsn (by decide) f2)) (VEnv.gsn (by decide) (VEnv.gse _ _ _)) (VEnv.gse _ _ _)
      rw [show ((got.length : Int) - (l.length : Int)).toNat = got.length - l.length by omega] at this
      have hc : ((got.length : Int) - (l.length : Int) < (sp : Int)) = (got.length < sp + l.length) := by rw [eq_iff_iff]; omega
      simp only [hc] at this
      exact this
    · rw [hc, if_neg (by simp)]; rfl
  · have hb := of_decide_eq_false hb
    rw [if_neg hb]
    have := ell_end K Fm hlen got hg (got.length : Int) (Int.le_refl _) ws sp _ hw f1 f2 f3 f4
    have hc : ((got.length : Int) < (sp : Int)) = (got.length < sp) := by rw [eq_iff_iff]; omega
    simp only [hc, Int.toNat_natCast] at this
    exact this

theorem walk_ell (K : C.Ok gl r) (Fm : Frm C hG pr 0 "_ellipsis_match" (fScope (stm 9))) (hE : ∃ t, gl "ELLIPSIS_MARKER" = some (.str "..." t)) (hlen : gl "len" = some (.builtin "len")) (want got : T) (hw : want.length ≤ 100000) (hg : got.length ≤ 100000) :
    Exs C (env0 ["want", "got"] [.str want, .str got]) (fBody (stm 9)) (RetIs (.bool (ellm want got))) := by
  have hke : C.env.kindOf "ELLIPSIS_MARKER" = some .globalImplicit := by rw [Fm.kindOf]; rfl
  have hkl : C.env.kindOf "len" = some .globalImplicit := by rw [Fm.kindOf]; rfl
  have sws : Sto C "ws" := Fm.sto (by rfl)
  have sw : Sto C "w" := Fm.sto (by rfl)
  have ssp : Sto C "startpos" := Fm.sto (by rfl)
  have sep : Sto C "endpos" := Fm.sto (by rfl)
  have hd : ("..." : Str).cps.toList = dots := by rfl
  have i1 : (env0 ["want", "got"] [.str want, .str got]).get "want" = some (.fz (.str want)) := by rfl
  have i2 : (env0 ["want", "got"] [.str want, .str got]).get "got" = some (.fz (.str got)) := by rfl
  generalize env0 ["want", "got"] [.str want, .str got] = σ at i1 i2 ⊢
  refine Exs.cons (Ex.ite (Tr.cmp (Ev.glob_str K hE hke (by decide)) (Ev.name K _ i1 (by decide)) (P2.notin_str _ _) (by rfl)) (fun hb => Exs.cons (Ex.ret (Ev.cmp (Ev.name K _ i1 (by decide)) (Ev.name K _ i2 (by decide)) (P2.eq_str _ _) (by rfl)) ?_)) fun hb => Exs.nil ?_)
  · rw [hd] at hb
    have hb : hasL dots want = false := by simpa using hb
    show D.bool _ = D.bool _
    unfold ellm
    rw [hb]; rfl
  rw [hd] at hb
  have hb : hasL dots want = true := by simpa using hb
  have hlen2 := splitA_two dots (by decide) want hb
  have hlen3 := splitA_len dots want 0
  have hpc := splitA_piece dots want 0
  unfold ellm
  rw [if_pos hb]
  refine Exs.cons (Ex.assign_own K (EvF.m_split (Ev.name K _ i1 (by decide)) (Ev.glob_str K hE hke (by decide)) (by decide) (by decide) (by omega) (fun _ => rfl) (by rfl) (by rfl)) sws (by rfl) ?_ (by simp))
  rw [hd]
  generalize hws : splitA dots want 0 = ws at hlen2 hlen3 hpc ⊢
  have j1 : (σ.set "ws" (.ol (ws.map .str))).get "ws" = some (.ol (ws.map .str)) := VEnv.gse _ _ _
  have j2 := VEnv.gsn (x := "ws") (sl := .ol (ws.map .str)) (by decide) i2
  generalize σ.set "ws" (.ol (ws.map .str)) = σ1 at j1 j2 ⊢
  refine Exs.cons (Ex.assert (Tr.of (Tr.cmp (Ev.len_own K hlen hkl j1 (by decide) (by simp; omega)) (Ev.cint _ _ _) (P2.ge_int _ _) (by rfl)) (by simp; omega)) ?_)
  refine Exs.cons (Ex.assign_swap K (names := ["startpos", "endpos"]) (ds := [.int 0, .int got.length]) (Ev.tup (EvL.two (Ev.cint _ _ _) (Ev.len_str K hlen hkl (Ev.name K _ j2 (by decide)) (by omega) (by rfl)) (by rfl) (by rfl)) (by simp)) (by rfl) (by obtain ⟨a, cd, e⟩ := Fm.env; rw [e]; rfl) (.cons (StoreOf.bind C _) sep (.cons (StoreOf.bind C _) ssp .nil)) rfl ?_)
  have k1 : (((σ1.set "endpos" (.fz (.int got.length))).set "startpos" (.fz (.int 0)))).get "startpos" = some (.fz (.int 0)) := VEnv.gse _ _ _
  have k2 : (((σ1.set "endpos" (.fz (.int got.length))).set "startpos" (.fz (.int 0)))).get "endpos" = some (.fz (.int got.length)) := VEnv.gsn (by decide) (VEnv.gse _ _ _)
  have k3 : (((σ1.set "endpos" (.fz (.int got.length))).set "startpos" (.fz (.int 0)))).get "ws" = some (.ol (ws.map .str)) := VEnv.gsn (by decide) (VEnv.gsn (by decide) j1)
  have k4 : (((σ1.set "endpos" (.fz (.int got.length))).set "startpos" (.fz (.int 0)))).get "got" = some (.fz (.str got)) := VEnv.gsn (by decide) (VEnv.gsn (by decide) j2)
  show Exs C (((σ1.set "endpos" (.fz (.int got.length))).set "startpos" (.fz (.int 0)))) _ (RetIs (.bool (ell1 got ws)))
  generalize ((σ1.set "endpos" (.fz (.int got.length))).set "startpos" (.fz (.int 0))) = σ2 at k1 k2 k3 k4 ⊢
  cases ws with
  | nil => simp at hlen2
  | cons w0 wr =>
  have hwr : wr ≠ [] := by intro e; subst e; simp at hlen2
  have hw0 := hpc w0 (by simp)
  refine Exs.cons (Ex.assign K (Ev.m (Ev.sub_own K (n := 0) (d := .str w0) k3 (by decide) (Ev.cint _ _ _) (fun _ _ => rfl) (by simp; omega) (by decide) (by unfold pyIdx; simp) (by simp at hlen3 ⊢; omega))) sw (by rfl) ?_)
  have e1 : (σ2.set "w" (.fz (.str w0))).get "w" = some (.fz (.str w0)) := VEnv.gse _ _ _
  have f1 := VEnv.gsn (x := "w") (sl := .fz (.str w0)) (by decide) k1
  have f2 := VEnv.gsn (x := "w") (sl := .fz (.str w0)) (by decide) k2
  have f3 := VEnv.gsn (x := "w") (sl := .fz (.str w0)) (by decide) k3
  have f4 := VEnv.gsn (x := "w") (sl := .fz (.str w0)) (by decide) k4
  show Exs C (σ2.set "w" (.fz (.str w0))) _ _
  generalize σ2.set "w" (.fz (.str w0)) = σ3 at e1 f1 f2 f3 f4 ⊢
  have hpl : ∀ w ∈ w0 :: wr, w.length ≤ 100000 := fun w hw' => Nat.le_trans (hpc w hw') hw
  refine Exs.cons (Ex.ite (Tr.name_str K e1 (by decide) (by omega)) (fun hb => ?_) fun hb => Exs.nil ?_)
  · have hb := of_decide_eq_true hb
    refine Exs.cons (Ex.ite (Tr.call (Ev.m_startswith (Ev.name K _ f4 (by decide)) (Ev.name K _ e1 (by decide)) (fun _ => rfl) (by rfl) (by rfl)) (fun _ => rfl)) (fun hc => ?_) fun hc => Exs.cons (Ex.ret (Ev.cbool _ _ _) ?_))
    · have he : ell1 got (w0 :: wr) = ell2 got w0.length wr := (if_pos hb).trans (if_pos hc)
      refine Exs.cons (Ex.assign K (Ev.m (Ev.len_str K hlen hkl (Ev.name K _ e1 (by decide)) (by omega) (by rfl))) ssp (by rfl) ?_)
      refine Exs.cons (Ex.del K (k := 0) (VEnv.gsn (by decide) f3) (by decide) (Ev.cint _ _ _) (by unfold seqIndex?; simp) (by simp) (by rfl) (by simp at hlen3 ⊢; omega) (Exs.nil (Exs.nil ?_)))
      have := ell_last K Fm hlen got hg wr hwr (by simp at hlen3; omega) w0.length ((σ3.set "startpos" (.fz (.int w0.length))).set "ws" (.ol (((w0 :: wr).map D.str).eraseIdx 0))) (fun w hw' => hpl w (List.mem_cons_of_mem _ hw')) (VEnv.gsn (by decide) (VEnv.gsn (by decide) f4)) (VEnv.gsn (by decide) (VEnv.gse _ _ _)) (VEnv.gsn (by decide) (VEnv.gsn (by decide) f2)) (VEnv.gse _ _ _)
      rw [← he] at this
      exact this
    · have he : ell1 got (w0 :: wr) = false := (if_pos hb).trans (if_neg (ne_true_of_eq_false hc))
      show D.bool false = D.bool (ell1 got (w0 :: wr))
      rw [he]
  · have hb := of_decide_eq_false hb
    have he : ell1 got (w0 :: wr) = ell2 got 0 (w0 :: wr) := if_neg hb
    have := ell_last K Fm hlen got hg (w0 :: wr) (by simp) (by simp at hlen3 ⊢; omega) 0 σ3 hpl f4 f1 f2 f3
    rw [← he] at this
    exact this
end
end Mine

namespace Mine
theorem esc_init (t : T) : env0 ["text"] [.str t] = [(("text" : Str), Slot.fz (.str (t.flatMap (spells []))))] := by
  have h0 : t.flatMap (spells []) = t := by
    have : (spells []) = fun d => [d] := by funext d; rfl
    rw [this]; simp
  rw [h0]; rfl
section
variable {C : Cx} {gl : Str → Option Value} {r : Nat} {hG : Heap} {pr : Program} {σ : VEnv}
def codes0 : List (Nat × T) := [(38, [38, 97, 109, 112, 59]), (60, [38, 108, 116, 59]), (62, [38, 103, 116, 59])]
def codes1 : List (Nat × T) := [(38, [38, 97, 109, 112, 59]), (60, [38, 108, 116, 59]), (62, [38, 103, 116, 59]), (34, [38, 113, 117, 111, 116, 59]), (13, [38, 35, 49, 51, 59]), (10, [38, 35, 49, 48, 59]), (9, [38, 35, 48, 57, 59])]
def codes2 : List (Nat × T) := [(38, [38, 97, 109, 112, 59]), (62, [38, 103, 116, 59]), (34, [38, 113, 117, 111, 116, 59])]
def codes3 : List (Nat × T) := [(38, [38, 97, 109, 112, 59]), (60, [38, 108, 116, 59]), (62, [38, 103, 116, 59]), (13, [38, 35, 120, 68, 59])]
def codes4 : List (Nat × T) := [(38, [38, 97, 109, 112, 59]), (60, [38, 108, 116, 59]), (34, [38, 113, 117, 111, 116, 59]), (9, [38, 35, 120, 57, 59]), (10, [38, 35, 120, 65, 59]), (13, [38, 35, 120, 68, 59])]
def codesOf : Nat → List (Nat × T)
  | 0 => codes0
  | 1 => codes1
  | 2 => codes2
  | 3 => codes3
  | _ => codes4
theorem walk_esc0 (K : C.Ok gl r) (Fm : Frm C hG pr 1 "_escape_cdata" (fScope (stm 2))) (t : T) (ht : t.length ≤ 100000) :
    Exs C (env0 ["text"] [.str t]) (fBody (stm 2)) (RetIs (.str (t.flatMap (spells codes0)))) := by
  have hk : C.env.kindOf "text" = some .local := by rw [Fm.kindOf]; rfl
  have ht0 : 1 ≤ C.t0 := by rw [Fm.t0]; exact Nat.le_refl _
  rw [esc_init]
  refine Exs.cons (Ex.try_ ?_)
  refine Exs.cons (Ex.esc1 (c := 38) K hk ht0 (by rfl) (by decide) (by decide) (by decide) (by decide) (by decide) ht (by rfl) (by rfl) ?_)
  refine Exs.cons (Ex.esc1 (c := 60) K hk ht0 (by rfl) (by decide) (by decide) (by decide) (by decide) (by decide) ht (by rfl) (by rfl) ?_)
  refine Exs.cons (Ex.esc1 (c := 62) K hk ht0 (by rfl) (by decide) (by decide) (by decide) (by decide) (by decide) ht (by rfl) (by rfl) ?_)
  exact Exs.cons (Ex.ret (Ev.name K _ (by rfl) (by decide)) (by rfl))
theorem walk_esc1 (K : C.Ok gl r) (Fm : Frm C hG pr 1 "_escape_attrib" (fScope (stm 3))) (t : T) (ht : t.length ≤ 100000) :
    Exs C (env0 ["text"] [.str t]) (fBody (stm 3)) (RetIs (.str (t.flatMap (spells codes1)))) := by
  have hk : C.env.kindOf "text" = some .local := by rw [Fm.kindOf]; rfl
  have ht0 : 1 ≤ C.t0 := by rw [Fm.t0]; exact Nat.le_refl _
  rw [esc_init]
  refine Exs.cons (Ex.try_ ?_)
  refine Exs.cons (Ex.esc1 (c := 38) K hk ht0 (by rfl) (by decide) (by decide) (by decide) (by decide) (by decide) ht (by rfl) (by rfl) ?_)
  refine Exs.cons (Ex.esc1 (c := 60) K hk ht0 (by rfl) (by decide) (by decide) (by decide) (by decide) (by decide) ht (by rfl) (by rfl) ?_)
  refine Exs.cons (Ex.esc1 (c := 62) K hk ht0 (by rfl) (by decide) (by decide) (by decide) (by decide) (by decide) ht (by rfl) (by rfl) ?_)
  refine Exs.cons (Ex.esc1 (c := 34) K hk ht0 (by rfl) (by decide) (by decide) (by decide) (by decide) (by decide) ht (by rfl) (by rfl) ?_)
  refine Exs.cons (Ex.esc1 (c := 13) K hk ht0 (by rfl) (by decide) (by decide) (by decide) (by decide) (by decide) ht (by rfl) (by rfl) ?_)
  refine Exs.cons (Ex.esc1 (c := 10) K hk ht0 (by rfl) (by decide) (by decide) (by decide) (by decide) (by decide) ht (by rfl) (by rfl) ?_)
  refine Exs.cons (Ex.esc1 (c := 9) K hk ht0 (by rfl) (by decide) (by decide) (by decide) (by decide) (by decide) ht (by rfl) (by rfl) ?_)
  exact Exs.cons (Ex.ret (Ev.name K _ (by rfl) (by decide)) (by rfl))
theorem walk_esc2 (K : C.Ok gl r) (Fm : Frm C hG pr 1 "_escape_attrib_html" (fScope (stm 4))) (t : T) (ht : t.length ≤ 100000) :
    Exs C (env0 ["text"] [.str t]) (fBody (stm 4)) (RetIs (.str (t.flatMap (spells codes2)))) := by
  have hk : C.env.kindOf "text" = some .local := by rw [Fm.kindOf]; rfl
  have ht0 : 1 ≤ C.t0 := by rw [Fm.t0]; exact Nat.le_refl _
  rw [esc_init]
  refine Exs.cons (Ex.try_ ?_)
  refine Exs.cons (Ex.esc1 (c := 38) K hk ht0 (by rfl) (by decide) (by decide) (by decide) (by decide) (by decide) ht (by rfl) (by rfl) ?_)
  refine Exs.cons (Ex.esc1 (c := 62) K hk ht0 (by rfl) (by decide) (by decide) (by decide) (by decide) (by decide) ht (by rfl) (by rfl) ?_)
  refine Exs.cons (Ex.esc1 (c := 34) K hk ht0 (by rfl) (by decide) (by decide) (by decide) (by decide) (by decide) ht (by rfl) (by rfl) ?_)
  exact Exs.cons (Ex.ret (Ev.name K _ (by rfl) (by decide)) (by rfl))
theorem walk_esc3 (K : C.Ok gl r) (Fm : Frm C hG pr 1 "_escape_cdata_c14n" (fScope (stm 5))) (t : T) (ht : t.length ≤ 100000) :
    Exs C (env0 ["text"] [.str t]) (fBody (stm 5)) (RetIs (.str (t.flatMap (spells codes3)))) := by
  have hk : C.env.kindOf "text" = some .local := by rw [Fm.kindOf]; rfl
  have ht0 : 1 ≤ C.t0 := by rw [Fm.t0]; exact Nat.le_refl _
  rw [esc_init]
  refine Exs.cons (Ex.try_ ?_)
  refine Exs.cons (Ex.esc1 (c := 38) K hk ht0 (by rfl) (by decide) (by decide) (by decide) (by decide) (by decide) ht (by rfl) (by rfl) ?_)
  refine Exs.cons (Ex.esc1 (c := 60) K hk ht0 (by rfl) (by decide) (by decide) (by decide) (by decide) (by decide) ht (by rfl) (by rfl) ?_)
  refine Exs.cons (Ex.esc1 (c := 62) K hk ht0 (by rfl) (by decide) (by decide) (by decide) (by decide) (by decide) ht (by rfl) (by rfl) ?_)
  refine Exs.cons (Ex.esc1 (c := 13) K hk ht0 (by rfl) (by decide) (by decide) (by decide) (by decide) (by decide) ht (by rfl) (by rfl) ?_)
  exact Exs.cons (Ex.ret (Ev.name K _ (by rfl) (by decide)) (by rfl))
theorem walk_esc4 (K : C.Ok gl r) (Fm : Frm C hG pr 1 "_escape_attrib_c14n" (fScope (stm 6))) (t : T) (ht : t.length ≤ 100000) :
    Exs C (env0 ["text"] [.str t]) (fBody (stm 6)) (RetIs (.str (t.flatMap (spells codes4)))) := by
  have hk : C.env.kindOf "text" = some .local := by rw [Fm.kindOf]; rfl
  have ht0 : 1 ≤ C.t0 := by rw [Fm.t0]; exact Nat.le_refl _
  rw [esc_init]
  refine Exs.cons (Ex.try_ ?_)
  refine Exs.cons (Ex.esc1 (c := 38) K hk ht0 (by rfl) (by decide) (by decide) (by decide) (by decide) (by decide) ht (by rfl) (by rfl) ?_)
  refine Exs.cons (Ex.esc1 (c := 60) K hk ht0 (by rfl) (by decide) (by decide) (by decide) (by decide) (by decide) ht (by rfl) (by rfl) ?_)
  refine Exs.cons (Ex.esc1 (c := 34) K hk ht0 (by rfl) (by decide) (by decide) (by decide) (by decide) (by decide) ht (by rfl) (by rfl) ?_)
  refine Exs.cons (Ex.esc1 (c := 9) K hk ht0 (by rfl) (by decide) (by decide) (by decide) (by decide) (by decide) ht (by rfl) (by rfl) ?_)
  refine Exs.cons (Ex.esc1 (c := 10) K hk ht0 (by rfl) (by decide) (by decide) (by decide) (by decide) (by decide) ht (by rfl) (by rfl) ?_)
  refine Exs.cons (Ex.esc1 (c := 13) K hk ht0 (by rfl) (by decide) (by decide) (by decide) (by decide) (by decide) ht (by rfl) (by rfl) ?_)
  exact Exs.cons (Ex.ret (Ev.name K _ (by rfl) (by decide)) (by rfl))

theorem walk_write (K : C.Ok gl r) (Fm : Frm C hG pr 0 "_law_write" (fScope (stm 11))) (k : Nat) (hk : k < 5) (t : T) (hw : ∀ j, (fn : Str) → j < 5 → fn = [("_escape_cdata" : Str), "_escape_attrib", "_escape_attrib_html", "_escape_cdata_c14n", "_escape_attrib_c14n"].getD j default → FnAt C gl fn [.str t] (.str (t.flatMap (spells (codesOf j))))) :
    Exs C (env0 ["kind", "text"] [.int k, .str t]) (fBody (stm 11)) (RetIs (.str (t.flatMap (spells (codesOf k))))) := by
  have i1 : (env0 ["kind", "text"] [.int k, .str t]).get "kind" = some (.fz (.int k)) := by rfl
  have i2 : (env0 ["kind", "text"] [.int k, .str t]).get "text" = some (.fz (.str t)) := by rfl
  generalize env0 ["kind", "text"] [.int k, .str t] = σ at i1 i2 ⊢
  have key : ∀ (j : Nat) {a b : List Stmt} {p p0 p1 p2 : Pos} {kk : Nat} {P : Out → Prop}, ((j = k) → Exs C σ a P) → ((j ≠ k) → Exs C σ b P) → Ex C σ (.If (.Compare (.Name "kind" p1) [.Eq] [.Constant (.int j) kk p2] p0) a b p) P := fun j a b p p0 p1 p2 kk P h1 h2 =>
    Ex.ite (Tr.cmp (Ev.name K _ i1 (by decide)) (Ev.cint _ _ _) (P2.eq_int _ _) (by rfl)) (fun h => h1 (by have := eq_of_beq h; omega)) fun h => h2 (by have := beq_eq_false_iff_ne.mp h; omega)
  refine Exs.cons (key 0 (fun h => Exs.cons (Ex.ret (Ev.callD K (hw 0 _ (by decide) rfl) (by rw [Fm.kindOf]; rfl) (by decide) (EvL.one (Ev.name K _ i2 (by decide)) (by rfl))) (by rw [← h]; rfl))) fun h0 => Exs.nil ?_)
  refine Exs.cons (key 1 (fun h => Exs.cons (Ex.ret (Ev.callD K (hw 1 _ (by decide) rfl) (by rw [Fm.kindOf]; rfl) (by decide) (EvL.one (Ev.name K _ i2 (by decide)) (by rfl))) (by rw [← h]; rfl))) fun h1 => Exs.nil ?_)
  refine Exs.cons (key 2 (fun h => Exs.cons (Ex.ret (Ev.callD K (hw 2 _ (by decide) rfl) (by rw [Fm.kindOf]; rfl) (by decide) (EvL.one (Ev.name K _ i2 (by decide)) (by rfl))) (by rw [← h]; rfl))) fun h2 => Exs.nil ?_)
  refine Exs.cons (key 3 (fun h => Exs.cons (Ex.ret (Ev.callD K (hw 3 _ (by decide) rfl) (by rw [Fm.kindOf]; rfl) (by decide) (EvL.one (Ev.name K _ i2 (by decide)) (by rfl))) (by rw [← h]; rfl))) fun h3 => Exs.nil ?_)
  have h4 : 4 = k := by omega
  exact Exs.cons (Ex.ret (Ev.callD K (hw 4 _ (by decide) rfl) (by rw [Fm.kindOf]; rfl) (by decide) (EvL.one (Ev.name K _ i2 (by decide)) (by rfl))) (by rw [← h4]; rfl))
end
end Mine

namespace Mine
section
variable {C : Cx} {gl : Str → Option Value} {r : Nat} {hG : Heap} {pr : Program} {σ : VEnv}

def names0 : List (Str × Str) := [("&", "&amp;"), ("<", "&lt;"), (">", "&gt;")]
def names1 : List (Str × Str) := [("&", "&amp;"), ("<", "&lt;"), (">", "&gt;"), ("\"", "&quot;"), ("\r", "&#13;"), ("\n", "&#10;"), ("\t", "&#09;")]
def names2 : List (Str × Str) := [("&", "&amp;"), (">", "&gt;"), ("\"", "&quot;")]
def names3 : List (Str × Str) := [("&", "&amp;"), ("<", "&lt;"), (">", "&gt;"), ("\r", "&#xD;")]
def names4 : List (Str × Str) := [("&", "&amp;"), ("<", "&lt;"), ("\"", "&quot;"), ("\r", "&#xD;"), ("\n", "&#xA;"), ("\t", "&#x9;")]
def txt2 (l : List (Str × Str)) : List (T × T) := l.map fun p => (p.1.cps.toList, p.2.cps.toList)
def namesOf : Nat → List (T × T)
  | 0 => txt2 names0
  | 1 => txt2 names1
  | 2 => txt2 names2
  | 3 => txt2 names3
  | _ => txt2 names4

theorem nod0 : (names0.map (·.1)).Nodup := by decide
theorem nod1 : (names1.map (·.1)).Nodup := by decide
theorem nod2 : (names2.map (·.1)).Nodup := by decide
theorem nod3 : (names3.map (·.1)).Nodup := by decide
theorem nod4 : (names4.map (·.1)).Nodup := by decide
theorem walk_names (K : C.Ok gl r) (Fm : Frm C hG pr 0 "_law_names" (fScope (stm 12))) (k : Nat) (hk : k < 5) :
    Exs C (env0 ["kind"] [.int k]) (fBody (stm 12)) (RetIs (.dict (namesOf k))) := by
  have i1 : (env0 ["kind"] [.int k]).get "kind" = some (.fz (.int k)) := by rfl
  generalize env0 ["kind"] [.int k] = σ at i1 ⊢
  have hx : ([.dict (txt2 names0), .dict (txt2 names1), .dict (txt2 names2), .dict (txt2 names3), .dict (txt2 names4)] : List D)[pyIdx 5 (k : Int)]? = some (.dict (namesOf k)) := by
    unfold pyIdx
    rw [if_pos (by omega)]
    match k, hk with
    | 0, _ => rfl
    | 1, _ => rfl
    | 2, _ => rfl
    | 3, _ => rfl
    | 4, _ => rfl
  generalize hxs : ([.dict (txt2 names0), .dict (txt2 names1), .dict (txt2 names2), .dict (txt2 names3), .dict (txt2 names4)] : List D) = xs at hx
  have hl : xs.length = 5 := by rw [← hxs]; rfl
  refine Exs.cons (Ex.ret (d := .dict (namesOf k)) (Ev.item (xs := xs) (n := k) (Ev.list ?_ (by omega)) (Ev.name K _ i1 (by decide)) (fun _ _ => rfl) (by omega) (by omega) (by rw [hl]; exact hx) (by omega)) (by rfl))
  rw [← hxs]
  · refine .cons ?_ (.cons ?_ (.cons ?_ (.cons ?_ (.cons ?_ .nil (by rfl)) (by rfl)) (by rfl)) (by rfl)) (by rfl)
    · exact Ev.cdict K (kvs := names0) (.cons (.cons (.cons .nil))) (by simp) (by decide) nod0
    · exact Ev.cdict K (kvs := names1) (.cons (.cons (.cons (.cons (.cons (.cons (.cons .nil))))))) (by simp) (by decide) nod1
    · exact Ev.cdict K (kvs := names2) (.cons (.cons (.cons .nil))) (by simp) (by decide) nod2
    · exact Ev.cdict K (kvs := names3) (.cons (.cons (.cons (.cons .nil)))) (by simp) (by decide) nod3
    · exact Ev.cdict K (kvs := names4) (.cons (.cons (.cons (.cons (.cons (.cons .nil)))))) (by simp) (by decide) nod4

theorem walk_holes (K : C.Ok gl r) (Fm : Frm C hG pr 0 "_law_holes" (fScope (stm 13))) (t : T) (ht : t.length ≤ 10000) :
    Exs C (env0 ["letters"] [.str t]) (fBody (stm 13)) (RetIs (.str (holesL t))) := by
  have i1 : (env0 ["letters"] [.str t]).get "letters" = some (.fz (.str t)) := by rfl
  have hd : ("..." : Str).cps.toList = dots := by rfl
  have hl := joinL_len dots (t.map fun c => [c])
  rw [sum_ones] at hl
  have hd3 : dots.length = 3 := rfl
  simp only [List.length_map, hd3] at hl
  refine Exs.cons (Ex.ret (Ev.binop (Ev.binop (Ev.cstr _ _ _) (Ev.m_join_str K.hand (Ev.cstr _ _ _) (Ev.name K _ i1 (by decide)) (by rw [hd, hd3]; omega) (fun _ => rfl) (by rfl) (by rfl)) (P2.add_str _ _ (by rw [hd, hd3]; omega))) (Ev.cstr _ _ _) (P2.add_str _ _ (by rw [hd, List.length_append, hd3]; omega))) rfl)

theorem through_loop (K : C.Ok gl r) (Fm : Frm C hG pr 0 "_law_through" (fScope (stm 14))) (hlen : gl "len" = some (.builtin "len")) (l : T) (hl : l.length ≤ 100000) :
    ∀ (row : T) (done : Nat) (σ : VEnv), done ≤ l.length → σ.get "letters" = some (.fz (.str l)) → σ.get "done" = some (.fz (.int done)) →
      ForL C (fForT (sub (fBody (stm 14)) 1)) (fun σ d => σ.set "letter" (.fz d)) (fForBody (sub (fBody (stm 14)) 1)) (row.map fun c => .str [c]) σ (Then C ((fBody (stm 14)).drop 2) (RetIs (.int (done + through (l.drop done) row : Nat)))) := by
  have hkl : C.env.kindOf "len" = some .globalImplicit := by rw [Fm.kindOf]; rfl
  have s1 : Sto C "letter" := Fm.sto (by rfl)
  have s2 : Sto C "done" := Fm.sto (by rfl)
  intro row
  induction row with
  | nil =>
    intro done σ hd g1 g2
    refine Exs.cons (Ex.ret (Ev.name K _ g2 (by decide)) ?_)
    show D.int done = D.int _
    rw [show through (l.drop done) [] = 0 by cases l.drop done <;> rfl]; rfl
  | cons c row ih =>
    intro done σ hd g1 g2
    refine ⟨As.name K s1, ?_⟩
    have e0 : (σ.set "letter" (.fz (.str [c]))).get "letter" = some (.fz (.str [c])) := VEnv.gse _ _ _
    have e1 := VEnv.gsn (x := "letter") (sl := .fz (.str [c])) (by decide) g1
    have e2 := VEnv.gsn (x := "letter") (sl := .fz (.str [c])) (by decide) g2
    show Exs C (σ.set "letter" (.fz (.str [c]))) _ _
    generalize σ.set "letter" (.fz (.str [c])) = σ1 at e0 e1 e2 ⊢
    by_cases hlt : done < l.length
    · have hdrop : l.drop done = l[done] :: l.drop (done + 1) := List.drop_eq_getElem_cons hlt
      refine Exs.cons (Ex.ite (Tr.and2 (Tr.cmp (Ev.name K _ e2 (by decide)) (Ev.len_str K hlen hkl (Ev.name K _ e1 (by decide)) (by omega) (by rfl)) (P2.lt_int _ _) (by rfl)) fun _ => Tr.cmp (Ev.item_s (c := l[done]) (Ev.name K _ e1 (by decide)) (Ev.name K _ e2 (by decide)) (fun _ _ => rfl) (by omega) (by omega) (by simp)) (Ev.name K _ e0 (by decide)) (P2.eq_str _ _) (by rfl)) (fun hb => ?_) fun hb => Exs.nil ?_)
      · have hc : l[done] = c := by simpa using (Bool.and_eq_true _ _ |>.mp hb).2
        refine Exs.cons (Ex.aug K e2 (Ev.cint _ _ _) (P2.iadd_int _ _) s2 (Exs.nil (Exs.nil ?_)))
        have := ih (done + 1) (σ1.set "done" (.fz (.int ((done : Int) + 1)))) (by omega) (VEnv.gsn (by decide) e1) (VEnv.gse _ _ _)
        rw [show done + through (l.drop done) (c :: row) = done + 1 + through (l.drop (done + 1)) row by rw [hdrop, through, if_pos hc]; omega]
        exact this
      · have hc : l[done] ≠ c := by
          intro e
          rw [Bool.and_eq_false_iff] at hb
          rcases hb with hb | hb
          · simp at hb; omega
          · simp [e] at hb
        have := ih done σ1 hd e1 e2
        rw [show done + through (l.drop done) (c :: row) = done + through (l.drop done) row by rw [hdrop, through, if_neg hc]]
        exact Exs.nil this
    · have hdrop : l.drop done = [] := List.drop_of_length_le (by omega)
      refine Exs.cons (Ex.ite (Tr.and2 (c := false) (Tr.cmp (Ev.name K _ e2 (by decide)) (Ev.len_str K hlen hkl (Ev.name K _ e1 (by decide)) (by omega) (by rfl)) (P2.lt_int _ _) (by rfl)) fun hb => absurd (of_decide_eq_true hb) (by omega)) (fun hb => ?_) fun hb => Exs.nil ?_)
      · simp at hb
      · have := ih done σ1 hd e1 e2
        rw [show done + through (l.drop done) (c :: row) = done + through (l.drop done) row by rw [hdrop]; cases row <;> rfl]
        exact Exs.nil this

theorem walk_through (K : C.Ok gl r) (Fm : Frm C hG pr 0 "_law_through" (fScope (stm 14))) (hlen : gl "len" = some (.builtin "len")) (l row : T) (hl : l.length ≤ 100000) :
    Exs C (env0 ["letters", "row"] [.str l, .str row]) (fBody (stm 14)) (RetIs (.int (through l row : Nat))) := by
  have i1 : (env0 ["letters", "row"] [.str l, .str row]).get "letters" = some (.fz (.str l)) := by rfl
  have i2 : (env0 ["letters", "row"] [.str l, .str row]).get "row" = some (.fz (.str row)) := by rfl
  generalize env0 ["letters", "row"] [.str l, .str row] = σ at i1 i2 ⊢
  refine Exs.cons (Ex.assign K (Ev.m (Ev.cint _ _ _)) (Fm.sto (by rfl)) (by rfl) ?_)
  refine Exs.cons (Ex.for_ K (tg := fun σ d => σ.set "letter" (.fz d)) (EvIter.str K (Ev.name K _ (VEnv.gsn (by decide) i2) (by decide)) rfl) ?_ (fun _ => rfl))
  have := through_loop K Fm hlen l hl row 0 (σ.set "done" (.fz (.int 0))) (Nat.zero_le _) (VEnv.gsn (by decide) i1) (VEnv.gse _ _ _)
  rw [List.drop_zero, Nat.zero_add] at this
  exact this
end
end Mine

namespace Mine
section
variable {C : Cx} {gl : Str → Option Value} {r : Nat} {hG : Heap} {pr : Program} {σ : VEnv}

/-- what is known of a def, wherever it is called -/
def Avail (gl : Str → Option Value) (hG : Heap) (pr : Program) (r : Nat) (x : Str) (ds : List D) (d : D) : Prop := ∀ C' : Cx, C'.Ok gl r → C'.pr = pr → (∀ b o, hG.get? b = some o → C'.h0.get? b = some o) → FnAt C' gl x ds d

theorem fewest_loop (K : C.Ok gl r) (Fm : Frm C hG pr 0 "_law_fewest" (fScope (stm 15))) (hlen : gl "len" = some (.builtin "len")) (hmax : gl "max" = some (.builtin "max"))
    (l : T) (hl : l.length ≤ 100000) (rows : List T) (hr : rows ≠ []) (hrl : rows.length ≤ 100000) (hth : ∀ a b : T, a.length ≤ 100000 → Avail gl hG pr r "_law_through" [.str a, .str b] (.int (through a b : Nat))) (o : Option Nat) :
    ∀ n σ, (∃ done count : Nat, n = l.length - done ∧ done ≤ l.length ∧ σ.get "letters" = some (.fz (.str l)) ∧ σ.get "rows" = some (.fz (.list (rows.map .str))) ∧ σ.get "done" = some (.fz (.int done)) ∧ σ.get "count" = some (.fz (.int count)) ∧ fewest rows (l.length - done) (l.drop done) count = o) →
      Exs C σ ((fBody (stm 15)).drop 2) (RetIs (optN o)) := by
  have hkl : C.env.kindOf "len" = some .globalImplicit := by rw [Fm.kindOf]; rfl
  have hkm : C.env.kindOf "max" = some .globalImplicit := by rw [Fm.kindOf]; rfl
  have ss : Sto C "step" := Fm.sto (by rfl)
  have sd : Sto C "done" := Fm.stoC (by rfl)
  have sc : Sto C "count" := Fm.sto (by rfl)
  intro n σ h
  refine Exs.cons (Ex.while_ (fun n σ => ∃ done count : Nat, n = l.length - done ∧ done ≤ l.length ∧ σ.get "letters" = some (.fz (.str l)) ∧ σ.get "rows" = some (.fz (.list (rows.map .str))) ∧ σ.get "done" = some (.fz (.int done)) ∧ σ.get "count" = some (.fz (.int count)) ∧ fewest rows (l.length - done) (l.drop done) count = o) ?_ n h)
  rintro n σ ⟨done, count, rfl, hd, g1, g2, g3, g4, g5⟩
  refine ⟨_, Tr.cmp (Ev.name K _ g3 (by decide)) (Ev.len_str K hlen hkl (Ev.name K _ g1 (by decide)) (by omega) (by rfl)) (P2.lt_int _ _) (by rfl), fun hb => ?_, fun hb => ?_⟩
  · have hb := of_decide_eq_false hb
    have e : l.length - done = 0 := by omega
    rw [e, fewest] at g5
    subst g5
    exact Exs.cons (Ex.ret (Ev.name K _ g4 (by decide)) rfl)
  · have hb := of_decide_eq_true hb
    have hlt : done < l.length := by omega
    have hdl : (l.drop done).length ≤ 100000 := by simp; omega
    have hne : l.drop done ≠ [] := by intro e; rw [List.drop_eq_nil_iff] at e; omega
    obtain ⟨k, hk⟩ : ∃ k, l.length - done = k + 1 := ⟨l.length - done - 1, by omega⟩
    rw [hk, fewest, if_neg hne] at g5
    have hstep : Ev C σ (match sub (fWhileBody (sub (fBody (stm 15)) 2)) 0 with | .Assign _ e _ => e | _ => default) (.int (stepOf (l.drop done) rows : Nat)) := by
      have hpm := PN.max (C := C) K.hand (rows.map fun row => ((through (l.drop done) row : Nat) : Int)) (stepOf (l.drop done) rows : Nat) (by
        obtain ⟨row, h1, h2⟩ := stepOf_mem (l.drop done) rows hr
        exact List.mem_map.mpr ⟨row, h1, by rw [h2]⟩) (fun a ha => by
        obtain ⟨row, h1, rfl⟩ := List.mem_map.mp ha
        have := stepOf_le (l.drop done) rows row h1
        omega)
      refine Ev.call_builtin K hmax hkm (by decide) (EvL.one (EvF.ev (EvF.compF (em := emS fun row => .int (through (l.drop done) row : Nat)) (ds := rows.map .str) (σc := env0 ["letters", "done"] [.str l, .int done]) K ?_ rfl)) (by rfl)) (by rw [flat_emS]; rw [List.map_map] at hpm; exact hpm)
      refine ⟨EvIter.list K (Ev.name K _ g2 (by decide)), fun _ => rfl, Fm.cap rfl (by decide) (by decide) ⟨g1, g3, trivial⟩, by decide, rfl, by decide, by rw [flat_emS]; simp; omega, fun h Ca K2 hkp d hdm => ?_⟩
      obtain ⟨row, hrm, rfl⟩ := List.mem_map.mp hdm
      refine ⟨_, As.name K2 (comp_sto (by rfl)), Sub.set (by rfl), _, Ev.callD K2 (hth _ row hdl _ K2 Fm.pr (fun b o e => hkp b o (Fm.hG b o e))) (comp_kind (by rfl) (by decide)) (by decide) (EvL.two (Ev.slice_str (a := some done) (b := none) (Ev.name K2 _ (by rfl) (by decide)) (.yes (Ev.name K2 _ (by rfl) (by decide))) .no (by omega) (fun _ _ => rfl)) (Ev.name K2 _ (by rfl) (by decide)) (by rfl) (by rfl)), rfl⟩
    refine Exs.cons (Ex.assign K (Ev.m hstep) ss (by rfl) ?_)
    have f0 : (σ.set "step" (.fz (.int (stepOf (l.drop done) rows : Nat)))).get "step" = some (.fz (.int (stepOf (l.drop done) rows : Nat))) := VEnv.gse _ _ _
    have f1 := VEnv.gsn (x := "step") (sl := .fz (.int (stepOf (l.drop done) rows : Nat))) (by decide) g1
    have f2 := VEnv.gsn (x := "step") (sl := .fz (.int (stepOf (l.drop done) rows : Nat))) (by decide) g2
    have f3 := VEnv.gsn (x := "step") (sl := .fz (.int (stepOf (l.drop done) rows : Nat))) (by decide) g3
    have f4 := VEnv.gsn (x := "step") (sl := .fz (.int (stepOf (l.drop done) rows : Nat))) (by decide) g4
    show Exs C (σ.set "step" (.fz (.int (stepOf (l.drop done) rows : Nat)))) _ _
    generalize σ.set "step" (.fz (.int (stepOf (l.drop done) rows : Nat))) = σ1 at f0 f1 f2 f3 f4 ⊢
    have hsl : stepOf (l.drop done) rows ≤ l.length - done := by
      have := stepOf_len (l.drop done) rows
      simpa using this
    refine Exs.cons (Ex.ite (Tr.cmp (Ev.name K _ f0 (by decide)) (Ev.cint _ _ _) (P2.eq_int _ _) (by rfl)) (fun hb => Exs.cons (Ex.ret (Ev.cnone _ _) ?_)) fun hb => Exs.nil ?_)
    · have hb := eq_of_beq hb
      rw [if_pos (by omega)] at g5
      subst g5; rfl
    · have hb := beq_eq_false_iff_ne.mp hb
      have hs0 : stepOf (l.drop done) rows ≠ 0 := by omega
      rw [if_neg hs0] at g5
      refine Exs.cons (Ex.aug K f3 (Ev.name K _ f0 (by decide)) (P2.iadd_int _ _) sd ?_)
      refine Exs.cons (Ex.aug K (VEnv.gsn (by decide) f4) (Ev.cint _ _ _) (P2.iadd_int _ _) sc (Exs.nil ?_))
      refine ⟨l.length - (done + stepOf (l.drop done) rows), by omega, done + stepOf (l.drop done) rows, count + 1, rfl, by omega, VEnv.gsn (by decide) (VEnv.gsn (by decide) f1), VEnv.gsn (by decide) (VEnv.gsn (by decide) f2), VEnv.gsn (by decide) (by rw [VEnv.gse]; simp), by rw [VEnv.gse]; simp, ?_⟩
      rw [List.drop_drop] at g5
      rw [← g5]
      exact fewest_fuel rows _ _ _ _ (by simp) (by simp; omega)

theorem walk_fewest (K : C.Ok gl r) (Fm : Frm C hG pr 0 "_law_fewest" (fScope (stm 15))) (hlen : gl "len" = some (.builtin "len")) (hmax : gl "max" = some (.builtin "max"))
    (l : T) (hl : l.length ≤ 100000) (rows : List T) (hr : rows ≠ []) (hrl : rows.length ≤ 100000) (hth : ∀ a b : T, a.length ≤ 100000 → Avail gl hG pr r "_law_through" [.str a, .str b] (.int (through a b : Nat))) :
    Exs C (env0 ["letters", "rows"] [.str l, .list (rows.map .str)]) (fBody (stm 15)) (RetIs (optN (fewest rows l.length l 0))) := by
  have i1 : (env0 ["letters", "rows"] [.str l, .list (rows.map .str)]).get "letters" = some (.fz (.str l)) := by rfl
  have i2 : (env0 ["letters", "rows"] [.str l, .list (rows.map .str)]).get "rows" = some (.fz (.list (rows.map .str))) := by rfl
  generalize env0 ["letters", "rows"] [.str l, .list (rows.map .str)] = σ at i1 i2 ⊢
  refine Exs.cons (Ex.assign K (Ev.m (Ev.cint _ _ _)) (Fm.stoC (by rfl)) (by rfl) ?_)
  refine Exs.cons (Ex.assign K (Ev.m (Ev.cint _ _ _)) (Fm.sto (by rfl)) (by rfl) ?_)
  exact fewest_loop K Fm hlen hmax l hl rows hr hrl hth _ l.length _ ⟨0, 0, by omega, by omega, VEnv.gsn (by decide) (VEnv.gsn (by decide) i1), VEnv.gsn (by decide) (VEnv.gsn (by decide) i2), VEnv.gsn (by decide) (VEnv.gse _ _ _), VEnv.gse _ _ _, rfl⟩
end
end Mine

namespace Mine
section
variable {C : Cx} {gl : Str → Option Value} {r : Nat} {hG : Heap} {pr : Program} {σ : VEnv}

theorem lies_loop (K : C.Ok gl r) (Fm : Frm C hG pr 0 "_law_lies" (fScope (stm 16))) (hlen : gl "len" = some (.builtin "len")) (hrg : gl "range" = some (.type "range"))
    (text : T) (ht : text.length ≤ 100000) : ∀ (ps : List T) (ends : List Nat) (σ : VEnv), (∀ p ∈ ps, p.length ≤ 100000) → σ.get "text" = some (.fz (.str text)) → σ.get "ends" = some (.fz (natD ends)) → ends.length ≤ 200000 → (∀ e ∈ ends, e ≤ 1000000) →
      ForL C (fForT (sub (fBody (stm 16)) 2)) (fun σ d => σ.set "piece" (.fz d)) (fForBody (sub (fBody (stm 16)) 2)) (ps.map .str) σ (Then C ((fBody (stm 16)).drop 3) (RetIs (.bool (decide (text.length ∈ ps.foldl (liesStep text) ends))))) := by
  have hkl : C.env.kindOf "len" = some .globalImplicit := by rw [Fm.kindOf]; rfl
  have hkr : C.env.kindOf "range" = some .globalImplicit := by rw [Fm.kindOf]; rfl
  intro ps
  induction ps with
  | nil =>
    intro ends σ _ g1 g2 _ _
    refine Exs.cons (Ex.ret (Ev.cmp (Ev.len_str K hlen hkl (Ev.name K _ g1 (by decide)) (by omega) (by rfl)) (Ev.name K _ g2 (by decide)) (P2.in_ints _ _) (by rfl)) ?_)
    show D.bool _ = D.bool _
    congr 1
    rw [Bool.eq_iff_iff]
    simp only [List.foldl_nil, decide_eq_true_eq, List.mem_map]
    exact ⟨fun ⟨a, h1, h2⟩ => by have : a = text.length := by omega
                                 exact decide_eq_true (this ▸ h1), fun h => ⟨_, of_decide_eq_true h, rfl⟩⟩
  | cons piece ps ih =>
    intro ends σ hp g1 g2 g3 g4
    have hpl := hp piece (by simp)
    refine ⟨As.name K (Fm.stoC (by rfl)), ?_⟩
    have e0 : (σ.set "piece" (.fz (.str piece))).get "piece" = some (.fz (.str piece)) := VEnv.gse _ _ _
    have e1 := VEnv.gsn (x := "piece") (sl := .fz (.str piece)) (by decide) g1
    have e2 := VEnv.gsn (x := "piece") (sl := .fz (.str piece)) (by decide) g2
    show Exs C (σ.set "piece" (.fz (.str piece))) _ _
    generalize σ.set "piece" (.fz (.str piece)) = σ1 at e0 e1 e2 ⊢
    refine Exs.cons (Ex.assign K (Ev.m (EvF.ev (EvF.compF (em := emN (fun p => !ends.isEmpty && (decide (ends.headD 0 ≤ p) && ((text.take (p + piece.length)).drop p == piece))) fun p => .int ((p + piece.length : Nat) : Int)) (ds := (List.range (text.length + 1)).map fun (k : Nat) => .int k) (σc := env0 ["ends", "piece", "text"] [natD ends, .str piece, .str text]) K ?_ rfl))) (Fm.stoC (by rfl)) (by obtain ⟨a, cd, e⟩ := Fm.env; rw [e]; rfl) (Exs.nil ?_))
    · refine ⟨EvIter.range1 K hrg hkr (Ev.of (Ev.binop (Ev.len_str K hlen hkl (Ev.name K _ e1 (by decide)) (by omega) (by rfl)) (Ev.cint _ _ _) (P2.add_int _ _)) (by simp)) (by rfl) (by omega) rfl, fun _ => rfl, Fm.cap rfl (by decide) (by decide) ⟨e2, e0, e1, trivial⟩, by decide, rfl, by decide, ?_, fun h Ca K2 hkp d hdm => ?_⟩
      · rw [flat_emN, List.length_map]
        have := List.length_filter_le (fun p => !ends.isEmpty && (decide (ends.headD 0 ≤ p) && ((text.take (p + piece.length)).drop p == piece))) (List.range (text.length + 1))
        simp at this ⊢; omega
      · obtain ⟨p, hpm, rfl⟩ := List.mem_map.mp hdm
        have hplt := List.mem_range.mp hpm
        refine ⟨_, As.name K2 (comp_sto (by rfl)), Sub.set (by rfl), _, Tr.and3 (Tr.cmp (Ev.name K2 _ (by rfl) (by decide)) (Ev.list .nil (by simp)) (P2.ne_nil (by have := K2.units; omega) _) (by rfl)) (fun hne => Tr.cmp (Ev.name K2 _ (by rfl) (by decide)) (Ev.item (n := 0) (d := .int (ends.headD 0 : Nat)) (Ev.name K2 _ (by rfl) (by decide)) (Ev.cint _ _ _) (fun _ _ => rfl) (by simp) (by decide) ?_ (by simp; omega)) (P2.ge_int _ _) (by rfl))
          (fun _ _ => Tr.cmp (Ev.slice_str (a := some p) (b := some (p + piece.length)) (Ev.name K2 _ (by rfl) (by decide)) (.yes (Ev.name K2 _ (by rfl) (by decide))) (.yes (Ev.binop (Ev.name K2 _ (by rfl) (by decide)) (Ev.len_str K2 hlen (comp_kind (by rfl) (by decide)) (Ev.name K2 _ (by rfl) (by decide)) (by omega) (by rfl)) (P2.add_int _ _))) (by omega) (fun _ _ => rfl)) (Ev.name K2 _ (by rfl) (by decide)) (P2.eq_str _ _) (by rfl)), ?_⟩
        · cases ends with
          | nil => simp at hne
          | cons e ends => unfold pyIdx; simp
        · show _ ∨ _
          have hb : (!((ends.map fun (n : Nat) => (n : Int)).map D.int).isEmpty && (decide (((ends.headD 0 : Nat) : Int) ≤ (p : Int)) && (sliceN (some p) (some (p + piece.length)) text == piece))) = (!ends.isEmpty && (decide (ends.headD 0 ≤ p) && ((text.take (p + piece.length)).drop p == piece))) := by
            congr 1
            · cases ends <;> rfl
            · congr 1
              rw [Bool.eq_iff_iff]; simp
          rw [hb]
          cases hc : (!ends.isEmpty && (decide (ends.headD 0 ≤ p) && ((text.take (p + piece.length)).drop p == piece))) with
          | false => left; exact ⟨rfl, if_neg (ne_true_of_eq_false hc)⟩
          | true =>
            right
            refine ⟨rfl, .int ((p : Int) + (piece.length : Int)), Ev.binop (Ev.name K2 _ (by rfl) (by decide)) (Ev.len_str K2 hlen (comp_kind (by rfl) (by decide)) (Ev.name K2 _ (by rfl) (by decide)) (by omega) (by rfl)) (P2.add_int _ _), ?_⟩
            exact (if_pos hc).trans (by simp)
    · have hst : ((List.range (text.length + 1)).map fun (k : Nat) => D.int k).flatMap (emN (fun p => !ends.isEmpty && (decide (ends.headD 0 ≤ p) && ((text.take (p + piece.length)).drop p == piece))) fun p => .int ((p + piece.length : Nat) : Int)) = ((liesStep text ends piece).map fun (n : Nat) => (n : Int)).map .int := by
        rw [flat_emN]; unfold liesStep; simp [Function.comp_def]
      rw [hst]
      rw [List.foldl_cons]
      refine ih (liesStep text ends piece) _ (fun p hp' => hp p (List.mem_cons_of_mem _ hp')) (VEnv.gsn (by decide) e1) (VEnv.gse _ _ _) ?_ ?_
      · unfold liesStep
        have := List.length_filter_le (fun p => !ends.isEmpty && (decide (ends.headD 0 ≤ p) && ((text.take (p + piece.length)).drop p == piece))) (List.range (text.length + 1))
        simp at this ⊢; omega
      · intro e he
        unfold liesStep at he
        obtain ⟨p, hp', rfl⟩ := List.mem_map.mp he
        have := List.mem_range.mp (List.mem_filter.mp hp').1
        omega

theorem walk_lies (K : C.Ok gl r) (Fm : Frm C hG pr 0 "_law_lies" (fScope (stm 16))) (hlen : gl "len" = some (.builtin "len")) (hrg : gl "range" = some (.type "range"))
    (asked text : T) (ha : asked.length ≤ 100000) (ht : text.length ≤ 100000) :
    Exs C (env0 ["asked", "text"] [.str asked, .str text]) (fBody (stm 16)) (RetIs (.bool (lies asked text))) := by
  have hkl : C.env.kindOf "len" = some .globalImplicit := by rw [Fm.kindOf]; rfl
  have i1 : (env0 ["asked", "text"] [.str asked, .str text]).get "asked" = some (.fz (.str asked)) := by rfl
  have i2 : (env0 ["asked", "text"] [.str asked, .str text]).get "text" = some (.fz (.str text)) := by rfl
  generalize env0 ["asked", "text"] [.str asked, .str text] = σ at i1 i2 ⊢
  have hd : ("..." : Str).cps.toList = dots := by rfl
  have hlen3 := splitA_len dots asked 0
  have hpc := splitA_piece dots asked 0
  refine Exs.cons (Ex.assign K (Ev.m (EvF.ev (EvF.m_split (Ev.name K _ i1 (by decide)) (Ev.cstr _ _ _) (by decide) (by decide) (by omega) (fun _ => rfl) (by rfl) (by rfl)))) (Fm.sto (by rfl)) (by rfl) ?_)
  rw [hd]
  unfold lies
  have hne := splitA_ne dots asked 0
  generalize hws : splitA dots asked 0 = ws at hlen3 hpc hne ⊢
  cases ws with
  | nil => exact absurd rfl hne
  | cons p0 ps =>
  have j1 : (σ.set "pieces" (.fz (.list ((p0 :: ps).map .str)))).get "pieces" = some (.fz (.list ((p0 :: ps).map .str))) := VEnv.gse _ _ _
  have j2 := VEnv.gsn (x := "pieces") (sl := .fz (.list ((p0 :: ps).map .str))) (by decide) i2
  show Exs C (σ.set "pieces" (.fz (.list ((p0 :: ps).map .str)))) _ _
  generalize σ.set "pieces" (.fz (.list ((p0 :: ps).map .str))) = σ1 at j1 j2 ⊢
  have hp0 := hpc p0 (by simp)
  have it0 : ∀ {p p2 : Pos} {k : Nat}, Ev C σ1 (.Subscript (.Name "pieces" p) (.Constant (.int 0) k p2) ⟨p.line, p.col, p2.endLine, p2.endCol + 1⟩) (.str p0) := fun {p p2 k} =>
    Ev.item (n := 0) (Ev.name K _ j1 (by decide)) (Ev.cint _ _ _) (fun _ _ => rfl) (by simp; omega) (by decide) (by unfold pyIdx; simp) (by simp at hlen3 ⊢; omega)
  refine Exs.cons (Ex.assign K (d := natD (if p0.isPrefixOf text then [p0.length] else [])) (Ev.m (Ev.ifexp (Tr.call (Ev.m_startswith (Ev.name K _ j2 (by decide)) it0 (fun _ => rfl) (by rfl) (by rfl)) (fun _ => rfl)) (fun h => Ev.of (Ev.list (EvL.one (Ev.len_str K hlen hkl it0 (by omega) (by rfl)) (by rfl)) (by simp)) (by rw [if_pos h]; rfl)) fun h => Ev.of (Ev.list .nil (by simp)) (by rw [if_neg (ne_true_of_eq_false h)]; rfl))) (Fm.stoC (by rfl)) (by rfl) ?_)
  refine Exs.cons (Ex.for_ K (tg := fun σ d => σ.set "piece" (.fz d)) (EvIter.list K (Ev.slice_list (a := some 1) (b := none) (Ev.name K _ (VEnv.gsn (by decide) j1) (by decide)) (.yes (Ev.cint _ _ _)) .no (by simp at hlen3 ⊢; omega) (fun _ _ => rfl))) ?_ (fun _ => rfl))
  exact lies_loop K Fm hlen hrg text ht ps (if p0.isPrefixOf text then [p0.length] else []) _ (fun p hp => by have := hpc p (List.mem_cons_of_mem _ hp); omega) (VEnv.gsn (by decide) j2) (VEnv.gse _ _ _) (by split <;> simp) (by split <;> simp; omega)
end
end Mine

namespace Mine
def wr (k : Nat) (t : T) : T := t.flatMap (spells (codesOf k))
theorem codes_le (k : Nat) : ∀ p ∈ codesOf k, p.2.length ≤ 6 := by
  match k with
  | 0 => decide
  | 1 => decide
  | 2 => decide
  | 3 => decide
  | n + 4 => exact (by decide : ∀ p ∈ codes4, p.2.length ≤ 6)
theorem wr_le (k : Nat) (t : T) : (wr k t).length ≤ t.length * 6 := flatMap_le (spells_le (codes_le k) (by omega)) t

section
variable {C : Cx} {gl : Str → Option Value} {r : Nat} {hG : Heap} {pr : Program} {σ : VEnv}

structure TrInv (σ : VEnv) (k : Nat) (asked : T) (others : List T) : Prop where
  kind : σ.get "kind" = some (.fz (.int k))
  asked : σ.get "asked" = some (.fz (.str asked))
  others : σ.get "others" = some (.fz (.list (others.map .str)))
theorem TrInv.set {σ : VEnv} {k : Nat} {asked : T} {others : List T} (h : TrInv σ k asked others) {x : Str} {sl : Slot} (h1 : ("kind" == x) = false) (h2 : ("asked" == x) = false) (h3 : ("others" == x) = false) : TrInv (σ.set x sl) k asked others :=
  ⟨VEnv.gsn h1 h.kind, VEnv.gsn h2 h.asked, VEnv.gsn h3 h.others⟩

theorem tried_in (K : C.Ok gl r) (Fm : Frm C hG pr 0 "_law_tried" (fScope (stm 17))) (k : Nat) (asked : T) (others : List T) (ha : asked.length ≤ 100000) (c : Nat)
    (hw : ∀ t : T, t.length ≤ 10000 → Avail gl hG pr r "_law_write" [.int k, .str t] (.str (wr k t))) (hell : ∀ a b : T, a.length ≤ 100000 → b.length ≤ 100000 → Avail gl hG pr r "_ellipsis_match" [.str a, .str b] (.bool (ellm a b))) :
    ∀ (tx : List T) (σ : VEnv) (P : Out → Prop), TrInv σ k asked others → σ.get "count" = some (.fz (.int c)) → (∀ t ∈ tx, t.length ≤ 1000) → ((tx.any fun t => ellm asked (wr k t)) = true → P (.ret (.int c))) → ((tx.any fun t => ellm asked (wr k t)) = false → ∀ σ', TrInv σ' k asked others → (∀ s, σ.get "texts" = some s → σ'.get "texts" = some s) → P (.next σ')) →
      ForL C (fForT (sub (fForBody (sub (fBody (stm 17)) 2)) 1)) (fun σ d => σ.set "text" (.fz d)) (fForBody (sub (fForBody (sub (fBody (stm 17)) 2)) 1)) (tx.map .str) σ P := by
  intro tx
  induction tx with
  | nil => intro σ P g1 g2 _ _ h2; exact h2 rfl σ g1 (fun s e => e)
  | cons t tx ih =>
    intro σ P g1 g2 g3 h1 h2
    have htl := g3 t (by simp)
    have hwl := wr_le k t
    refine ⟨As.name K (Fm.sto (by rfl)), ?_⟩
    have e0 : (σ.set "text" (.fz (.str t))).get "text" = some (.fz (.str t)) := VEnv.gse _ _ _
    have e1 := g1.set (x := "text") (sl := .fz (.str t)) (by decide) (by decide) (by decide)
    have e2 := VEnv.gsn (x := "text") (sl := .fz (.str t)) (by decide) g2
    have e3 : ∀ s, σ.get "texts" = some s → (σ.set "text" (.fz (.str t))).get "texts" = some s := fun s e => VEnv.gsn (by decide) e
    show Exs C (σ.set "text" (.fz (.str t))) _ _
    generalize σ.set "text" (.fz (.str t)) = σ1 at e0 e1 e2 e3 ⊢
    refine Exs.cons (Ex.ite (Tr.call (Ev.callD K (hell asked (wr k t) ha (by omega) _ K Fm.pr Fm.hG) (by rw [Fm.kindOf]; rfl) (by decide) (EvL.two (Ev.name K _ e1.asked (by decide)) (Ev.callD K (hw t (by omega) _ K Fm.pr Fm.hG) (by rw [Fm.kindOf]; rfl) (by decide) (EvL.two (Ev.name K _ e1.kind (by decide)) (Ev.name K _ e0 (by decide)) (by rfl) (by rfl))) (by rfl) (by rfl))) (fun _ => rfl)) (fun hb => Exs.cons (Ex.ret (Ev.name K _ e2 (by decide)) ?_)) fun hb => Exs.nil (Exs.nil ?_))
    · exact h1 (by rw [List.any_cons, hb]; rfl)
    · refine ih σ1 P e1 e2 (fun t' ht' => g3 t' (List.mem_cons_of_mem _ ht')) (fun h => h1 (by rw [List.any_cons, hb, h]; rfl)) fun h σ' i1 i2 => h2 (by rw [List.any_cons, hb, h]; rfl) σ' i1 fun s e => i2 s (e3 s e)

theorem flat_ext (others : List T) : ∀ texts : List T, (texts.map D.str).flatMap (fun d => match d with | .str t => (others.map D.str).flatMap (emS fun o => .str (t ++ o)) | _ => []) = (extT others texts).map .str
  | [] => rfl
  | t :: texts => by
    rw [List.map_cons, List.flatMap_cons, flat_ext others texts]
    show (others.map D.str).flatMap (emS fun o => .str (t ++ o)) ++ _ = _
    rw [flat_emS]
    unfold extT
    rw [List.flatMap_cons, List.map_append, List.map_map]
    rfl
theorem ext_len (others : List T) (m : Nat) (hm : others.length ≤ m) : ∀ texts : List T, (extT others texts).length ≤ texts.length * m
  | [] => by simp [extT]
  | t :: texts => by
    have := ext_len others m hm texts
    unfold extT at this ⊢
    rw [List.flatMap_cons, List.length_append, List.length_map, List.length_cons, Nat.add_mul]
    omega
theorem ext_bound (others : List T) (n m : Nat) (hn : ∀ o ∈ others, o.length ≤ m) (texts : List T) (ht : ∀ t ∈ texts, t.length ≤ n) : ∀ t ∈ extT others texts, t.length ≤ n + m := fun t h => by
  unfold extT at h
  obtain ⟨a, ha, hb⟩ := List.mem_flatMap.mp h
  obtain ⟨o, ho, rfl⟩ := List.mem_map.mp hb
  have := ht a ha
  have := hn o ho
  rw [List.length_append]; omega

theorem tried_out (K : C.Ok gl r) (Fm : Frm C hG pr 0 "_law_tried" (fScope (stm 17))) (k : Nat) (asked : T) (others : List T) (ha : asked.length ≤ 100000) (ho : others.length ≤ 4) (hol : ∀ o ∈ others, o.length ≤ 4)
    (hw : ∀ t : T, t.length ≤ 10000 → Avail gl hG pr r "_law_write" [.int k, .str t] (.str (wr k t))) (hell : ∀ a b : T, a.length ≤ 100000 → b.length ≤ 100000 → Avail gl hG pr r "_ellipsis_match" [.str a, .str b] (.bool (ellm a b))) :
    ∀ (n c : Nat) (texts : List T) (σ : VEnv), n + c ≤ 4 → TrInv σ k asked others → σ.get "texts" = some (.fz (.list (texts.map .str))) → texts.length ≤ 4 ^ (4 - n) → (∀ t ∈ texts, t.length ≤ 4 * (4 - n)) →
      ForL C (fForT (sub (fBody (stm 17)) 2)) (fun σ d => σ.set "count" (.fz d)) (fForBody (sub (fBody (stm 17)) 2)) ((List.range' c n).map fun (j : Nat) => .int j) σ (Then C ((fBody (stm 17)).drop 3) (RetIs (optN (triedF (fun t => ellm asked (wr k t)) others c n texts)))) := by
  intro n
  induction n with
  | zero =>
    intro c texts σ _ g1 g2 _ _
    exact Exs.cons (Ex.ret (Ev.cnone _ _) rfl)
  | succ n ih =>
    intro c texts σ hn g1 g2 g3 g4
    rw [List.range'_succ, List.map_cons]
    refine ⟨As.name K (Fm.sto (by rfl)), ?_⟩
    have e0 : (σ.set "count" (.fz (.int c))).get "count" = some (.fz (.int c)) := VEnv.gse _ _ _
    have e1 := g1.set (x := "count") (sl := .fz (.int c)) (by decide) (by decide) (by decide)
    have e2 := VEnv.gsn (x := "count") (sl := .fz (.int c)) (by decide) g2
    show Exs C (σ.set "count" (.fz (.int c))) _ _
    generalize σ.set "count" (.fz (.int c)) = σ1 at e0 e1 e2 ⊢
    have hxl := ext_len others 4 ho texts
    have hxb := ext_bound others _ 4 hol texts g4
    have hp : 4 ^ (4 - n) = 4 ^ (4 - (n + 1)) * 4 := by rw [← Nat.pow_succ]; congr 1; omega
    have hp2 : 4 ^ (4 - n) ≤ 4 ^ 4 := Nat.pow_le_pow_right (by omega) (by omega)
    have hxl2 : (extT others texts).length ≤ 4 ^ (4 - n) := by rw [hp]; omega
    have hxl3 : (extT others texts).length ≤ 256 := by omega
    refine Exs.cons (Ex.assign_compF2 K (σc := env0 ["others"] [.list (others.map .str)]) (ds := texts.map .str) (em := fun d => match d with | .str t => (others.map D.str).flatMap (emS fun o => .str (t ++ o)) | _ => []) ?_ (by obtain ⟨a, cd, e⟩ := Fm.env; rw [e]; rfl) (Fm.sto (by rfl)) ?_)
    · refine ⟨EvIter.list K (Ev.name K _ e2 (by decide)), fun _ => rfl, Fm.cap rfl (by decide) (by decide) ⟨e1.others, trivial⟩, by decide, rfl, by decide, by rw [flat_ext, List.length_map]; omega, fun h Ca K2 hkp d hdm => ?_⟩
      obtain ⟨t, htm, rfl⟩ := List.mem_map.mp hdm
      have htl := g4 t htm
      refine ⟨_, others.map .str, emS fun o => .str (t ++ o), As.name K2 (comp_sto (by rfl)), Sub.set (by rfl), AllFz.set (env0_fz _ _), EvIter.list K2 (Ev.name K2 _ (by rfl) (by decide)), fun _ => rfl, rfl, fun d2 hd2 => ?_⟩
      obtain ⟨o, hom, rfl⟩ := List.mem_map.mp hd2
      have := hol o hom
      exact ⟨_, As.name K2 (comp_sto (by rfl)), Sub.set (by rfl), _, Ev.binop (Ev.name K2 _ (by rfl) (by decide)) (Ev.name K2 _ (by rfl) (by decide)) (P2.add_str _ _ (by omega)), rfl⟩
    · rw [flat_ext]
      have f0 := VEnv.gsn (x := "texts") (sl := .ol ((extT others texts).map .str)) (by decide) e0
      have f1 := e1.set (x := "texts") (sl := .ol ((extT others texts).map .str)) (by decide) (by decide) (by decide)
      have f2 : (σ1.set "texts" (.ol ((extT others texts).map .str))).get "texts" = some (.ol ((extT others texts).map .str)) := VEnv.gse _ _ _
      refine Exs.freeze f2 ?_
      have h0 := VEnv.gsn (x := "texts") (sl := .fz (.list ((extT others texts).map .str))) (by decide) f0
      have h1 := f1.set (x := "texts") (sl := .fz (.list ((extT others texts).map .str))) (by decide) (by decide) (by decide)
      have h2 : ((σ1.set "texts" (.ol ((extT others texts).map .str))).set "texts" (.fz (.list ((extT others texts).map .str)))).get "texts" = some (.fz (.list ((extT others texts).map .str))) := VEnv.gse _ _ _
      generalize (σ1.set "texts" (.ol ((extT others texts).map .str))).set "texts" (.fz (.list ((extT others texts).map .str))) = σ2 at h0 h1 h2 ⊢
      refine Exs.cons (Ex.for_ K (tg := fun σ d => σ.set "text" (.fz d)) (EvIter.list K (Ev.name K _ h2 (by decide))) ?_ (fun _ => rfl))
      refine tried_in K Fm k asked others ha c hw hell (extT others texts) σ2 _ h1 h0 (fun t ht => by have := hxb t ht; omega) (fun hany => ?_) fun hany σ' i1 i2 => ?_
      · show D.int c = optN _
        rw [triedF, if_pos hany]; rfl
      · refine Exs.nil ?_
        rw [triedF, if_neg (ne_true_of_eq_false hany)]
        exact ih (c + 1) (extT others texts) σ' (by omega) i1 (i2 _ h2) hxl2 (fun t ht => by have := hxb t ht; omega)

theorem walk_tried (K : C.Ok gl r) (Fm : Frm C hG pr 0 "_law_tried" (fScope (stm 17))) (hrg : gl "range" = some (.type "range")) (k : Nat) (sign : T) (others : List T) (hsl : sign.length ≤ 100) (ho : others.length ≤ 4) (hol : ∀ o ∈ others, o.length ≤ 4)
    (hh : ∀ t : T, t.length ≤ 10000 → Avail gl hG pr r "_law_holes" [.str t] (.str (holesL t)))
    (hw : ∀ t : T, t.length ≤ 10000 → Avail gl hG pr r "_law_write" [.int k, .str t] (.str (wr k t))) (hell : ∀ a b : T, a.length ≤ 100000 → b.length ≤ 100000 → Avail gl hG pr r "_ellipsis_match" [.str a, .str b] (.bool (ellm a b))) :
    Exs C (env0 ["kind", "sign", "others"] [.int k, .str sign, .list (others.map .str)]) (fBody (stm 17)) (RetIs (optN (triedF (fun t => ellm (holesL (wr k sign)) (wr k t)) others 1 3 [[]]))) := by
  have i1 : (env0 ["kind", "sign", "others"] [.int k, .str sign, .list (others.map .str)]).get "kind" = some (.fz (.int k)) := by rfl
  have i2 : (env0 ["kind", "sign", "others"] [.int k, .str sign, .list (others.map .str)]).get "sign" = some (.fz (.str sign)) := by rfl
  have i3 : (env0 ["kind", "sign", "others"] [.int k, .str sign, .list (others.map .str)]).get "others" = some (.fz (.list (others.map .str))) := by rfl
  generalize env0 ["kind", "sign", "others"] [.int k, .str sign, .list (others.map .str)] = σ at i1 i2 i3 ⊢
  have hwl := wr_le k sign
  have hhl := holesL_len (wr k sign)
  refine Exs.cons (Ex.assign K (Ev.m (Ev.callD K (hh (wr k sign) (by omega) _ K Fm.pr Fm.hG) (by rw [Fm.kindOf]; rfl) (by decide) (EvL.one (Ev.callD K (hw sign (by omega) _ K Fm.pr Fm.hG) (by rw [Fm.kindOf]; rfl) (by decide) (EvL.two (Ev.name K _ i1 (by decide)) (Ev.name K _ i2 (by decide)) (by rfl) (by rfl))) (by rfl)))) (Fm.sto (by rfl)) (by rfl) ?_)
  refine Exs.cons (Ex.assign K (Ev.m (Ev.list (EvL.one (Ev.cstr _ _ _) (by rfl)) (by simp))) (Fm.sto (by rfl)) (by rfl) ?_)
  refine Exs.cons (Ex.for_ K (tg := fun σ d => σ.set "count" (.fz d)) (EvIter.range2 (a := 1) (b := 4) (n := 3) K hrg (by rw [Fm.kindOf]; rfl) (Ev.cint _ _ _) (Ev.cint _ _ _) (by rfl) (by rfl) (by omega) (by omega) rfl rfl) ?_ (fun _ => rfl))
  exact tried_out K Fm k (holesL (wr k sign)) others (by omega) ho hol hw hell 3 1 [[]] _ (by omega) ⟨VEnv.gsn (by decide) (VEnv.gsn (by decide) i1), VEnv.gsn (by decide) (VEnv.gse _ _ _), VEnv.gsn (by decide) (VEnv.gsn (by decide) i3)⟩ (VEnv.gse _ _ _) (by simp) (by simp)
end
end Mine

namespace Mine

def code (k c : Nat) : T := spells (codesOf k) c
def rowsOf (k : Nat) (sg : List Nat) (s : Nat) : List T := (sg.filter fun o => o != s).map (code k)
def fewS (k : Nat) (sg : List Nat) (s : Nat) : Option Nat := fewest (rowsOf k sg s) (code k s).length (code k s) 0
def ownB (k : Nat) (sg : List Nat) (l : List Nat) : Bool := l.all fun s => (fewS k sg s).isNone
def withinB (k s o : Nat) : Bool := (code k o == [o]) && hasL [o] (code k s)
def apartB (k : Nat) (sg : List Nat) (l : List Nat) : Bool := l.all fun s => (sg.filter fun o => o != s).all fun o => !withinB k s o
def formT (items : List (Option Nat)) : T := items.flatMap fun i => match i with | some c => [c] | none => dots

/-- what is so of the kind and its three signs -/
structure Math1 (k : Nat) (sg : List Nat) : Prop where
  tried : ∀ s ∈ sg, triedF (fun t => ellm (holesL (wr k [s])) (wr k t)) ((sg.filter fun o => o != s).map fun c => [c]) 1 3 [[]] = fewS k sg s
  within : ∀ s ∈ sg, ∀ o ∈ sg, o ≠ s → ellm (dots ++ wr k [o] ++ dots) (wr k [s]) = withinB k s o
  whole : ∀ part front : T, (∀ c ∈ part, c ∈ sg) → (∀ c ∈ front, c ∈ sg) → ellm (wr k part) (wr k front) = (part == front)
  held : ∀ part front : T, part ≠ [] → (∀ c ∈ part, c ∈ sg) → (∀ c ∈ front, c ∈ sg) → ellm (holesL (wr k part)) (wr k front) = decide (through (wr k part) (wr k front) = (wr k part).length)
  bare : ∀ part front : T, part ≠ [] → (∀ c ∈ part, c ∈ sg) → (∀ c ∈ front, c ∈ sg) → ellm (holesL part) front = true → ellm (holesL (wr k part)) (wr k front) = true
  own : ownB k sg sg = true → ∀ part front : T, part ≠ [] → (∀ c ∈ part, c ∈ sg) → (∀ c ∈ front, c ∈ sg) → ellm (holesL (wr k part)) (wr k front) = true → ellm (holesL part) front = true
  plain : ∀ form front : T, ellm form front = lies form front
  fits : ∀ (items : List (Option Nat)) (front : T), (∀ c, some c ∈ items → c ∈ sg) → (∀ c ∈ front, c ∈ sg) → ellm (formT items) front = true → ellm (wr k (formT items)) (wr k front) = true
  apart : apartB k sg sg = true → ∀ (items : List (Option Nat)) (front : T), (∀ c, some c ∈ items → c ∈ sg) → (∀ c ∈ front, c ∈ sg) → ellm (wr k (formT items)) (wr k front) = true → ellm (formT items) front = true

def sgD (sg : List Nat) : D := .list ((sg.map fun c => [c]).map .str)
def spD (k : Nat) (sg : List Nat) : List (T × T) := sg.map fun c => ([c], code k c)

/-- what the defs give -/
structure Fns (gl : Str → Option Value) (hG : Heap) (pr : Program) (r : Nat) : Prop where
  len : gl "len" = some (.builtin "len")
  range : gl "range" = some (.type "range")
  sum : gl "sum" = some (.builtin "sum")
  list : gl "list" = some (.type "list")
  names : ∀ k : Nat, k < 5 → Avail gl hG pr r "_law_names" [.int k] (.dict (namesOf k))
  write : ∀ (k : Nat) (t : T), k < 5 → t.length ≤ 10000 → Avail gl hG pr r "_law_write" [.int k, .str t] (.str (wr k t))
  holes : ∀ t : T, t.length ≤ 10000 → Avail gl hG pr r "_law_holes" [.str t] (.str (holesL t))
  ell : ∀ a b : T, a.length ≤ 100000 → b.length ≤ 100000 → Avail gl hG pr r "_ellipsis_match" [.str a, .str b] (.bool (ellm a b))
  through : ∀ a b : T, a.length ≤ 100000 → Avail gl hG pr r "_law_through" [.str a, .str b] (.int (through a b : Nat))
  fewest : ∀ (l : T) (rows : List T), l.length ≤ 100000 → rows ≠ [] → rows.length ≤ 100000 → Avail gl hG pr r "_law_fewest" [.str l, .list (rows.map .str)] (optN (fewest rows l.length l 0))
  lies : ∀ a b : T, a.length ≤ 100000 → b.length ≤ 100000 → Avail gl hG pr r "_law_lies" [.str a, .str b] (.bool (lies a b))
  tried : ∀ (k : Nat) (sign : T) (others : List T), k < 5 → sign.length ≤ 100 → others.length ≤ 4 → (∀ o ∈ others, o.length ≤ 4) → Avail gl hG pr r "_law_tried" [.int k, .str sign, .list (others.map .str)] (optN (triedF (fun t => ellm (holesL (wr k sign)) (wr k t)) others 1 3 [[]]))

section
variable {C : Cx} {gl : Str → Option Value} {r : Nat} {hG : Heap} {pr : Program} {σ : VEnv}

theorem dlook_sp (k : Nat) : ∀ (sg : List Nat) (c : Nat), c ∈ sg → dlook (spD k sg) [c] = some (code k c)
  | a :: sg, c, h => by
    unfold spD
    rw [List.map_cons, dlook]
    by_cases hc : a = c
    · subst hc; simp
    · have : ¬ [a] = [c] := by simpa using hc
      rw [if_neg this]
      exact dlook_sp k sg c (by rcases List.mem_cons.mp h with rfl | h; exact absurd rfl hc; exact h)

/-- [spelled[x] for x in e], and the same of a text's signs -/
theorem spelled_comp (K : C.Ok gl r) {fn : Str} {fscope scope : Scope} {t0 : Nat} (Fm : Frm C hG pr t0 fn fscope) {k : Nat} {sg : List Nat} (hg : σ.get "spelled" = some (.fz (.dict (spD k sg)))) {e : Expr} {x : Str} {px p1 p2 p3 pos : Pos} {l : List Nat}
    (hit : EvIter C σ e (.Name x p3) (l.map fun c => .str [c])) (hl : ∀ c ∈ l, c ∈ sg) (hll : l.length ≤ 10000) (hk : fscope.kind = .function) (hset : ∀ y, foldedSetIterable e C.env y = pure y) (hx : scope.names.lookup x = some .local) (hxs : ("spelled" == x) = false) (hxs' : (x == ("spelled" : Str)) = false) (hxd : (x == ("__debug__" : Str)) = false)
    (hf : scope.names.lookup ("spelled" : Str) = some .free) (hall : ∀ y ∈ scope.names, y.2 = .free → fscope.names.lookup y.1 = some .cell) (hcell : ∀ y ∈ scope.names, y.2 ≠ .cell) (hkind : scope.kind = .function) (hnames : ∀ y ∈ scope.names, y.2 = .local → scope.names.lookup y.1 = some .local)
    (hs : ∀ o i', subscripted (.Name x p2) false o i' = operate [o, i'] (getItem o i')) :
    Ev C σ (.ListComp (.Subscript (.Name "spelled" p1) (.Name x p2) px) [⟨.Name x p3, e, [], 0⟩] scope pos) (.list ((l.map (code k)).map .str)) := by
  have hd : (l.map fun c => D.str [c]) = (l.map fun c => [c]).map .str := by simp
  refine EvF.ev (EvF.compF (em := emS fun t => .str (code k (t.headD 0))) (σc := env0 ["spelled"] [.dict (spD k sg)]) (ds := l.map fun c => .str [c]) K ?_ ?_)
  · refine ⟨hit, hset, Fm.cap hk (fun n hn => by simp at hn; rw [hn]; exact hf) hall ⟨hg, trivial⟩, hcell, hkind, hnames, by rw [hd, flat_emS]; simp; omega, fun h Ca K2 hkp d hdm => ?_⟩
    obtain ⟨c, hc, rfl⟩ := List.mem_map.mp hdm
    have hne : ¬ x = ("spelled" : Str) := by rw [beq_eq_false_iff_ne] at hxs'; exact hxs'
    refine ⟨_, As.name K2 (comp_sto hx), Sub.set (by simp [env0, VEnv.get, hne]), _, Ev.item_d (Ev.name K2 _ (VEnv.gsn hxs (by rfl)) (by decide)) (Ev.name K2 _ (VEnv.gse _ _ _) hxd) hs (dlook_sp k sg c (hl c hc)), rfl⟩
  · rw [hd, flat_emS]; simp [Function.comp_def]
end
end Mine

namespace Mine
section
variable {C : Cx} {gl : Str → Option Value} {r : Nat} {hG : Heap} {pr : Program} {σ : VEnv}

theorem flat_code (k : Nat) (t : T) : joinL [] (t.map (code k)) = wr k t := by
  rw [joinL_nil]; unfold wr code; rw [List.flatMap_def]

/-- behind the fronts' loop's head -/
structure InvF (σ : VEnv) (k : Nat) (sg part text : T) (items : List (Option Nat)) (own apart : Bool) : Prop where
  gkind : σ.get "kind" = some (.fz (.int k))
  gspelled : σ.get "spelled" = some (.fz (.dict (spD k sg)))
  gown : σ.get "own" = some (.fz (.bool own))
  gapart : σ.get "apart" = some (.fz (.bool apart))
  gtext : σ.get "text" = some (.fz (.str text))
  gpart : σ.get "part" = some (.fz (.str part))
  gform : σ.get "form" = some (.fz (.str (formT items)))
  ggoal : σ.get "goal" = some (.fz (.str (wr k part)))
  gshape : σ.get "shape" = some (.fz (.str (wr k (formT items))))
theorem InvF.set {σ : VEnv} {k : Nat} {sg part text : T} {items : List (Option Nat)} {own apart : Bool} (h : InvF σ k sg part text items own apart) {x : Str} {sl : Slot} (hx : (["kind", "spelled", "own", "apart", "text", "part", "form", "goal", "shape"] : List Str).all (fun y => !(y == x)) = true) : InvF (σ.set x sl) k sg part text items own apart := by
  simp only [List.all_cons, List.all_nil, Bool.and_true, Bool.and_eq_true, Bool.not_eq_true'] at hx
  obtain ⟨h1, h2, h3, h4, h5, h6, h7, h8, h9⟩ := hx
  exact ⟨VEnv.gsn h1 h.gkind, VEnv.gsn h2 h.gspelled, VEnv.gsn h3 h.gown, VEnv.gsn h4 h.gapart, VEnv.gsn h5 h.gtext, VEnv.gsn h6 h.gpart, VEnv.gsn h7 h.gform, VEnv.gsn h8 h.ggoal, VEnv.gsn h9 h.gshape⟩

theorem Ex.ite_no {t : Expr} {a b : List Stmt} {p : Pos} {c : Bool} {P : Out → Prop} (H : Tr C σ t c) (hc : c = false) (hb : Exs C σ b P) : Ex C σ (.If t a b p) P := Ex.ite H (fun h => by rw [hc] at h; cases h) fun _ => hb

theorem front_body (K : C.Ok gl r) (Fm : Frm C hG pr 0 "law" (fScope (stm 18))) (N : Fns gl hG pr r) {k : Nat} (hk : k < 5) {sg part text : T} {items : List (Option Nat)} {own apart : Bool} (M : Math1 k sg) (hp : part ≠ []) (hps : ∀ c ∈ part, c ∈ sg) (hts : ∀ c ∈ text, c ∈ sg) (his : ∀ c, some c ∈ items → c ∈ sg)
    (hpl : part.length ≤ 10) (htl : text.length ≤ 10) (hfl : (formT items).length ≤ 100) (ho : own = true → ownB k sg sg = true) (hap : apart = true → apartB k sg sg = true) :
    ∀ (l : List Nat) (σ : VEnv), (∀ n ∈ l, n ≤ 10) → InvF σ k sg part text items own apart →
      ForL C (fForT (sub (fBody (stm 18)) 17)) (fun σ d => σ.set "n" (.fz d)) (fForBody (sub (fBody (stm 18)) 17)) (l.map fun (n : Nat) => .int n) σ (Then C ((fBody (stm 18)).drop 18) (RetIs (.bool true))) := by
  have hkl : C.env.kindOf "len" = some .globalImplicit := by rw [Fm.kindOf]; rfl
  intro l
  induction l with
  | nil => intro σ _ _; exact Exs.cons (Ex.ret (Ev.cbool _ _ _) rfl)
  | cons n l ih =>
    intro σ hn I
    have hn0 := hn n (by simp)
    refine ⟨As.name K (Fm.sto (by rfl)), ?_⟩
    have I1 := I.set (x := "n") (sl := .fz (.int n)) (by decide)
    have e0 : (σ.set "n" (.fz (.int n))).get "n" = some (.fz (.int n)) := VEnv.gse _ _ _
    show Exs C (σ.set "n" (.fz (.int n))) _ _
    generalize σ.set "n" (.fz (.int n)) = σ1 at I1 e0 ⊢
    generalize hfr : text.take n = front
    have hfs : ∀ c ∈ front, c ∈ sg := fun c hc => hts c (List.mem_of_mem_take (hfr ▸ hc))
    have hfrl : front.length ≤ 10 := by rw [← hfr, List.length_take]; omega
    have hwf := wr_le k front
    have hwp := wr_le k part
    have hwm := wr_le k (formT items)
    have hhp := holesL_len part
    have hhw := holesL_len (wr k part)
    -- front
    refine Exs.cons (Ex.assign K (Ev.m (Ev.of (Ev.slice_str (a := none) (b := some n) (Ev.name K _ I1.gtext (by decide)) .no (.yes (Ev.name K _ e0 (by decide))) (by omega) (fun _ _ => rfl)) (show D.str (text.take n) = D.str front by rw [hfr]))) (Fm.sto (by rfl)) (by rfl) ?_)
    have I2 := I1.set (x := "front") (sl := .fz (.str front)) (by decide)
    have a0 : (σ1.set "front" (.fz (.str front))).get "front" = some (.fz (.str front)) := VEnv.gse _ _ _
    show Exs C (σ1.set "front" (.fz (.str front))) _ _
    generalize σ1.set "front" (.fz (.str front)) = σ2 at I2 a0 ⊢
    -- seen
    refine Exs.cons (Ex.assign K (Ev.m (Ev.callD K (N.write k front hk (by omega) _ K Fm.pr Fm.hG) (by rw [Fm.kindOf]; rfl) (by decide) (EvL.two (Ev.name K _ I2.gkind (by decide)) (Ev.name K _ a0 (by decide)) (by rfl) (by rfl)))) (Fm.sto (by rfl)) (by rfl) ?_)
    have I3 := I2.set (x := "seen") (sl := .fz (.str (wr k front))) (by decide)
    have b0 : (σ2.set "seen" (.fz (.str (wr k front)))).get "seen" = some (.fz (.str (wr k front))) := VEnv.gse _ _ _
    have b1 := VEnv.gsn (x := "seen") (sl := .fz (.str (wr k front))) (by decide) a0
    show Exs C (σ2.set "seen" (.fz (.str (wr k front)))) _ _
    generalize σ2.set "seen" (.fz (.str (wr k front))) = σ3 at I3 b0 b1 ⊢
    -- letters
    refine Exs.cons (Ex.assign K (Ev.m (Ev.of (Ev.m_join (Ev.cstr _ _ _) (spelled_comp K Fm I3.gspelled (EvIter.str K (Ev.name K _ b1 (by decide)) rfl) hfs (by omega) rfl (fun _ => rfl) (by rfl) (by decide) (by decide) (by decide) (by rfl) (by decide) (by decide) rfl (by decide) (fun _ _ => rfl)) ?_ (fun _ => rfl) (by rfl) (by rfl)) (show D.str (joinL [] (front.map (code k))) = D.str (wr k front) by rw [flat_code]))) (Fm.sto (by rfl)) (by rfl) ?_)
    · have : ((front.map (code k)).map List.length).sum = (wr k front).length := by
        unfold wr code; rw [List.length_flatMap, List.map_map]; rfl
      rw [this]
      have : ("" : Str).cps.toList.length = 0 := rfl
      rw [this]; simp; omega
    have I4 := I3.set (x := "letters") (sl := .fz (.str (wr k front))) (by decide)
    have c0 : (σ3.set "letters" (.fz (.str (wr k front)))).get "letters" = some (.fz (.str (wr k front))) := VEnv.gse _ _ _
    have c1 := VEnv.gsn (x := "letters") (sl := .fz (.str (wr k front))) (by decide) b0
    have c2 := VEnv.gsn (x := "letters") (sl := .fz (.str (wr k front))) (by decide) b1
    show Exs C (σ3.set "letters" (.fz (.str (wr k front)))) _ _
    generalize σ3.set "letters" (.fz (.str (wr k front))) = σ4 at I4 c0 c1 c2 ⊢
    -- whole
    refine Exs.cons (Ex.ite_no (Tr.or2 (Tr.cmp (Ev.name K _ c1 (by decide)) (Ev.name K _ c0 (by decide)) (P2.ne_str _ _) (by rfl)) fun _ => Tr.cmp (Ev.callD K (N.ell (wr k part) (wr k front) (by omega) (by omega) _ K Fm.pr Fm.hG) (by rw [Fm.kindOf]; rfl) (by decide) (EvL.two (Ev.name K _ I4.ggoal (by decide)) (Ev.name K _ c1 (by decide)) (by rfl) (by rfl))) (Ev.cmp (Ev.name K _ I4.gpart (by decide)) (Ev.name K _ c2 (by decide)) (P2.eq_str _ _) (by rfl)) (P2.isnot_bool _ _) (by rfl)) (by rw [M.whole part front hps hfs]; simp) (Exs.nil ?_))
    -- held
    refine Exs.cons (Ex.assign K (Ev.m (Ev.callD K (N.ell (holesL (wr k part)) (wr k front) (by omega) (by omega) _ K Fm.pr Fm.hG) (by rw [Fm.kindOf]; rfl) (by decide) (EvL.two (Ev.callD K (N.holes (wr k part) (by omega) _ K Fm.pr Fm.hG) (by rw [Fm.kindOf]; rfl) (by decide) (EvL.one (Ev.name K _ I4.ggoal (by decide)) (by rfl))) (Ev.name K _ c1 (by decide)) (by rfl) (by rfl)))) (Fm.sto (by rfl)) (by rfl) ?_)
    generalize hheld : ellm (holesL (wr k part)) (wr k front) = held
    have I5 := I4.set (x := "held") (sl := .fz (.bool held)) (by decide)
    have d0 : (σ4.set "held" (.fz (.bool held))).get "held" = some (.fz (.bool held)) := VEnv.gse _ _ _
    have d1 := VEnv.gsn (x := "held") (sl := .fz (.bool held)) (by decide) c0
    have d2 := VEnv.gsn (x := "held") (sl := .fz (.bool held)) (by decide) c1
    have d3 := VEnv.gsn (x := "held") (sl := .fz (.bool held)) (by decide) c2
    show Exs C (σ4.set "held" (.fz (.bool held))) _ _
    generalize σ4.set "held" (.fz (.bool held)) = σ5 at I5 d0 d1 d2 d3 ⊢
    -- bare
    refine Exs.cons (Ex.assign K (Ev.m (Ev.callD K (N.ell (holesL part) front (by omega) (by omega) _ K Fm.pr Fm.hG) (by rw [Fm.kindOf]; rfl) (by decide) (EvL.two (Ev.callD K (N.holes part (by omega) _ K Fm.pr Fm.hG) (by rw [Fm.kindOf]; rfl) (by decide) (EvL.one (Ev.name K _ I5.gpart (by decide)) (by rfl))) (Ev.name K _ d3 (by decide)) (by rfl) (by rfl)))) (Fm.sto (by rfl)) (by rfl) ?_)
    generalize hbare : ellm (holesL part) front = bare
    have I6 := I5.set (x := "bare") (sl := .fz (.bool bare)) (by decide)
    have f0 : (σ5.set "bare" (.fz (.bool bare))).get "bare" = some (.fz (.bool bare)) := VEnv.gse _ _ _
    have f1 := VEnv.gsn (x := "bare") (sl := .fz (.bool bare)) (by decide) d0
    have f2 := VEnv.gsn (x := "bare") (sl := .fz (.bool bare)) (by decide) d1
    have f3 := VEnv.gsn (x := "bare") (sl := .fz (.bool bare)) (by decide) d2
    have f4 := VEnv.gsn (x := "bare") (sl := .fz (.bool bare)) (by decide) d3
    show Exs C (σ5.set "bare" (.fz (.bool bare))) _ _
    generalize σ5.set "bare" (.fz (.bool bare)) = σ6 at I6 f0 f1 f2 f3 f4 ⊢
    refine Exs.cons (Ex.ite_no (Tr.or2 (Tr.cmp (Ev.name K _ f1 (by decide)) (Ev.cmp (Ev.callD K (N.through (wr k part) (wr k front) (by omega) _ K Fm.pr Fm.hG) (by rw [Fm.kindOf]; rfl) (by decide) (EvL.two (Ev.name K _ I6.ggoal (by decide)) (Ev.name K _ f2 (by decide)) (by rfl) (by rfl))) (Ev.len_str K N.len hkl (Ev.name K _ I6.ggoal (by decide)) (by omega) (by rfl)) (P2.eq_int _ _) (by rfl)) (P2.isnot_bool _ _) (by rfl)) fun _ => Tr.and2 (Tr.cmp (Ev.name K _ f1 (by decide)) (Ev.name K _ f0 (by decide)) (P2.isnot_bool _ _) (by rfl)) fun _ => Tr.or2 (Tr.name_bool K f0 (by decide)) fun _ => Tr.name_bool K I6.gown (by decide)) ?_ (Exs.nil ?_))
    · have h1 := M.held part front hp hps hfs
      have h2 := M.bare part front hp hps hfs
      have h3 := fun h => M.own (ho h) part front hp hps hfs
      rw [hheld] at h1 h2 h3
      rw [hbare] at h2 h3
      rw [Bool.or_eq_false_iff]
      constructor
      · rw [h1]
        have : (((through (wr k part) (wr k front) : Nat) : Int) == ((wr k part).length : Int)) = decide (through (wr k part) (wr k front) = (wr k part).length) := by
          rw [Bool.eq_iff_iff]; simp; omega
        rw [this]; simp
      · cases held <;> cases bare <;> cases own <;> simp at h2 h3 ⊢
    -- fits
    refine Exs.cons (Ex.assign K (Ev.m (Ev.callD K (N.ell (wr k (formT items)) (wr k front) (by omega) (by omega) _ K Fm.pr Fm.hG) (by rw [Fm.kindOf]; rfl) (by decide) (EvL.two (Ev.name K _ I6.gshape (by decide)) (Ev.name K _ f3 (by decide)) (by rfl) (by rfl)))) (Fm.sto (by rfl)) (by rfl) ?_)
    generalize hfits : ellm (wr k (formT items)) (wr k front) = fits
    have I7 := I6.set (x := "fits") (sl := .fz (.bool fits)) (by decide)
    have g0 : (σ6.set "fits" (.fz (.bool fits))).get "fits" = some (.fz (.bool fits)) := VEnv.gse _ _ _
    have g1 := VEnv.gsn (x := "fits") (sl := .fz (.bool fits)) (by decide) f4
    show Exs C (σ6.set "fits" (.fz (.bool fits))) _ _
    generalize σ6.set "fits" (.fz (.bool fits)) = σ7 at I7 g0 g1 ⊢
    -- plain
    refine Exs.cons (Ex.assign K (Ev.m (Ev.callD K (N.ell (formT items) front (by omega) (by omega) _ K Fm.pr Fm.hG) (by rw [Fm.kindOf]; rfl) (by decide) (EvL.two (Ev.name K _ I7.gform (by decide)) (Ev.name K _ g1 (by decide)) (by rfl) (by rfl)))) (Fm.sto (by rfl)) (by rfl) ?_)
    have hpla := M.plain (formT items) front
    generalize hplain : ellm (formT items) front = plain at hpla
    have I8 := I7.set (x := "plain") (sl := .fz (.bool plain)) (by decide)
    have k0 : (σ7.set "plain" (.fz (.bool plain))).get "plain" = some (.fz (.bool plain)) := VEnv.gse _ _ _
    have k1 := VEnv.gsn (x := "plain") (sl := .fz (.bool plain)) (by decide) g0
    have k2 := VEnv.gsn (x := "plain") (sl := .fz (.bool plain)) (by decide) g1
    show Exs C (σ7.set "plain" (.fz (.bool plain))) _ _
    generalize σ7.set "plain" (.fz (.bool plain)) = σ8 at I8 k0 k1 k2 ⊢
    refine Exs.cons (Ex.ite_no (Tr.or2 (Tr.cmp (Ev.name K _ k0 (by decide)) (Ev.callD K (N.lies (formT items) front (by omega) (by omega) _ K Fm.pr Fm.hG) (by rw [Fm.kindOf]; rfl) (by decide) (EvL.two (Ev.name K _ I8.gform (by decide)) (Ev.name K _ k2 (by decide)) (by rfl) (by rfl))) (P2.isnot_bool _ _) (by rfl)) fun _ => Tr.and2 (Tr.cmp (Ev.name K _ k1 (by decide)) (Ev.name K _ k0 (by decide)) (P2.isnot_bool _ _) (by rfl)) fun _ => Tr.or2 (Tr.name_bool K k0 (by decide)) fun _ => Tr.name_bool K I8.gapart (by decide)) ?_ (Exs.nil (Exs.nil ?_)))
    · have h2 := M.fits items front his hfs
      have h3 := fun h => M.apart (hap h) items front his hfs
      rw [hfits] at h2 h3
      rw [hplain] at h2 h3
      rw [← hpla]
      cases fits <;> cases plain <;> cases apart <;> simp at h2 h3 ⊢
    · exact ih σ8 (fun m hm => hn m (List.mem_cons_of_mem _ hm)) I8
end
end Mine

namespace Mine

def pickT (sg : List Nat) (c m : Nat) : T := (List.range m).map fun k => sg.getD (c / 3 / 3 ^ k % 3) 0
def itemAt (sg : List Nat) (c k : Nat) : Option Nat := if c / 4 ^ k % 4 < 3 then some (sg.getD (c / 4 ^ k % 4) 0) else none
def itemT : Option Nat → T
  | some c => [c]
  | none => dots
def pickI (sg : List Nat) (c : Nat) : List (Option Nat) := (List.range 4).map (itemAt sg c)
theorem join_singles (l : T) : joinL [] (l.map fun c => [c]) = l := by
  rw [joinL_nil]
  induction l with
  | nil => rfl
  | cons a l ih => rw [List.map_cons, List.flatten_cons, ih]; rfl
theorem join_items (l : List (Option Nat)) : joinL [] (l.map itemT) = formT l := by
  rw [joinL_nil]
  unfold formT
  rw [List.flatMap_def]
  congr 1
theorem getD_mem3 {sg : List Nat} {i : Nat} (h3 : sg.length = 3) (hi : i < 3) : sg.getD i 0 ∈ sg := by
  rw [List.getD_eq_getElem?_getD, List.getElem?_eq_getElem (by omega)]
  exact List.getElem_mem _
theorem sg_item {sg : List Nat} {i : Nat} (h3 : sg.length = 3) (hi : i < 3) : ((sg.map fun c => [c]).map D.str)[i]? = some (.str [sg.getD i 0]) := by
  rw [List.getD_eq_getElem?_getD, List.getElem?_map, List.getElem?_map, List.getElem?_eq_getElem (by omega)]
  rfl
theorem pick_mem {sg : List Nat} (h3 : sg.length = 3) (c m : Nat) : ∀ x ∈ pickT sg c m, x ∈ sg := fun x hx => by
  obtain ⟨k, _, rfl⟩ := List.mem_map.mp hx
  exact getD_mem3 h3 (Nat.mod_lt _ (by decide))
theorem items_mem {sg : List Nat} (h3 : sg.length = 3) (c : Nat) : ∀ x, some x ∈ pickI sg c → x ∈ sg := fun x hx => by
  obtain ⟨k, _, e⟩ := List.mem_map.mp hx
  unfold itemAt at e
  split at e
  · cases e; rename_i h; exact getD_mem3 h3 h
  · cases e
theorem formT_len : ∀ l : List (Option Nat), (formT l).length ≤ 3 * l.length
  | [] => by simp [formT]
  | a :: l => by
    have := formT_len l
    unfold formT at this ⊢
    rw [List.flatMap_cons, List.length_append]
    cases a <;> simp [dots] at this ⊢ <;> omega

section
variable {C : Cx} {gl : Str → Option Value} {r : Nat} {hG : Heap} {pr : Program} {σ : VEnv}

def cellsD (cs : List Nat) : D := .list (cs.map fun (n : Nat) => .int n)

/-- behind the signs' loop -/
structure InvE (σ : VEnv) (k : Nat) (sg cs : List Nat) (own apart : Bool) : Prop where
  gkind : σ.get "kind" = some (.fz (.int k))
  gcells : σ.get "cells" = some (.fz (cellsD cs))
  gsigns : σ.get "signs" = some (.fz (sgD sg))
  gspelled : σ.get "spelled" = some (.fz (.dict (spD k sg)))
  gown : σ.get "own" = some (.fz (.bool own))
  gapart : σ.get "apart" = some (.fz (.bool apart))
theorem InvE.set {σ : VEnv} {k : Nat} {sg cs : List Nat} {own apart : Bool} (h : InvE σ k sg cs own apart) {x : Str} {sl : Slot} (hx : (["kind", "cells", "signs", "spelled", "own", "apart"] : List Str).all (fun y => !(y == x)) = true) : InvE (σ.set x sl) k sg cs own apart := by
  simp only [List.all_cons, List.all_nil, Bool.and_true, Bool.and_eq_true, Bool.not_eq_true'] at hx
  obtain ⟨h1, h2, h3, h4, h5, h6⟩ := hx
  exact ⟨VEnv.gsn h1 h.gkind, VEnv.gsn h2 h.gcells, VEnv.gsn h3 h.gsigns, VEnv.gsn h4 h.gspelled, VEnv.gsn h5 h.gown, VEnv.gsn h6 h.gapart⟩

theorem law_E (K : C.Ok gl r) (Fm : Frm C hG pr 0 "law" (fScope (stm 18))) (N : Fns gl hG pr r) {k : Nat} (hk : k < 5) {sg cs : List Nat} (h3 : sg.length = 3) (h4 : cs.length = 4) (M : Math1 k sg) (σ : VEnv) (I : InvE σ k sg cs (ownB k sg sg) (apartB k sg sg)) :
    Exs C σ ((fBody (stm 18)).drop 12) (RetIs (.bool true)) := by
  have hkl : C.env.kindOf "len" = some .globalImplicit := by rw [Fm.kindOf]; rfl
  have hkr : C.env.kindOf "range" = some .globalImplicit := by rw [Fm.kindOf]; rfl
  have hj0 : ("" : Str).cps.toList.length = 0 := rfl
  have hsum : ∀ l : T, ((l.map fun c => [c]).map List.length).sum = l.length := sum_ones
  have hpk : ∀ c m, (pickT sg c m).length = m := fun c m => by unfold pickT; simp
  -- text
  refine Exs.cons (Ex.assign K (Ev.m (Ev.of (Ev.m_join (ts := (pickT sg (cs.getD 1 0) (2 + cs.getD 1 0 % 3)).map fun c => [c]) (Ev.cstr _ _ _) (EvF.ev (EvF.compF (em := emNN fun k => .str [sg.getD (cs.getD 1 0 / 3 / 3 ^ k % 3) 0]) (ds := (List.range (2 + cs.getD 1 0 % 3)).map fun (k : Nat) => .int k) (σc := env0 ["signs", "cells"] [sgD sg, cellsD cs]) K
      ⟨EvIter.range1 K N.range hkr (Ev.binop (Ev.lit 2 rfl) (Ev.binop (Ev.cellAt K I.gcells (by decide) (Ev.lit 1 rfl) (by omega) (by omega) (fun _ _ => rfl)) (Ev.lit 3 rfl) (P2.nmod _ _ (by omega))) (P2.nadd _ _)) (by rfl) (by omega) rfl, fun _ => rfl, Fm.cap rfl (by decide) (by decide) ⟨I.gsigns, I.gcells, trivial⟩, by decide, rfl, by decide, by rw [flat_emNN]; simp; omega, fun h Ca K2 hkp d hdm => ?_⟩ (by rw [flat_emNN]; unfold pickT; simp [Function.comp_def]))) (by rw [hsum, hj0, hpk]; simp; omega) (fun _ => rfl) (by rfl) (by rfl)) (show D.str (joinL [] _) = D.str (pickT sg (cs.getD 1 0) (2 + cs.getD 1 0 % 3)) by rw [join_singles]))) (Fm.sto (by rfl)) (by rfl) ?_)
  · obtain ⟨j, hjm, rfl⟩ := List.mem_map.mp hdm
    have hj := List.mem_range.mp hjm
    refine ⟨_, As.name K2 (comp_sto (by rfl)), Sub.set (by rfl), _, Ev.item (n := ((cs.getD 1 0 / 3 / 3 ^ j % 3 : Nat) : Int)) (d := .str [sg.getD (cs.getD 1 0 / 3 / 3 ^ j % 3) 0]) (Ev.name K2 _ (by rfl) (by decide)) (Ev.binop (Ev.binop (Ev.binop (Ev.cellAt K2 (by rfl) (by decide) (Ev.lit 1 rfl) (by omega) (by omega) (fun _ _ => rfl)) (Ev.lit 3 rfl) (P2.ndiv _ _ (by omega) (by decide))) (Ev.binop (Ev.lit 3 rfl) (Ev.name K2 _ (by rfl) (by decide)) (P2.npow _ _ (by omega) (by omega))) (P2.ndiv _ _ (Nat.pow_pos (by omega)) ?_)) (Ev.lit 3 rfl) (P2.nmod _ _ (by omega))) (fun _ _ => rfl) (by omega) (by omega) ?_ (by simp; omega), rfl⟩
    · exact Nat.lt_of_le_of_lt (Nat.pow_le_pow_right (by omega) (show j ≤ 4 by omega)) (by decide)
    · have := Nat.mod_lt (cs.getD 1 0 / 3 / 3 ^ j) (show 0 < 3 by omega)
      unfold pyIdx
      rw [if_pos (by omega), Int.toNat_natCast]
      exact sg_item h3 this
  have I1 := I.set (x := "text") (sl := .fz (.str (pickT sg (cs.getD 1 0) (2 + cs.getD 1 0 % 3)))) (by decide)
  have a0 : (σ.set "text" (.fz (.str (pickT sg (cs.getD 1 0) (2 + cs.getD 1 0 % 3))))).get "text" = some (.fz (.str (pickT sg (cs.getD 1 0) (2 + cs.getD 1 0 % 3)))) := VEnv.gse _ _ _
  show Exs C (σ.set "text" (.fz (.str (pickT sg (cs.getD 1 0) (2 + cs.getD 1 0 % 3))))) _ _
  generalize σ.set "text" (.fz (.str (pickT sg (cs.getD 1 0) (2 + cs.getD 1 0 % 3)))) = σ1 at I1 a0 ⊢
  -- part
  refine Exs.cons (Ex.assign K (Ev.m (Ev.of (Ev.m_join (ts := (pickT sg (cs.getD 2 0) (1 + cs.getD 2 0 % 3)).map fun c => [c]) (Ev.cstr _ _ _) (EvF.ev (EvF.compF (em := emNN fun k => .str [sg.getD (cs.getD 2 0 / 3 / 3 ^ k % 3) 0]) (ds := (List.range (1 + cs.getD 2 0 % 3)).map fun (k : Nat) => .int k) (σc := env0 ["signs", "cells"] [sgD sg, cellsD cs]) K
      ⟨EvIter.range1 K N.range hkr (Ev.binop (Ev.lit 1 rfl) (Ev.binop (Ev.cellAt K I1.gcells (by decide) (Ev.lit 2 rfl) (by omega) (by omega) (fun _ _ => rfl)) (Ev.lit 3 rfl) (P2.nmod _ _ (by omega))) (P2.nadd _ _)) (by rfl) (by omega) rfl, fun _ => rfl, Fm.cap rfl (by decide) (by decide) ⟨I1.gsigns, I1.gcells, trivial⟩, by decide, rfl, by decide, by rw [flat_emNN]; simp; omega, fun h Ca K2 hkp d hdm => ?_⟩ (by rw [flat_emNN]; unfold pickT; simp [Function.comp_def]))) (by rw [hsum, hj0, hpk]; simp; omega) (fun _ => rfl) (by rfl) (by rfl)) (show D.str (joinL [] _) = D.str (pickT sg (cs.getD 2 0) (1 + cs.getD 2 0 % 3)) by rw [join_singles]))) (Fm.sto (by rfl)) (by rfl) ?_)
  · obtain ⟨j, hjm, rfl⟩ := List.mem_map.mp hdm
    have hj := List.mem_range.mp hjm
    refine ⟨_, As.name K2 (comp_sto (by rfl)), Sub.set (by rfl), _, Ev.item (n := ((cs.getD 2 0 / 3 / 3 ^ j % 3 : Nat) : Int)) (d := .str [sg.getD (cs.getD 2 0 / 3 / 3 ^ j % 3) 0]) (Ev.name K2 _ (by rfl) (by decide)) (Ev.binop (Ev.binop (Ev.binop (Ev.cellAt K2 (by rfl) (by decide) (Ev.lit 2 rfl) (by omega) (by omega) (fun _ _ => rfl)) (Ev.lit 3 rfl) (P2.ndiv _ _ (by omega) (by decide))) (Ev.binop (Ev.lit 3 rfl) (Ev.name K2 _ (by rfl) (by decide)) (P2.npow _ _ (by omega) (by omega))) (P2.ndiv _ _ (Nat.pow_pos (by omega)) ?_)) (Ev.lit 3 rfl) (P2.nmod _ _ (by omega))) (fun _ _ => rfl) (by omega) (by omega) ?_ (by simp; omega), rfl⟩
    · exact Nat.lt_of_le_of_lt (Nat.pow_le_pow_right (by omega) (show j ≤ 4 by omega)) (by decide)
    · have := Nat.mod_lt (cs.getD 2 0 / 3 / 3 ^ j) (show 0 < 3 by omega)
      unfold pyIdx
      rw [if_pos (by omega), Int.toNat_natCast]
      exact sg_item h3 this
  have I2 := I1.set (x := "part") (sl := .fz (.str (pickT sg (cs.getD 2 0) (1 + cs.getD 2 0 % 3)))) (by decide)
  have b0 : (σ1.set "part" (.fz (.str (pickT sg (cs.getD 2 0) (1 + cs.getD 2 0 % 3))))).get "part" = some (.fz (.str (pickT sg (cs.getD 2 0) (1 + cs.getD 2 0 % 3)))) := VEnv.gse _ _ _
  have b1 := VEnv.gsn (x := "part") (sl := .fz (.str (pickT sg (cs.getD 2 0) (1 + cs.getD 2 0 % 3)))) (by decide) a0
  show Exs C (σ1.set "part" (.fz (.str (pickT sg (cs.getD 2 0) (1 + cs.getD 2 0 % 3))))) _ _
  generalize σ1.set "part" (.fz (.str (pickT sg (cs.getD 2 0) (1 + cs.getD 2 0 % 3)))) = σ2 at I2 b0 b1 ⊢
  -- form
  have hfl := formT_len (pickI sg (cs.getD 3 0))
  have hpi : (pickI sg (cs.getD 3 0)).length = 4 := by unfold pickI; simp
  refine Exs.cons (Ex.assign K (Ev.m (Ev.of (Ev.m_join (ts := (pickI sg (cs.getD 3 0)).map itemT) (Ev.cstr _ _ _) (EvF.ev (EvF.compF (em := emNN fun k => .str (itemT (itemAt sg (cs.getD 3 0) k))) (ds := (List.range 4).map fun (k : Nat) => .int k) (σc := env0 ["signs", "cells"] [sgD sg, cellsD cs]) K
      ⟨EvIter.range1 K N.range hkr (Ev.lit 4 rfl) (by rfl) (by omega) rfl, fun _ => rfl, Fm.cap rfl (by decide) (by decide) ⟨I2.gsigns, I2.gcells, trivial⟩, by decide, rfl, by decide, by rw [flat_emNN]; simp, fun h Ca K2 hkp d hdm => ?_⟩ (by rw [flat_emNN]; unfold pickI; simp [Function.comp_def]))) ?_ (fun _ => rfl) (by rfl) (by rfl)) (show D.str (joinL [] _) = D.str (formT (pickI sg (cs.getD 3 0))) by rw [join_items]))) (Fm.sto (by rfl)) (by rfl) ?_)
  · obtain ⟨j, hjm, rfl⟩ := List.mem_map.mp hdm
    have hj := List.mem_range.mp hjm
    refine ⟨_, As.name K2 (comp_sto (by rfl)), Sub.set (by rfl), _, Ev.item (n := ((cs.getD 3 0 / 4 ^ j % 4 : Nat) : Int)) (d := .str (itemT (itemAt sg (cs.getD 3 0) j))) (Ev.binop (Ev.name K2 _ (by rfl) (by decide)) (Ev.list (EvL.one (Ev.cstr _ _ _) (by rfl)) (by simp)) (P2.add_list _ _ (by simp; omega))) (Ev.binop (Ev.binop (Ev.cellAt K2 (by rfl) (by decide) (Ev.lit 3 rfl) (by omega) (by omega) (fun _ _ => rfl)) (Ev.binop (Ev.lit 4 rfl) (Ev.name K2 _ (by rfl) (by decide)) (P2.npow _ _ (by omega) (by omega))) (P2.ndiv _ _ (Nat.pow_pos (by omega)) ?_)) (Ev.lit 4 rfl) (P2.nmod _ _ (by omega))) (fun _ _ => rfl) (by omega) (by omega) ?_ (by simp; omega), rfl⟩
    · exact Nat.lt_of_le_of_lt (Nat.pow_le_pow_right (by omega) (show j ≤ 4 by omega)) (by decide)
    · have := Nat.mod_lt (cs.getD 3 0 / 4 ^ j) (show 0 < 4 by omega)
      unfold pyIdx
      rw [if_pos (by omega), Int.toNat_natCast]
      by_cases hi : cs.getD 3 0 / 4 ^ j % 4 < 3
      · rw [List.getElem?_append_left (by rw [List.length_map, List.length_map, h3]; exact hi), sg_item h3 hi]
        unfold itemAt; rw [if_pos hi]; rfl
      · have he : cs.getD 3 0 / 4 ^ j % 4 = 3 := by omega
        unfold itemAt
        rw [if_neg hi, he, List.getElem?_append_right (by simp [h3])]
        simp [h3, itemT]
        rfl
  · have hs : ∀ l : List (Option Nat), ((l.map itemT).map List.length).sum ≤ 3 * l.length := by
      intro l
      induction l with
      | nil => simp
      | cons a l ih => cases a <;> simp [itemT, dots] at ih ⊢ <;> omega
    have := hs (pickI sg (cs.getD 3 0))
    rw [hj0, hpi] at *
    simp only [List.length_map, hpi]
    omega
  have I3 := I2.set (x := "form") (sl := .fz (.str (formT (pickI sg (cs.getD 3 0))))) (by decide)
  have c0 : (σ2.set "form" (.fz (.str (formT (pickI sg (cs.getD 3 0)))))).get "form" = some (.fz (.str (formT (pickI sg (cs.getD 3 0))))) := VEnv.gse _ _ _
  have c1 := VEnv.gsn (x := "form") (sl := .fz (.str (formT (pickI sg (cs.getD 3 0))))) (by decide) b0
  have c2 := VEnv.gsn (x := "form") (sl := .fz (.str (formT (pickI sg (cs.getD 3 0))))) (by decide) b1
  show Exs C (σ2.set "form" (.fz (.str (formT (pickI sg (cs.getD 3 0)))))) _ _
  generalize σ2.set "form" (.fz (.str (formT (pickI sg (cs.getD 3 0))))) = σ3 at I3 c0 c1 c2 ⊢
  have hp1 := hpk (cs.getD 2 0) (1 + cs.getD 2 0 % 3)
  have ht1 := hpk (cs.getD 1 0) (2 + cs.getD 1 0 % 3)
  have hpm := pick_mem h3 (cs.getD 2 0) (1 + cs.getD 2 0 % 3)
  have htm := pick_mem h3 (cs.getD 1 0) (2 + cs.getD 1 0 % 3)
  have him := items_mem h3 (cs.getD 3 0)
  generalize pickT sg (cs.getD 2 0) (1 + cs.getD 2 0 % 3) = part at c1 hp1 hpm ⊢
  generalize pickT sg (cs.getD 1 0) (2 + cs.getD 1 0 % 3) = text at c2 ht1 htm ⊢
  generalize pickI sg (cs.getD 3 0) = items at hfl hpi c0 him ⊢
  have hp2 : part.length ≤ 3 := by omega
  have ht2 : text.length ≤ 4 := by omega
  have hwp := wr_le k part
  have hwf := wr_le k (formT items)
  -- goal, shape
  refine Exs.cons (Ex.assign K (Ev.m (Ev.callD K (N.write k part hk (by omega) _ K Fm.pr Fm.hG) (by rw [Fm.kindOf]; rfl) (by decide) (EvL.two (Ev.name K _ I3.gkind (by decide)) (Ev.name K _ c1 (by decide)) (by rfl) (by rfl)))) (Fm.sto (by rfl)) (by rfl) ?_)
  have I4 := I3.set (x := "goal") (sl := .fz (.str (wr k part))) (by decide)
  have d0 : (σ3.set "goal" (.fz (.str (wr k part)))).get "goal" = some (.fz (.str (wr k part))) := VEnv.gse _ _ _
  have d1 := VEnv.gsn (x := "goal") (sl := .fz (.str (wr k part))) (by decide) c0
  have d2 := VEnv.gsn (x := "goal") (sl := .fz (.str (wr k part))) (by decide) c1
  have d3 := VEnv.gsn (x := "goal") (sl := .fz (.str (wr k part))) (by decide) c2
  show Exs C (σ3.set "goal" (.fz (.str (wr k part)))) _ _
  generalize σ3.set "goal" (.fz (.str (wr k part))) = σ4 at I4 d0 d1 d2 d3 ⊢
  refine Exs.cons (Ex.assign K (Ev.m (Ev.callD K (N.write k (formT items) hk (by omega) _ K Fm.pr Fm.hG) (by rw [Fm.kindOf]; rfl) (by decide) (EvL.two (Ev.name K _ I4.gkind (by decide)) (Ev.name K _ d1 (by decide)) (by rfl) (by rfl)))) (Fm.sto (by rfl)) (by rfl) ?_)
  have J : InvF (σ4.set "shape" (.fz (.str (wr k (formT items))))) k sg part text items (ownB k sg sg) (apartB k sg sg) := by
    have I5 := I4.set (x := "shape") (sl := .fz (.str (wr k (formT items)))) (by decide)
    exact ⟨I5.gkind, I5.gspelled, I5.gown, I5.gapart, VEnv.gsn (by decide) d3, VEnv.gsn (by decide) d2, VEnv.gsn (by decide) d1, VEnv.gsn (by decide) d0, VEnv.gse _ _ _⟩
  show Exs C (σ4.set "shape" (.fz (.str (wr k (formT items))))) _ _
  generalize σ4.set "shape" (.fz (.str (wr k (formT items)))) = σ5 at J ⊢
  refine Exs.cons (Ex.for_ K (tg := fun σ d => σ.set "n" (.fz d)) (EvIter.range1 K N.range hkr (Ev.binop (Ev.len_str K N.len hkl (Ev.name K _ J.gtext (by decide)) (by omega) (by rfl)) (Ev.lit 1 rfl) (P2.nadd _ _)) (by rfl) (by omega) rfl) ?_ (fun _ => rfl))
  exact front_body K Fm N hk M (by intro e; rw [e] at hp1; simp at hp1; omega) hpm htm him (by omega) (by omega) (by omega) id id (List.range (text.length + 1)) σ5 (fun n hn => by have := List.mem_range.mp hn; omega) J
end
end Mine

namespace Mine

theorem filter_single (s : Nat) : ∀ l : List Nat, (l.map fun c => [c]).filter (fun t => t != [s]) = (l.filter fun o => o != s).map fun c => [c]
  | [] => rfl
  | a :: l => by
    rw [List.map_cons, List.filter_cons, List.filter_cons, filter_single s l]
    have : ([a] != [s]) = (a != s) := by
      rw [Bool.eq_iff_iff]; simp
    rw [this]
    split <;> simp
theorem strs_single (l : List Nat) : (l.map fun c => D.str [c]) = (l.map fun c => [c]).map .str := by simp
theorem code_le (k c : Nat) : (code k c).length ≤ 6 := spells_le (codes_le k) (by omega) c
theorem others_ne {sg : List Nat} {s : Nat} (hn : sg.Nodup) (h3 : sg.length = 3) : (sg.filter fun o => o != s) ≠ [] := by
  match sg, h3 with
  | [a, b, c], _ =>
    intro e
    have h1 : a ∉ [a, b, c].filter fun o => o != s := by rw [e]; simp
    have h2 : b ∉ [a, b, c].filter fun o => o != s := by rw [e]; simp
    simp at h1 h2 hn
    have e1 : a = s := h1
    have e2 : b = s := by simpa using h2
    exact hn.1.1 (e1.trans e2.symm)

section
variable {C : Cx} {gl : Str → Option Value} {r : Nat} {hG : Heap} {pr : Program} {σ : VEnv}

theorem pairs_loop (K : C.Ok gl r) (Fm : Frm C hG pr 0 "law" (fScope (stm 18))) (N : Fns gl hG pr r) {k : Nat} (hk : k < 5) {sg cs : List Nat} (M : Math1 k sg) {own : Bool} {s : Nat} (hs : s ∈ sg) :
    ∀ (l : List Nat) (apart : Bool) (σ : VEnv) (P : Out → Prop), InvE σ k sg cs own apart → σ.get "sign" = some (.fz (.str [s])) → (∀ o ∈ l, o ∈ sg ∧ o ≠ s) → (∀ σ', InvE σ' k sg cs own (apart && l.all fun o => !withinB k s o) → P (.next σ')) →
      ForL C (fForT (sub (fForBody (sub (fBody (stm 18)) 11)) 4)) (fun σ d => σ.set "other" (.fz d)) (fForBody (sub (fForBody (sub (fBody (stm 18)) 11)) 4)) (l.map fun c => .str [c]) σ P := by
  intro l
  induction l with
  | nil => intro apart σ P I _ _ hP; exact hP σ (by simpa using I)
  | cons o l ih =>
    intro apart σ P I g hl hP
    obtain ⟨ho1, ho2⟩ := hl o (by simp)
    refine ⟨As.name K (Fm.sto (by rfl)), ?_⟩
    have I1 := I.set (x := "other") (sl := .fz (.str [o])) (by decide)
    have e0 : (σ.set "other" (.fz (.str [o]))).get "other" = some (.fz (.str [o])) := VEnv.gse _ _ _
    have e1 := VEnv.gsn (x := "other") (sl := .fz (.str [o])) (by decide) g
    show Exs C (σ.set "other" (.fz (.str [o]))) _ _
    generalize σ.set "other" (.fz (.str [o])) = σ1 at I1 e0 e1 ⊢
    have hwo := wr_le k [o]
    have hws := wr_le k [s]
    simp at hwo hws
    refine Exs.cons (Ex.assign K (d := .bool (withinB k s o)) (Ev.m (Ev.and2 (Ev.cmp (Ev.item_d (Ev.name K _ I1.gspelled (by decide)) (Ev.name K _ e0 (by decide)) (fun _ _ => rfl) (dlook_sp k sg o ho1)) (Ev.name K _ e0 (by decide)) (P2.eq_str _ _) (by rfl)) fun _ => Ev.cmp (Ev.name K _ e0 (by decide)) (Ev.item_d (Ev.name K _ I1.gspelled (by decide)) (Ev.name K _ e1 (by decide)) (fun _ _ => rfl) (dlook_sp k sg s hs)) (P2.in_str _ _) (by rfl))) (Fm.sto (by rfl)) (by rfl) ?_)
    have I2 := I1.set (x := "within") (sl := .fz (.bool (withinB k s o))) (by decide)
    have f0 : (σ1.set "within" (.fz (.bool (withinB k s o)))).get "within" = some (.fz (.bool (withinB k s o))) := VEnv.gse _ _ _
    have f1 := VEnv.gsn (x := "within") (sl := .fz (.bool (withinB k s o))) (by decide) e0
    have f2 := VEnv.gsn (x := "within") (sl := .fz (.bool (withinB k s o))) (by decide) e1
    show Exs C (σ1.set "within" (.fz (.bool (withinB k s o)))) _ _
    generalize σ1.set "within" (.fz (.bool (withinB k s o))) = σ2 at I2 f0 f1 f2 ⊢
    have hd : ("..." : Str).cps.toList = dots := by rfl
    have hd3 : dots.length = 3 := rfl
    refine Exs.cons (Ex.ite_no (Tr.cmp (Ev.callD K (N.ell (dots ++ wr k [o] ++ dots) (wr k [s]) (by simp [hd3]; omega) (by omega) _ K Fm.pr Fm.hG) (by rw [Fm.kindOf]; rfl) (by decide) (EvL.two (Ev.binop (Ev.binop (Ev.cstr _ _ _) (Ev.callD K (N.write k [o] hk (by simp) _ K Fm.pr Fm.hG) (by rw [Fm.kindOf]; rfl) (by decide) (EvL.two (Ev.name K _ I2.gkind (by decide)) (Ev.name K _ f1 (by decide)) (by rfl) (by rfl))) (P2.add_str _ _ (by rw [hd, hd3]; omega))) (Ev.cstr _ _ _) (P2.add_str _ _ (by rw [hd, List.length_append, hd3]; omega))) (Ev.callD K (N.write k [s] hk (by simp) _ K Fm.pr Fm.hG) (by rw [Fm.kindOf]; rfl) (by decide) (EvL.two (Ev.name K _ I2.gkind (by decide)) (Ev.name K _ f2 (by decide)) (by rfl) (by rfl))) (by rfl) (by rfl))) (Ev.name K _ f0 (by decide)) (P2.isnot_bool _ _) (by rfl)) (by rw [M.within s hs o ho1 ho2]; simp) (Exs.nil ?_))
    refine Exs.cons (Ex.assign K (d := .bool (apart && !withinB k s o)) (Ev.m (Ev.and2 (Ev.name K _ I2.gapart (by decide)) fun _ => Ev.not (Ev.name K _ f0 (by decide)) rfl)) (Fm.sto (by rfl)) (by rfl) (Exs.nil ?_))
    have I3 : InvE (σ2.set "apart" (.fz (.bool (apart && !withinB k s o)))) k sg cs own (apart && !withinB k s o) := ⟨VEnv.gsn (by decide) I2.gkind, VEnv.gsn (by decide) I2.gcells, VEnv.gsn (by decide) I2.gsigns, VEnv.gsn (by decide) I2.gspelled, VEnv.gsn (by decide) I2.gown, VEnv.gse _ _ _⟩
    refine ih (apart && !withinB k s o) _ P I3 (VEnv.gsn (by decide) f2) (fun o' ho' => hl o' (List.mem_cons_of_mem _ ho')) fun σ' I' => hP σ' ?_
    rw [List.all_cons, ← Bool.and_assoc]; exact I'

theorem signs_loop (K : C.Ok gl r) (Fm : Frm C hG pr 0 "law" (fScope (stm 18))) (N : Fns gl hG pr r) {k : Nat} (hk : k < 5) {sg cs : List Nat} (M : Math1 k sg) (hn : sg.Nodup) (h3 : sg.length = 3) :
    ∀ (l : List Nat) (own apart : Bool) (σ : VEnv) (P : Out → Prop), InvE σ k sg cs own apart → (∀ s ∈ l, s ∈ sg) → (∀ σ', InvE σ' k sg cs (own && ownB k sg l) (apart && apartB k sg l) → P (.next σ')) →
      ForL C (fForT (sub (fBody (stm 18)) 11)) (fun σ d => σ.set "sign" (.fz d)) (fForBody (sub (fBody (stm 18)) 11)) (l.map fun c => .str [c]) σ P := by
  intro l
  induction l with
  | nil => intro own apart σ P I _ hP; exact hP σ (by simpa [ownB, apartB] using I)
  | cons s l ih =>
    intro own apart σ P I hl hP
    have hs := hl s (by simp)
    refine ⟨As.name K (Fm.stoC (by rfl)), ?_⟩
    have I1 := I.set (x := "sign") (sl := .fz (.str [s])) (by decide)
    have e0 : (σ.set "sign" (.fz (.str [s]))).get "sign" = some (.fz (.str [s])) := VEnv.gse _ _ _
    show Exs C (σ.set "sign" (.fz (.str [s]))) _ _
    generalize σ.set "sign" (.fz (.str [s])) = σ1 at I1 e0 ⊢
    have hfl : (sg.filter fun o => o != s).length ≤ 3 := by have := List.length_filter_le (fun o => o != s) sg; omega
    have hflat : ((sg.map fun c => [c]).map D.str).flatMap (emT (fun t => t != [s]) fun t => .str t) = ((sg.filter fun o => o != s).map fun c => [c]).map .str := by
      rw [flat_emT, filter_single]
    -- others
    refine Exs.cons (Ex.assign_compF K (σc := env0 ["sign"] [.str [s]]) (ds := (sg.map fun c => [c]).map .str) (em := emT (fun t => t != [s]) fun t => .str t) ⟨EvIter.list K (Ev.name K _ I1.gsigns (by decide)), fun _ => rfl, Fm.cap rfl (by decide) (by decide) ⟨e0, trivial⟩, by decide, rfl, by decide, by rw [hflat]; simp; omega, fun h Ca K2 hkp d hdm => ?_⟩ (by obtain ⟨a, cd, e⟩ := Fm.env; rw [e]; rfl) (Fm.sto (by rfl)) ?_)
    · obtain ⟨t, _, rfl⟩ := List.mem_map.mp hdm
      refine ⟨_, As.name K2 (comp_sto (by rfl)), Sub.set (by rfl), _, Tr.cmp (Ev.name K2 _ (by rfl) (by decide)) (Ev.name K2 _ (by rfl) (by decide)) (P2.ne_str _ _) (by rfl), ?_⟩
      cases hc : (t != [s]) with
      | false => left; exact ⟨rfl, if_neg (ne_true_of_eq_false hc)⟩
      | true => right; exact ⟨rfl, _, Ev.name K2 _ (by rfl) (by decide), if_pos hc⟩
    rw [hflat]
    have f2 : (σ1.set "others" (.ol (((sg.filter fun o => o != s).map fun c => [c]).map .str))).get "others" = some (.ol (((sg.filter fun o => o != s).map fun c => [c]).map .str)) := VEnv.gse _ _ _
    refine Exs.freeze f2 ?_
    have I2 := (I1.set (x := "others") (sl := .ol (((sg.filter fun o => o != s).map fun c => [c]).map .str)) (by decide)).set (x := "others") (sl := .fz (.list (((sg.filter fun o => o != s).map fun c => [c]).map .str))) (by decide)
    have g0 := VEnv.gsn (x := "others") (sl := .fz (.list (((sg.filter fun o => o != s).map fun c => [c]).map .str))) (by decide) (VEnv.gsn (x := "others") (sl := .ol (((sg.filter fun o => o != s).map fun c => [c]).map .str)) (by decide) e0)
    have g1 : ((σ1.set "others" (.ol (((sg.filter fun o => o != s).map fun c => [c]).map .str))).set "others" (.fz (.list (((sg.filter fun o => o != s).map fun c => [c]).map .str)))).get "others" = some (.fz (.list (((sg.filter fun o => o != s).map fun c => [c]).map .str))) := VEnv.gse _ _ _
    generalize (σ1.set "others" (.ol (((sg.filter fun o => o != s).map fun c => [c]).map .str))).set "others" (.fz (.list (((sg.filter fun o => o != s).map fun c => [c]).map .str))) = σ2 at I2 g0 g1 ⊢
    have hoth : ∀ o ∈ (sg.filter fun o => o != s), o ∈ sg ∧ o ≠ s := fun o ho => by simpa using List.mem_filter.mp ho
    have hone := others_ne (s := s) hn h3
    -- fewest
    refine Exs.cons (Ex.assign K (d := optN (fewS k sg s)) (Ev.m (Ev.callD K (N.fewest (code k s) (rowsOf k sg s) (by have := code_le k s; omega) (by unfold rowsOf; simpa using hone) (by unfold rowsOf; simp; omega) _ K Fm.pr Fm.hG) (by rw [Fm.kindOf]; rfl) (by decide) (EvL.two (Ev.item_d (Ev.name K _ I2.gspelled (by decide)) (Ev.name K _ g0 (by decide)) (fun _ _ => rfl) (dlook_sp k sg s hs))
      (spelled_comp K Fm I2.gspelled (by rw [strs_single]; exact EvIter.list K (Ev.name K _ g1 (by decide))) (fun o ho => (hoth o ho).1) (by omega) rfl (fun _ => rfl) (by rfl) (by decide) (by decide) (by decide) (by rfl) (by decide) (by decide) rfl (by decide) (fun _ _ => rfl)) (by rfl) (by rfl)))) (Fm.sto (by rfl)) (by rfl) ?_)
    have I3 := I2.set (x := "fewest") (sl := .fz (optN (fewS k sg s))) (by decide)
    have h0 : (σ2.set "fewest" (.fz (optN (fewS k sg s)))).get "fewest" = some (.fz (optN (fewS k sg s))) := VEnv.gse _ _ _
    have h1 := VEnv.gsn (x := "fewest") (sl := .fz (optN (fewS k sg s))) (by decide) g0
    have h2 := VEnv.gsn (x := "fewest") (sl := .fz (optN (fewS k sg s))) (by decide) g1
    show Exs C (σ2.set "fewest" (.fz (optN (fewS k sg s)))) _ _
    generalize σ2.set "fewest" (.fz (optN (fewS k sg s))) = σ3 at I3 h0 h1 h2 ⊢
    -- tried
    refine Exs.cons (Ex.ite_no (Tr.cmp (Ev.callD K (N.tried k [s] ((sg.filter fun o => o != s).map fun c => [c]) hk (by simp) (by simp; omega) (fun o ho => by obtain ⟨c, _, rfl⟩ := List.mem_map.mp ho; simp) _ K Fm.pr Fm.hG) (by rw [Fm.kindOf]; rfl) (by decide) (EvL.three (Ev.name K _ I3.gkind (by decide)) (Ev.name K _ h1 (by decide)) (Ev.name K _ h2 (by decide)) (by rfl) (by rfl) (by rfl))) (Ev.name K _ h0 (by decide)) (P2.ne_opt _ _) (by rfl)) (by rw [M.tried s hs]; simp) (Exs.nil ?_))
    -- own
    refine Exs.cons (Ex.assign K (d := .bool (own && (fewS k sg s).isNone)) (Ev.m (Ev.of (Ev.and2 (Ev.name K _ I3.gown (by decide)) fun _ => Ev.cmp (Ev.name K _ h0 (by decide)) (Ev.cnone _ _) (P2.is_none_opt _) (by rfl)) (by rw [Option.isNone_map]))) (Fm.sto (by rfl)) (by rfl) ?_)
    have I4 : InvE (σ3.set "own" (.fz (.bool (own && (fewS k sg s).isNone)))) k sg cs (own && (fewS k sg s).isNone) apart := ⟨VEnv.gsn (by decide) I3.gkind, VEnv.gsn (by decide) I3.gcells, VEnv.gsn (by decide) I3.gsigns, VEnv.gsn (by decide) I3.gspelled, VEnv.gse _ _ _, VEnv.gsn (by decide) I3.gapart⟩
    have k1 := VEnv.gsn (x := "own") (sl := .fz (.bool (own && (fewS k sg s).isNone))) (by decide) h1
    have k2 := VEnv.gsn (x := "own") (sl := .fz (.bool (own && (fewS k sg s).isNone))) (by decide) h2
    show Exs C (σ3.set "own" (.fz (.bool (own && (fewS k sg s).isNone)))) _ _
    generalize σ3.set "own" (.fz (.bool (own && (fewS k sg s).isNone))) = σ4 at I4 k1 k2 ⊢
    refine Exs.cons (Ex.for_ K (tg := fun σ d => σ.set "other" (.fz d)) (ds := (sg.filter fun o => o != s).map fun c => .str [c]) (by rw [strs_single]; exact EvIter.list K (Ev.name K _ k2 (by decide))) ?_ (fun _ => rfl))
    refine pairs_loop K Fm N hk M hs (sg.filter fun o => o != s) apart σ4 _ I4 k1 hoth fun σ' I' => Exs.nil ?_
    refine ih _ _ σ' P I' (fun s' hs' => hl s' (List.mem_cons_of_mem _ hs')) fun σ'' I'' => hP σ'' ?_
    have e1 : (own && ownB k sg (s :: l)) = (own && (fewS k sg s).isNone && ownB k sg l) := by unfold ownB; rw [List.all_cons, Bool.and_assoc]
    have e2 : (apart && apartB k sg (s :: l)) = ((apart && (sg.filter fun o => o != s).all fun o => !withinB k s o) && apartB k sg l) := by unfold apartB; rw [List.all_cons, Bool.and_assoc]
    rw [e1, e2]; exact I''

theorem law_D (K : C.Ok gl r) (Fm : Frm C hG pr 0 "law" (fScope (stm 18))) (N : Fns gl hG pr r) {k : Nat} (hk : k < 5) {sg cs : List Nat} (h3 : sg.length = 3) (hn : sg.Nodup) (h4 : cs.length = 4) (M : Math1 k sg) (σ : VEnv)
    (g1 : σ.get "kind" = some (.fz (.int k))) (g2 : σ.get "cells" = some (.fz (cellsD cs))) (g3 : σ.get "signs" = some (.fz (sgD sg))) (g4 : σ.get "spelled" = some (.fz (.dict (spD k sg)))) :
    Exs C σ ((fBody (stm 18)).drop 9) (RetIs (.bool true)) := by
  refine Exs.cons (Ex.assign K (Ev.m (Ev.cbool _ _ _)) (Fm.sto (by rfl)) (by rfl) ?_)
  refine Exs.cons (Ex.assign K (Ev.m (Ev.cbool _ _ _)) (Fm.sto (by rfl)) (by rfl) ?_)
  have I : InvE ((σ.set "own" (.fz (.bool true))).set "apart" (.fz (.bool true))) k sg cs true true := ⟨VEnv.gsn (by decide) (VEnv.gsn (by decide) g1), VEnv.gsn (by decide) (VEnv.gsn (by decide) g2), VEnv.gsn (by decide) (VEnv.gsn (by decide) g3), VEnv.gsn (by decide) (VEnv.gsn (by decide) g4), VEnv.gsn (by decide) (VEnv.gse _ _ _), VEnv.gse _ _ _⟩
  show Exs C ((σ.set "own" (.fz (.bool true))).set "apart" (.fz (.bool true))) _ _
  generalize (σ.set "own" (.fz (.bool true))).set "apart" (.fz (.bool true)) = σ1 at I ⊢
  refine Exs.cons (Ex.for_ K (tg := fun σ d => σ.set "sign" (.fz d)) (ds := sg.map fun c => .str [c]) (by rw [strs_single]; exact EvIter.list K (Ev.name K _ I.gsigns (by decide))) ?_ (fun _ => rfl))
  refine signs_loop K Fm N hk M hn h3 sg true true σ1 _ I (fun s hs => hs) fun σ' I' => ?_
  exact law_E K Fm N hk h3 h4 M σ' (by simpa using I')
end
end Mine

namespace Mine

theorem names_look (k : Nat) (hk : k < 5) (c : Nat) : dlook (namesOf k) [c] = (codesOf k).lookup c := by
  have key : ∀ (l : List (Nat × T)) (c : Nat), dlook (l.map fun p => ([p.1], p.2)) [c] = l.lookup c := by
    intro l c
    induction l with
    | nil => rfl
    | cons p l ih =>
      obtain ⟨a, b⟩ := p
      rw [List.map_cons, dlook, List.lookup_cons, ih]
      by_cases h : a = c
      · subst h; simp
      · have h1 : ¬ [a] = [c] := by simpa using h
        have h2 : (c == a) = false := by rw [beq_eq_false_iff_ne]; exact Ne.symm h
        rw [if_neg h1, h2]
  match k, hk with
  | 0, _ => exact key codes0 c
  | 1, _ => exact key codes1 c
  | 2, _ => exact key codes2 c
  | 3, _ => exact key codes3 c
  | 4, _ =>
    have h1 := key [(38, [38, 97, 109, 112, 59]), (60, [38, 108, 116, 59]), (34, [38, 113, 117, 111, 116, 59]), (13, [38, 35, 120, 68, 59]), (10, [38, 35, 120, 65, 59]), (9, [38, 35, 120, 57, 59])] c
    refine Eq.trans h1 ?_
    show _ = codes4.lookup c
    unfold codes4
    simp only [List.lookup_cons, List.lookup_nil]
    by_cases h9 : c = 9
    · subst h9; rfl
    by_cases h10 : c = 10
    · subst h10; rfl
    by_cases h13 : c = 13
    · subst h13; rfl
    have e9 : (c == 9) = false := by rw [beq_eq_false_iff_ne]; exact h9
    have e10 : (c == 10) = false := by rw [beq_eq_false_iff_ne]; exact h10
    have e13 : (c == 13) = false := by rw [beq_eq_false_iff_ne]; exact h13
    rw [e9, e10, e13]

def pool0 : List Nat := [38, 60, 62, 34, 13, 10, 9, 108, 103, 48, 49, 57, 59, 98]
def str1 (c : Nat) : D := .str [c]
theorem spD_put (k : Nat) (done : List Nat) (s : Nat) (h : s ∉ done) : dput (spD k done) [s] (code k s) = spD k (done ++ [s]) := by
  unfold dput spD
  rw [if_neg, List.map_append]; rfl
  intro e
  rw [List.any_map, List.any_eq_true] at e
  obtain ⟨x, hx, hxs⟩ := e
  simp at hxs
  exact h (hxs ▸ hx)
theorem erase_map {α β : Type} (f : α → β) : ∀ (l : List α) (i : Nat), (l.map f).eraseIdx i = (l.eraseIdx i).map f
  | [], i => by simp
  | a :: l, 0 => rfl
  | a :: l, i + 1 => by simp only [List.map_cons, List.eraseIdx_cons_succ, erase_map f l i]
theorem erase_perm {α : Type} : ∀ (l : List α) (i : Nat) (h : i < l.length), (l[i] :: l.eraseIdx i).Perm l
  | a :: l, 0, h => List.Perm.refl _
  | a :: l, i + 1, h => by
    have ih := erase_perm l i (by simpa using h)
    simp only [List.getElem_cons_succ, List.eraseIdx_cons_succ]
    exact (List.Perm.swap _ _ _).trans (List.Perm.cons a ih)

section
variable {C : Cx} {gl : Str → Option Value} {r : Nat} {hG : Heap} {pr : Program} {σ : VEnv}

theorem spell_loop (K : C.Ok gl r) (Fm : Frm C hG pr 0 "law" (fScope (stm 18))) {k : Nat} (hk : k < 5) {sg cs : List Nat} (hn : sg.Nodup) (hsl : sg.length ≤ 10) :
    ∀ (l done : List Nat) (σ : VEnv) (P : Out → Prop), done ++ l = sg → σ.get "kind" = some (.fz (.int k)) → σ.get "cells" = some (.fz (cellsD cs)) → σ.get "signs" = some (.fz (sgD sg)) → σ.get "names" = some (.fz (.dict (namesOf k))) → σ.get "spelled" = some (.od (spD k done)) →
      (∀ σ', σ'.get "kind" = some (.fz (.int k)) → σ'.get "cells" = some (.fz (cellsD cs)) → σ'.get "signs" = some (.fz (sgD sg)) → σ'.get "spelled" = some (.od (spD k sg)) → P (.next σ')) →
      ForL C (fForT (sub (fBody (stm 18)) 8)) (fun σ d => σ.set "sign" (.fz d)) (fForBody (sub (fBody (stm 18)) 8)) (l.map fun c => .str [c]) σ P := by
  intro l
  induction l with
  | nil =>
    intro done σ P hd g1 g2 g3 g4 g5 hP
    rw [List.append_nil] at hd; subst hd
    exact hP σ g1 g2 g3 g5
  | cons s l ih =>
    intro done σ P hd g1 g2 g3 g4 g5 hP
    refine ⟨As.name K (Fm.stoC (by rfl)), ?_⟩
    have e0 : (σ.set "sign" (.fz (.str [s]))).get "sign" = some (.fz (.str [s])) := VEnv.gse _ _ _
    have e1 := VEnv.gsn (x := "sign") (sl := .fz (.str [s])) (by decide) g1
    have e2 := VEnv.gsn (x := "sign") (sl := .fz (.str [s])) (by decide) g2
    have e3 := VEnv.gsn (x := "sign") (sl := .fz (.str [s])) (by decide) g3
    have e4 := VEnv.gsn (x := "sign") (sl := .fz (.str [s])) (by decide) g4
    have e5 := VEnv.gsn (x := "sign") (sl := .fz (.str [s])) (by decide) g5
    show Exs C (σ.set "sign" (.fz (.str [s]))) _ _
    generalize σ.set "sign" (.fz (.str [s])) = σ1 at e0 e1 e2 e3 e4 e5 ⊢
    have hs : s ∉ done := by
      rw [← hd, List.nodup_append] at hn
      exact fun h => hn.2.2 s h s (by simp) rfl
    have hlk := names_look k hk s
    have hput := spD_put k done s hs
    refine Exs.cons (Ex.dstore K (k := [s]) (v := code k s) e5 (by decide) (Ev.ifexp (Tr.cmp (Ev.name K _ e0 (by decide)) (Ev.name K _ e4 (by decide)) (P2.in_dict _ _) (by rfl)) (fun h => ?_) fun h => ?_) (Ev.name K _ e0 (by decide)) (by unfold spD; rw [List.length_map]; have := congrArg List.length hd; simp at this; omega) (by rfl) (Exs.nil ?_))
    · obtain ⟨v, hv⟩ := Option.isSome_iff_exists.mp h
      have : code k s = v := by unfold code spells; rw [← hlk, hv]
      rw [this]
      exact Ev.item_d (Ev.name K _ e4 (by decide)) (Ev.name K _ e0 (by decide)) (fun _ _ => rfl) hv
    · have hv : dlook (namesOf k) [s] = none := by simpa using h
      have : code k s = [s] := by unfold code spells; rw [← hlk, hv]
      rw [this]
      exact Ev.name K _ e0 (by decide)
    · rw [hput]
      refine ih (done ++ [s]) _ P (by rw [← hd]; simp) (VEnv.gsn (by decide) e1) (VEnv.gsn (by decide) e2) (VEnv.gsn (by decide) e3) (VEnv.gsn (by decide) e4) (VEnv.gse _ _ _) hP

theorem law_C (K : C.Ok gl r) (Fm : Frm C hG pr 0 "law" (fScope (stm 18))) (N : Fns gl hG pr r) {k : Nat} (hk : k < 5) {sg cs : List Nat} (h3 : sg.length = 3) (hn : sg.Nodup) (h4 : cs.length = 4) (M : Math1 k sg) (σ : VEnv)
    (g1 : σ.get "kind" = some (.fz (.int k))) (g2 : σ.get "cells" = some (.fz (cellsD cs))) (g3 : σ.get "signs" = some (.fz (sgD sg))) :
    Exs C σ ((fBody (stm 18)).drop 6) (RetIs (.bool true)) := by
  refine Exs.cons (Ex.assign K (Ev.m (Ev.callD K (N.names k hk _ K Fm.pr Fm.hG) (by rw [Fm.kindOf]; rfl) (by decide) (EvL.one (Ev.name K _ g1 (by decide)) (by rfl)))) (Fm.sto (by rfl)) (by rfl) ?_)
  refine Exs.cons (Ex.assign_own K (EvF.dict0 K) (Fm.stoC (by rfl)) (by rfl) ?_ (by simp))
  have e1 : ((σ.set "names" (.fz (.dict (namesOf k)))).set "spelled" (.od [])).get "kind" = some (.fz (.int k)) := VEnv.gsn (by decide) (VEnv.gsn (by decide) g1)
  have e2 : ((σ.set "names" (.fz (.dict (namesOf k)))).set "spelled" (.od [])).get "cells" = some (.fz (cellsD cs)) := VEnv.gsn (by decide) (VEnv.gsn (by decide) g2)
  have e3 : ((σ.set "names" (.fz (.dict (namesOf k)))).set "spelled" (.od [])).get "signs" = some (.fz (sgD sg)) := VEnv.gsn (by decide) (VEnv.gsn (by decide) g3)
  have e4 : ((σ.set "names" (.fz (.dict (namesOf k)))).set "spelled" (.od [])).get "names" = some (.fz (.dict (namesOf k))) := VEnv.gsn (by decide) (VEnv.gse _ _ _)
  have e5 : ((σ.set "names" (.fz (.dict (namesOf k)))).set "spelled" (.od [])).get "spelled" = some (.od (spD k [])) := VEnv.gse _ _ _
  show Exs C ((σ.set "names" (.fz (.dict (namesOf k)))).set "spelled" (.od [])) _ _
  generalize (σ.set "names" (.fz (.dict (namesOf k)))).set "spelled" (.od []) = σ1 at e1 e2 e3 e4 e5 ⊢
  refine Exs.cons (Ex.for_ K (tg := fun σ d => σ.set "sign" (.fz d)) (ds := sg.map fun c => .str [c]) (by rw [strs_single]; exact EvIter.list K (Ev.name K _ e3 (by decide))) ?_ (fun _ => rfl))
  refine spell_loop K Fm hk hn (by omega) sg [] σ1 _ rfl e1 e2 e3 e4 e5 fun σ' i1 i2 i3 i5 => ?_
  refine Exs.freezeD i5 ?_
  exact law_D K Fm N hk h3 hn h4 M _ (VEnv.gsn (by decide) i1) (VEnv.gsn (by decide) i2) (VEnv.gsn (by decide) i3) (VEnv.gse _ _ _)

theorem pool_loop (K : C.Ok gl r) (Fm : Frm C hG pr 0 "law" (fScope (stm 18))) (N : Fns gl hG pr r) {k : Nat} {cs : List Nat} :
    ∀ (l : List D) (pl sg : List Nat) (rest : Nat) (σ : VEnv) (P : Out → Prop), l.length < pl.length → pl.length ≤ 20 → sg.length + l.length ≤ 20 → (sg ++ pl).Nodup → (∀ x ∈ sg ++ pl, x ∈ pool0) → σ.get "kind" = some (.fz (.int k)) → σ.get "cells" = some (.fz (cellsD cs)) → σ.get "rest" = some (.fz (.int rest)) → σ.get "pool" = some (.ol (pl.map str1)) → σ.get "signs" = some (.ol (sg.map str1)) →
      (∀ (σ' : VEnv) (sg' : List Nat), sg'.length = sg.length + l.length → sg'.Nodup → (∀ x ∈ sg', x ∈ pool0) → σ'.get "kind" = some (.fz (.int k)) → σ'.get "cells" = some (.fz (cellsD cs)) → σ'.get "signs" = some (.ol (sg'.map str1)) → P (.next σ')) →
      ForL C (fForT (sub (fBody (stm 18)) 5)) (fun σ d => σ.set "k" (.fz d)) (fForBody (sub (fBody (stm 18)) 5)) l σ P := by
  have hkl : C.env.kindOf "len" = some .globalImplicit := by rw [Fm.kindOf]; rfl
  intro l
  induction l with
  | nil =>
    intro pl sg rest σ P _ _ _ hn hp g1 g2 g3 g4 g5 hP
    exact hP σ sg rfl (List.nodup_append.mp hn).1 (fun x hx => hp x (List.mem_append_left _ hx)) g1 g2 g5
  | cons d l ih =>
    intro pl sg rest σ P hl hpl hsl hn hp g1 g2 g3 g4 g5 hP
    simp only [List.length_cons] at hl hsl
    refine ⟨As.name K (Fm.sto (by rfl)), ?_⟩
    have e1 := VEnv.gsn (x := "k") (sl := .fz d) (by decide) g1
    have e2 := VEnv.gsn (x := "k") (sl := .fz d) (by decide) g2
    have e3 := VEnv.gsn (x := "k") (sl := .fz d) (by decide) g3
    have e4 := VEnv.gsn (x := "k") (sl := .fz d) (by decide) g4
    have e5 := VEnv.gsn (x := "k") (sl := .fz d) (by decide) g5
    show Exs C (σ.set "k" (.fz d)) _ _
    generalize σ.set "k" (.fz d) = σ1 at e1 e2 e3 e4 e5 ⊢
    have hi : rest % pl.length < pl.length := Nat.mod_lt _ (by omega)
    generalize hix : rest % pl.length = i at hi
    have hperm := erase_perm pl i hi
    have hpm2 : (sg ++ [pl[i]] ++ pl.eraseIdx i).Perm (sg ++ pl) := by
      rw [List.append_assoc]
      exact List.Perm.append_left sg hperm
    have hel : (pl.eraseIdx i).length = pl.length - 1 := by rw [List.length_eraseIdx, if_pos hi]
    have hmod : Ev C σ1 (match sub (fForBody (sub (fBody (stm 18)) 5)) 0 with | .Expr (.Call _ [.Call _ [e] _ _] _ _) _ => e | _ => default) (.int (i : Nat)) := by
      have := Ev.binop (p := ⟨144, 30, 144, 46⟩) (Ev.name K ⟨144, 30, 144, 34⟩ e3 (by decide)) (Ev.len_own (p := ⟨144, 37, 144, 46⟩) (px := ⟨144, 41, 144, 45⟩) (pl := ⟨144, 37, 144, 40⟩) K N.len hkl e4 (by decide) (by simp; omega)) (by rw [List.length_map]; exact P2.nmod _ _ (by omega))
      rw [hix] at this
      exact Ev.of (Ev.binop (Ev.name K _ e3 (by decide)) (Ev.len_own K N.len hkl e4 (by decide) (by simp; omega)) (by rw [List.length_map]; exact P2.nmod _ _ (by omega))) (by rw [hix])
    refine Exs.cons (Ex.append K (d := str1 pl[i]) (xs' := sg.map str1) e5 (by decide) (fun _ => rfl) (by rfl) (EvM.pop_at K e4 (by decide) (fun _ => rfl) (by rfl) hmod (by rfl) (by omega) (by simp [List.getElem?_eq_getElem hi]) (by simp; omega)) (by rfl) (VEnv.gsn (by decide) e5) (by simp; omega) (by obtain ⟨a, cd, e⟩ := Fm.env; rw [e]; rfl) ?_)
    have herase : (pl.map str1).eraseIdx ((i : Int)).toNat = (pl.eraseIdx i).map str1 := by rw [Int.toNat_natCast]; exact erase_map str1 pl i
    have happ : sg.map str1 ++ [str1 pl[i]] = (sg ++ [pl[i]]).map str1 := by simp
    rw [herase, happ]
    have f1 := VEnv.gsn (x := "signs") (sl := .ol ((sg ++ [pl[i]]).map str1)) (by decide) (VEnv.gsn (x := "pool") (sl := .ol ((pl.eraseIdx i).map str1)) (by decide) e1)
    have f2 := VEnv.gsn (x := "signs") (sl := .ol ((sg ++ [pl[i]]).map str1)) (by decide) (VEnv.gsn (x := "pool") (sl := .ol ((pl.eraseIdx i).map str1)) (by decide) e2)
    have f3 := VEnv.gsn (x := "signs") (sl := .ol ((sg ++ [pl[i]]).map str1)) (by decide) (VEnv.gsn (x := "pool") (sl := .ol ((pl.eraseIdx i).map str1)) (by decide) e3)
    have f4 : ((σ1.set "pool" (.ol ((pl.eraseIdx i).map str1))).set "signs" (.ol ((sg ++ [pl[i]]).map str1))).get "pool" = some (.ol ((pl.eraseIdx i).map str1)) := VEnv.gsn (by decide) (VEnv.gse _ _ _)
    have f5 : ((σ1.set "pool" (.ol ((pl.eraseIdx i).map str1))).set "signs" (.ol ((sg ++ [pl[i]]).map str1))).get "signs" = some (.ol ((sg ++ [pl[i]]).map str1)) := VEnv.gse _ _ _
    show Exs C ((σ1.set "pool" (.ol ((pl.eraseIdx i).map str1))).set "signs" (.ol ((sg ++ [pl[i]]).map str1))) _ _
    generalize (σ1.set "pool" (.ol ((pl.eraseIdx i).map str1))).set "signs" (.ol ((sg ++ [pl[i]]).map str1)) = σ2 at f1 f2 f3 f4 f5 ⊢
    have hln : ((pl.eraseIdx i).map str1).length = pl.length - 1 := by rw [List.length_map, hel]
    refine Exs.cons (Ex.assign K (Ev.m (Ev.binop (Ev.name K _ f3 (by decide)) (Ev.binop (Ev.len_own K N.len hkl f4 (by decide) (by omega)) (Ev.lit 1 rfl) (by rw [hln]; exact P2.nadd _ _)) (P2.ndiv _ _ (by omega) (by omega)))) (Fm.sto (by rfl)) (by rfl) (Exs.nil ?_))
    refine ih (pl.eraseIdx i) (sg ++ [pl[i]]) _ _ P (by omega) (by omega) (by simp; omega) (hpm2.nodup_iff.mpr hn) (fun x hx => hp x (hpm2.mem_iff.mp hx)) (VEnv.gsn (by decide) f1) (VEnv.gsn (by decide) f2) (VEnv.gse _ _ _) (VEnv.gsn (by decide) f4) (VEnv.gsn (by decide) f5) fun σ' sg' h1 h2 h3 => hP σ' sg' (by rw [h1]; simp; omega) h2 h3
end
end Mine

namespace Mine

def cellV (ns : List Int) (k : Nat) : Nat := ((([3941, 209, 13, 236] : List Int).getD k 0 + (stepPick ns k 4).sum).fmod 1000000).toNat
theorem cellV_eq (ns : List Int) (k : Nat) : ((cellV ns k : Nat) : Int) = (([3941, 209, 13, 236] : List Int).getD k 0 + (stepPick ns k 4).sum).fmod 1000000 := by
  unfold cellV
  exact Int.toNat_of_nonneg (Int.fmod_nonneg_of_pos _ (by decide))
theorem ints_map (ns : List Int) (k : Int) : stepPick (ns.map D.int) k 4 = (stepPick ns k 4).map .int := stepPick_map _ _ _ _

section
variable {C : Cx} {gl : Str → Option Value} {r : Nat} {hG : Heap} {pr : Program} {σ : VEnv}

theorem law_A (K : C.Ok gl r) (Fm : Frm C hG pr 0 "law" (fScope (stm 18))) (N : Fns gl hG pr r) (M : ∀ k sg, k < 5 → sg.length = 3 → sg.Nodup → (∀ x ∈ sg, x ∈ pool0) → Math1 k sg) (ns : List Int) (hns : ns.length ≤ 1000) (σ : VEnv) (g0 : σ.get "script" = some (.fz (.list (ns.map .int)))) :
    Exs C σ (fBody (stm 18)) (RetIs (.bool true)) := by
  have hkl : C.env.kindOf "len" = some .globalImplicit := by rw [Fm.kindOf]; rfl
  have hkr : C.env.kindOf "range" = some .globalImplicit := by rw [Fm.kindOf]; rfl
  refine Exs.cons (Ex.assign K (d := cellsD ((List.range 4).map (cellV ns))) (Ev.m (EvF.ev (EvF.compF (em := emNN fun k => .int (cellV ns k : Nat)) (ds := (List.range 4).map fun (k : Nat) => .int k) (σc := env0 ["script"] [.list (ns.map .int)]) K
      ⟨EvIter.range1 K N.range hkr (Ev.lit 4 rfl) (by rfl) (by omega) rfl, fun _ => rfl, Fm.cap rfl (by decide) (by decide) ⟨g0, trivial⟩, by decide, rfl, by decide, by rw [flat_emNN]; simp, fun h Ca K2 hkp d hdm => ?_⟩ (by rw [flat_emNN]; simp [Function.comp_def])))) (Fm.stoC (by rfl)) (by obtain ⟨a, cd, e⟩ := Fm.env; rw [e]; rfl) ?_)
  · obtain ⟨j, hjm, rfl⟩ := List.mem_map.mp hdm
    have hj := List.mem_range.mp hjm
    have hbase : ([.int 3941, .int 209, .int 13, .int 236] : List D)[pyIdx 4 (j : Int)]? = some (.int (([3941, 209, 13, 236] : List Int).getD j 0)) := by
      unfold pyIdx
      rw [if_pos (by omega), Int.toNat_natCast]
      match j, hj with
      | 0, _ => rfl
      | 1, _ => rfl
      | 2, _ => rfl
      | 3, _ => rfl
    refine ⟨_, As.name K2 (comp_sto (by rfl)), Sub.set (by rfl), _, Ev.binop (Ev.binop (Ev.item (n := (j : Int)) (Ev.list (.cons (Ev.cint _ _ _) (.cons (Ev.cint _ _ _) (.cons (Ev.cint _ _ _) (.cons (Ev.cint _ _ _) .nil (by rfl)) (by rfl)) (by rfl)) (by rfl)) (by simp)) (Ev.name K2 _ (by rfl) (by decide)) (fun _ _ => rfl) (by omega) (by omega) hbase (by simp)) (Ev.call_builtin K2 N.sum (comp_kind (by rfl) (by decide)) (by decide) (EvL.one (Ev.of (Ev.slice_step (a := (j : Int)) (b := 4) (Ev.name K2 _ (by rfl) (by decide)) (Ev.name K2 _ (by rfl) (by decide)) (Ev.cint _ _ _) (by decide) (by rw [List.length_map]; omega) (fun _ _ => rfl)) (by rw [ints_map])) (by rfl)) (PN.sum K2.hand (stepPick ns j 4))) (P2.add_int _ _)) (Ev.binop (Ev.cint _ _ _) (Ev.cint _ _ _) (P2.pow_int _ _ (by decide) (by decide))) (P2.mod_int _ _ (by decide)), ?_⟩
    show [D.int _] = [D.int _]
    rw [show (((j : Int).toNat : Nat)) = j from rfl, cellV_eq]
    rfl
  have hc4 : ((List.range 4).map (cellV ns)).length = 4 := by simp
  generalize (List.range 4).map (cellV ns) = cs at hc4 ⊢
  have e1 : (σ.set "cells" (.fz (cellsD cs))).get "cells" = some (.fz (cellsD cs)) := VEnv.gse _ _ _
  show Exs C (σ.set "cells" (.fz (cellsD cs))) _ _
  generalize σ.set "cells" (.fz (cellsD cs)) = σ1 at e1 ⊢
  -- kind, rest
  refine Exs.cons (Ex.assign K (Ev.m (Ev.binop (Ev.cellAt K e1 (by decide) (Ev.lit 0 rfl) (by omega) (by omega) (fun _ _ => rfl)) (Ev.lit 5 rfl) (P2.nmod _ _ (by omega)))) (Fm.sto (by rfl)) (by rfl) ?_)
  have hk : cs.getD 0 0 % 5 < 5 := Nat.mod_lt _ (by omega)
  generalize cs.getD 0 0 % 5 = k at hk ⊢
  have f1 := VEnv.gsn (x := "kind") (sl := .fz (.int k)) (by decide) e1
  have f2 : (σ1.set "kind" (.fz (.int k))).get "kind" = some (.fz (.int k)) := VEnv.gse _ _ _
  show Exs C (σ1.set "kind" (.fz (.int k))) _ _
  generalize σ1.set "kind" (.fz (.int k)) = σ2 at f1 f2 ⊢
  refine Exs.cons (Ex.assign K (Ev.m (Ev.binop (Ev.cellAt K f1 (by decide) (Ev.lit 0 rfl) (by omega) (by omega) (fun _ _ => rfl)) (Ev.lit 5 rfl) (P2.ndiv _ _ (by omega) (by decide)))) (Fm.sto (by rfl)) (by rfl) ?_)
  generalize cs.getD 0 0 / 5 = rest
  have g1 := VEnv.gsn (x := "rest") (sl := .fz (.int rest)) (by decide) f1
  have g2 := VEnv.gsn (x := "rest") (sl := .fz (.int rest)) (by decide) f2
  have g3 : (σ2.set "rest" (.fz (.int rest))).get "rest" = some (.fz (.int rest)) := VEnv.gse _ _ _
  show Exs C (σ2.set "rest" (.fz (.int rest))) _ _
  generalize σ2.set "rest" (.fz (.int rest)) = σ3 at g1 g2 g3 ⊢
  -- pool, signs
  refine Exs.cons (Ex.assign_own K (sl := .ol (pool0.map str1)) (EvF.call_type K N.list (by rw [Fm.kindOf]; rfl) (by decide) (EvL.one (Ev.cstr _ _ _) (by rfl)) (PNF.list_str K.hand pool0 (by decide))) (Fm.sto (by rfl)) (by rfl) ?_ (by simp))
  refine Exs.cons (Ex.assign_own K (EvF.list .nil (by simp)) (Fm.stoC (by rfl)) (by rfl) ?_ (by simp))
  have h1 := VEnv.gsn (x := "signs") (sl := .ol []) (by decide) (VEnv.gsn (x := "pool") (sl := .ol (pool0.map str1)) (by decide) g1)
  have h2 := VEnv.gsn (x := "signs") (sl := .ol []) (by decide) (VEnv.gsn (x := "pool") (sl := .ol (pool0.map str1)) (by decide) g2)
  have h3 := VEnv.gsn (x := "signs") (sl := .ol []) (by decide) (VEnv.gsn (x := "pool") (sl := .ol (pool0.map str1)) (by decide) g3)
  have h4 : ((σ3.set "pool" (.ol (pool0.map str1))).set "signs" (.ol [])).get "pool" = some (.ol (pool0.map str1)) := VEnv.gsn (by decide) (VEnv.gse _ _ _)
  have h5 : ((σ3.set "pool" (.ol (pool0.map str1))).set "signs" (.ol [])).get "signs" = some (.ol (([] : List Nat).map str1)) := VEnv.gse _ _ _
  show Exs C ((σ3.set "pool" (.ol (pool0.map str1))).set "signs" (.ol [])) _ _
  generalize (σ3.set "pool" (.ol (pool0.map str1))).set "signs" (.ol []) = σ4 at h1 h2 h3 h4 h5 ⊢
  refine Exs.cons (Ex.for_ K (tg := fun σ d => σ.set "k" (.fz d)) (EvIter.range1 (n := 3) K N.range hkr (Ev.lit 3 rfl) (by rfl) (by omega) rfl) ?_ (fun _ => rfl))
  refine pool_loop K Fm N _ pool0 [] rest σ4 _ (by simp [pool0]) (by decide) (by simp) (by decide) (fun x hx => by simpa using hx) h2 h1 h3 h4 h5 fun σ' sg hl hn hp i1 i2 i3 => ?_
  refine Exs.freeze i3 ?_
  exact law_C K Fm N hk (by simpa using hl) hn hc4 (M k sg hk (by simpa using hl) hn hp) _ (VEnv.gsn (by decide) i1) (VEnv.gsn (by decide) i2) (by rw [VEnv.gse]; unfold sgD; rw [← strs_single]; rfl)
end
end Mine

namespace Mine

/-! ### fits: the pieces, one behind the other -/
/-- a text is made of the pieces, with gaps between -/
def Fits : List T → T → Prop
  | [], _ => False
  | [w], g => g = w
  | w :: ws, g => ∃ x g', g = w ++ (x ++ g') ∧ Fits ws g'
/-- behind a gap -/
def FitsG (ws : List T) (g : T) : Prop := ∃ x g', g = x ++ g' ∧ Fits ws g'

theorem idxL_spec (y : T) : ∀ l : T, match idxL y l with
    | none => ∀ a b, l ≠ a ++ (y ++ b)
    | some k => ∃ a b, l = a ++ (y ++ b) ∧ a.length = k ∧ ∀ a' b', l = a' ++ (y ++ b') → k ≤ a'.length
  | [] => by
    unfold idxL
    split
    · rename_i k hk
      split at hk
      · cases hk
      · rename_i hy
        intro a b e
        have := congrArg List.length e
        simp at this
        have : y.length = 0 := by omega
        exact hy (by rw [List.eq_nil_of_length_eq_zero this]; rfl)
    · rename_i k hk
      split at hk
      · rename_i hy
        cases hk
        have : y = [] := by simpa using hy
        exact ⟨[], [], by simp [this], rfl, fun _ _ _ => Nat.zero_le _⟩
      · cases hk
  | c :: r => by
    have ih := idxL_spec y r
    unfold idxL
    by_cases hp : y.isPrefixOf (c :: r) = true
    · rw [if_pos hp]
      obtain ⟨b, hb⟩ := List.isPrefixOf_iff_prefix.mp hp
      exact ⟨[], b, by simp [hb], rfl, fun _ _ _ => Nat.zero_le _⟩
    · rw [if_neg hp]
      cases hr : idxL y r with
      | none =>
        rw [hr] at ih
        intro a b e
        cases a with
        | nil => exact hp (List.isPrefixOf_iff_prefix.mpr ⟨b, by simpa using e.symm⟩)
        | cons d a => simp at e; exact ih a b e.2
      | some k =>
        rw [hr] at ih
        obtain ⟨a, b, h1, h2, h3⟩ := ih
        refine ⟨c :: a, b, by simp [h1], by simp [h2], fun a' b' e => ?_⟩
        cases a' with
        | nil => exact absurd (List.isPrefixOf_iff_prefix.mpr ⟨b', by simpa using e.symm⟩) hp
        | cons d a' => simp at e; have := h3 a' b' e.2; simp; omega

theorem FitsG.mono {ws : List T} {x g : T} (h : FitsG ws g) : FitsG ws (x ++ g) := by
  obtain ⟨y, g', e, hf⟩ := h
  exact ⟨x ++ y, g', by rw [e, List.append_assoc], hf⟩

/-- the middle pieces, then what is left ends in the last one -/
def Mid : List T → T → Prop
  | [], _ => True
  | w :: ws, g => ∃ x g', g = x ++ (w ++ g') ∧ Mid ws g'
theorem Mid.mono {ws : List T} : ∀ {x g : T}, Mid ws g → Mid ws (x ++ g) := by
  induction ws with
  | nil => intro x g _; trivial
  | cons w ws ih =>
    rintro x g ⟨y, g', e, h⟩
    exact ⟨x ++ y, g', by rw [e, List.append_assoc], h⟩
theorem findLoop_iff (got : T) (ep : Nat) (hep : ep ≤ got.length) : ∀ (ws : List T) (sp : Nat), sp ≤ ep → (findLoop got ep ws sp = true ↔ Mid ws ((got.take ep).drop sp))
  | [], sp, _ => by simp [findLoop, Mid]
  | w :: ws, sp, hsp => by
    have hs := idxL_spec w ((got.take ep).drop sp)
    rw [findLoop]
    cases hk : idxL w ((got.take ep).drop sp) with
    | none =>
      rw [hk] at hs
      simp only [Bool.false_eq_true, false_iff]
      rintro ⟨x, g', e, _⟩
      exact hs x g' e
    | some k =>
      rw [hk] at hs
      obtain ⟨a, b, h1, h2, h3⟩ := hs
      have hle := idxL_le _ _ _ hk
      simp at hle
      have hd : (got.take ep).drop (sp + k + w.length) = b := by
        rw [show sp + k + w.length = sp + (k + w.length) by omega, ← List.drop_drop, h1, ← List.append_assoc, ← h2, ← List.length_append]
        exact List.drop_left
      rw [findLoop_iff got ep hep ws (sp + k + w.length) (by omega), hd]
      constructor
      · intro h; exact ⟨a, b, h1, h⟩
      · rintro ⟨x, g', e, h⟩
        have hkx := h3 x g' e
        -- g' is an end of b
        have hlen := congrArg List.length (h1.symm.trans e)
        simp at hlen
        have : g' = b.drop (b.length - g'.length) := by
          have e2 : a ++ (w ++ b) = (x ++ w) ++ g' := by rw [← h1, e, List.append_assoc]
          have e3 := congrArg (List.drop (x ++ w).length) e2
          rw [List.drop_left, ← List.append_assoc, List.drop_append] at e3
          rw [List.drop_of_length_le (by simp; omega), List.nil_append] at e3
          rw [← e3]
          congr 1
          have := congrArg List.length e3
          simp at this ⊢
          omega
        rw [this] at h
        rw [← List.take_append_drop (b.length - g'.length) b]
        exact Mid.mono h

theorem Fits_snoc (l : T) : ∀ (ws : List T) (g : T), FitsG (ws ++ [l]) g ↔ ∃ g', g = g' ++ l ∧ Mid ws g'
  | [], g => by
    constructor
    · rintro ⟨x, g', e, h⟩
      have h : g' = l := h
      exact ⟨x, by rw [e, h], trivial⟩
    · rintro ⟨g', e, _⟩
      exact ⟨g', l, e, rfl⟩
  | w :: ws, g => by
    constructor
    · rintro ⟨x, g', e, h⟩
      have h2 : ∃ y g2, g' = w ++ (y ++ g2) ∧ Fits (ws ++ [l]) g2 := by
        cases ws with
        | nil => exact h
        | cons v ws => exact h
      obtain ⟨y, g2, e2, hf⟩ := h2
      obtain ⟨g3, e3, hm⟩ := (Fits_snoc l ws (y ++ g2)).mp ⟨y, g2, rfl, hf⟩
      exact ⟨x ++ (w ++ g3), by rw [e, e2, e3]; simp, x, g3, rfl, hm⟩
    · rintro ⟨g', e, x, g2, e2, hm⟩
      obtain ⟨y, g3, e3, hf⟩ := (Fits_snoc l ws (g2 ++ l)).mpr ⟨g2, rfl, hm⟩
      refine ⟨x, w ++ (g2 ++ l), by rw [e, e2]; simp, ?_⟩
      have : ∃ y g3, w ++ (g2 ++ l) = w ++ (y ++ g3) ∧ Fits (ws ++ [l]) g3 := ⟨y, g3, by rw [e3], hf⟩
      cases ws with
      | nil => exact this
      | cons v ws => exact this

theorem ell2_iff (got : T) (w0 : T) (rest got' : T) (hg : got = w0 ++ got') (ws : List T) (l : T) : ell2 got w0.length (ws ++ [l]) = true ↔ FitsG (ws ++ [l]) got' := by
  have hlast : (ws ++ [l]).getLastD [] = l := by simp
  have hlen : got.length = w0.length + got'.length := by rw [hg, List.length_append]
  rw [Fits_snoc]
  unfold ell2
  rw [hlast]
  have key : ∀ n, n ≤ got'.length → (got.take (got.length - n)).drop w0.length = got'.take (got'.length - n) := fun n hn => by
    rw [List.drop_take, hg, List.drop_left]
    congr 1; simp; omega
  by_cases hl : l = []
  · subst hl
    rw [if_neg (by simp), if_neg (by omega)]
    rw [findLoop_iff got got.length (Nat.le_refl _) _ _ (by omega)]
    have hk := key 0 (Nat.zero_le _)
    simp only [Nat.sub_zero] at hk
    rw [hk, List.take_length]
    -- the empty last piece
    have hm : ∀ (ws : List T) (g : T), Mid (ws ++ [[]]) g ↔ Mid ws g := by
      intro ws
      induction ws with
      | nil => intro g; exact ⟨fun _ => trivial, fun _ => ⟨[], g, by simp, trivial⟩⟩
      | cons w ws ih =>
        intro g
        constructor
        · rintro ⟨x, g', e, h⟩; exact ⟨x, g', e, (ih g').mp h⟩
        · rintro ⟨x, g', e, h⟩; exact ⟨x, g', e, (ih g').mpr h⟩
    rw [hm]
    constructor
    · intro h; exact ⟨got', by simp, h⟩
    · rintro ⟨g', e, h⟩; simp at e; rw [e]; exact h
  · rw [if_pos hl]
    by_cases hs : l.isSuffixOf got = true
    · rw [if_pos hs]
      by_cases hlt : got.length < w0.length + l.length
      · rw [if_pos hlt]
        simp only [Bool.false_eq_true, false_iff]
        rintro ⟨g', e, _⟩
        have := congrArg List.length e
        simp at this; omega
      · rw [if_neg hlt, findLoop_iff got _ (by omega) _ _ (by omega)]
        rw [key l.length (by omega), List.dropLast_concat]
        obtain ⟨pre, hpre⟩ := List.isSuffixOf_iff_suffix.mp hs
        have hgl : got' = got'.take (got'.length - l.length) ++ l := by
          have h1 : got'.drop (got'.length - l.length) = l := by
            have e2 : pre ++ l = w0 ++ got' := by rw [hpre, hg]
            have hpl := congrArg List.length e2
            simp at hpl
            have e3 := congrArg (List.drop pre.length) e2
            rw [List.drop_left, List.drop_append, List.drop_of_length_le (by omega), List.nil_append] at e3
            rw [e3]; congr 1; simp; omega
          conv => lhs; rw [← List.take_append_drop (got'.length - l.length) got', h1]
        constructor
        · intro h; exact ⟨_, hgl, h⟩
        · rintro ⟨g', e, h⟩
          have : g' = got'.take (got'.length - l.length) := by
            rw [e]; simp
          rw [← this]; exact h
    · rw [if_neg hs]
      simp only [Bool.false_eq_true, false_iff]
      rintro ⟨g', e, _⟩
      exact hs (List.isSuffixOf_iff_suffix.mpr ⟨w0 ++ g', by rw [hg, e, List.append_assoc]⟩)
end Mine

namespace Mine

theorem Fits_cons {w : T} {ws : List T} (h : ws ≠ []) {g : T} : Fits (w :: ws) g ↔ ∃ g', g = w ++ g' ∧ FitsG ws g' := by
  cases ws with
  | nil => exact absurd rfl h
  | cons w' ws =>
    constructor
    · rintro ⟨x, g', e, hf⟩; exact ⟨x ++ g', e, x, g', rfl, hf⟩
    · rintro ⟨g', e, x, g2, e2, hf⟩; exact ⟨x, g2, by rw [e, e2], hf⟩
theorem FitsG_nil {ws : List T} (h : ws ≠ []) {g : T} : FitsG ([] :: ws) g ↔ FitsG ws g := by
  constructor
  · rintro ⟨x, g', e, hf⟩
    obtain ⟨g2, e2, hg⟩ := (Fits_cons h).mp hf
    rw [List.nil_append] at e2
    subst e2
    rw [e]; exact hg.mono
  · intro hg
    exact ⟨[], g, rfl, (Fits_cons h).mpr ⟨g, rfl, hg⟩⟩
theorem ellm_iff (want got : T) : ellm want got = true ↔ Fits (splitA dots want 0) got := by
  unfold ellm
  by_cases hb : hasL dots want = true
  · rw [if_pos hb]
    have hl2 := splitA_two dots (by decide) want hb
    generalize splitA dots want 0 = ws at hl2 ⊢
    match ws, hl2 with
    | w0 :: w1 :: wr, _ =>
      have hne : (w1 :: wr) ≠ [] := by simp
      obtain ⟨l, hl⟩ : ∃ l, w1 :: wr = (w1 :: wr).dropLast ++ [l] := ⟨_, (List.dropLast_concat_getLast hne).symm⟩
      have hE : ell1 got (w0 :: w1 :: wr) = if w0 ≠ [] then (if w0.isPrefixOf got then ell2 got w0.length (w1 :: wr) else false) else ell2 got 0 (w0 :: w1 :: wr) := rfl
      rw [hE, Fits_cons hne]
      by_cases hw : w0 = []
      · rw [if_neg (by simpa using hw)]
        subst hw
        have h2 := ell2_iff got [] [] got rfl ([] :: (w1 :: wr).dropLast) l
        rw [List.cons_append, ← hl] at h2
        rw [show ell2 got 0 ([] :: w1 :: wr) = ell2 got ([] : T).length ([] :: w1 :: wr) from rfl, h2, FitsG_nil hne]
        constructor
        · intro h; exact ⟨got, rfl, h⟩
        · rintro ⟨g', e, h⟩; rw [e]; exact h
      · rw [if_pos (by simpa using hw)]
        by_cases hp : w0.isPrefixOf got = true
        · rw [if_pos hp]
          obtain ⟨got', hg⟩ := List.isPrefixOf_iff_prefix.mp hp
          have h2 := ell2_iff got w0 [] got' hg.symm (w1 :: wr).dropLast l
          rw [← hl] at h2
          rw [h2]
          constructor
          · intro h; exact ⟨got', hg.symm, h⟩
          · rintro ⟨g', e, h⟩
            have : g' = got' := List.append_cancel_left (e.symm.trans hg.symm)
            rw [← this]; exact h
        · rw [if_neg hp]
          simp only [Bool.false_eq_true, false_iff]
          rintro ⟨g', e, _⟩
          exact hp (List.isPrefixOf_iff_prefix.mpr ⟨g', e.symm⟩)
  · rw [if_neg hb]
    have hno : ∀ k, ¬ dots <+: want.drop k := fun k h => by
      apply hb
      rw [hasL_iff]
      refine ⟨k, ?_, (List.prefix_iff_eq_take.mp h).symm⟩
      have h1 := h.length_le
      have h3 : dots.length = 3 := rfl
      simp at h1; omega
    rw [splitA_none dots (by decide) want hno]
    show (want == got) = true ↔ got = want
    rw [beq_iff_eq]; exact ⟨Eq.symm, Eq.symm⟩

theorem Fits_append (w : T) : ∀ (ws : List T) (g : T), ws ≠ [] → (Fits (ws ++ [w]) g ↔ ∃ g0 x, g = g0 ++ (x ++ w) ∧ Fits ws g0)
  | [v], g, _ => by
    show (∃ x g', g = v ++ (x ++ g') ∧ g' = w) ↔ _
    constructor
    · rintro ⟨x, g', e, rfl⟩; exact ⟨v, x, e, rfl⟩
    · rintro ⟨g0, x, e, h⟩
      have h : g0 = v := h
      exact ⟨x, w, by rw [e, h], rfl⟩
  | v :: v' :: ws, g, _ => by
    have ih := Fits_append w (v' :: ws)
    constructor
    · rintro ⟨x, g', e, h⟩
      obtain ⟨g0, y, e2, hf⟩ := (ih g' (by simp)).mp h
      exact ⟨v ++ (x ++ g0), y, by rw [e, e2]; simp, x, g0, rfl, hf⟩
    · rintro ⟨g0, y, e, x, g1, e1, hf⟩
      exact ⟨x, g1 ++ (y ++ w), by rw [e, e1]; simp, (ih _ (by simp)).mpr ⟨g1, y, rfl, hf⟩⟩

theorem lies_inv (text : T) : ∀ (ps done : List T) (ends : List Nat), done ≠ [] → (∀ e, e ∈ ends ↔ e ≤ text.length ∧ Fits done (text.take e)) → ends.Pairwise (· < ·) →
    (text.length ∈ ps.foldl (liesStep text) ends ↔ Fits (done ++ ps) text)
  | [], done, ends, _, h, _ => by
    rw [List.foldl_nil, List.append_nil, h, List.take_length]
    exact ⟨fun h => h.2, fun h => ⟨Nat.le_refl _, h⟩⟩
  | w :: ps, done, ends, hd, h, hs => by
    rw [List.foldl_cons, show done ++ w :: ps = (done ++ [w]) ++ ps by simp]
    refine lies_inv text ps (done ++ [w]) (liesStep text ends w) (by simp) (fun e => ?_) ?_
    · rw [Fits_append w done _ hd]
      unfold liesStep
      simp only [List.mem_map, List.mem_filter, List.mem_range, Bool.and_eq_true, decide_eq_true_eq, beq_iff_eq, Bool.not_eq_true', List.isEmpty_eq_false_iff]
      constructor
      · rintro ⟨p, ⟨hp, hne, hle, hw⟩, rfl⟩
        have hlen := congrArg List.length hw
        simp at hlen
        have hpl : p + w.length ≤ text.length := by omega
        cases ends with
        | nil => exact absurd rfl hne
        | cons e0 er =>
          have h0 := (h e0).mp (by simp)
          simp only [List.headD_cons] at hle
          refine ⟨hpl, text.take e0, (text.take p).drop e0, ?_, h0.2⟩
          have h1 : text.take e0 ++ (text.take p).drop e0 = text.take p := by
            conv => rhs; rw [← List.take_append_drop e0 (text.take p)]
            rw [List.take_take, Nat.min_eq_left hle]
          have h2 : text.take (p + w.length) = text.take p ++ w := by
            conv => lhs; rw [← List.take_append_drop p (text.take (p + w.length)), hw]
            rw [List.take_take, Nat.min_eq_left (Nat.le_add_right _ _)]
          rw [h2, ← List.append_assoc, h1]
      · rintro ⟨he, g0, x, e1, hf⟩
        have hlen := congrArg List.length e1
        simp at hlen
        have hg0 : g0 = text.take g0.length := by
          have := congrArg (List.take g0.length) e1
          rw [List.take_left, List.take_take, Nat.min_eq_left (by omega)] at this
          exact this.symm
        have hm : g0.length ∈ ends := (h _).mpr ⟨by omega, by rw [← hg0]; exact hf⟩
        refine ⟨g0.length + x.length, ⟨by omega, ?_, ?_, ?_⟩, by omega⟩
        · intro e; rw [e] at hm; cases hm
        · cases ends with
          | nil => cases hm
          | cons e0 er =>
            simp only [List.headD_cons]
            rcases List.mem_cons.mp hm with q | q
            · omega
            · have := (List.pairwise_cons.mp hs).1 _ q; omega
        · rw [show g0.length + x.length + w.length = e by omega, e1, ← List.append_assoc]
          have : g0.length + x.length = (g0 ++ x).length := by simp
          rw [this, List.drop_left]
    · unfold liesStep
      refine List.Pairwise.map _ (fun a b hab => ?_) (List.Pairwise.filter _ List.pairwise_lt_range)
      exact Nat.add_lt_add_right hab _
theorem lies_iff (asked text : T) : lies asked text = true ↔ Fits (splitA dots asked 0) text := by
  unfold lies
  rw [decide_eq_true_eq]
  have hne := splitA_ne dots asked 0
  cases hs : splitA dots asked 0 with
  | nil => exact absurd hs hne
  | cons p0 ps =>
    rw [show p0 :: ps = [p0] ++ ps from rfl]
    refine lies_inv text ps [p0] _ (by simp) (fun e => ?_) ?_
    · show _ ↔ e ≤ text.length ∧ text.take e = p0
      constructor
      · intro h
        split at h
        · rename_i hp
          simp at h; subst h
          have hpp := List.isPrefixOf_iff_prefix.mp hp
          exact ⟨hpp.length_le, (List.prefix_iff_eq_take.mp hpp).symm⟩
        · cases h
      · rintro ⟨h1, h2⟩
        have hp : p0.isPrefixOf text = true := List.isPrefixOf_iff_prefix.mpr (h2 ▸ List.take_prefix _ _)
        rw [if_pos hp]
        have := congrArg List.length h2
        simp at this ⊢; omega
    · split <;> simp
theorem ellm_lies (form front : T) : ellm form front = lies form front := by
  rw [Bool.eq_iff_iff, ellm_iff, lies_iff]
end Mine

namespace Mine

def piecesI : List (Option Nat) → List T
  | [] => [[]]
  | none :: r => [] :: piecesI r
  | some c :: r => match piecesI r with
    | [] => [[c]]
    | p :: ps => (c :: p) :: ps
theorem formT_none (r : List (Option Nat)) : formT (none :: r) = 46 :: 46 :: 46 :: formT r := rfl
theorem formT_some (c : Nat) (r : List (Option Nat)) : formT (some c :: r) = c :: formT r := rfl
theorem formT_append (a b : List (Option Nat)) : formT (a ++ b) = formT a ++ formT b := by unfold formT; rw [List.flatMap_append]
theorem formT_somes (t : T) : formT (t.map some) = t := by
  induction t with
  | nil => rfl
  | cons a t ih => rw [List.map_cons, formT_some, ih]
theorem split_items : ∀ items : List (Option Nat), (∀ c, some c ∈ items → c ≠ 46) → splitA dots (formT items) 0 = piecesI items
  | [], _ => rfl
  | none :: r, h => by
    have ih := split_items r fun c hc => h c (List.mem_cons_of_mem _ hc)
    rw [formT_none, piecesI, ← ih]
    rw [splitA, if_pos (by rfl)]
    show [] :: splitA dots (46 :: 46 :: formT r) 2 = _
    rw [splitA, splitA]
  | some c :: r, h => by
    have ih := split_items r fun c hc => h c (List.mem_cons_of_mem _ hc)
    have hc := h c (by simp)
    rw [formT_some, piecesI, ← ih]
    rw [splitA, if_neg (by simp [dots, List.isPrefixOf]; intro e; exact absurd e.symm hc)] <;> (cases splitA dots (formT r) 0 <;> rfl)
theorem piecesI_ne : ∀ items, piecesI items ≠ []
  | [] => by simp [piecesI]
  | none :: r => by simp [piecesI]
  | some c :: r => by rw [piecesI]; split <;> simp
theorem piecesI_somes (t : T) : ∀ r p ps, piecesI r = p :: ps → piecesI (t.map some ++ r) = (t ++ p) :: ps := by
  induction t with
  | nil => intro r p ps h; exact h
  | cons a t ih =>
    intro r p ps h
    rw [List.map_cons, List.cons_append, piecesI, ih r p ps h]
    rfl

/-! ### holes -/
def itemsH (t : T) : List (Option Nat) := none :: t.flatMap fun c => [some c, none]
theorem pieces_flat : ∀ t : T, piecesI (t.flatMap fun c => [some c, none]) = t.map (fun c => [c]) ++ [[]]
  | [] => rfl
  | c :: t => by
    rw [List.flatMap_cons]
    show piecesI (some c :: none :: (t.flatMap fun c => [some c, none])) = _
    rw [piecesI, piecesI, pieces_flat t]
    rfl
theorem holes_items : ∀ t : T, t ≠ [] → holesL t = formT (itemsH t)
  | [c], _ => rfl
  | c :: d :: t, _ => by
    have ih := holes_items (d :: t) (by simp)
    unfold holesL itemsH at ih ⊢
    rw [formT_none] at ih ⊢
    rw [List.flatMap_cons, formT_append, List.map_cons, List.map_cons, joinL]
    have e : dots ++ joinL dots ([d] :: t.map fun c => [c]) ++ dots = 46 :: 46 :: 46 :: formT ((d :: t).flatMap fun c => [some c, none]) := ih
    show dots ++ ([c] ++ dots ++ joinL dots ([d] :: t.map fun c => [c])) ++ dots = 46 :: 46 :: 46 :: (c :: (46 :: 46 :: 46 :: ([] : T)) ++ formT ((d :: t).flatMap fun c => [some c, none]))
    have e2 : dots ++ ([c] ++ dots ++ joinL dots ([d] :: t.map fun c => [c])) ++ dots = dots ++ ([c] ++ (dots ++ joinL dots ([d] :: t.map fun c => [c]) ++ dots)) := by simp
    rw [e2, e]
    rfl
theorem mid_sub : ∀ (t g : T), Mid (t.map fun c => [c]) g ↔ t.Sublist g
  | [], g => ⟨fun _ => List.nil_sublist _, fun _ => trivial⟩
  | c :: t, g => by
    rw [List.map_cons]
    constructor
    · rintro ⟨x, g', e, h⟩
      have := (mid_sub t g').mp h
      rw [e]
      exact (List.Sublist.cons_cons c this).trans (List.sublist_append_right _ _)
    · intro h
      induction g with
      | nil => cases h
      | cons d g ih =>
        cases h with
        | cons _ h =>
          obtain ⟨x, g', e, hm⟩ := ih h
          exact ⟨d :: x, g', by rw [e]; rfl, hm⟩
        | cons_cons _ h => exact ⟨[], g, rfl, (mid_sub t g).mpr h⟩
theorem holes_iff (t g : T) (ht : t ≠ []) (h46 : ∀ c ∈ t, c ≠ 46) : ellm (holesL t) g = true ↔ t.Sublist g := by
  rw [ellm_iff, holes_items t ht, split_items]
  · unfold itemsH
    rw [piecesI, pieces_flat, Fits_cons (by simp)]
    have : (∃ g', g = [] ++ g' ∧ FitsG (t.map (fun c => [c]) ++ [[]]) g') ↔ FitsG (t.map (fun c => [c]) ++ [[]]) g :=
      ⟨fun ⟨g', e, h⟩ => by rw [List.nil_append] at e; rw [e]; exact h, fun h => ⟨g, rfl, h⟩⟩
    rw [this, Fits_snoc]
    constructor
    · rintro ⟨g', e, h⟩
      rw [List.append_nil] at e; rw [e]; exact (mid_sub t g').mp h
    · intro h; exact ⟨g, by simp, (mid_sub t g).mpr h⟩
  · intro c hc
    unfold itemsH at hc
    simp at hc
    exact h46 c hc

/-! ### through -/
theorem take_sub : ∀ (row l : T) (n : Nat), n ≤ l.length → ((l.take n).Sublist row ↔ n ≤ through l row)
  | row, l, 0, _ => by simp
  | [], [], n + 1, h => by simp at h
  | [], a :: l, n + 1, h => by simp [through]
  | c :: row, [], n + 1, h => by simp at h
  | c :: row, a :: l, n + 1, h => by
    rw [through, List.take_succ_cons]
    by_cases hac : a = c
    · subst hac
      rw [if_pos rfl, List.cons_sublist_cons, take_sub row l n (by simpa using h)]
      omega
    · rw [if_neg hac]
      have ih := take_sub row (a :: l) (n + 1) h
      rw [List.take_succ_cons] at ih
      rw [← ih]
      constructor
      · intro hs
        cases hs with
        | cons _ h => exact h
        | cons_cons _ h => exact absurd rfl hac
      · intro hs; exact List.Sublist.cons _ hs
theorem through_full (l row : T) : through l row = l.length ↔ l.Sublist row := by
  have h1 := take_sub row l l.length (Nat.le_refl _)
  rw [List.take_length] at h1
  have h2 := through_le row l
  rw [h1]; omega
end Mine

namespace Mine

/-! ### codes -/
structure GoodC (l : List (Nat × T)) : Prop where
  ref : ∀ p ∈ l, ∃ tl, p.2 = 38 :: tl ∧ tl ≠ [] ∧ 38 ∉ tl ∧ 46 ∉ tl
  amp : (l.lookup 38).isSome = true
  free : ∀ p ∈ l, ∀ q ∈ l, p.1 ≠ q.1 → p.2.isPrefixOf q.2 = false
  nodot : ∀ p ∈ l, p.1 ≠ 46
def goodB (l : List (Nat × T)) : Bool := l.all (fun p => decide (p.2.head? = some 38) && decide (p.2.tail ≠ []) && decide (38 ∉ p.2.tail) && decide (46 ∉ p.2.tail)) && (l.lookup 38).isSome && l.all (fun p => l.all fun q => decide (p.1 = q.1) || !p.2.isPrefixOf q.2) && l.all fun p => decide (p.1 ≠ 46)
theorem goodB_good {l : List (Nat × T)} (h : goodB l = true) : GoodC l := by
  unfold goodB at h
  simp only [Bool.and_eq_true, List.all_eq_true, decide_eq_true_eq, Bool.or_eq_true, Bool.not_eq_true'] at h
  obtain ⟨⟨⟨h1, h2⟩, h3⟩, h4⟩ := h
  refine ⟨fun p hp => ?_, h2, fun p hp q hq hne => (h3 p hp q hq).resolve_left hne, h4⟩
  obtain ⟨⟨⟨a, b⟩, c⟩, d⟩ := h1 p hp
  cases hq : p.2 with
  | nil => rw [hq] at a; cases a
  | cons x tl =>
    rw [hq] at a b c d
    simp at a; subst a
    exact ⟨tl, rfl, b, c, d⟩
theorem good_codes (k : Nat) : GoodC (codesOf k) := by
  match k with
  | 0 => exact goodB_good (by decide)
  | 1 => exact goodB_good (by decide)
  | 2 => exact goodB_good (by decide)
  | 3 => exact goodB_good (by decide)
  | n + 4 => exact goodB_good (by decide : goodB codes4 = true)

theorem lookup_mem {l : List (Nat × T)} {c : Nat} {z : T} (h : l.lookup c = some z) : (c, z) ∈ l := spells_step.mem_of_lookup_nat h

/-- a sign is written as itself, or by its reference -/
theorem code_cases (k c : Nat) : (code k c = [c] ∧ c ≠ 38) ∨ ((c, code k c) ∈ codesOf k ∧ ∃ tl, code k c = 38 :: tl ∧ tl ≠ [] ∧ 38 ∉ tl ∧ 46 ∉ tl) := by
  have G := good_codes k
  unfold code spells
  cases h : (codesOf k).lookup c with
  | none =>
    left
    refine ⟨rfl, fun e => ?_⟩
    subst e
    have := G.amp
    rw [h] at this; cases this
  | some z => right; exact ⟨lookup_mem h, G.ref _ (lookup_mem h)⟩
theorem code_ne (k c : Nat) : code k c ≠ [] := by
  rcases code_cases k c with ⟨h, _⟩ | ⟨_, tl, h, _⟩ <;> (rw [h]; simp)
theorem code_pre (k : Nat) {s u : Nat} {α β : T} (h : code k s ++ α = code k u ++ β) : s = u := by
  have G := good_codes k
  rcases code_cases k s with ⟨h1, h2⟩ | ⟨h1, tl, h2, h3⟩ <;> rcases code_cases k u with ⟨g1, g2⟩ | ⟨g1, tl', g2, g3⟩
  · rw [h1, g1] at h; simp at h; exact h.1
  · rw [h1, g2] at h; simp at h; exact absurd h.1 h2
  · rw [h2, g1] at h; simp at h; exact absurd h.1.symm g2
  · apply Classical.byContradiction
    intro hne
    have e1 := G.free _ h1 _ g1 hne
    have e2 := G.free _ g1 _ h1 (Ne.symm hne)
    rcases List.prefix_or_prefix_of_prefix (⟨α, rfl⟩ : code k s <+: code k s ++ α) (⟨β, h.symm⟩ : code k u <+: code k s ++ α) with q | q
    · rw [List.isPrefixOf_iff_prefix.mpr q] at e1; cases e1
    · rw [List.isPrefixOf_iff_prefix.mpr q] at e2; cases e2
theorem wr_cons (k c : Nat) (t : T) : wr k (c :: t) = code k c ++ wr k t := by unfold wr code; rw [List.flatMap_cons]
theorem wr_nil (k : Nat) : wr k [] = [] := rfl
theorem wr_append (k : Nat) (a b : T) : wr k (a ++ b) = wr k a ++ wr k b := by unfold wr; rw [List.flatMap_append]
theorem wr_eq_nil {k : Nat} {t : T} (h : wr k t = []) : t = [] := by
  cases t with
  | nil => rfl
  | cons c t => rw [wr_cons] at h; simp at h; exact absurd h.1 (code_ne k c)
/-- writings tell their texts, from the front on -/
theorem wr_pre (k : Nat) : ∀ (p : T) {g : T} {t : T}, wr k t = wr k p ++ g → ∃ b, t = p ++ b ∧ wr k b = g
  | [], g, t, h => ⟨t, rfl, h⟩
  | c :: p, g, [], h => by
    rw [wr_cons, wr_nil] at h
    have := congrArg List.length h
    simp at this
    have h0 : (code k c).length = 0 := by omega
    exact absurd (List.eq_nil_of_length_eq_zero h0) (code_ne k c)
  | c :: p, g, d :: t, h => by
    rw [wr_cons, wr_cons, List.append_assoc] at h
    have := code_pre k h
    subst this
    obtain ⟨b, e, hb⟩ := wr_pre k p (List.append_cancel_left h)
    exact ⟨b, by rw [e]; rfl, hb⟩
theorem wr_inj (k : Nat) {a b : T} (h : wr k a = wr k b) : a = b := by
  obtain ⟨c, e, hc⟩ := wr_pre k b (g := []) (t := a) (by rw [h]; simp)
  have := wr_eq_nil hc
  subst this
  simpa using e
theorem code_nodot (k c : Nat) (h : c ≠ 46) : ∀ x ∈ code k c, x ≠ 46 := fun x hx => by
  rcases code_cases k c with ⟨h1, _⟩ | ⟨_, tl, h2, _, _, h5⟩
  · rw [h1] at hx; simp at hx; rw [hx]; exact h
  · rw [h2] at hx
    rcases List.mem_cons.mp hx with rfl | hx
    · decide
    · exact fun e => h5 (e ▸ hx)
theorem wr_nodot (k : Nat) {t : T} (h : ∀ c ∈ t, c ≠ 46) : ∀ x ∈ wr k t, x ≠ 46 := fun x hx => by
  unfold wr at hx
  obtain ⟨c, hc, hx⟩ := List.mem_flatMap.mp hx
  exact code_nodot k c (h c hc) x hx
theorem code_dot (k : Nat) : code k 46 = [46] := by
  rcases code_cases k 46 with ⟨h, _⟩ | ⟨h, _⟩
  · exact h
  · exact absurd rfl ((good_codes k).nodot _ h)

/-- the writing of a form -/
def itemsW (k : Nat) (items : List (Option Nat)) : List (Option Nat) := items.flatMap fun i => match i with | some c => (code k c).map some | none => [none]
theorem wr_form (k : Nat) : ∀ items : List (Option Nat), wr k (formT items) = formT (itemsW k items)
  | [] => rfl
  | none :: r => by
    rw [formT_none, wr_cons, wr_cons, wr_cons, code_dot, wr_form k r]
    rfl
  | some c :: r => by
    rw [formT_some, wr_cons, wr_form k r]
    show _ = formT ((code k c).map some ++ itemsW k r)
    rw [formT_append, formT_somes]
theorem itemsW_nodot (k : Nat) {items : List (Option Nat)} (h : ∀ c, some c ∈ items → c ≠ 46) : ∀ c, some c ∈ itemsW k items → c ≠ 46 := fun c hc => by
  unfold itemsW at hc
  obtain ⟨i, hi, hx⟩ := List.mem_flatMap.mp hc
  cases i with
  | none => simp at hx
  | some d =>
    obtain ⟨x, hx, e⟩ := List.mem_map.mp hx
    cases e
    exact code_nodot k d (h d hi) c hx
theorem pieces_W (k : Nat) : ∀ items : List (Option Nat), piecesI (itemsW k items) = (piecesI items).map (wr k)
  | [] => rfl
  | none :: r => by
    show piecesI (none :: itemsW k r) = _
    rw [piecesI, pieces_W k r]; rfl
  | some c :: r => by
    show piecesI ((code k c).map some ++ itemsW k r) = _
    have ih := pieces_W k r
    cases hp : piecesI r with
    | nil => exact absurd hp (piecesI_ne r)
    | cons p ps =>
      rw [hp] at ih
      rw [piecesI_somes (code k c) _ _ _ ih, piecesI, hp, List.map_cons, wr_cons]
theorem split_wr (k : Nat) {items : List (Option Nat)} (h : ∀ c, some c ∈ items → c ≠ 46) : splitA dots (wr k (formT items)) 0 = (piecesI items).map (wr k) := by
  rw [wr_form, split_items _ (itemsW_nodot k h), pieces_W]

theorem whole_eq (k : Nat) (part front : T) (h : ∀ c ∈ part, c ≠ 46) : ellm (wr k part) (wr k front) = (part == front) := by
  rw [Bool.eq_iff_iff, ellm_iff]
  have e : wr k part = wr k (formT (part.map some)) := by rw [formT_somes]
  rw [e, split_wr k (items := part.map some) (fun c hc => by simp at hc; exact h c hc)]
  have hp := piecesI_somes part [] [] [] rfl
  rw [List.append_nil, List.append_nil] at hp
  rw [hp]
  show wr k front = wr k part ↔ _
  rw [beq_iff_eq]
  exact ⟨fun h => (wr_inj k h).symm, fun h => by rw [h]⟩

theorem hasL_infix (y x : T) : (∃ a b, x = a ++ (y ++ b)) ↔ hasL y x = true := by
  rw [hasL_iff]
  constructor
  · rintro ⟨a, b, rfl⟩
    refine ⟨a.length, by simp, ?_⟩
    rw [List.drop_left, List.take_left]
  · rintro ⟨i, h1, h2⟩
    refine ⟨x.take i, (x.drop i).drop y.length, ?_⟩
    have e : x.drop i = y ++ (x.drop i).drop y.length := by
      have := List.take_append_drop y.length (x.drop i)
      rw [h2] at this; exact this.symm
    rw [← e]; exact (List.take_append_drop i x).symm
theorem within_eq (k s o : Nat) (ho : o ≠ 46) (hne : o ≠ s) : ellm (dots ++ wr k [o] ++ dots) (wr k [s]) = withinB k s o := by
  rw [Bool.eq_iff_iff, ellm_iff]
  have h1 : wr k [o] = code k o := by rw [wr_cons, wr_nil, List.append_nil]
  have h2 : wr k [s] = code k s := by rw [wr_cons, wr_nil, List.append_nil]
  have e : dots ++ wr k [o] ++ dots = formT (none :: ((code k o).map some ++ [none])) := by
    rw [formT_none, formT_append, formT_somes, h1]; rfl
  rw [e, h2, split_items _ (fun c hc => by
    simp at hc; exact code_nodot k o ho c hc), piecesI]
  have hp := piecesI_somes (code k o) [none] [] [[]] rfl
  rw [List.append_nil] at hp
  rw [hp]
  have hF : Fits [[], code k o, []] (code k s) ↔ ∃ a b, code k s = a ++ (code k o ++ b) := by
    rw [Fits_cons (by simp)]
    constructor
    · rintro ⟨g', e, x, g2, e2, y, g3, e3, _⟩
      exact ⟨x, y ++ g3, by rw [e, e2, e3]; simp⟩
    · rintro ⟨a, b, e⟩
      exact ⟨code k s, rfl, a, code k o ++ b, e, b, [], by simp, rfl⟩
  rw [hF, hasL_infix]
  unfold withinB
  rw [Bool.and_eq_true, beq_iff_eq]
  rcases code_cases k o with ⟨g1, g2⟩ | ⟨g1, tl, g2, g3, g4, g5⟩
  · rw [g1]
    exact ⟨fun h => ⟨rfl, h⟩, fun h => h.2⟩
  · constructor
    · intro h
      exfalso
      obtain ⟨a, b, e⟩ := (hasL_infix _ _).mpr h
      rw [g2] at e
      rcases code_cases k s with ⟨f1, f2⟩ | ⟨f1, tl', f2, f3, f4, f5⟩
      · rw [f1] at e
        have hl := congrArg List.length e
        simp at hl
        exact g3 (List.eq_nil_of_length_eq_zero (by omega))
      · cases a with
        | nil =>
          have : code k s ++ [] = code k o ++ b := by rw [List.append_nil, g2, e]; rfl
          exact hne (code_pre k this).symm
        | cons x a =>
          rw [f2] at e
          simp at e
          apply f4
          rw [e.2]; simp
    · rintro ⟨h, _⟩
      rw [g2] at h
      simp at h
      exact absurd h.2 g3
end Mine

namespace Mine

theorem wr_ne {k : Nat} {t : T} (h : t ≠ []) : wr k t ≠ [] := fun e => h (wr_eq_nil e)
theorem held_eq (k : Nat) {part front : T} (hp : part ≠ []) (h46 : ∀ c ∈ part, c ≠ 46) : ellm (holesL (wr k part)) (wr k front) = decide (through (wr k part) (wr k front) = (wr k part).length) := by
  rw [Bool.eq_iff_iff, holes_iff _ _ (wr_ne hp) (wr_nodot k h46), decide_eq_true_eq, through_full]
theorem wr_sub (k : Nat) : ∀ {a b : T}, a.Sublist b → (wr k a).Sublist (wr k b) := fun {a b} h => by
  induction h with
  | slnil => exact List.Sublist.refl _
  | cons c _ ih => rw [wr_cons]; exact ih.trans (List.sublist_append_right _ _)
  | cons_cons c _ ih => rw [wr_cons, wr_cons]; exact List.Sublist.append (List.Sublist.refl _) ih

theorem through_zero {a : Nat} {l row : T} (h : through (a :: l) row = 0) : a ∉ row := fun hm => by
  have := (take_sub row (a :: l) 1 (by simp)).mp (by simpa using List.singleton_sublist.mpr hm)
  omega
theorem fewest_none (rows : List T) : ∀ (n : Nat) (l : T) (c : Nat), l.length ≤ n → fewest rows n l c = none → ∃ x ∈ l, ∀ row ∈ rows, x ∉ row
  | 0, l, c, h, e => by simp [fewest] at e
  | n + 1, l, c, h, e => by
    rw [fewest] at e
    cases l with
    | nil => simp at e
    | cons a l =>
      rw [if_neg (by simp)] at e
      by_cases hs : stepOf (a :: l) rows = 0
      · refine ⟨a, by simp, fun row hr => through_zero (l := l) ?_⟩
        have := stepOf_le (a :: l) rows row hr
        omega
      · rw [if_neg hs] at e
        obtain ⟨x, hx, h2⟩ := fewest_none rows n _ _ (by simp at h ⊢; omega) e
        exact ⟨x, List.mem_of_mem_drop hx, h2⟩

theorem last_occ {c : Nat} : ∀ {l : T}, c ∈ l → ∃ u v, l = u ++ c :: v ∧ c ∉ v
  | a :: l, h => by
    by_cases hc : c ∈ l
    · obtain ⟨u, v, e, hv⟩ := last_occ hc
      exact ⟨a :: u, v, by rw [e]; rfl, hv⟩
    · rcases List.mem_cons.mp h with rfl | h
      · exact ⟨[], l, rfl, hc⟩
      · exact absurd h hc

theorem own_sub (k : Nat) {sg : List Nat} (ho : ∀ s ∈ sg, ∃ c ∈ code k s, ∀ o ∈ sg, o ≠ s → c ∉ code k o) : ∀ (part front : T), (∀ c ∈ part, c ∈ sg) → (∀ c ∈ front, c ∈ sg) → (wr k part).Sublist (wr k front) → part.Sublist front
  | [], front, _, _, _ => List.nil_sublist _
  | s :: part, front, hp, hf, h => by
    have hs := hp s (by simp)
    obtain ⟨c, hc, hcu⟩ := ho s hs
    obtain ⟨u, v, e, hv⟩ := last_occ hc
    have hnot : ∀ {a : T}, (∀ o ∈ a, o ∈ sg) → s ∉ a → c ∉ wr k a := fun {a} ha hsa hm => by
      unfold wr at hm
      obtain ⟨o, ho1, ho2⟩ := List.mem_flatMap.mp hm
      exact hcu o (ha o ho1) (fun e => hsa (e ▸ ho1)) ho2
    have hsf : s ∈ front := by
      apply Classical.byContradiction
      intro hn
      refine hnot hf hn (h.subset ?_)
      rw [wr_cons]; exact List.mem_append_left _ hc
    obtain ⟨a, b, ef, ha⟩ := List.eq_append_cons_of_mem hsf
    have hca : c ∉ wr k a := hnot (fun o ho => hf o (by rw [ef]; exact List.mem_append_left _ ho)) ha
    have h1 : ((u ++ [c]) ++ (v ++ wr k part)).Sublist ((wr k a ++ (u ++ [c])) ++ (v ++ wr k b)) := by
      have := h
      rw [ef, wr_cons, wr_append, wr_cons, e] at this
      simpa using this
    obtain ⟨r1, r2, er, hr1, hr2⟩ := List.append_sublist_iff.mp h1
    have h2 : (v ++ wr k part).Sublist (v ++ wr k b) := by
      rcases List.append_eq_append_iff.mp er with ⟨m, e1, e2⟩ | ⟨m, e1, e2⟩
      · -- r1 = front part ++ m
        rw [e2]
        exact hr2.trans (List.sublist_append_right _ _)
      · cases m with
        | nil =>
          rw [List.nil_append] at e2
          rw [e2] at hr2; exact hr2
        | cons x m =>
          exfalso
          have hcount := List.Sublist.count_le c hr1
          have e3 : wr k a ++ u ++ [c] = r1 ++ (x :: m) := by rw [← e1]; simp
          have hl : r1.length ≤ (wr k a ++ u).length := by
            have := congrArg List.length e3
            simp at this ⊢; omega
          have hpre : r1 <+: wr k a ++ u := by
            have hp1 : r1 <+: (wr k a ++ u) ++ [c] := ⟨x :: m, e3.symm⟩
            exact List.prefix_of_prefix_length_le hp1 ⟨[c], rfl⟩ hl
          have hc2 := List.Sublist.count_le c hpre.sublist
          rw [List.count_append, List.count_eq_zero_of_not_mem hca] at hc2
          rw [List.count_append] at hcount
          simp at hcount hc2
          omega
    have h3 := (List.append_sublist_append_left v).mp h2
    have ih := own_sub k ho part b (fun c hc => hp c (List.mem_cons_of_mem _ hc)) (fun c hc => hf c (by rw [ef]; simp [hc])) h3
    rw [ef]
    exact (List.Sublist.cons_cons s ih).trans (List.sublist_append_right _ _)

/-! ### in pieces -/
theorem fits_wr (k : Nat) : ∀ (ps : List T) (g : T), Fits ps g → Fits (ps.map (wr k)) (wr k g)
  | [w], g, h => congrArg (wr k) h
  | w :: w' :: ws, g, ⟨x, g', e, h⟩ => ⟨wr k x, wr k g', by rw [e, wr_append, wr_append], fits_wr k (w' :: ws) g' h⟩

theorem align (k : Nat) {sg : List Nat} (hap : ∀ s ∈ sg, ∀ o ∈ sg, o ≠ s → withinB k s o = false) {p g : T} (hp : p ≠ []) (hps : ∀ c ∈ p, c ∈ sg) : ∀ (t x : T), (∀ c ∈ t, c ∈ sg) → wr k t = x ++ (wr k p ++ g) → ∃ a b, t = a ++ (p ++ b) ∧ wr k a = x ∧ wr k b = g
  | [], x, _, h => by
    rw [wr_nil] at h
    have := congrArg List.length h
    simp at this
    exact absurd (List.eq_nil_of_length_eq_zero (by omega)) (wr_ne (k := k) hp)
  | u :: t, x, ht, h => by
    by_cases hx : x = []
    · subst hx
      obtain ⟨b, e, hb⟩ := wr_pre k p h
      exact ⟨[], b, e, rfl, hb⟩
    · have rec1 : ∀ x', x = code k u ++ x' → wr k t = x' ++ (wr k p ++ g) → ∃ a b, u :: t = a ++ (p ++ b) ∧ wr k a = x ∧ wr k b = g := fun x' e1 e2 => by
        obtain ⟨a, b, h1, h2, h3⟩ := align k hap hp hps t x' (fun c hc => ht c (List.mem_cons_of_mem _ hc)) e2
        exact ⟨u :: a, b, by rw [h1]; rfl, by rw [wr_cons, h2, e1], h3⟩
      rw [wr_cons] at h
      rcases List.append_eq_append_iff.mp h with ⟨m, e1, e2⟩ | ⟨m, e1, e2⟩
      · exact rec1 m e1 e2
      · cases m with
        | nil => rw [List.append_nil] at e1; rw [List.nil_append] at e2; exact rec1 [] (by rw [e1]; simp) (by rw [← e2]; rfl)
        | cons y m =>
          exfalso
          cases p with
          | nil => exact hp rfl
          | cons s p =>
            have hs := hps s (by simp)
            have hu := ht u (by simp)
            rw [wr_cons, List.append_assoc] at e2
            rcases code_cases k u with ⟨g1, g2⟩ | ⟨g1, tl, g2, g3, g4, g5⟩
            · rw [g1] at e1
              have := congrArg List.length e1
              simp at this
              exact hx (List.eq_nil_of_length_eq_zero (by omega))
            · have hy : y ∈ tl := by
                rw [g2] at e1
                cases x with
                | nil => exact absurd rfl hx
                | cons x0 x => simp at e1; rw [e1.2]; simp
              rcases code_cases k s with ⟨f1, f2⟩ | ⟨f1, tl', f2, f3, f4, f5⟩
              · rw [f1] at e2
                simp at e2
                have hsy : s = y := e2.1
                have hsu : s ≠ u := fun e => by
                  have h1 : code k s = 38 :: tl := e ▸ g2
                  rw [f1] at h1
                  simp at h1
                  exact f2 h1.1
                have := hap u hu s hs hsu
                unfold withinB at this
                rw [f1, hasL_one] at this
                have hin : s ∈ code k u := by rw [g2, hsy]; exact List.mem_cons_of_mem _ hy
                simp [hin] at this
              · rw [f2] at e2
                simp at e2
                exact g4 (e2.1 ▸ hy)

theorem apart_G (k : Nat) {sg : List Nat} (hap : ∀ s ∈ sg, ∀ o ∈ sg, o ≠ s → withinB k s o = false) : ∀ (ps : List T) (y g t : T), (∀ p ∈ ps, ∀ c ∈ p, c ∈ sg) → (∀ c ∈ t, c ∈ sg) → wr k t = y ++ g → FitsG (ps.map (wr k)) g → FitsG ps t
  | [], y, g, t, _, _, _, h => by obtain ⟨x, g', _, hf⟩ := h; exact hf.elim
  | [p], y, g, t, hps, ht, e, h => by
    obtain ⟨x, g', e1, hf⟩ := h
    have hf : g' = wr k p := hf
    by_cases hp : p = []
    · subst hp
      exact ⟨t, [], by simp, rfl⟩
    · obtain ⟨a, b, h1, h2, h3⟩ := align k hap hp (hps p (by simp)) (g := []) t (y ++ x) ht (by rw [e, e1, hf]; simp)
      have := wr_eq_nil h3
      subst this
      exact ⟨a, p, by rw [h1]; simp, rfl⟩
  | p :: p' :: ps, y, g, t, hps, ht, e, h => by
    obtain ⟨x, g1, e1, hf⟩ := h
    obtain ⟨g2, e2, hG⟩ := (Fits_cons (by simp)).mp hf
    by_cases hp : p = []
    · subst hp
      rw [wr_nil, List.nil_append] at e2
      subst e2
      have := apart_G k hap (p' :: ps) (y ++ x) g1 t (fun q hq => hps q (List.mem_cons_of_mem _ hq)) ht (by rw [e, e1]; simp) hG
      exact (FitsG_nil (by simp)).mpr this
    · obtain ⟨a, b, h1, h2, h3⟩ := align k hap hp (hps p (by simp)) (g := g2) t (y ++ x) ht (by rw [e, e1, e2]; simp)
      have hb : FitsG (p' :: ps) b := apart_G k hap (p' :: ps) [] g2 b (fun q hq => hps q (List.mem_cons_of_mem _ hq)) (fun c hc => ht c (by rw [h1]; simp [hc])) (by rw [h3]; rfl) hG
      exact ⟨a, p ++ b, h1, (Fits_cons (by simp)).mpr ⟨b, rfl, hb⟩⟩
theorem apart_fits (k : Nat) {sg : List Nat} (hap : ∀ s ∈ sg, ∀ o ∈ sg, o ≠ s → withinB k s o = false) : ∀ (ps : List T) (t : T), (∀ p ∈ ps, ∀ c ∈ p, c ∈ sg) → (∀ c ∈ t, c ∈ sg) → Fits (ps.map (wr k)) (wr k t) → Fits ps t
  | [], t, _, _, h => h.elim
  | [p], t, _, _, h => wr_inj k (show wr k t = wr k p from h)
  | p :: p' :: ps, t, hps, ht, h => by
    obtain ⟨g2, e2, hG⟩ := (Fits_cons (by simp)).mp h
    obtain ⟨b, e, hb⟩ := wr_pre k p e2
    refine (Fits_cons (by simp)).mpr ⟨b, e, ?_⟩
    exact apart_G k hap (p' :: ps) [] g2 b (fun q hq => hps q (List.mem_cons_of_mem _ hq)) (fun c hc => ht c (by rw [e]; simp [hc])) (by rw [hb]; rfl) hG
theorem pieces_mem {sg : List Nat} : ∀ {items : List (Option Nat)}, (∀ c, some c ∈ items → c ∈ sg) → ∀ p ∈ piecesI items, ∀ c ∈ p, c ∈ sg
  | [], h, p, hp, c, hc => by simp [piecesI] at hp; subst hp; cases hc
  | none :: r, h, p, hp, c, hc => by
    rw [piecesI] at hp
    rcases List.mem_cons.mp hp with rfl | hp
    · cases hc
    · exact pieces_mem (fun c hc => h c (List.mem_cons_of_mem _ hc)) p hp c hc
  | some d :: r, h, p, hp, c, hc => by
    have ih := pieces_mem (items := r) fun c hc => h c (List.mem_cons_of_mem _ hc)
    rw [piecesI] at hp
    cases hr : piecesI r with
    | nil => exact absurd hr (piecesI_ne r)
    | cons q qs =>
      rw [hr] at hp ih
      rcases List.mem_cons.mp hp with rfl | hp
      · rcases List.mem_cons.mp hc with rfl | hc
        · exact h c (by simp)
        · exact ih q (by simp) c hc
      · exact ih p (List.mem_cons_of_mem _ hp) c hc
end Mine

namespace Mine

/-- how far the greedy ones come -/
def posG (l : T) (rows : List T) : Nat → Nat
  | 0 => 0
  | n + 1 => posG l rows n + stepOf (l.drop (posG l rows n)) rows
theorem posG_le (l : T) (rows : List T) : ∀ n, posG l rows n ≤ l.length
  | 0 => Nat.zero_le _
  | n + 1 => by
    have := posG_le l rows n
    have h := stepOf_len (l.drop (posG l rows n)) rows
    rw [posG]; simp at h; omega

theorem reach (k : Nat) (l : T) (others : List Nat) (ho : others ≠ []) : ∀ (n m : Nat), m ≤ l.length → ((∃ t : T, t.length = n ∧ (∀ c ∈ t, c ∈ others) ∧ (l.take m).Sublist (wr k t)) ↔ m ≤ posG l (others.map (code k)) n)
  | 0, m, hm => by
    constructor
    · rintro ⟨t, ht, _, hs⟩
      have : t = [] := List.eq_nil_of_length_eq_zero ht
      subst this
      rw [wr_nil] at hs
      have := hs.length_le
      rw [List.length_take, List.length_nil] at this
      rw [posG]; omega
    · intro h
      have : m = 0 := by rw [posG] at h; omega
      subst this
      exact ⟨[], rfl, by simp, by simp⟩
  | n + 1, m, hm => by
    have hpl := posG_le l (others.map (code k)) n
    constructor
    · rintro ⟨t, ht, hto, hs⟩
      have htne : t ≠ [] := by intro e; rw [e] at ht; simp at ht
      obtain ⟨t', o, rfl⟩ : ∃ t' o, t = t' ++ [o] := ⟨t.dropLast, t.getLast htne, (List.dropLast_concat_getLast htne).symm⟩
      simp at ht
      have hoo := hto o (by simp)
      rw [wr_append, wr_cons, wr_nil, List.append_nil] at hs
      obtain ⟨l1, l2, e, h1, h2⟩ := List.sublist_append_iff.mp hs
      have hl1 : l1 = l.take l1.length := by
        have := congrArg (List.take l1.length) e
        rw [List.take_left, List.take_take] at this
        have hle := congrArg List.length e
        simp at hle
        rw [Nat.min_eq_left (by omega)] at this
        exact this.symm
      have hle := congrArg List.length e
      simp at hle
      have hj := (reach k l others ho n l1.length (by omega)).mp ⟨t', by omega, fun c hc => hto c (List.mem_append_left _ hc), by rw [← hl1]; exact h1⟩
      rw [posG]
      by_cases hmp : m ≤ posG l (others.map (code k)) n
      · omega
      · have h3 : ((l.drop (posG l (others.map (code k)) n)).take (m - posG l (others.map (code k)) n)).Sublist (code k o) := by
          refine List.Sublist.trans ?_ h2
          have : (l.drop (posG l (others.map (code k)) n)).take (m - posG l (others.map (code k)) n) = (l.take m).drop (posG l (others.map (code k)) n) := by
            rw [List.drop_take]
          rw [this, e]
          rw [List.drop_append, List.drop_of_length_le hj, List.nil_append]
          exact List.drop_sublist _ _
        have h4 := (take_sub (code k o) (l.drop (posG l (others.map (code k)) n)) _ (by simp; omega)).mp h3
        have h5 := stepOf_le (l.drop (posG l (others.map (code k)) n)) (others.map (code k)) (code k o) (List.mem_map.mpr ⟨o, hoo, rfl⟩)
        omega
    · intro h
      obtain ⟨t', h1, h2, h3⟩ := (reach k l others ho n (posG l (others.map (code k)) n) hpl).mpr (Nat.le_refl _)
      obtain ⟨row, hr, hst⟩ := stepOf_mem (l.drop (posG l (others.map (code k)) n)) (others.map (code k)) (by simpa using ho)
      obtain ⟨o, hoo, rfl⟩ := List.mem_map.mp hr
      have hsl := stepOf_len (l.drop (posG l (others.map (code k)) n)) (others.map (code k))
      have h4 := (take_sub (code k o) (l.drop (posG l (others.map (code k)) n)) (stepOf (l.drop (posG l (others.map (code k)) n)) (others.map (code k))) hsl).mpr (by omega)
      refine ⟨t' ++ [o], by simp [h1], fun c hc => ?_, ?_⟩
      · rcases List.mem_append.mp hc with hc | hc
        · exact h2 c hc
        · simp at hc; rw [hc]; exact hoo
      · rw [wr_append, wr_cons, wr_nil, List.append_nil]
        have h5 := List.Sublist.append h3 h4
        rw [← List.take_add] at h5
        refine List.Sublist.trans ?_ h5
        rw [posG] at h
        have : l.take m = (l.take (posG l (others.map (code k)) n + stepOf (l.drop (posG l (others.map (code k)) n)) (others.map (code k)))).take m := by rw [List.take_take, Nat.min_eq_left h]
        rw [this]
        exact List.take_sublist _ _

/-- all texts of n of them -/
theorem ext_all (others : List Nat) (texts : List T) (n : Nat) (h : ∀ t, t ∈ texts ↔ t.length = n ∧ ∀ c ∈ t, c ∈ others) : ∀ t, t ∈ extT (others.map fun c => [c]) texts ↔ t.length = n + 1 ∧ ∀ c ∈ t, c ∈ others := fun t => by
  unfold extT
  rw [List.mem_flatMap]
  constructor
  · rintro ⟨t', h1, h2⟩
    obtain ⟨o', ho', rfl⟩ := List.mem_map.mp h2
    obtain ⟨o, ho, rfl⟩ := List.mem_map.mp ho'
    obtain ⟨h3, h4⟩ := (h t').mp h1
    refine ⟨by simp [h3], fun c hc => ?_⟩
    rcases List.mem_append.mp hc with hc | hc
    · exact h4 c hc
    · simp at hc; rw [hc]; exact ho
  · rintro ⟨h1, h2⟩
    have htne : t ≠ [] := by intro e; rw [e] at h1; simp at h1
    have e := (List.dropLast_concat_getLast htne)
    refine ⟨t.dropLast, (h _).mpr ⟨by rw [List.length_dropLast]; omega, fun c hc => h2 c (List.dropLast_subset _ hc)⟩, ?_⟩
    exact List.mem_map.mpr ⟨[t.getLast htne], List.mem_map.mpr ⟨_, h2 _ (List.getLast_mem htne), rfl⟩, e⟩

theorem any_pos (k : Nat) (l : T) (others : List Nat) (ho : others ≠ []) (ok : T → Bool) (hok : ∀ t, ok t = true ↔ l.Sublist (wr k t)) (texts : List T) (n : Nat) (h : ∀ t, t ∈ texts ↔ t.length = n ∧ ∀ c ∈ t, c ∈ others) :
    texts.any ok = decide (l.length ≤ posG l (others.map (code k)) n) := by
  rw [Bool.eq_iff_iff, List.any_eq_true, decide_eq_true_eq, ← reach k l others ho n l.length (Nat.le_refl _), List.take_length]
  constructor
  · rintro ⟨t, h1, h2⟩
    obtain ⟨h3, h4⟩ := (h t).mp h1
    exact ⟨t, h3, h4, (hok t).mp h2⟩
  · rintro ⟨t, h1, h2, h3⟩
    exact ⟨t, (h t).mpr ⟨h1, h2⟩, (hok t).mpr h3⟩

theorem fewest_step (rows : List T) (l : T) (n : Nat) : fewest rows l.length (l.drop (posG l rows n)) n = if l.length ≤ posG l rows n then some n else if posG l rows (n + 1) = posG l rows n then none else fewest rows l.length (l.drop (posG l rows (n + 1))) (n + 1) := by
  have hp := posG_le l rows n
  by_cases h : l.length ≤ posG l rows n
  · rw [if_pos h, List.drop_of_length_le h]
    cases l.length <;> simp [fewest]
  · rw [if_neg h]
    obtain ⟨m, hm⟩ : ∃ m, l.length = m + 1 := ⟨l.length - 1, by omega⟩
    have hne : l.drop (posG l rows n) ≠ [] := by intro e; rw [List.drop_eq_nil_iff] at e; omega
    have hs : (posG l rows (n + 1) = posG l rows n) ↔ stepOf (l.drop (posG l rows n)) rows = 0 := by rw [posG]; omega
    conv => lhs; rw [hm, fewest]
    rw [if_neg hne]
    by_cases h0 : stepOf (l.drop (posG l rows n)) rows = 0
    · rw [if_pos h0, if_pos (hs.mpr h0)]
    · rw [if_neg h0, if_neg (fun e => h0 (hs.mp e)), List.drop_drop, ← posG]
      have := posG_le l rows (n + 1)
      exact fewest_fuel rows _ _ _ _ (by rw [posG] at *; simp; omega) (by simp)
theorem posG_stuck {l : T} {rows : List T} {n : Nat} (h : posG l rows (n + 1) = posG l rows n) : posG l rows (n + 2) = posG l rows n := by
  rw [posG, h]; rw [posG] at h; exact h

def okF : Option Nat → Bool
  | none => true
  | some n => decide (n ≤ 3)
theorem tried_fewest (k : Nat) (l : T) (hl : l ≠ []) (others : List Nat) (ho : others ≠ []) (ok : T → Bool) (hok : ∀ t, ok t = true ↔ l.Sublist (wr k t)) (hF : okF (fewest (others.map (code k)) l.length l 0) = true) :
    triedF ok (others.map fun c => [c]) 1 3 [[]] = fewest (others.map (code k)) l.length l 0 := by
  have t0 : ∀ t, t ∈ ([[]] : List T) ↔ t.length = 0 ∧ ∀ c ∈ t, c ∈ others := fun t => by
    constructor
    · intro h; simp at h; subst h; simp
    · rintro ⟨h, _⟩; rw [List.eq_nil_of_length_eq_zero h]; simp
  have t1 := ext_all others _ 0 t0
  have t2 := ext_all others _ 1 t1
  have t3 := ext_all others _ 2 t2
  have a1 := any_pos k l others ho ok hok _ 1 t1
  have a2 := any_pos k l others ho ok hok _ 2 t2
  have a3 := any_pos k l others ho ok hok _ 3 t3
  have f0 := fewest_step (others.map (code k)) l 0
  have f1 := fewest_step (others.map (code k)) l 1
  have f2 := fewest_step (others.map (code k)) l 2
  have f3 := fewest_step (others.map (code k)) l 3
  have p0 : posG l (others.map (code k)) 0 = 0 := rfl
  have hl0 : 0 < l.length := List.length_pos_iff.mpr hl
  rw [p0, List.drop_zero, if_neg (by omega)] at f0
  have T3 : triedF ok (others.map fun c => [c]) 1 3 [[]] = if l.length ≤ posG l (others.map (code k)) 1 then some 1 else if l.length ≤ posG l (others.map (code k)) 2 then some 2 else if l.length ≤ posG l (others.map (code k)) 3 then some 3 else none := by
    rw [triedF, a1, triedF, a2, triedF, a3, triedF]
    simp only [decide_eq_true_eq]
  rw [T3]
  rw [f0] at hF ⊢
  have s01 := @posG_stuck l (others.map (code k)) 0
  have s12 := @posG_stuck l (others.map (code k)) 1
  have s02 : posG l (others.map (code k)) 1 = 0 → posG l (others.map (code k)) 2 = 0 ∧ posG l (others.map (code k)) 3 = 0 := fun h => by
    have e2 := s01 (by rw [h]; rfl)
    have e3 := s12 (by rw [e2, h]; rfl)
    exact ⟨e2, by rw [e3, h]⟩
  by_cases h1 : posG l (others.map (code k)) (0 + 1) = 0
  · obtain ⟨e2, e3⟩ := s02 h1
    have h1' : posG l (others.map (code k)) 1 = 0 := h1
    rw [if_pos h1, if_neg (by omega), if_neg (by omega), if_neg (by omega)]
  · rw [if_neg h1] at hF ⊢
    rw [f1] at hF ⊢
    by_cases g1 : l.length ≤ posG l (others.map (code k)) 1
    · rw [if_pos g1, if_pos g1]
    · rw [if_neg g1] at hF ⊢
      rw [if_neg g1]
      by_cases h2 : posG l (others.map (code k)) (1 + 1) = posG l (others.map (code k)) 1
      · have h2' : posG l (others.map (code k)) 2 = posG l (others.map (code k)) 1 := h2
        have e3 := s12 h2
        have e3' : posG l (others.map (code k)) 3 = posG l (others.map (code k)) 1 := e3
        rw [if_pos h2, if_neg (by omega), if_neg (by omega)]
      · rw [if_neg h2] at hF ⊢
        rw [f2] at hF ⊢
        by_cases g2 : l.length ≤ posG l (others.map (code k)) 2
        · rw [if_pos g2, if_pos g2]
        · rw [if_neg g2] at hF ⊢
          rw [if_neg g2]
          by_cases h3 : posG l (others.map (code k)) (2 + 1) = posG l (others.map (code k)) 2
          · have h3' : posG l (others.map (code k)) 3 = posG l (others.map (code k)) 2 := h3
            rw [if_pos h3, if_neg (by omega)]
          · rw [if_neg h3] at hF ⊢
            rw [f3] at hF ⊢
            by_cases g3 : l.length ≤ posG l (others.map (code k)) 3
            · rw [if_pos g3, if_pos g3]
            · rw [if_neg g3] at hF ⊢
              rw [if_neg g3]
              by_cases h4 : posG l (others.map (code k)) (3 + 1) = posG l (others.map (code k)) 3
              · rw [if_pos h4]
              · rw [if_neg h4] at hF ⊢
                have big : ∀ (m : Nat) (l' : T) (c : Nat), 4 ≤ c → l'.length ≤ m → okF (fewest (others.map (code k)) m l' c) = true → fewest (others.map (code k)) m l' c = none := by
                  intro m
                  induction m with
                  | zero => intro l' c hc _ h; simp [fewest, okF] at h; omega
                  | succ m ih =>
                    intro l' c hc hm h
                    rw [fewest] at h ⊢
                    by_cases e : l' = []
                    · rw [if_pos e] at h; simp [okF] at h; omega
                    · rw [if_neg e] at h ⊢
                      by_cases e2 : stepOf l' (others.map (code k)) = 0
                      · rw [if_pos e2]
                      · rw [if_neg e2] at h ⊢
                        exact ih _ _ (by omega) (by simp; omega) h
                exact (big _ _ _ (by omega) (by simp) hF).symm

/-! ### at most three: looked through, sign by sign -/
def chk (k : Nat) : Bool := (codesOf k).all fun p => pool0.all fun a => pool0.all fun b => okF (fewest [code k a, code k b] p.2.length p.2 0)
theorem chk0 : chk 0 = true := by decide +kernel
theorem chk1 : chk 1 = true := by decide +kernel
theorem chk2 : chk 2 = true := by decide +kernel
theorem chk3 : chk 3 = true := by decide +kernel
theorem chk4 : chk 4 = true := by decide +kernel
theorem chk_all {k : Nat} (hk : k < 5) : chk k = true := by
  match k, hk with
  | 0, _ => exact chk0
  | 1, _ => exact chk1
  | 2, _ => exact chk2
  | 3, _ => exact chk3
  | 4, _ => exact chk4
theorem fewest_len (rows : List T) : ∀ (n : Nat) (l : T) (c m : Nat), fewest rows n l c = some m → l.length ≤ n → m ≤ c + l.length
  | 0, l, c, m, h, _ => by simp [fewest] at h; omega
  | n + 1, l, c, m, h, hn => by
    rw [fewest] at h
    by_cases hl : l = []
    · rw [if_pos hl] at h; cases h; omega
    · rw [if_neg hl] at h
      by_cases hs : stepOf l rows = 0
      · rw [if_pos hs] at h; cases h
      · rw [if_neg hs] at h
        have hle := stepOf_len l rows
        have := fewest_len rows n _ _ m h (by simp; omega)
        simp at this
        omega
theorem few_ok {k : Nat} (hk : k < 5) {s a b : Nat} (ha : a ∈ pool0) (hb : b ∈ pool0) : okF (fewest [code k a, code k b] (code k s).length (code k s) 0) = true := by
  rcases code_cases k s with ⟨h, _⟩ | ⟨h, _⟩
  · rw [h]
    cases e : fewest [code k a, code k b] ([s] : T).length [s] 0 with
    | none => rfl
    | some m =>
      have := fewest_len _ _ _ _ _ e (Nat.le_refl _)
      simp at this
      simp [okF]; omega
  · have := chk_all hk
    unfold chk at this
    rw [List.all_eq_true] at this
    have := this _ h
    rw [List.all_eq_true] at this
    have := this a ha
    rw [List.all_eq_true] at this
    exact this b hb

theorem pool_nodot : ∀ c ∈ pool0, c ≠ 46 := by decide
theorem two_others {sg : List Nat} {s : Nat} (hn : sg.Nodup) (h3 : sg.length = 3) (hs : s ∈ sg) : ∃ a b, (sg.filter fun o => o != s) = [a, b] := by
  match sg, h3 with
  | [x, y, z], _ =>
    simp at hn hs
    rcases hs with rfl | rfl | rfl
    · have h1 : (y != s) = true := by simp; exact fun e => hn.1.1 e.symm
      have h2 : (z != s) = true := by simp; exact fun e => hn.1.2 e.symm
      exact ⟨y, z, by simp [List.filter_cons, h1, h2]⟩
    · have h1 : (x != s) = true := by simp; exact hn.1.1
      have h2 : (z != s) = true := by simp; exact fun e => hn.2 e.symm
      exact ⟨x, z, by simp [List.filter_cons, h1, h2]⟩
    · have h1 : (x != s) = true := by simp; exact hn.1.2
      have h2 : (y != s) = true := by simp; exact hn.2
      exact ⟨x, y, by simp [List.filter_cons, h1, h2]⟩

theorem math1 (k : Nat) (sg : List Nat) (hk : k < 5) (h3 : sg.length = 3) (hn : sg.Nodup) (hp : ∀ x ∈ sg, x ∈ pool0) : Math1 k sg where
  tried := fun s hs => by
    obtain ⟨a, b, hab⟩ := two_others hn h3 hs
    have ha : a ∈ sg ∧ a ≠ s := by have : a ∈ sg.filter fun o => o != s := by rw [hab]; simp
                                   simpa using List.mem_filter.mp this
    have hb : b ∈ sg ∧ b ≠ s := by have : b ∈ sg.filter fun o => o != s := by rw [hab]; simp
                                   simpa using List.mem_filter.mp this
    have hw : wr k [s] = code k s := by rw [wr_cons, wr_nil, List.append_nil]
    unfold fewS rowsOf
    refine tried_fewest k (code k s) (code_ne k s) (sg.filter fun o => o != s) (by rw [hab]; simp) _ (fun t => ?_) ?_
    · rw [hw]
      exact holes_iff _ _ (code_ne k s) (code_nodot k s (pool_nodot s (hp s hs)))
    · rw [hab]
      exact few_ok hk (hp a ha.1) (hp b hb.1)
  within := fun s hs o ho hne => within_eq k s o (pool_nodot o (hp o ho)) hne
  whole := fun part front hps hfs => whole_eq k part front fun c hc => pool_nodot c (hp c (hps c hc))
  held := fun part front hpe hps hfs => held_eq k hpe fun c hc => pool_nodot c (hp c (hps c hc))
  bare := fun part front hpe hps hfs h => by
    have h46 : ∀ c ∈ part, c ≠ 46 := fun c hc => pool_nodot c (hp c (hps c hc))
    rw [holes_iff _ _ (wr_ne hpe) (wr_nodot k h46)]
    exact wr_sub k ((holes_iff _ _ hpe h46).mp h)
  own := fun ho part front hpe hps hfs h => by
    have h46 : ∀ c ∈ part, c ≠ 46 := fun c hc => pool_nodot c (hp c (hps c hc))
    rw [holes_iff _ _ hpe h46]
    refine own_sub k (sg := sg) (fun s hs => ?_) part front hps hfs ((holes_iff _ _ (wr_ne hpe) (wr_nodot k h46)).mp h)
    unfold ownB at ho
    rw [List.all_eq_true] at ho
    have hnone : fewS k sg s = none := by simpa using ho s hs
    unfold fewS at hnone
    obtain ⟨x, hx, h2⟩ := fewest_none _ _ _ _ (Nat.le_refl _) hnone
    refine ⟨x, hx, fun o ho' hne => h2 _ ?_⟩
    unfold rowsOf
    exact List.mem_map.mpr ⟨o, List.mem_filter.mpr ⟨ho', by simpa using hne⟩, rfl⟩
  plain := fun form front => ellm_lies form front
  fits := fun items front his hfs h => by
    have h46 : ∀ c, some c ∈ items → c ≠ 46 := fun c hc => pool_nodot c (hp c (his c hc))
    rw [ellm_iff, split_wr k h46]
    rw [ellm_iff, split_items items h46] at h
    exact fits_wr k _ _ h
  apart := fun hap items front his hfs h => by
    have h46 : ∀ c, some c ∈ items → c ≠ 46 := fun c hc => pool_nodot c (hp c (his c hc))
    rw [ellm_iff, split_wr k h46] at h
    rw [ellm_iff, split_items items h46]
    refine apart_fits k (sg := sg) (fun s hs o ho hne => ?_) _ _ (pieces_mem his) hfs h
    unfold apartB at hap
    rw [List.all_eq_true] at hap
    have h1 := hap s hs
    rw [List.all_eq_true] at h1
    simpa using h1 o (List.mem_filter.mpr ⟨ho, by simpa using hne⟩)
end Mine

namespace Mine

def glO (mg mb : Str → Option Value) : Str → Option Value := fun x => (mg x).or (mb x)

section
variable {gl : Str → Option Value} {hG : Heap} {pr : Program} {r : Nat} {x : Str} {params : Arguments} {body : List Stmt} {scope : Scope} {names : List Str} {ds : List D} {d : D}

theorem Avail.of (Df : Def hG gl x params body scope) (hS : ScopeOk scope names) (hl : names.length = ds.length)
    (hb : ∀ pm cd doc vs, vs.length = names.length → bindArgs (Calls.docDef x params body scope pm cd doc) ⟨vs, []⟩ = pure (names.zip vs))
    (H : ∀ C' : Cx, C'.Ok gl r → Frm C' hG pr 0 x scope → Exs C' (env0 names ds) body (RetIs d)) : Avail gl hG pr (r + 1) x ds d := fun C K hp hk => by
  subst hp
  exact PN.fn Df K hk hS hl hb H
theorem Avail.of1 (Df : Def hG gl x params body scope) (hS : ScopeOk scope names) (hl : names.length = ds.length) (hne : names ≠ []) (hnc : ∀ y ∈ scope.names, y.2 ≠ .cell)
    (hb : ∀ pm cd doc vs, vs.length = names.length → bindArgs (Calls.docDef x params body scope pm cd doc) ⟨vs, []⟩ = pure (names.zip vs))
    (H : ∀ C' : Cx, C'.Ok gl r → Frm C' hG pr 1 x scope → Exs C' (env0 names ds) body (RetIs d)) : Avail gl hG pr (r + 1) x ds d := fun C K hp hk => by
  subst hp
  exact PN.fn1 Df K hk hS hl hne hnc hb H
end

/-- the top, as the walk wants it -/
structure Top1 (gl : Str → Option Value) (hG : Heap) : Prop where
  d2 : Def hG gl "_escape_cdata" (fArgs (stm 2)) (fBody (stm 2)) (fScope (stm 2))
  d3 : Def hG gl "_escape_attrib" (fArgs (stm 3)) (fBody (stm 3)) (fScope (stm 3))
  d4 : Def hG gl "_escape_attrib_html" (fArgs (stm 4)) (fBody (stm 4)) (fScope (stm 4))
  d5 : Def hG gl "_escape_cdata_c14n" (fArgs (stm 5)) (fBody (stm 5)) (fScope (stm 5))
  d6 : Def hG gl "_escape_attrib_c14n" (fArgs (stm 6)) (fBody (stm 6)) (fScope (stm 6))
  d9 : Def hG gl "_ellipsis_match" (fArgs (stm 9)) (fBody (stm 9)) (fScope (stm 9))
  d11 : Def hG gl "_law_write" (fArgs (stm 11)) (fBody (stm 11)) (fScope (stm 11))
  d12 : Def hG gl "_law_names" (fArgs (stm 12)) (fBody (stm 12)) (fScope (stm 12))
  d13 : Def hG gl "_law_holes" (fArgs (stm 13)) (fBody (stm 13)) (fScope (stm 13))
  d14 : Def hG gl "_law_through" (fArgs (stm 14)) (fBody (stm 14)) (fScope (stm 14))
  d15 : Def hG gl "_law_fewest" (fArgs (stm 15)) (fBody (stm 15)) (fScope (stm 15))
  d16 : Def hG gl "_law_lies" (fArgs (stm 16)) (fBody (stm 16)) (fScope (stm 16))
  d17 : Def hG gl "_law_tried" (fArgs (stm 17)) (fBody (stm 17)) (fScope (stm 17))
  em : ∃ t, gl "ELLIPSIS_MARKER" = some (.str "..." t)
  len : gl "len" = some (.builtin "len")
  range : gl "range" = some (.type "range")
  sum : gl "sum" = some (.builtin "sum")
  max : gl "max" = some (.builtin "max")
  list : gl "list" = some (.type "list")

theorem zip1 {vs : List Value} {a : Str} (h : vs.length = [a].length) : ∃ v, vs = [v] := by
  match vs, h with
  | [v], _ => exact ⟨v, rfl⟩
theorem zip2 {vs : List Value} {a b : Str} (h : vs.length = [a, b].length) : ∃ v u, vs = [v, u] := by
  match vs, h with
  | [v, u], _ => exact ⟨v, u, rfl⟩
theorem zip3 {vs : List Value} {a b c : Str} (h : vs.length = [a, b, c].length) : ∃ v u t, vs = [v, u, t] := by
  match vs, h with
  | [v, u, t], _ => exact ⟨v, u, t, rfl⟩

section
variable {gl : Str → Option Value} {hG : Heap} {pr : Program}
theorem Top1.esc (Y : Top1 gl hG) (r : Nat) (j : Nat) (hj : j < 5) (t : T) (ht : t.length ≤ 100000) : Avail gl hG pr (r + 1) ([("_escape_cdata" : Str), "_escape_attrib", "_escape_attrib_html", "_escape_cdata_c14n", "_escape_attrib_c14n"].getD j default) [.str t] (.str (wr j t)) := by
  match j, hj with
  | 0, _ => exact Avail.of1 (names := ["text"]) Y.d2 ⟨by decide, by decide, by decide, by decide, by decide, by decide⟩ rfl (by simp) (by decide) (fun pm cd doc vs h => by obtain ⟨v, rfl⟩ := zip1 h; rfl) fun C' K F => walk_esc0 K F t ht
  | 1, _ => exact Avail.of1 (names := ["text"]) Y.d3 ⟨by decide, by decide, by decide, by decide, by decide, by decide⟩ rfl (by simp) (by decide) (fun pm cd doc vs h => by obtain ⟨v, rfl⟩ := zip1 h; rfl) fun C' K F => walk_esc1 K F t ht
  | 2, _ => exact Avail.of1 (names := ["text"]) Y.d4 ⟨by decide, by decide, by decide, by decide, by decide, by decide⟩ rfl (by simp) (by decide) (fun pm cd doc vs h => by obtain ⟨v, rfl⟩ := zip1 h; rfl) fun C' K F => walk_esc2 K F t ht
  | 3, _ => exact Avail.of1 (names := ["text"]) Y.d5 ⟨by decide, by decide, by decide, by decide, by decide, by decide⟩ rfl (by simp) (by decide) (fun pm cd doc vs h => by obtain ⟨v, rfl⟩ := zip1 h; rfl) fun C' K F => walk_esc3 K F t ht
  | 4, _ => exact Avail.of1 (names := ["text"]) Y.d6 ⟨by decide, by decide, by decide, by decide, by decide, by decide⟩ rfl (by simp) (by decide) (fun pm cd doc vs h => by obtain ⟨v, rfl⟩ := zip1 h; rfl) fun C' K F => walk_esc4 K F t ht

theorem Top1.write (Y : Top1 gl hG) (r : Nat) (k : Nat) (t : T) (hk : k < 5) (ht : t.length ≤ 100000) : Avail gl hG pr (r + 2) "_law_write" [.int k, .str t] (.str (wr k t)) :=
  Avail.of (names := ["kind", "text"]) Y.d11 ⟨by decide, by decide, by decide, by decide, by decide, by decide⟩ rfl (fun pm cd doc vs h => by obtain ⟨v, u, rfl⟩ := zip2 h; rfl) fun C' K F => walk_write K F k hk t fun j fn hj hfn => by
    subst hfn
    exact Y.esc r j hj t ht C' K F.pr F.hG
theorem Top1.ell (Y : Top1 gl hG) (r : Nat) (a b : T) (ha : a.length ≤ 100000) (hb : b.length ≤ 100000) : Avail gl hG pr (r + 1) "_ellipsis_match" [.str a, .str b] (.bool (ellm a b)) :=
  Avail.of (names := ["want", "got"]) Y.d9 ⟨by decide, by decide, by decide, by decide, by decide, by decide⟩ rfl (fun pm cd doc vs h => by obtain ⟨v, u, rfl⟩ := zip2 h; rfl) fun C' K F => walk_ell K F Y.em Y.len a b ha hb
theorem Top1.names (Y : Top1 gl hG) (r : Nat) (k : Nat) (hk : k < 5) : Avail gl hG pr (r + 1) "_law_names" [.int k] (.dict (namesOf k)) :=
  Avail.of (names := ["kind"]) Y.d12 ⟨by decide, by decide, by decide, by decide, by decide, by decide⟩ rfl (fun pm cd doc vs h => by obtain ⟨v, rfl⟩ := zip1 h; rfl) fun C' K F => walk_names K F k hk
theorem Top1.holes (Y : Top1 gl hG) (r : Nat) (t : T) (ht : t.length ≤ 10000) : Avail gl hG pr (r + 1) "_law_holes" [.str t] (.str (holesL t)) :=
  Avail.of (names := ["letters"]) Y.d13 ⟨by decide, by decide, by decide, by decide, by decide, by decide⟩ rfl (fun pm cd doc vs h => by obtain ⟨v, rfl⟩ := zip1 h; rfl) fun C' K F => walk_holes K F t ht
theorem Top1.through (Y : Top1 gl hG) (r : Nat) (a b : T) (ha : a.length ≤ 100000) : Avail gl hG pr (r + 1) "_law_through" [.str a, .str b] (.int (through a b : Nat)) :=
  Avail.of (names := ["letters", "row"]) Y.d14 ⟨by decide, by decide, by decide, by decide, by decide, by decide⟩ rfl (fun pm cd doc vs h => by obtain ⟨v, u, rfl⟩ := zip2 h; rfl) fun C' K F => walk_through K F Y.len a b ha
theorem Top1.fewest (Y : Top1 gl hG) (r : Nat) (l : T) (rows : List T) (hl : l.length ≤ 100000) (hr : rows ≠ []) (hrl : rows.length ≤ 100000) : Avail gl hG pr (r + 2) "_law_fewest" [.str l, .list (rows.map .str)] (optN (fewest rows l.length l 0)) :=
  Avail.of (names := ["letters", "rows"]) Y.d15 ⟨by decide, by decide, by decide, by decide, by decide, by decide⟩ rfl (fun pm cd doc vs h => by obtain ⟨v, u, rfl⟩ := zip2 h; rfl) fun C' K F => walk_fewest K F Y.len Y.max l hl rows hr hrl fun a b ha => Y.through r a b ha
theorem Top1.lies (Y : Top1 gl hG) (r : Nat) (a b : T) (ha : a.length ≤ 100000) (hb : b.length ≤ 100000) : Avail gl hG pr (r + 1) "_law_lies" [.str a, .str b] (.bool (lies a b)) :=
  Avail.of (names := ["asked", "text"]) Y.d16 ⟨by decide, by decide, by decide, by decide, by decide, by decide⟩ rfl (fun pm cd doc vs h => by obtain ⟨v, u, rfl⟩ := zip2 h; rfl) fun C' K F => walk_lies K F Y.len Y.range a b ha hb
theorem Top1.tried (Y : Top1 gl hG) (r : Nat) (k : Nat) (sign : T) (others : List T) (hk : k < 5) (hs : sign.length ≤ 100) (ho : others.length ≤ 4) (hol : ∀ o ∈ others, o.length ≤ 4) : Avail gl hG pr (r + 3) "_law_tried" [.int k, .str sign, .list (others.map .str)] (optN (triedF (fun t => ellm (holesL (wr k sign)) (wr k t)) others 1 3 [[]])) :=
  Avail.of (names := ["kind", "sign", "others"]) Y.d17 ⟨by decide, by decide, by decide, by decide, by decide, by decide⟩ rfl (fun pm cd doc vs h => by obtain ⟨v, u, t, rfl⟩ := zip3 h; rfl) fun C' K F => walk_tried K F Y.range k sign others hs ho hol (fun t ht => Y.holes (r + 1) t ht) (fun t ht => Y.write r k t hk (by omega)) fun a b ha hb => Y.ell (r + 1) a b ha hb
theorem Top1.fns (Y : Top1 gl hG) : Fns gl hG pr 3 where
  len := Y.len
  range := Y.range
  sum := Y.sum
  list := Y.list
  names := fun k hk => Y.names 2 k hk
  write := fun k t hk ht => Y.write 1 k t hk (by omega)
  holes := fun t ht => Y.holes 2 t ht
  ell := fun a b ha hb => Y.ell 2 a b ha hb
  through := fun a b ha => Y.through 2 a b ha
  fewest := fun l rows hl hr hrl => Y.fewest 1 l rows hl hr hrl
  lies := fun a b ha hb => Y.lies 2 a b ha hb
  tried := fun k sign others hk hs ho hol => Y.tried 0 k sign others hk hs ho hol
end
end Mine

namespace Mine

theorem cells_are {cm : Str → Option Value} {h : Heap} {h0 : Heap} {L : Addr} : ∀ {cs : List (Str × Addr)} {cells : List (Addr × Obj)}, CellsAre cm cs cells → (∀ p ∈ cells, h.get? p.1 = some p.2) → ∀ n c, cs.lookup n = some c → h.IsCell c (cm n)
  | _, _, .nil, _, n, c, e => by simp at e
  | _, _, .cons (n := n') (c := c') (o := o) (cs := cs) ho X, N, n, c, e => by
    rw [List.lookup_cons] at e
    by_cases hn : n = n'
    · subst hn
      simp at e; subst e
      exact ⟨o, N (c', o) (by simp), ho⟩
    · have : (n == n') = false := by rw [beq_eq_false_iff_ne]; exact hn
      rw [this] at e
      exact cells_are (h0 := h0) (L := L) X (fun p hp => N p (List.mem_cons_of_mem _ hp)) n c e

/-- the law's own frame -/
theorem start {pr : Program} {w : World} {A : Around} {x : Str} {scope : Scope} {a : Addr} {cd : Value} {s : Shared} {h₁ : Heap} {tk : Nat} {cells : List (Addr × Obj)} {body : List Stmt} {names : List Str} {ds : List D} {vs : List Value} {Q : Flow → Shared → Prop} {E : Value → Shared → Prop} {gl : Str → Option Value} {r : Nat} {hG : Heap} {X : Addr → Prop}
    (hS : ScopeOk scope names) (hl : names.length = ds.length) (hX : ∀ a, X a → a < s.heap.objs.size) (rs : RpAll pr w s.heap X vs ds)
    (F : Fr s.heap s.heap.objs.size h₁ (bindL (envOfC x scope s.heap.objs.size a cd).kindOf (names.zip vs) fun _ => none)) (N0 : News s.heap s.heap.objs.size h₁ cells) (X0 : CellsAre (bindC (envOfC x scope s.heap.objs.size a cd).kindOf (names.zip vs) fun _ => none) (cellsFrom (s.heap.objs.size + 1) scope.names []) cells)
    (hand : A.handled = none) (depth : A.depth + (r + 1) < recursionLimit) (units : A.units + 3 * (r + 1) + 80 < cLine) (B : Base gl s.heap) (hkG : ∀ b o, hG.get? b = some o → s.heap.get? b = some o)
    (H : ∀ C' : Cx, C'.Ok gl r → Frm C' hG pr 0 x scope → Exs C' (env0 names ds) body (RetIs (.bool true)))
    (hQ : ∀ h' tk', (∀ b o, s.heap.get? b = some o → h'.get? b = some o) → Q (.ret (.bool true)) { s with heap := h', toks := tk' }) :
    wpAny (model pr w) (A.deeper (envOfC x scope s.heap.objs.size a cd)) (execs body (envOfC x scope s.heap.objs.size a cd)) Q E { s with heap := h₁, toks := tk } := by
  refine wpAny_mono (E := fun _ _ => False) ?_ (fun _ _ h => h) fun _ _ h => h.elim
  have S := enter_state (C := ⟨pr, w, A, envOfC x scope s.heap.objs.size a cd, s.heap, 0⟩) (hG := hG) (t0 := 0) (a := a) (cd := cd) (x := x) hS hl hX rs F (fun n c e => cells_are (h0 := s.heap) (L := s.heap.objs.size) X0 (fun p hp => (N0 p hp).1) n c e) (fun n c hc => by
    rcases cellsFrom_above _ _ _ _ hc with q | q
    · cases q
    · exact q) fun y v hy => ⟨fun _ e => e, fun _ e => e⟩
  have K : Cx.Ok ⟨pr, w, A, envOfC x scope s.heap.objs.size a cd, s.heap, 0⟩ gl (r + 1) := ⟨hS.kind, hand, depth, units, rfl, rfl, B, fun n c hc e => by
    rcases cellsFrom_above _ _ _ _ hc with q | q
    · cases q
    · have q : s.heap.objs.size + 1 ≤ c := q
      have e : c = s.heap.objs.size := e
      rw [e] at q; exact absurd q (Nat.not_succ_le_self _), Nat.le_refl _⟩
  have K' := enter_ok (x := x) (scope := scope) (s := s) (a := a) (cd := cd) (t0 := 0) K hS.kind fun b o e => e
  refine (H _ K' ⟨rfl, rfl, ⟨a, cd, rfl⟩, Nat.le_refl _, hkG⟩).run X [] { s with heap := h₁, toks := tk } Q (Nat.zero_le _) S ⟨fun σ' W' h' tk' hp _ S' m => ?_, fun d' v W' σ' h' tk' hp _ S' m rr => ?_⟩
  · exact absurd hp (by simp [RetIs])
  · have hp : d' = .bool true := hp
    subst hp
    cases rr
    exact hQ h' tk' S'.keep

theorem well_ints {pr : Program} {w : World} {h : Heap} {P : Params} : ∀ {vs : List Value} {ns : List Int}, IntsAre vs ns → RpAll pr w h (fun _ => False) vs (ns.map .int)
  | _, _, .nil => .nil
  | _, _, .cons n t h => .cons (.rint n t) (well_ints (P := P) h)
theorem well_script {pr : Program} {w : World} {h : Heap} {P : Params} {a : Addr} {vs : List Value} {ns : List Int} (W : Well P h (.ref a) (ofPy (.list (ns.map PyData.int)))) (hL : h.IsList a vs.toArray) (hI : IntsAre vs ns) : Rp pr w h (fun _ => False) (.ref a) (.list (ns.map .int)) := by
  have key : ∀ {d : WData}, Well P h (.ref a) d → (∃ xs, d = .list xs) → ∃ us : List Value, h.get? a = some { cls := .type "list", data := .seq us.toArray } := by
    rintro d Wd ⟨xs, rfl⟩
    cases Wd with | list hg _ => exact ⟨_, hg⟩
  obtain ⟨us, hu⟩ := key W ⟨_, rfl⟩
  obtain ⟨o, ho, _, n, hd⟩ := hL
  rw [hu] at ho; cases ho
  injection hd with hd
  have : us = vs := by simpa using congrArg Array.toList hd
  subst this
  exact .rlist (fun h => h) ⟨0, hu⟩ (well_ints (P := P) hI)

theorem def_of {mg mb : Str → Option Value} {N : Nat} {defs : List DefItem} {consts : List (Str × PyData)} {objs : List (Str × (Obj → Prop))} {names : List Str} {h : Heap} (G : Glob N mg mb defs consts objs names h) {x : Str} {params : Arguments} {body : List Stmt} {scope : Scope} {pos : Pos}
    (hf : defs.find? (fun e => decide (e.name = x)) = some ⟨x, params, body, scope, pos⟩) (hnd : params.defaults = []) : Def h (glO mg mb) x params body scope := by
  obtain ⟨a, c', o, pm, doc, _, _, h3, h4, h5, h6⟩ := (G.made _ (List.mem_of_find?_eq_some hf)).plain hnd
  exact ⟨a, c', o, pm, doc, by unfold glO; rw [h3]; rfl, h4, h5, h6⟩
theorem builtin_of {mg mb : Str → Option Value} {N : Nat} {defs : List DefItem} {consts : List (Str × PyData)} {objs : List (Str × (Obj → Prop))} {names : List Str} {h : Heap} (G : Glob N mg mb defs consts objs names h) {x : Str} {v : Value}
    (hv : bootBuiltins x = some v) (hfree : x ∉ names) (hboot : x ∉ bootMainNames) (hn : x ≠ "__name__") : glO mg mb x = some v := by
  unfold glO
  rw [G.free x hfree hboot, G.builtins x hn, hv]; rfl
theorem base_of {mg mb : Str → Option Value} {N : Nat} {defs : List DefItem} {consts : List (Str × PyData)} {objs : List (Str × (Obj → Prop))} {names : List Str} {h : Heap} (G : Glob N mg mb defs consts objs names h) : Base (glO mg mb) h :=
  ⟨⟨mg, mb, G.g, G.b, fun x v e => by
    unfold glO at e
    cases hm : mg x with
    | some u => rw [hm] at e; left; exact e
    | none => rw [hm] at e; right; exact ⟨rfl, e⟩⟩, G.nolimit⟩
theorem const_of {mg mb : Str → Option Value} {N : Nat} {defs : List DefItem} {consts : List (Str × PyData)} {objs : List (Str × (Obj → Prop))} {names : List Str} {h : Heap} (G : Glob N mg mb defs consts objs names h) {x y : Str} (hp : (x, PyData.str y) ∈ consts) : ∃ t, glO mg mb x = some (.str y t) := by
  obtain ⟨v, h1, h2⟩ := G.bound _ hp
  obtain ⟨t, rfl⟩ := h2.str
  exact ⟨t, by unfold glO; rw [h1]; rfl⟩
end Mine

set_option maxHeartbeats 8000000
namespace Mine
def fPos : Stmt → Pos
  | .FunctionDef _ _ _ _ _ _ _ _ _ p => p
  | _ => default
def keep : List Nat := [1,2,3,4,5,6,8,9,11,12,13,14,15,16,17,18]
def view : Program := { PySem.Challenge.pw_pg0150_01 with main := { PySem.Challenge.pw_pg0150_01.main with body := keep.filterMap fun i => PySem.Challenge.pw_pg0150_01.main.body[i]? } }
theorem left : LeftO PySem.Challenge.pw_pg0150_01 view [] (fun s => xlAt view [] s && recOk (RowW.records (OpenRow.toRowW PySem.Challenge.rw_pg0150_01.row)) s) (fun _ => ()) (fun _ => ()) 1062 := by
  intro w
  kernel_rfl
theorem fd2 : (List.map itemOf (recsOf view)).find? (fun e => decide (e.name = ("_escape_cdata" : Str))) = some ⟨"_escape_cdata", fArgs (stm 2), fBody (stm 2), fScope (stm 2), fPos (stm 2)⟩ := by kernel_rfl
theorem fd3 : (List.map itemOf (recsOf view)).find? (fun e => decide (e.name = ("_escape_attrib" : Str))) = some ⟨"_escape_attrib", fArgs (stm 3), fBody (stm 3), fScope (stm 3), fPos (stm 3)⟩ := by kernel_rfl
theorem fd4 : (List.map itemOf (recsOf view)).find? (fun e => decide (e.name = ("_escape_attrib_html" : Str))) = some ⟨"_escape_attrib_html", fArgs (stm 4), fBody (stm 4), fScope (stm 4), fPos (stm 4)⟩ := by kernel_rfl
theorem fd5 : (List.map itemOf (recsOf view)).find? (fun e => decide (e.name = ("_escape_cdata_c14n" : Str))) = some ⟨"_escape_cdata_c14n", fArgs (stm 5), fBody (stm 5), fScope (stm 5), fPos (stm 5)⟩ := by kernel_rfl
theorem fd6 : (List.map itemOf (recsOf view)).find? (fun e => decide (e.name = ("_escape_attrib_c14n" : Str))) = some ⟨"_escape_attrib_c14n", fArgs (stm 6), fBody (stm 6), fScope (stm 6), fPos (stm 6)⟩ := by kernel_rfl
theorem fd9 : (List.map itemOf (recsOf view)).find? (fun e => decide (e.name = ("_ellipsis_match" : Str))) = some ⟨"_ellipsis_match", fArgs (stm 9), fBody (stm 9), fScope (stm 9), fPos (stm 9)⟩ := by kernel_rfl
theorem fd11 : (List.map itemOf (recsOf view)).find? (fun e => decide (e.name = ("_law_write" : Str))) = some ⟨"_law_write", fArgs (stm 11), fBody (stm 11), fScope (stm 11), fPos (stm 11)⟩ := by kernel_rfl
theorem fd12 : (List.map itemOf (recsOf view)).find? (fun e => decide (e.name = ("_law_names" : Str))) = some ⟨"_law_names", fArgs (stm 12), fBody (stm 12), fScope (stm 12), fPos (stm 12)⟩ := by kernel_rfl
theorem fd13 : (List.map itemOf (recsOf view)).find? (fun e => decide (e.name = ("_law_holes" : Str))) = some ⟨"_law_holes", fArgs (stm 13), fBody (stm 13), fScope (stm 13), fPos (stm 13)⟩ := by kernel_rfl
theorem fd14 : (List.map itemOf (recsOf view)).find? (fun e => decide (e.name = ("_law_through" : Str))) = some ⟨"_law_through", fArgs (stm 14), fBody (stm 14), fScope (stm 14), fPos (stm 14)⟩ := by kernel_rfl
theorem fd15 : (List.map itemOf (recsOf view)).find? (fun e => decide (e.name = ("_law_fewest" : Str))) = some ⟨"_law_fewest", fArgs (stm 15), fBody (stm 15), fScope (stm 15), fPos (stm 15)⟩ := by kernel_rfl
theorem fd16 : (List.map itemOf (recsOf view)).find? (fun e => decide (e.name = ("_law_lies" : Str))) = some ⟨"_law_lies", fArgs (stm 16), fBody (stm 16), fScope (stm 16), fPos (stm 16)⟩ := by kernel_rfl
theorem fd17 : (List.map itemOf (recsOf view)).find? (fun e => decide (e.name = ("_law_tried" : Str))) = some ⟨"_law_tried", fArgs (stm 17), fBody (stm 17), fScope (stm 17), fPos (stm 17)⟩ := by kernel_rfl
theorem cm1 : (("ELLIPSIS_MARKER" : Str), PyData.str "...") ∈ (scalarsOf [] ++ constsW view) := by
  have : (scalarsOf [] ++ constsW view).head? = some (("ELLIPSIS_MARKER" : Str), PyData.str "...") := by kernel_rfl
  exact List.mem_of_mem_head? this
theorem nf_len : (("len" : Str)) ∉ namesW view [] := by decide +kernel
theorem nb_len : (("len" : Str)) ∉ bootMainNames := by decide +kernel
theorem nf_range : (("range" : Str)) ∉ namesW view [] := by decide +kernel
theorem nb_range : (("range" : Str)) ∉ bootMainNames := by decide +kernel
theorem nf_sum : (("sum" : Str)) ∉ namesW view [] := by decide +kernel
theorem nb_sum : (("sum" : Str)) ∉ bootMainNames := by decide +kernel
theorem nf_max : (("max" : Str)) ∉ namesW view [] := by decide +kernel
theorem nb_max : (("max" : Str)) ∉ bootMainNames := by decide +kernel
theorem nf_list : (("list" : Str)) ∉ namesW view [] := by decide +kernel
theorem nb_list : (("list" : Str)) ∉ bootMainNames := by decide +kernel
theorem top1 {mg mb : Str → Option Value} {h : Heap} (G : Glob 0 mg mb (List.map itemOf (recsOf view)) (scalarsOf [] ++ constsW view) [] (namesW view []) h) : Top1 (glO mg mb) h where
  d2 := def_of G fd2 rfl
  d3 := def_of G fd3 rfl
  d4 := def_of G fd4 rfl
  d5 := def_of G fd5 rfl
  d6 := def_of G fd6 rfl
  d9 := def_of G fd9 rfl
  d11 := def_of G fd11 rfl
  d12 := def_of G fd12 rfl
  d13 := def_of G fd13 rfl
  d14 := def_of G fd14 rfl
  d15 := def_of G fd15 rfl
  d16 := def_of G fd16 rfl
  d17 := def_of G fd17 rfl
  em := const_of G cm1
  len := builtin_of G (by rfl) nf_len nb_len (by decide)
  range := builtin_of G (by rfl) nf_range nb_range (by decide)
  sum := builtin_of G (by rfl) nf_sum nb_sum (by decide)
  max := builtin_of G (by rfl) nf_max nb_max (by decide)
  list := builtin_of G (by rfl) nf_list nb_list (by decide)

theorem holds (M : ∀ k sg, k < 5 → sg.length = 3 → sg.Nodup → (∀ x ∈ sg, x ∈ pool0) → Math1 k sg) : PySem.Challenge.rw_pg0150_01.Holds := by
  w_on
  o_law
  refine holds_open (q := view) (loose := []) (Xt := fun s => xlAt view [] s && recOk (RowW.records (OpenRow.toRowW PySem.Challenge.rw_pg0150_01.row)) s) (XP := XL view []) (Yf := fun _ => ()) (Ya := fun _ => ()) (YP := fun _ _ => True) (N := 1062) left (fun _ _ _ => trivial) (fun _ _ _ _ _ => trivial) (fun s e => xl_of s (Bool.and_eq_true_iff.mp e).1) XL.keeps (by rfl) (by rfl) (by rfl) (fun s e => recFacts_of (Bool.and_eq_true_iff.mp e).2) (by rfl) (by assumption) (by decide +kernel) ⟨rfl, rfl, rfl, rfl, rfl, by decide +kernel⟩ ?hw ?hc
  case hw => w_witness2
  intro w s0 s1 mg mb G Y fa o pm cd doc dV kV ho hd hcd hD hmg hg args vals as hpre hlay hrd hwl hlo
  w_strict k_behind G ho hd hcd hD hmg hpre hlay hrd hwl hlo cd
  rename_i X V GL T B TE TW w179 w181 M' w213 w215 ns hs hlay0 hL0 hr hl2 w1004 w1006 wa wvs w1725 hL ra W1 r0 hI hrw hc1 hc2 K0 h1 tk1 F o1 o2 o3 o4 o5 l1 l2 l3 l4 r5 N0 X0
  refine start (names := ["script"]) (ds := [.list (ns.map .int)]) (gl := glO mg mb) (r := 3) (hG := s1.heap) (X := fun _ => False) (vs := [Value.ref wa]) ⟨by rfl, by rfl, by rfl, by decide +kernel, by decide, by decide +kernel⟩ rfl (fun _ h => h.elim) (.cons (well_script W1 hL hI) .nil) F N0 X0 rfl (by decide) (by decide) (base_of GL) (fun _ _ e => e) (fun C' K' Fm => ?_) fun h' tk' hk => ?_
  · exact law_A K' Fm (top1 GL).fns M ns (by have := hc1; omega) _ rfl
  · refine ⟨.inl ⟨.bool true, .bool true, [], rfl, fun cls => ?_, ?_, ?_, ?_⟩, hk, rfl, hg⟩
    · rfl
    · exact .bool true
    · wrow_post
    · exact fun _ => ⟨.nil, fun a h => by cases h⟩
end Mine

set_option maxRecDepth 100000 in
set_option maxHeartbeats 8000000 in
theorem PySem.Challenge.cw_pg0150_01_holds : PySem.Challenge.rw_pg0150_01.Holds := by
  exact Mine.holds Mine.math1
