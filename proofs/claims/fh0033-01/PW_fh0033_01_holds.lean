import PyProof.Rows.All
import Wide.All
import OpenK.AllK
import Wide.FinOn
import PySem.Challenge.RW_fh0033_01
open PySem PySem.W PyProof.Rows
set_option Elab.async false
set_option maxRecDepth 100000
set_option maxHeartbeats 0
set_option linter.unusedVariables false
set_option linter.unusedSimpArgs false
local macro_rules | `(tactic| k_head) => `(tactic| z_head)

/-! HdZ -/
section
open PySem PySem.W PySem.W.X PyProof.Rows
namespace Mine
open_top hz for PySem.Challenge.rw_fh0033_01
end Mine

end
/-! HRun -/
section
open PySem PySem.W PySem.W.X PyProof.Rows
namespace Mine

/-! A runner of trees over a heap of slots: what is loaded is told by hints, what is known of a call by summaries. -/

inductive Ob where
  | a (x y : Nat)
  | c (x y : Code)
  | o (x y : Option Obj)
  | s (x y : List Code)
def Ob.ok : Ob → Prop
  | .a x y => x = y
  | .c x y => x = y
  | .o x y => x = y
  | .s x y => x = y
def Ob.swap : Ob → Ob
  | .a x y => .a y x
  | .c x y => .c y x
  | .o x y => .o y x
  | .s x y => .s y x

/-- what a call is known to do: its code, the objects that it needs, those that it changes, what it makes, its result -/
structure Sm where
  code : Code
  req : List (Nat × Obj)
  upd : Nat → Nat → List (Nat × Obj)
  new : Nat → Nat → List (Option Obj)
  res : Nat → Nat → Result
  tk : Nat
  d : Nat
  u : Nat
  dead : Bool := false
  st : List Code := []
  calm : Bool := false
  na0 : Nat := 0

abbrev Tab := List (Option Obj)
def nth : Tab → Nat → Option Obj
  | [], _ => none
  | a :: _, 0 => a
  | _ :: r, i + 1 => nth r i
def put : Tab → Nat → Obj → Tab
  | [], _, _ => []
  | _ :: r, 0, o => some o :: r
  | a :: r, i + 1, o => a :: put r i o
def app : Tab → List (Option Obj) → Tab
  | [], l => l
  | a :: r, l => a :: app r l
def len : Tab → Nat
  | [] => 0
  | _ :: r => len r + 1
def calmly (c : Bool) (hd : Option Value) : Bool := match c with
  | false => true
  | true => match hd with
    | none => true
    | some _ => false
def live : Tab → Bool
  | [] => false
  | _ :: _ => true
def codesOf : List (Code × Pos) → List Code
  | [] => []
  | x :: r => x.1 :: codesOf r
def puts : Tab → List (Nat × Obj) → Tab
  | T, [] => T
  | T, p :: r => puts (put T p.1 p.2) r
def reqs : Tab → List (Nat × Obj) → List Ob → List Ob
  | _, [], obs => obs
  | T, p :: r, obs => reqs T r (.o (nth T p.1) (some p.2) :: obs)

structure Cx where
  prog : Program
  P : Params
  kt : KT
  N : Nat
  t₀ : Nat
  ps : List Nat

def adrOf : List Nat → Nat → Nat → Nat
  | [], N, i => N + i
  | a :: _, _, 0 => a
  | _ :: r, N, i + 1 => adrOf r N i

inductive Out (α : Type) : Type where
  | bad (n : Nat)
  | done (r : Except Value α) (p : Pos) (h : Nat) (sm : List Sm) (T : Tab) (na tk : Nat) (obs : List Ob)

abbrev TreeTy := (α : Type) → Sem α → Code → Pos → List (Code × Pos) → Option Value → Nat → Nat → Nat → List Sm → Tab → Nat → Nat → List Ob → Out α
abbrev CodeTy := Code → Pos → List (Code × Pos) → Option Value → Nat → Nat → Nat → List Sm → Tab → Nat → Nat → List Ob → Out Flow

def entryEnv (self : Addr) (fd : FuncData) (args : Args) : Sem Env := do
  let compiled ← match fd.code with
    | .none => pure fd.qualname
    | c => do match ← field c 1 with
      | .str q _ => pure q
      | _ => pure fd.qualname
  newFunctionEnv fd.scope fd.globals fd.closure (← bindArgs fd args) (compiled ++ ".<locals>.") (some self) fd.code none fd.builtins
def bodyCode (fd : FuncData) (env : Env) : Code := match fd.body with
  | .stmts b => .func b env
  | .expr e => .expr e env
/-- a function's entry, but for the look at the depth -/
def enterTree (self : Addr) (fd : FuncData) (args : Args) : Sem Fin := do
  let env ← entryEnv self fd args
  pure (.again (bodyCode fd env))

def treeStep (C : Cx) (iht : TreeTy) (ihc : CodeTy) : TreeTy := fun α t cur p bl hd d u h sm T na tk obs => match t with
  | .pure a => .done (.ok a) p h sm T na tk obs
  | .raise e => .done (.error e) p h sm T na tk obs
  | .rule _ k => iht α (k ()) cur p bl hd d u h sm T na tk obs
  | .at p' k => iht α (k ()) cur p' bl hd d u h sm T na tk obs
  | .point _ k => iht α (k ()) cur p bl hd d u h sm T na tk obs
  | .ask k => iht α (k ⟨C.prog, C.P⟩) cur p bl hd d u h sm T na tk obs
  | .fresh k => match live T with
    | false => .bad 60
    | true => iht α (k (C.t₀ + tk)) cur p bl hd d u h sm T na (tk + 1) obs
  | .handled own k => match own with
    | false => iht α (k hd) cur p bl hd d u h sm T na tk obs
    | true => .bad 1
  | .stack k => iht α (k ((cur, p) :: bl)) cur p bl hd d u h sm T na tk obs
  | .load a _ k => match h % 64 with
    | 0 => match live T with
      | false => .bad 61
      | true => match C.kt.get a with
        | some o => iht α (k o) cur p bl hd d u (h / 64) sm T na tk obs
        | none => .bad 2
    | i + 1 => match nth T i with
      | some o => iht α (k o) cur p bl hd d u (h / 64) sm T na tk (.a a (adrOf C.ps C.N i) :: obs)
      | none => .bad 3
  | .loadIfAlive a k => match h % 64 with
    | 0 => match live T with
      | false => .bad 62
      | true => match C.kt.get a with
        | some o => iht α (k (some o)) cur p bl hd d u (h / 64) sm T na tk obs
        | none => .bad 4
    | i + 1 => match nth T i with
      | some o => iht α (k (some o)) cur p bl hd d u (h / 64) sm T na tk (.a a (adrOf C.ps C.N i) :: obs)
      | none => .bad 5
  | .alloc o k => match o.isFreed with
    | true => .bad 6
    | false => match live T with
      | false => .bad 63
      | true => iht α (k (C.N + na)) cur p bl hd d u h sm (app T [some o]) (na + 1) tk obs
  | .update a _ f k => match h % 64 with
    | 0 => .bad 7
    | i + 1 => match nth T i with
      | some o => match (f o).isFreed with
        | true => .bad 8
        | false => iht α (k ()) cur p bl hd d u (h / 64) sm (put T i (f o)) na tk (.a a (adrOf C.ps C.N i) :: obs)
      | none => .bad 9
  | .call c hd' _ _ k => match okMark hd' with
    | false => .bad 10
    | true => match ihc c p ((cur, p) :: bl) (hd'.or hd) d u h sm T na tk obs with
      | .bad n => .bad n
      | .done r _ h sm T na tk obs => iht α (k r) cur p bl hd d u h sm T na tk obs
  | .unsupported _ => .bad 11
  | .finish _ => .bad 12
  | .register .. => .bad 13
  | .choose .. => .bad 14
  | .os .. => .bad 15
  | .newGen .. => .bad 16
  | .genState .. => .bad 17
  | .resume .. => .bad 18
  | .yield .. => .bad 19
  | .fork .. => .bad 20
  | .thread _ => .bad 21
  | .await .. => .bad 22

def behind (ihc : CodeTy) (bl : List (Code × Pos)) (hd : Option Value) (d u : Nat) : Out Fin → Out Flow
  | .bad n => .bad n
  | .done r p h sm T na tk obs => match r with
    | .ok fin => match fin with
      | .done f => .done (.ok f) p h sm T na tk obs
      | .again c => match c.quiet with
        | true => ihc c p bl hd d u h sm T na tk obs
        | false => .bad 31
    | .error e => .done (.error e) p h sm T na tk obs

def codeStep (C : Cx) (iht : TreeTy) (ihc : CodeTy) : CodeTy := fun c p bl hd d u h sm T na tk obs => match h % 64 with
  | 0 => behind ihc bl hd d u (iht Fin (denote table c) c p bl hd (d + c.weight) (u + c.cUnits) (h / 64) sm T na tk obs)
  | 1 => match sm with
    | [] => .bad 32
    | m :: sm => match Nat.ble d m.d with
      | false => .bad 33
      | true => match Nat.ble u m.u with
        | false => .bad 34
        | true => match live T with
          | false => .bad 64
          | true => match calmly m.calm hd with
           | false => .bad 68
           | true => match m.dead with
            | false => .done (m.res na tk) p (h / 64) sm (app (puts T (m.upd na tk)) (m.new na tk)) (na + len (m.new na tk)) (tk + m.tk) (reqs T m.req (.c c m.code :: obs))
            | true => match hd with
              | some _ => .bad 65
              | none => .done (m.res na tk) p (h / 64) sm [] na tk (reqs T m.req (.a na m.na0 :: .s (codesOf bl) m.st :: .c c m.code :: obs))
  | _ => match c with
    | .call f args => match f with
      | .ref a => match live T with
       | false => .bad 66
       | true => match C.kt.get a with
        | some o => match o.data with
          | .func fd => match fd.scope.isGenerator with
            | false => match fd.scope.isCoroutine with
              | false => match Nat.blt d 90 with
                | true => behind ihc bl hd d u (iht Fin (enterTree a fd args) c p bl hd (d + c.weight) (u + c.cUnits) (h / 64) sm T na tk obs)
                | false => .bad 35
              | true => .bad 36
            | true => .bad 36
          | _ => .bad 37
        | none => .bad 38
      | _ => .bad 39
    | _ => .bad 40

structure Pair where
  t : TreeTy
  c : CodeTy
def run (C : Cx) : Nat → Pair
  | 0 => ⟨fun _ _ _ _ _ _ _ _ _ _ _ _ _ _ => .bad 50, fun _ _ _ _ _ _ _ _ _ _ _ _ => .bad 51⟩
  | n + 1 => ⟨treeStep C (run C n).t (run C n).c, codeStep C (run C n).t (run C n).c⟩

/-! Facts of tables and addresses -/
theorem nth_app (T l : Tab) : ∀ i, nth (app T l) i = if i < len T then nth T i else nth l (i - len T) := by
  induction T with
  | nil => intro i; simp [app, len]
  | cons a r ih =>
    intro i
    cases i with
    | zero => simp [app, len, nth]
    | succ i => simp only [app, len, nth, ih]; by_cases h : i < len r <;> simp [h]
theorem nth_none (T : Tab) : ∀ i, len T ≤ i → nth T i = none := by
  induction T with
  | nil => intro i _; rfl
  | cons a r ih =>
    intro i h
    cases i with
    | zero => simp [len] at h
    | succ i => exact ih i (by simp [len] at h; omega)
theorem nth_lt {T : Tab} {i : Nat} {o : Obj} (e : nth T i = some o) : i < len T := by
  apply Nat.lt_of_not_le
  intro h
  rw [nth_none T i h] at e; cases e
theorem len_app (T l : Tab) : len (app T l) = len T + len l := by
  induction T with
  | nil => simp [app, len]
  | cons a r ih => simp [app, len, ih]; omega
theorem len_put (T : Tab) (o : Obj) : ∀ i, len (put T i o) = len T := by
  induction T with
  | nil => intro i; rfl
  | cons a r ih => intro i; cases i with
    | zero => rfl
    | succ i => simp [put, len, ih]
theorem nth_put (T : Tab) (o : Obj) : ∀ i j, nth (put T i o) j = if j = i then (if i < len T then some o else none) else nth T j := by
  induction T with
  | nil => intro i j; simp [put, nth, len]
  | cons a r ih =>
    intro i j
    cases i with
    | zero => cases j with
      | zero => simp [put, nth, len]
      | succ j => simp [put, nth]
    | succ i => cases j with
      | zero => simp [put, nth]
      | succ j => simp only [put, nth, ih, len]; by_cases h : j = i <;> simp [h]
theorem adrOf_old : ∀ (ps : List Nat) (N i : Nat) (h : i < ps.length), adrOf ps N i = ps[i]
  | [], _, _, h => nomatch h
  | _ :: _, _, 0, _ => rfl
  | _ :: r, N, i + 1, h => by
    show adrOf r N i = r[i]'(by simpa using h)
    exact adrOf_old r N i (by simpa using h)
theorem adrOf_new : ∀ (ps : List Nat) (N i : Nat), ps.length ≤ i → adrOf ps N i = N + (i - ps.length)
  | [], _, _, _ => rfl
  | _ :: _, _, 0, h => by simp at h
  | a :: r, N, i + 1, h => by
    show adrOf r N i = N + (i + 1 - (r.length + 1))
    rw [adrOf_new r N i (by simpa using h)]
    omega

/-- what the runner's state says of a heap; s₀ is where the run began -/
structure Rep (C : Cx) (s₀ : Shared) (T : Tab) (na tk : Nat) (s : Shared) : Prop where
  size : s.heap.objs.size = C.N + na
  len : len T = C.ps.length + na
  own : ∀ i o, nth T i = some o → s.heap.get? (adrOf C.ps C.N i) = some o
  top : ∀ b o, C.kt.get b = some o → s.heap.get? b = some o
  keep : ∀ b o, s₀.heap.get? b = some o → b ∉ C.ps → s.heap.get? b = some o
  toks : s.toks = C.t₀ + tk
  gens : s.gens = s₀.gens
  drawn : s.drawn = s₀.drawn
  os : s.os = s₀.os

structure WF (C : Cx) (s₀ : Shared) : Prop where
  size : s₀.heap.objs.size = C.N
  below : ∀ p ∈ C.ps, p < C.N
  nodup : C.ps.Nodup
  top : ∀ b o, C.kt.get b = some o → s₀.heap.get? b = some o
  apart : ∀ b o, C.kt.get b = some o → b ∉ C.ps
  nolim : ∀ h : Heap, (∀ b o, C.kt.get b = some o → h.get? b = some o) → h.NoLimit

theorem adr_inj {C : Cx} {s₀ : Shared} (W : WF C s₀) {i j : Nat} (e : adrOf C.ps C.N i = adrOf C.ps C.N j) : i = j := by
  by_cases hi : i < C.ps.length
  · rw [adrOf_old _ _ _ hi] at e
    by_cases hj : j < C.ps.length
    · rw [adrOf_old _ _ _ hj] at e
      exact (List.getElem_inj W.nodup).mp e
    · rw [adrOf_new _ _ _ (Nat.le_of_not_lt hj)] at e
      have := W.below _ (List.getElem_mem hi)
      omega
  · rw [adrOf_new _ _ _ (Nat.le_of_not_lt hi)] at e
    by_cases hj : j < C.ps.length
    · rw [adrOf_old _ _ _ hj] at e
      have := W.below _ (List.getElem_mem hj)
      omega
    · rw [adrOf_new _ _ _ (Nat.le_of_not_lt hj)] at e
      omega
theorem adr_mem {C : Cx} {b : Nat} (hb : b < C.N) {i : Nat} (e : adrOf C.ps C.N i = b) : b ∈ C.ps := by
  by_cases hi : i < C.ps.length
  · rw [adrOf_old _ _ _ hi] at e
    rw [← e]; exact List.getElem_mem hi
  · rw [adrOf_new _ _ _ (Nat.le_of_not_lt hi)] at e
    omega

section
variable {C : Cx} {s₀ s : Shared} {T : Tab} {na tk : Nat}
theorem Rep.alloc (D : Rep C s₀ T na tk s) {o : Obj} (hf : o.isFreed = false) : Rep C s₀ (app T [some o]) (na + 1) tk { s with heap := s.heap.push o } := by
  refine ⟨?_, ?_, fun i o' e => ?_, fun b o' e => Heap.get?_push_of_some _ (D.top b o' e), fun b o' e n => Heap.get?_push_of_some _ (D.keep b o' e n), D.toks, D.gens, D.drawn, D.os⟩
  · show (s.heap.push o).objs.size = _
    rw [Heap.size_push, D.size, Nat.add_assoc]
  · rw [len_app, D.len]; rfl
  · rw [nth_app] at e
    by_cases h : i < Mine.len T
    · rw [if_pos h] at e
      exact Heap.get?_push_of_some _ (D.own i o' e)
    · rw [if_neg h] at e
      have hi : i = Mine.len T := by
        cases q : i - Mine.len T with
        | zero => omega
        | succ n => rw [q] at e; simp [nth] at e
      have hz : i - Mine.len T = 0 := by omega
      rw [hz] at e
      simp only [nth, Option.some.injEq] at e
      subst e
      have ha : adrOf C.ps C.N i = s.heap.objs.size := by
        rw [hi, D.len, adrOf_new _ _ _ (Nat.le_add_right _ _), D.size]
        omega
      rw [ha]
      exact Heap.get?_push_size _ hf
theorem Rep.update (W : WF C s₀) (D : Rep C s₀ T na tk s) {i : Nat} {o : Obj} {f : Obj → Obj} (e : nth T i = some o) (hf : (f o).isFreed = false) :
    Rep C s₀ (put T i (f o)) na tk { s with heap := s.heap.update (adrOf C.ps C.N i) f } := by
  have ho := D.own i o e
  have hs : Heap.SameBut (adrOf C.ps C.N i) s.heap (s.heap.update (adrOf C.ps C.N i) f) := Heap.SameBut.update ..
  have ge : (s.heap.update (adrOf C.ps C.N i) f).get? (adrOf C.ps C.N i) = some (f o) := by first | exact Heap.get?_update_self f ho hf | exact Heap.get?_update_self _ ho hf
  have off : ∀ b o', s₀.heap.get? b = some o' → b ∉ C.ps → b ≠ adrOf C.ps C.N i := by
    intro b o' hb n z
    exact n (adr_mem (by have := Heap.lt_size hb; rw [W.size] at this; exact this) z.symm)
  refine ⟨?_, ?_, fun j o' e' => ?_, fun b o' e' => ?_, fun b o' e' n => ?_, D.toks, D.gens, D.drawn, D.os⟩
  · show (s.heap.update _ f).objs.size = _
    rw [hs.1, D.size]
  · rw [len_put, D.len]
  · rw [nth_put] at e'
    by_cases h : j = i
    · subst h
      rw [if_pos rfl, if_pos (nth_lt e)] at e'
      cases e'
      exact ge
    · rw [if_neg h] at e'
      exact (hs.2 _ fun z => h (adr_inj W z)).trans (D.own j o' e')
  · exact (hs.2 b (off b o' (W.top b o' e') (W.apart b o' e'))).trans (D.top b o' e')
  · exact (hs.2 b (off b o' e' n)).trans (D.keep b o' e' n)
theorem Rep.start (W : WF C s₀) {T : Tab} (hl : Mine.len T = C.ps.length) (ht : C.t₀ = s₀.toks) (h : ∀ i o, nth T i = some o → s₀.heap.get? (adrOf C.ps C.N i) = some o) : Rep C s₀ T 0 0 s₀ :=
  ⟨W.size, hl, h, W.top, fun _ _ e _ => e, by rw [ht]; rfl, rfl, rfl, rfl⟩
end

/-- a summary holds -/
def SmOk (C : Cx) (w : World) (s₀ : Shared) (D U : Nat) (m : Sm) : Prop := ∀ A s T na tk, (A.depth ≤ D + m.d ∧ (m.calm = true → A.handled = none)) → A.units ≤ U + m.u → Rep C s₀ T na tk s → (∀ p ∈ m.req, nth T p.1 = some p.2) →
  codeAny (model C.prog w) A m.code (fun r s' => r = m.res na tk ∧ Rep C s₀ (app (puts T (m.upd na tk)) (m.new na tk)) (na + len (m.new na tk)) (tk + m.tk) s') s

def SmDead (C : Cx) (w : World) (s₀ : Shared) (D U : Nat) (X : Shared → Prop) (m : Sm) : Prop := ∀ (Γ : Ctx) p s T na tk, Γ.code = m.code → Γ.handled = none → na = m.na0 → codesOf Γ.below = m.st → frameCount Γ.below ≤ D + m.d → unitsOf Γ.below ≤ U + m.u → Rep C s₀ T na tk s →
  (∀ p ∈ m.req, nth T p.1 = some p.2) → wpCode (model C.prog w) Γ (fun r s' => r = m.res na tk ∧ X s') p s
def SmOkX (C : Cx) (w : World) (s₀ : Shared) (D U : Nat) (X : Shared → Prop) (m : Sm) : Prop := match m.dead with
  | false => SmOk C w s₀ D U m
  | true => SmDead C w s₀ D U X m
def RepX (C : Cx) (s₀ : Shared) (X : Shared → Prop) (T : Tab) (na tk : Nat) (s : Shared) : Prop := match live T with
  | true => Rep C s₀ T na tk s
  | false => X s
theorem RepX.get {C : Cx} {s₀ : Shared} {X : Shared → Prop} {T : Tab} {na tk : Nat} {s : Shared} (R : RepX C s₀ X T na tk s) (h : live T = true) : Rep C s₀ T na tk s := by
  unfold RepX at R
  rw [h] at R
  exact R
theorem RepX.mk {C : Cx} {s₀ : Shared} {X : Shared → Prop} {T : Tab} {na tk : Nat} {s : Shared} (R : Rep C s₀ T na tk s) (h : live T = true) : RepX C s₀ X T na tk s := by
  unfold RepX
  rw [h]
  exact R
theorem live_app {T l : Tab} (h : live T = true) : live (app T l) = true := by
  cases T with
  | nil => cases h
  | cons a r => rfl
theorem live_put {T : Tab} {i : Nat} {o : Obj} (h : live T = true) : live (put T i o) = true := by
  cases T with
  | nil => cases h
  | cons a r => cases i <;> rfl
theorem live_puts : ∀ (l : List (Nat × Obj)) {T : Tab}, live T = true → live (puts T l) = true
  | [], _, h => h
  | p :: r, _, h => live_puts r (live_put h)
theorem live_nth {T : Tab} {i : Nat} {o : Obj} (e : nth T i = some o) : live T = true := by
  cases T with
  | nil => cases i <;> cases e
  | cons a r => rfl

/-! the obligations only grow, the summaries only shrink -/
structure Grow {α : Type} (sm : List Sm) (obs : List Ob) (x : Out α) : Prop where
  mk :: (prf : ∀ r p h sm' T na tk obs', x = .done r p h sm' T na tk obs' → (∀ ob ∈ obs, ob ∈ obs') ∧ ∀ m ∈ sm', m ∈ sm)
theorem Grow.bad {α : Type} {sm : List Sm} {obs : List Ob} {n : Nat} : Grow sm obs (Out.bad n : Out α) := ⟨fun _ _ _ _ _ _ _ _ e => nomatch e⟩
theorem Grow.done {α : Type} {sm : List Sm} {obs : List Ob} {r : Except Value α} {p h T na tk} : Grow sm obs (Out.done r p h sm T na tk obs) := ⟨fun _ _ _ _ _ _ _ _ e => by cases e; exact ⟨fun _ h => h, fun _ h => h⟩⟩
theorem Grow.more {α : Type} {sm : List Sm} {obs : List Ob} {ob : Ob} {x : Out α} (g : Grow sm (ob :: obs) x) : Grow sm obs x := ⟨fun r p h sm' T na tk obs' e => let ⟨a, b⟩ := g.prf r p h sm' T na tk obs' e; ⟨fun o ho => a o (.tail _ ho), b⟩⟩
theorem reqs_mem : ∀ (l : List (Nat × Obj)) (T : Tab) (obs : List Ob), (∀ ob ∈ obs, ob ∈ reqs T l obs) ∧ ∀ p ∈ l, Ob.o (nth T p.1) (some p.2) ∈ reqs T l obs
  | [], _, _ => ⟨fun _ h => h, fun _ h => nomatch h⟩
  | p :: r, T, obs => by
    have ih := reqs_mem r T (.o (nth T p.1) (some p.2) :: obs)
    refine ⟨fun ob h => ih.1 ob (.tail _ h), fun q hq => ?_⟩
    rcases List.mem_cons.mp hq with rfl | hq
    · exact ih.1 _ (.head _)
    · exact ih.2 q hq
def GrowT (t : TreeTy) : Prop := ∀ α x cur p bl hd d u h sm T na tk obs, Grow sm obs (t α x cur p bl hd d u h sm T na tk obs)
def GrowC (c : CodeTy) : Prop := ∀ x p bl hd d u h sm T na tk obs, Grow sm obs (c x p bl hd d u h sm T na tk obs)
theorem Grow.then {α β : Type} {sm : List Sm} {obs : List Ob} {x : Out α} (g : Grow sm obs x) {f : Out α → Out β} (hb : ∀ n, f (.bad n) = .bad n)
    (hd : ∀ r p h sm' T na tk obs', Grow sm' obs' (f (.done r p h sm' T na tk obs'))) : Grow sm obs (f x) := by
  cases x with
  | bad n => rw [hb]; exact .bad
  | done r p h sm' T na tk obs' =>
    have ⟨a, b⟩ := g.prf _ _ _ _ _ _ _ _ rfl
    exact ⟨fun r2 p2 h2 sm2 T2 na2 tk2 obs2 e => let ⟨a', b'⟩ := (hd r p h sm' T na tk obs').prf _ _ _ _ _ _ _ _ e; ⟨fun ob ho => a' ob (a ob ho), fun m hm => b m (b' m hm)⟩⟩
theorem growT {C : Cx} {t : TreeTy} {c : CodeTy} (ht : GrowT t) (hc : GrowC c) : GrowT (treeStep C t c) := by
  intro α x cur p bl hd d u h sm T na tk obs
  cases x <;> simp only [treeStep] <;> (repeat' split) <;> first
    | exact .bad
    | exact .done
    | exact ht ..
    | exact (ht ..).more
    | skip
  rename_i e
  have g := (hc _ _ _ _ _ _ _ _ _ _ _ _).prf _ _ _ _ _ _ _ _ e
  exact ⟨fun r2 p2 h2 sm2 T2 na2 tk2 obs2 e2 => let ⟨a', b'⟩ := (ht ..).prf _ _ _ _ _ _ _ _ e2; ⟨fun ob ho => a' ob (g.1 ob ho), fun m hm => g.2 m (b' m hm)⟩⟩
theorem growB {c : CodeTy} (hc : GrowC c) {bl hd d u sm obs} {x : Out Fin} (g : Grow sm obs x) : Grow sm obs (behind c bl hd d u x) := by
  refine g.then (f := behind c bl hd d u) (fun _ => rfl) fun r p h sm' T na tk obs' => ?_
  cases r with
  | error e => exact .done
  | ok fin => cases fin with
    | done f => exact .done
    | again c' =>
      show Grow sm' obs' (match c'.quiet with | true => c c' p bl hd d u h sm' T na tk obs' | false => .bad 31)
      cases c'.quiet with
      | true => exact hc ..
      | false => exact .bad
theorem growC {C : Cx} {t : TreeTy} {c : CodeTy} (ht : GrowT t) (hc : GrowC c) : GrowC (codeStep C t c) := by
  intro x p bl hd d u h sm T na tk obs
  unfold codeStep
  split
  · exact growB hc (ht ..)
  · split
    · exact .bad
    · rename_i m sm
      split
      · exact .bad
      · split
        · exact .bad
        · split
          · exact .bad
          split
          · exact .bad
          · split
            · have g : Grow sm (reqs T m.req (.c x m.code :: obs)) (.done (m.res na tk) p (h / 64) sm (app (puts T (m.upd na tk)) (m.new na tk)) (na + len (m.new na tk)) (tk + m.tk) (reqs T m.req (.c x m.code :: obs))) := .done
              exact ⟨fun r2 p2 h2 sm2 T2 na2 tk2 obs2 e2 => let ⟨a', b'⟩ := g.prf _ _ _ _ _ _ _ _ e2; ⟨fun ob ho => a' ob ((reqs_mem _ _ _).1 ob (.tail _ ho)), fun m' hm => .tail _ (b' m' hm)⟩⟩
            · split
              · exact .bad
              · have g : Grow sm (reqs T m.req (.a na m.na0 :: .s (codesOf bl) m.st :: .c x m.code :: obs)) (.done (m.res na tk) p (h / 64) sm [] na tk (reqs T m.req (.a na m.na0 :: .s (codesOf bl) m.st :: .c x m.code :: obs))) := .done
                exact ⟨fun r2 p2 h2 sm2 T2 na2 tk2 obs2 e2 => let ⟨a', b'⟩ := g.prf _ _ _ _ _ _ _ _ e2; ⟨fun ob ho => a' ob ((reqs_mem _ _ _).1 ob (.tail _ (.tail _ (.tail _ ho)))), fun m' hm => .tail _ (b' m' hm)⟩⟩
  · (repeat' split) <;> first
      | exact .bad
      | exact growB hc (ht ..)
theorem grow (C : Cx) : ∀ n, GrowT (run C n).t ∧ GrowC (run C n).c
  | 0 => ⟨fun _ _ _ _ _ _ _ _ _ _ _ _ _ _ => .bad, fun _ _ _ _ _ _ _ _ _ _ _ _ => .bad⟩
  | n + 1 => ⟨growT (grow C n).1 (grow C n).2, growC (grow C n).1 (grow C n).2⟩

/-! soundness -/
def Done {α : Type} (C : Cx) (s₀ : Shared) (X : Shared → Prop) (x : Out α) (P : Except Value α → Pos → Shared → Prop) : Prop :=
  ∃ r p h sm T na tk obs, x = .done r p h sm T na tk obs ∧ (∀ ob ∈ obs, ob.ok) ∧ ∀ s', RepX C s₀ X T na tk s' → P r p s'
def sideOf {α : Type} (Q : α → Pos → Shared → Prop) (E : Value → Pos → Shared → Prop) : Except Value α → Pos → Shared → Prop
  | .ok a, p, s => Q a p s
  | .error e, p, s => E e p s
theorem Done.bad {α : Type} {C : Cx} {s₀ : Shared} {X : Shared → Prop} {n : Nat} {P : Except Value α → Pos → Shared → Prop} (H : Done C s₀ X (.bad n) P) : False := by
  obtain ⟨_, _, _, _, _, _, _, _, e, _⟩ := H
  cases e
theorem Done.fin {α : Type} {C : Cx} {s₀ : Shared} {X : Shared → Prop} {P : Except Value α → Pos → Shared → Prop} {r p h sm T na tk obs} (H : Done C s₀ X (.done r p h sm T na tk obs) P) : ∀ s', RepX C s₀ X T na tk s' → P r p s' := by
  obtain ⟨_, _, _, _, _, _, _, _, e, _, k⟩ := H
  cases e
  exact k
def TreeOk (C : Cx) (w : World) (s₀ : Shared) (D U : Nat) (X : Shared → Prop) (t : TreeTy) : Prop := ∀ α (x : Sem α) (Γ : Ctx) p d u h sm T na tk obs s Q E,
  frameCount Γ.below + Γ.code.weight ≤ D + d → Γ.units ≤ U + u → RepX C s₀ X T na tk s → (∀ m ∈ sm, SmOkX C w s₀ D U X m) →
  Done C s₀ X (t α x Γ.code p Γ.below Γ.handled d u h sm T na tk obs) (sideOf Q E) → Sem.wp (model C.prog w) Γ x Q E p s
def CodeOk (C : Cx) (w : World) (s₀ : Shared) (D U : Nat) (X : Shared → Prop) (c : CodeTy) : Prop := ∀ (Γ : Ctx) p d u h sm T na tk obs s R,
  frameCount Γ.below ≤ D + d → unitsOf Γ.below ≤ U + u → RepX C s₀ X T na tk s → (∀ m ∈ sm, SmOkX C w s₀ D U X m) →
  Done C s₀ X (c Γ.code p Γ.below Γ.handled d u h sm T na tk obs) (fun r _ s' => R r s') → wpCode (model C.prog w) Γ R p s

theorem obs_of {α : Type} {C : Cx} {s₀ : Shared} {X : Shared → Prop} {x : Out α} {P : Except Value α → Pos → Shared → Prop} {sm obs} (H : Done C s₀ X x P) (g : Grow sm obs x) : ∀ ob ∈ obs, ob.ok := by
  obtain ⟨_, _, _, _, _, _, _, _, e, k, _⟩ := H
  exact fun ob ho => k ob ((g.prf _ _ _ _ _ _ _ _ e).1 ob ho)

theorem okMark_ne {hd : Option Value} (h : okMark hd = true) : hd ≠ some byPass := by
  intro e
  subst e
  simp [okMark] at h

theorem treeOk {C : Cx} {w : World} {s₀ : Shared} {D U : Nat} {X : Shared → Prop} (W : WF C s₀) (hP : C.P = w.params) {t : TreeTy} {c : CodeTy} (gt : GrowT t) (gc : GrowC c) (ht : TreeOk C w s₀ D U X t) (hc : CodeOk C w s₀ D U X c) :
    TreeOk C w s₀ D U X (treeStep C t c) := by
  intro α x Γ p d u h sm T na tk obs s Q E hd hu R hs H
  cases x with
  | pure a => exact H.fin s R
  | raise e => exact H.fin s R
  | rule tag k =>
    rw [Sem.wp_rule]
    exact ht _ _ _ _ _ _ _ _ _ _ _ _ _ _ _ hd hu R hs H
  | «at» q k =>
    rw [Sem.wp_at]
    exact ht _ _ _ _ _ _ _ _ _ _ _ _ _ _ _ hd hu R hs H
  | point l k =>
    rw [Sem.wp_point]
    exact ht _ _ _ _ _ _ _ _ _ _ _ _ _ _ _ hd hu R hs H
  | ask k =>
    have e : Sem.wp (model C.prog w) Γ (.ask k) Q E p s = Sem.wp (model C.prog w) Γ (k ⟨C.prog, w.params⟩) Q E p s := Sem.wp_ask ..
    rw [e, ← hP]
    exact ht _ _ _ _ _ _ _ _ _ _ _ _ _ _ _ hd hu R hs H
  | fresh k =>
    have e : Sem.wp (model C.prog w) Γ (.fresh k) Q E p s = Sem.wp (model C.prog w) Γ (k s.toks) Q E p { s with toks := s.toks + 1 } := Sem.wp_fresh ..
    simp only [treeStep] at H
    split at H
    · exact H.bad.elim
    · rename_i hl
      have R' := R.get hl
      rw [e, R'.toks]
      exact ht _ _ _ _ _ _ _ _ _ _ _ _ _ _ _ hd hu (RepX.mk ⟨R'.size, R'.len, R'.own, R'.top, R'.keep, rfl, R'.gens, R'.drawn, R'.os⟩ hl) hs H
  | handled own k =>
    cases own with
    | true => exact H.bad.elim
    | false =>
      have e : Sem.wp (model C.prog w) Γ (.handled false k) Q E p s = Sem.wp (model C.prog w) Γ (k Γ.handled) Q E p s := Sem.wp_handled ..
      rw [e]
      exact ht _ _ _ _ _ _ _ _ _ _ _ _ _ _ _ hd hu R hs H
  | stack k =>
    have e : Sem.wp (model C.prog w) Γ (.stack k) Q E p s = Sem.wp (model C.prog w) Γ (k ((Γ.code, p) :: Γ.below)) Q E p s := Sem.wp_stack ..
    rw [e]
    exact ht _ _ _ _ _ _ _ _ _ _ _ _ _ _ _ hd hu R hs H
  | load a q k =>
    rw [Sem.wp_load]
    simp only [treeStep] at H
    split at H
    · split at H
      · exact H.bad.elim
      · rename_i hl
        split at H
        · rename_i o e
          exact ⟨o, (R.get hl).top a o e, ht _ _ _ _ _ _ _ _ _ _ _ _ _ _ _ hd hu R hs H⟩
        · exact H.bad.elim
    · split at H
      · rename_i i _ _ o e
        have ea : a = adrOf C.ps C.N i := obs_of H (gt ..) _ (.head _)
        exact ⟨o, ea ▸ (R.get (live_nth e)).own i o e, ht _ _ _ _ _ _ _ _ _ _ _ _ _ _ _ hd hu R hs H⟩
      · exact H.bad.elim
  | loadIfAlive a k =>
    rw [Sem.wp_loadIfAlive]
    simp only [treeStep] at H
    split at H
    · split at H
      · exact H.bad.elim
      · rename_i hl
        split at H
        · rename_i o e
          rw [(R.get hl).top a o e]
          exact ht _ _ _ _ _ _ _ _ _ _ _ _ _ _ _ hd hu R hs H
        · exact H.bad.elim
    · split at H
      · rename_i i _ _ o e
        have ea : a = adrOf C.ps C.N i := obs_of H (gt ..) _ (.head _)
        rw [ea, (R.get (live_nth e)).own i o e]
        exact ht _ _ _ _ _ _ _ _ _ _ _ _ _ _ _ hd hu R hs (ea ▸ H)
      · exact H.bad.elim
  | alloc o k =>
    rw [Sem.wp_alloc]
    simp only [treeStep] at H
    split at H
    · exact H.bad.elim
    · rename_i hf
      split at H
      · exact H.bad.elim
      · rename_i hl
        rw [(R.get hl).size]
        exact ht _ _ _ _ _ _ _ _ _ _ _ _ _ _ _ hd hu (RepX.mk ((R.get hl).alloc hf) (live_app hl)) hs H
  | update a q f k =>
    rw [Sem.wp_update]
    simp only [treeStep] at H
    split at H
    · exact H.bad.elim
    · split at H
      · rename_i i _ _ o e
        split at H
        · exact H.bad.elim
        · rename_i hf
          have ea : a = adrOf C.ps C.N i := obs_of H (gt ..) _ (.head _)
          have R' := R.get (live_nth e)
          refine ⟨by rw [ea, R'.own i o e]; rfl, ?_⟩
          rw [ea]
          exact ht _ _ _ _ _ _ _ _ _ _ _ _ _ _ _ hd hu (RepX.mk (R'.update W e hf) (live_put (live_nth e))) hs (ea ▸ H)
      · exact H.bad.elim
  | call c' hd' g l k =>
    rw [Sem.wp_call]
    simp only [treeStep] at H
    split at H
    · exact H.bad.elim
    · rename_i hm
      have hb : (Γ.enter c' hd' p).handled = hd'.or Γ.handled := markOver_of_ne (okMark_ne hm)
      refine hc (Γ.enter c' hd' p) p d u h sm T na tk obs s _ ?_ ?_ R hs ?_
      · show frameCount ((Γ.code, p) :: Γ.below) ≤ _
        rw [frameCount_cons]; omega
      · rw [Ctx.units_enter]; exact hu
      · rw [hb]
        show Done C s₀ X (c c' p ((Γ.code, p) :: Γ.below) (hd'.or Γ.handled) d u h sm T na tk obs) _
        split at H
        · exact H.bad.elim
        · rename_i r p1 h1 sm1 T1 na1 tk1 obs1 e
          rw [e]
          have g1 := (gc _ _ _ _ _ _ _ _ _ _ _ _).prf _ _ _ _ _ _ _ _ e
          exact ⟨_, _, _, _, _, _, _, _, rfl, obs_of H (gt ..), fun s' R' => ht _ _ _ _ _ _ _ _ _ _ _ _ _ _ _ hd hu R' (fun m hm => hs m (g1.2 m hm)) H⟩
  | unsupported => exact H.bad.elim
  | finish => exact H.bad.elim
  | register => exact H.bad.elim
  | choose => exact H.bad.elim
  | os => exact H.bad.elim
  | newGen => exact H.bad.elim
  | genState => exact H.bad.elim
  | resume => exact H.bad.elim
  | yield => exact H.bad.elim
  | fork => exact H.bad.elim
  | thread => exact H.bad.elim
  | await => exact H.bad.elim

theorem behindOk {C : Cx} {w : World} {s₀ : Shared} {D U : Nat} {X : Shared → Prop} {c : CodeTy} (gc : GrowC c) (hc : CodeOk C w s₀ D U X c) {Γ : Ctx} {d u : Nat} {sm : List Sm} {R : Result → Shared → Prop}
    (hd : frameCount Γ.below ≤ D + d) (hu : unitsOf Γ.below ≤ U + u) (hs : ∀ m ∈ sm, SmOkX C w s₀ D U X m) {obs : List Ob} {x : Out Fin} (g : Grow sm obs x)
    (H : Done C s₀ X (behind c Γ.below Γ.handled d u x) (fun r _ s' => R r s')) : Done C s₀ X x (sideOf (Sem.finPost (model C.prog w) Γ R) (fun e _ s' => R (.error e) s')) := by
  cases x with
  | bad n => exact H.bad.elim
  | done r p h sm' T na tk obs' =>
    have gs := (g.prf _ _ _ _ _ _ _ _ rfl).2
    cases r with
    | error e => exact ⟨_, _, _, _, _, _, _, _, rfl, (let ⟨_, _, _, _, _, _, _, _, e, k, _⟩ := H; by cases e; exact k), H.fin⟩
    | ok fin => cases fin with
      | done f => exact ⟨_, _, _, _, _, _, _, _, rfl, (let ⟨_, _, _, _, _, _, _, _, e, k, _⟩ := H; by cases e; exact k), H.fin⟩
      | again c' =>
        have H' : Done C s₀ X (match c'.quiet with | true => c c' p Γ.below Γ.handled d u h sm' T na tk obs' | false => .bad 31) (fun r _ s' => R r s') := H
        cases hq : c'.quiet with
        | false => rw [hq] at H'; exact H'.bad.elim
        | true =>
          rw [hq] at H'
          exact ⟨_, _, _, _, _, _, _, _, rfl, obs_of H' (gc ..), fun s' R' => ⟨hq, hc (Γ.goto c') p d u h sm' T na tk obs' s' R hd hu R' (fun m hm => hs m (gs m hm)) H'⟩⟩

theorem wp_enter {prog : Program} {w : World} {Γ : Ctx} {p : Pos} {s : Shared} {Q : Unit → Pos → Shared → Prop} {E : Value → Pos → Shared → Prop} (hl : s.heap.NoLimit) (hd : frameCount Γ.below + Γ.code.weight < recursionLimit) (h : Q () p s) :
    Sem.wp (model prog w) Γ (enterFrame) Q E p s := by
  have hIn : Γ.In { handled := Γ.handled, depth := frameCount Γ.below + Γ.code.weight, frames := none, guards := none, units := Γ.units } := ⟨rfl, Nat.le_refl _, (fun _ e => by cases e), (fun _ e => by cases e), Nat.le_refl _⟩
  obtain ⟨mc, hns, hnone⟩ := hl
  have hsum : ((((Γ.code, p) :: Γ.below).map (·.1)).map (·.frames)).sum + ((((Γ.code, p) :: Γ.below).map (·.1)).filter Code.isCreation).length < recursionLimit := by
    have hge := frameCount_ge ((Γ.code, p) :: Γ.below)
    rw [frameCount_cons] at hge
    omega
  have hlt : ¬ ((((Γ.code, p) :: Γ.below).map (·.1)).map (·.frames)).sum ≥ recursionLimit := by omega
  have hlt' : ¬ ((((Γ.code, p) :: Γ.below).map (·.1)).map (·.frames)).sum + ((((Γ.code, p) :: Γ.below).map (·.1)).filter Code.isCreation).length ≥ recursionLimit := by omega
  simp only [enterFrame, currentRecursionLimit, Sem.wp_bind']
  show Sem.wp (model prog w) Γ (nsGet cStatics "sys.recursionlimit") _ _ p s
  rw [Sem.wp_nsGet (model prog w) Γ _ p s hns, hnone]
  show Sem.wp (model prog w) Γ (if nearTheLimitUnderAClaim (((Γ.code, p) :: Γ.below).map (·.1)) (((((Γ.code, p) :: Γ.below).map (·.1)).map (·.frames)).sum + ((((Γ.code, p) :: Γ.below).map (·.1)).filter Code.isCreation).length) recursionLimit = true then _ else _) _ _ p s
  rw [if_neg (by rw [not_nearTheLimit hIn hd]; exact Bool.false_ne_true)]
  show Sem.wp (model prog w) Γ (if ((((Γ.code, p) :: Γ.below).map (·.1)).map (·.frames)).sum ≥ recursionLimit then _ else _) _ _ p s
  rw [if_neg hlt]
  show Sem.wp (model prog w) Γ (if ((((Γ.code, p) :: Γ.below).map (·.1)).map (·.frames)).sum + ((((Γ.code, p) :: Γ.below).map (·.1)).filter Code.isCreation).length ≥ recursionLimit then _ else _) _ _ p s
  rw [if_neg hlt']; exact h

theorem callFunction_eq (a : Addr) (fd : FuncData) (args : Args) (hg : fd.scope.isGenerator = false) (hc : fd.scope.isCoroutine = false) :
    callFunction a fd args = (entryEnv a fd args >>= fun env => enterFrame >>= fun _ => pure (.again (bodyCode fd env))) := by
  unfold callFunction entryEnv bodyCode
  simp only [hg, hc]
  have tail : ∀ (q : PySem.Str), (do
      let env ← newFunctionEnv fd.scope fd.globals fd.closure (← bindArgs fd args) (q ++ ".<locals>.") (some a) fd.code none fd.builtins
      enterFrame
      again (match fd.body with | .stmts b => Code.func b env | .expr e => Code.expr e env)) =
      ((do newFunctionEnv fd.scope fd.globals fd.closure (← bindArgs fd args) (q ++ ".<locals>.") (some a) fd.code none fd.builtins) >>= fun env => enterFrame >>= fun _ => pure (Fin.again (match fd.body with | .stmts b => Code.func b env | .expr e => Code.expr e env))) := by
    intro q
    simp only [bind_assoc]
    rfl
  cases hcd : fd.code <;> simp only [hcd, pure_bind, bind_assoc] at tail ⊢
  all_goals first
    | exact tail _
    | (refine congrArg _ (funext fun v => ?_)
       cases v <;> simp only [pure_bind, bind_assoc] <;> exact tail _)

theorem codeOk {C : Cx} {w : World} {s₀ : Shared} {D U : Nat} {X : Shared → Prop} (W : WF C s₀) (hX : ∀ s, X s → s.heap.NoLimit) (hD : D + 90 < recursionLimit) {t : TreeTy} {c : CodeTy} (gt : GrowT t) (gc : GrowC c) (ht : TreeOk C w s₀ D U X t) (hc : CodeOk C w s₀ D U X c) :
    CodeOk C w s₀ D U X (codeStep C t c) := by
  intro Γ p d u h sm T na tk obs s R hd hu Rp hs H
  have hu' : Γ.units ≤ U + (u + Γ.code.cUnits) := by unfold Ctx.units; omega
  have inl : ∀ (x : Sem Fin), Done C s₀ X (behind c Γ.below Γ.handled d u (t Fin x Γ.code p Γ.below Γ.handled (d + Γ.code.weight) (u + Γ.code.cUnits) (h / 64) sm T na tk obs)) (fun r _ s' => R r s') →
      Sem.wp (model C.prog w) Γ x (Sem.finPost (model C.prog w) Γ R) (fun e _ s' => R (.error e) s') p s := fun x H =>
    ht _ _ _ _ _ _ _ _ _ _ _ _ _ _ _ (by omega) hu' Rp hs (behindOk gc hc hd hu hs (gt ..) H)
  unfold codeStep at H
  split at H
  · exact (wpCode_iff_wp ..).mpr (inl _ H)
  · split at H
    · exact H.bad.elim
    · rename_i m sm
      split at H
      · exact H.bad.elim
      · rename_i hmd
        split at H
        · exact H.bad.elim
        · rename_i hmu
          split at H
          · exact H.bad.elim
          · rename_i hl
            have Rp' := Rp.get hl
            have hd1 : d ≤ m.d := Nat.le_of_ble_eq_true hmd
            have hu1 : u ≤ m.u := Nat.le_of_ble_eq_true hmu
            have z0 := hs m (.head _)
            unfold SmOkX at z0
            split at H
            · exact H.bad.elim
            rename_i hcalm
            split at H
            · rename_i hdead
              rw [hdead] at z0
              obtain ⟨_, _, _, _, _, _, _, _, e, ok, k⟩ := H
              cases e
              have hcode : Γ.code = m.code := ok (.c Γ.code m.code) ((reqs_mem _ _ _).1 _ (.head _))
              have hreq : ∀ q ∈ m.req, nth T q.1 = some q.2 := fun q hq => ok _ ((reqs_mem _ _ _).2 q hq)
              have z := z0 { handled := Γ.handled, depth := frameCount Γ.below, frames := none, guards := none, units := unitsOf Γ.below } s T na tk ⟨by show frameCount Γ.below ≤ _; omega, fun hc => by
                show Γ.handled = none
                rw [hc] at hcalm
                revert hcalm
                cases Γ.handled with
                | none => exact fun _ => rfl
                | some v => intro h; cases h⟩ (by show unitsOf Γ.below ≤ _; omega) Rp' hreq
              refine wpCode_mono (fun r s' hr => ?_) (z Γ p hcode ⟨rfl, Nat.le_refl _, (fun _ e => by cases e), (fun _ e => by cases e), Nat.le_refl _⟩)
              obtain ⟨rfl, R'⟩ := hr
              exact k s' (RepX.mk R' (live_app (live_puts _ hl)))
            · rename_i hdead
              rw [hdead] at z0
              split at H
              · exact H.bad.elim
              · rename_i hhd
                obtain ⟨_, _, _, _, _, _, _, _, e, ok, k⟩ := H
                cases e
                have hcode : Γ.code = m.code := ok (.c Γ.code m.code) ((reqs_mem _ _ _).1 _ (.tail _ (.tail _ (.head _))))
                have hst : codesOf Γ.below = m.st := ok (.s (codesOf Γ.below) m.st) ((reqs_mem _ _ _).1 _ (.tail _ (.head _)))
                have hna : na = m.na0 := ok (.a na m.na0) ((reqs_mem _ _ _).1 _ (.head _))
                have hreq : ∀ q ∈ m.req, nth T q.1 = some q.2 := fun q hq => ok _ ((reqs_mem _ _ _).2 q hq)
                have z := z0 Γ p s T na tk hcode (by assumption) hna hst (by omega) (by omega) Rp' hreq
                refine wpCode_mono (fun r s' hr => ?_) z
                obtain ⟨rfl, R'⟩ := hr
                exact k s' R'
  · split at H
    · rename_i args hcode
      split at H
      · rename_i a
        split at H
        · exact H.bad.elim
        · rename_i hl
          split at H
          · rename_i o ho
            split at H
            · rename_i fd hfd
              split at H
              · rename_i hgen
                split at H
                · rename_i hcor
                  split at H
                  · rename_i hlt
                    have hd90 : d < 90 := blt_true hlt
                    have hw0 : Γ.code.weight = 0 := by rw [hcode]; rfl
                    have B := behindOk gc hc hd hu hs (gt ..) H
                    have z : Sem.wp (model C.prog w) Γ (enterTree a fd args) (fun fin p' s' => Sem.finPost (model C.prog w) Γ R fin p' s' ∧ s'.heap.NoLimit) (fun e _ s' => R (.error e) s') p s := by
                      refine ht PySem.Fin (enterTree a fd args) Γ p (d + Γ.code.weight) (u + Γ.code.cUnits) (h / 64) sm T na tk obs s _ _ (by omega) hu' Rp hs ?_
                      obtain ⟨r1, p1, h1, sm1, T1, na1, tk1, obs1, e1, k1, k2⟩ := B
                      refine ⟨r1, p1, h1, sm1, T1, na1, tk1, obs1, e1, k1, fun s' R' => ?_⟩
                      have y := k2 s' R'
                      cases r1 with
                      | error e => exact y
                      | ok fin =>
                        refine ⟨y, ?_⟩
                        cases hq : live T1 with
                        | true => exact W.nolim _ (R'.get hq).top
                        | false => exact hX s' (by unfold RepX at R'; rw [hq] at R'; exact R')
                    have z2 : Sem.wp (model C.prog w) Γ (entryEnv a fd args) (fun env p' s' => Sem.finPost (model C.prog w) Γ R (.again (bodyCode fd env)) p' s' ∧ s'.heap.NoLimit) (fun e _ s' => R (.error e) s') p s := by
                      have := z
                      unfold enterTree at this
                      rw [Sem.wp_bind'] at this
                      exact this
                    rw [wpCode_iff_wp, hcode]
                    show Sem.wp (model C.prog w) Γ (callAny (.ref a) args) _ _ p s
                    simp only [callAny]
                    rw [Sem.wp_bind']
                    refine (Sem.wp_load_of _ _ _ _ _ ((Rp.get hl).top a o ho) _).mpr ?_
                    simp only [hfd]
                    rw [callFunction_eq a fd args hgen hcor, Sem.wp_bind']
                    refine Sem.wp_mono _ _ _ (fun env p' s' h1 => ?_) (fun _ _ _ h1 => h1) _ _ z2
                    rw [Sem.wp_bind']
                    refine wp_enter h1.2 (by omega) h1.1
                  · exact H.bad.elim
                · exact H.bad.elim
              · exact H.bad.elim
            · exact H.bad.elim
          · exact H.bad.elim
      · exact H.bad.elim
    · exact H.bad.elim

theorem sound {C : Cx} {w : World} {s₀ : Shared} {D U : Nat} {X : Shared → Prop} (W : WF C s₀) (hP : C.P = w.params) (hX : ∀ s, X s → s.heap.NoLimit) (hD : D + 90 < recursionLimit) : ∀ n, TreeOk C w s₀ D U X (run C n).t ∧ CodeOk C w s₀ D U X (run C n).c
  | 0 => ⟨fun _ _ _ _ _ _ _ _ _ _ _ _ _ _ _ _ _ _ _ H => H.bad.elim, fun _ _ _ _ _ _ _ _ _ _ _ _ _ _ _ _ H => H.bad.elim⟩
  | n + 1 => ⟨treeOk W hP (grow C n).1 (grow C n).2 (sound W hP hX hD n).1 (sound W hP hX hD n).2, codeOk W hX hD (grow C n).1 (grow C n).2 (sound W hP hX hD n).1 (sound W hP hX hD n).2⟩
end Mine

end
/-! DictL -/
section
open PySem PySem.W PySem.W.X PyProof.Rows
namespace Mine
section
variable {K : Type} [DecidableEq K]
def lk (l : List (K × Tok × Value)) (k : K) : Option Value := (l.find? fun x => decide (x.1 = k)).map (·.2.2)
def upd : List (K × Tok × Value) → K → Value → List (K × Tok × Value)
  | [], _, _ => []
  | x :: r, k, v => if x.1 = k then (x.1, x.2.1, v) :: r else x :: upd r k v
def rem : List (K × Tok × Value) → K → List (K × Tok × Value)
  | [], _ => []
  | x :: r, k => if x.1 = k then r else x :: rem r k
theorem lk_nil (k : K) : lk [] k = none := rfl
theorem lk_cons (x : K × Tok × Value) (l : List (K × Tok × Value)) (k : K) : lk (x :: l) k = if x.1 = k then some x.2.2 else lk l k := by
  unfold lk
  rw [List.find?_cons]
  by_cases h : x.1 = k <;> simp [h]
theorem lk_app (l m : List (K × Tok × Value)) (k : K) : lk (l ++ m) k = (lk l k).or (lk m k) := by
  induction l with
  | nil => simp [lk_nil]
  | cons x r ih => rw [List.cons_append, lk_cons, lk_cons, ih]; by_cases h : x.1 = k <;> simp [h]
theorem lk_snoc (l : List (K × Tok × Value)) (k : K) (t : Tok) (v : Value) (j : K) (h : lk l k = none) : lk (l ++ [(k, t, v)]) j = if j = k then some v else lk l j := by
  rw [lk_app, lk_cons, lk_nil]
  by_cases e : j = k
  · subst e; simp [h]
  · have : ¬ k = j := fun q => e q.symm
    simp [e, this]
theorem lk_upd (l : List (K × Tok × Value)) (k : K) (v : Value) (j : K) : lk (upd l k v) j = if j = k then (lk l k).map (fun _ => v) else lk l j := by
  induction l with
  | nil => simp [upd, lk_nil]
  | cons x r ih =>
    unfold upd
    by_cases e : x.1 = k
    · rw [if_pos e, lk_cons, lk_cons, lk_cons]
      by_cases q : j = k
      · subst q; simp [e]
      · have : ¬ x.1 = j := fun z => q (z.symm.trans e)
        simp [q, this]
    · rw [if_neg e, lk_cons, lk_cons, lk_cons, ih]
      by_cases q : j = k
      · subst q; simp [e]
      · simp [q]
theorem mem_of_lk {l : List (K × Tok × Value)} {k : K} {v : Value} (h : lk l k = some v) : k ∈ l.map (·.1) := by
  induction l with
  | nil => cases h
  | cons x r ih =>
    rw [lk_cons] at h
    by_cases e : x.1 = k
    · rw [← e]; exact .head _
    · rw [if_neg e] at h; exact .tail _ (ih h)
theorem lk_none_of {l : List (K × Tok × Value)} {k : K} (h : k ∉ l.map (·.1)) : lk l k = none := by
  cases e : lk l k with
  | none => rfl
  | some v => exact absurd (mem_of_lk e) h
theorem lk_isSome {l : List (K × Tok × Value)} {k : K} : (lk l k).isSome = true ↔ k ∈ l.map (·.1) := by
  induction l with
  | nil => simp [lk_nil]
  | cons x r ih =>
    rw [lk_cons]
    by_cases e : x.1 = k
    · simp [e]
    · rw [if_neg e, ih]
      simp only [List.map_cons, List.mem_cons]
      constructor
      · exact fun h => .inr h
      · rintro (h | h)
        · exact absurd h.symm e
        · exact h
theorem lk_rem (l : List (K × Tok × Value)) (k : K) (hn : (l.map (·.1)).Nodup) (j : K) : lk (rem l k) j = if j = k then none else lk l j := by
  induction l with
  | nil => simp [rem, lk_nil]
  | cons x r ih =>
    rw [List.map_cons, List.nodup_cons] at hn
    unfold rem
    by_cases e : x.1 = k
    · rw [if_pos e, lk_cons]
      by_cases q : j = k
      · subst q
        rw [if_pos rfl]
        exact lk_none_of (e ▸ hn.1)
      · rw [if_neg q, if_neg fun z => q (z.symm.trans e)]
    · rw [if_neg e, lk_cons, lk_cons, ih hn.2]
      by_cases q : j = k
      · subst q; simp [e]
      · simp [q]
theorem keys_upd (l : List (K × Tok × Value)) (k : K) (v : Value) : (upd l k v).map (·.1) = l.map (·.1) := by
  induction l with
  | nil => rfl
  | cons x r ih => unfold upd; by_cases e : x.1 = k <;> simp [e, ih]
theorem keys_rem (l : List (K × Tok × Value)) (k : K) : (rem l k).map (·.1) = (l.map (·.1)).erase k := by
  induction l with
  | nil => rfl
  | cons x r ih =>
    unfold rem
    by_cases e : x.1 = k
    · rw [if_pos e, List.map_cons, List.erase_cons, e]; simp
    · rw [if_neg e, List.map_cons, List.map_cons, List.erase_cons, ih]
      have : ¬ (x.1 == k) = true := by simp [e]
      rw [if_neg this]
theorem nodup_snoc {l : List (K × Tok × Value)} {k : K} {t : Tok} {v : Value} (hn : (l.map (·.1)).Nodup) (h : lk l k = none) : ((l ++ [(k, t, v)]).map (·.1)).Nodup := by
  rw [List.map_append, List.nodup_append]
  refine ⟨hn, by simp, ?_⟩
  intro a ha b hb e
  simp only [List.map_cons, List.map_nil, List.mem_singleton] at hb
  subst hb; subst e
  have := lk_isSome.mpr ha
  rw [h] at this; cases this
theorem nodup_rem {l : List (K × Tok × Value)} {k : K} (hn : (l.map (·.1)).Nodup) : ((rem l k).map (·.1)).Nodup := by
  rw [keys_rem]; exact hn.erase k
theorem nodup_upd {l : List (K × Tok × Value)} {k : K} {v : Value} (hn : (l.map (·.1)).Nodup) : ((upd l k v).map (·.1)).Nodup := by
  rw [keys_upd]; exact hn

variable {prog : Program} {w : World}
def entOf (knd : KeyKind prog w K) (mk : K → Tok → Value) (x : K × Tok × Value) : DictEntry := ⟨knd.hash x.1, mk x.1 x.2.1, x.2.2⟩
def objOf (es : List DictEntry) (n : Nat) : Obj := { cls := .type "dict", data := .dict es.toArray n }
section
variable {knd : KeyKind prog w K} {mk : K → Tok → Value} (hmk : ∀ k t, knd.is k (mk k t) = true)
include hmk
theorem keysOf_ent (l : List (K × Tok × Value)) : KeysOf knd (l.map (entOf knd mk)).toArray := by
  intro e he
  simp only [List.mem_toArray, List.mem_map] at he
  obtain ⟨x, _, rfl⟩ := he
  exact ⟨x.1, hmk _ _, rfl⟩
theorem is_ent (k : K) (x : K × Tok × Value) : knd.is k (entOf knd mk x).key = decide (x.1 = k) := by
  show knd.is k (mk x.1 x.2.1) = _
  rw [KeyKind.is_eq_decide (hmk x.1 x.2.1)]
  by_cases h : k = x.1 <;> simp [h, eq_comm]
theorem find_ent (l : List (K × Tok × Value)) (k : K) : findBy knd.is (l.map (entOf knd mk)).toArray k = lk l k := by
  unfold findBy lk
  rw [List.find?_toArray, List.find?_map, Option.map_map]
  have : (fun e => knd.is k e.key) ∘ entOf knd mk = fun x => decide (x.1 = k) := funext fun x => is_ent hmk k x
  rw [this]; rfl
theorem mapOf_ent {h : Heap} {d : Addr} {l : List (K × Tok × Value)} {n : Nat} (ho : h.get? d = some (objOf (l.map (entOf knd mk)) n)) : h.MapOf knd d (lk l) :=
  ⟨_, _, n, ho, ⟨rfl, rfl, rfl⟩, rfl, keysOf_ent hmk l, find_ent hmk l⟩
theorem idx_ent (l : List (K × Tok × Value)) (k : K) : (l.map (entOf knd mk)).toArray.findIdx? (fun e => knd.is k e.key) = l.findIdx? (fun x => decide (x.1 = k)) := by
  rw [List.findIdx?_toArray, List.findIdx?_map]
  have : (fun e => knd.is k e.key) ∘ entOf knd mk = fun x => decide (x.1 = k) := funext fun x => is_ent hmk k x
  rw [this]
omit hmk in
theorem upd_modify (l : List (K × Tok × Value)) (k : K) (v : Value) : ∀ i, l.findIdx? (fun x => decide (x.1 = k)) = some i → (l.map (entOf knd mk)).modify i (fun e => { e with val := v }) = (upd l k v).map (entOf knd mk) := by
  induction l with
  | nil => intro i h; cases h
  | cons x r ih =>
    intro i h
    rw [List.findIdx?_cons] at h
    by_cases e : x.1 = k
    · simp only [e, decide_true, if_true, Option.some.injEq] at h
      subst h
      simp [upd, e, entOf]
    · simp only [e, decide_false, Bool.false_eq_true, if_false, Option.map_eq_some_iff] at h
      obtain ⟨j, hj, rfl⟩ := h
      simp only [upd, e, if_false, List.map_cons, List.modify_succ_cons]
      rw [ih j hj]
omit hmk in
theorem rem_erase (l : List (K × Tok × Value)) (k : K) : ∀ i, l.findIdx? (fun x => decide (x.1 = k)) = some i → (l.map (entOf knd mk)).eraseIdx i = (rem l k).map (entOf knd mk) := by
  induction l with
  | nil => intro i h; cases h
  | cons x r ih =>
    intro i h
    rw [List.findIdx?_cons] at h
    by_cases e : x.1 = k
    · simp only [e, decide_true, if_true, Option.some.injEq] at h
      subst h
      simp [rem, e]
    · simp only [e, decide_false, Bool.false_eq_true, if_false, Option.map_eq_some_iff] at h
      obtain ⟨j, hj, rfl⟩ := h
      simp only [rem, e, if_false, List.map_cons, List.eraseIdx_cons_succ]
      rw [ih j hj]
omit hmk in
theorem idx_none (l : List (K × Tok × Value)) (k : K) (h : lk l k = none) : l.findIdx? (fun x => decide (x.1 = k)) = none := by
  rw [List.findIdx?_eq_none_iff]
  intro x hx
  cases e : decide (x.1 = k) with
  | false => rfl
  | true =>
    have := lk_isSome.mpr (List.mem_map_of_mem (f := (·.1)) hx)
    rw [of_decide_eq_true e, h] at this; cases this
omit hmk in
theorem idx_some (l : List (K × Tok × Value)) (k : K) (h : (lk l k).isSome = true) : ∃ i, l.findIdx? (fun x => decide (x.1 = k)) = some i := by
  cases e : l.findIdx? (fun x => decide (x.1 = k)) with
  | some i => exact ⟨i, rfl⟩
  | none =>
    rw [List.findIdx?_eq_none_iff] at e
    obtain ⟨x, hx, hk⟩ := List.mem_map.mp (lk_isSome.mp h)
    have := e x hx
    simp [hk] at this

variable {A : Around} {s : Shared} {R : Result → Shared → Prop} {d : Nat} {l : List (K × Tok × Value)} {n : Nat} {k : K} {t : Tok}
theorem code_has (hd : d ≠ 1) (ho : s.heap.get? d = some (objOf (l.map (entOf knd mk)) n)) (h : R (.ok (.ret (.bool (lk l k).isSome))) { s with toks := s.toks + 1 }) :
    codeAny (model prog w) A (.call (.builtin "dict.__contains__") ⟨[.ref d, mk k t], []⟩) R s := by
  have hds : (d == sysModules) = false := by simpa [sysModules] using hd
  exact codeAny_call_builtin slot_dict_contains.plain entry_dict_contains (slot_dict_contains.check _ _ _ _ _ _ _ _ (mapOf_ent hmk ho).typeIs (args_dict_contains _ _)
    (meets_dict_contains knd d (hmk k t) hds A R s ⟨lk l, mapOf_ent hmk ho, h⟩))
theorem code_get {v : Value} (ho : s.heap.get? d = some (objOf (l.map (entOf knd mk)) n)) (hv : lk l k = some v) (h : R (.ok (.ret v)) { s with toks := s.toks + 1 }) :
    codeAny (model prog w) A (.call (.builtin "dict.__getitem__") ⟨[.ref d, mk k t], []⟩) R s :=
  codeAny_call_builtin slot_dict_getitem.plain entry_dict_getitem (slot_dict_getitem.check _ _ _ _ _ _ _ _ (mapOf_ent hmk ho).typeIs (args_dict_getitem _ _)
    (meets_dict_getitem knd d (hmk k t) A R s ⟨lk l, v, mapOf_ent hmk ho, hv, h⟩))
theorem code_set {v : Value} (ho : s.heap.get? d = some (objOf (l.map (entOf knd mk)) n)) (hsz : l.length ≤ 1000)
    (hnew : lk l k = none → ∀ f : Obj → Obj, f (objOf (l.map (entOf knd mk)) n) = objOf ((l ++ [(k, t, v)]).map (entOf knd mk)) (n + 1) → R (.ok (.ret .none)) { s with heap := s.heap.update d f, toks := s.toks + 1 })
    (hold : (lk l k).isSome = true → ∀ f : Obj → Obj, f (objOf (l.map (entOf knd mk)) n) = objOf ((upd l k v).map (entOf knd mk)) n → R (.ok (.ret .none)) { s with heap := s.heap.update d f, toks := s.toks + 1 }) :
    codeAny (model prog w) A (.call (.builtin "dict.__setitem__") ⟨[.ref d, mk k t, v], []⟩) R s := by
  have hT := (mapOf_ent hmk ho).typeIs
  refine codeAny_call_builtin slot_dict_setitem.plain entry_dict_setitem (slot_dict_setitem.check _ _ _ _ _ _ _ _ hT (args_dict_setitem _ _ _) ?_)
  have key : MeetsIn prog w (Builtin.«dict.__setitem__» ⟨[.ref d, mk k t, v], []⟩) (fun _ R' s' => s' = s ∧ R' = R) := .of_wp fun A R' s' hh => by
    obtain ⟨rfl, rfl⟩ := hh
    show wpAny _ _ (Builtin.Dict.notOrdered "__setitem__" ⟨[.ref d, mk k t, v], []⟩ >>= _) _ _ s'
    refine wpAny_bind (wpAny_notOrdered_dict hT ?_)
    show wpAny _ _ (dictSet d (mk k t) v >>= _) _ _ s'
    refine wpAny_bind ?_
    unfold dictSet
    try with_reducible refine wpAny_holding ?_
    refine wpAny_bind (knd.pyHash (hmk k t) ?_)
    unfold dictSetHashed
    try with_reducible refine wpAny_holding ?_
    refine wpAny_bind (wpAny_dictFind_of (s := { s' with toks := s'.toks + 1 }) (hmk k t) ho rfl (keysOf_ent hmk l) ?_)
    rw [idx_ent hmk]
    cases hi : l.findIdx? (fun x => decide (x.1 = k)) with
    | none =>
      have hn : lk l k = none := by
        cases e : lk l k with
        | none => rfl
        | some v' => obtain ⟨i, hi'⟩ := idx_some l k (by rw [e]; rfl); rw [hi] at hi'; cases hi'
      refine wpAny_bind (wpAny_rule (wpAny_updateDictKeys (s := { s' with toks := s'.toks + 1 }) ho rfl (wpAny_pure ⟨.none, rfl, hnew hn _ ?_⟩) (by simp only [List.size_toArray, List.length_map]; exact Nat.le_trans hsz (by decide))))
      show Obj.mapDictKeys _ (objOf _ _) = _
      simp [objOf, Obj.mapDictKeys, entOf]
    | some i =>
      have hs : (lk l k).isSome = true := by
        cases e : lk l k with
        | some _ => rfl
        | none => rw [idx_none l k e] at hi; cases hi
      refine wpAny_bind (wpAny_rule (wpAny_bind (wpAny_updateDict (s := { s' with toks := s'.toks + 1 }) ho rfl (wpAny_point (wpAny_pure ⟨.none, rfl, hold hs _ ?_⟩)))))
      show Obj.mapDict _ (objOf _ _) = _
      have := upd_modify (knd := knd) (mk := mk) l k v i hi
      simp only [objOf, Obj.mapDict, List.modify_toArray]
      rw [this]
  exact key A R s ⟨rfl, rfl⟩
theorem code_del (ho : s.heap.get? d = some (objOf (l.map (entOf knd mk)) n)) (hsz : l.length ≤ 1000) (hs : (lk l k).isSome = true)
    (h : ∀ f : Obj → Obj, f (objOf (l.map (entOf knd mk)) n) = objOf ((rem l k).map (entOf knd mk)) (n + 1) → R (.ok (.ret .none)) { s with heap := s.heap.update d f, toks := s.toks + 1 }) :
    codeAny (model prog w) A (.call (.builtin "dict.__delitem__") ⟨[.ref d, mk k t], []⟩) R s := by
  have hT := (mapOf_ent hmk ho).typeIs
  refine codeAny_call_builtin F.slot_dict_delitem.plain F.entry_dict_delitem (F.slot_dict_delitem.check _ _ _ _ _ _ _ _ hT (F.args_dict_delitem_2 _ _) ?_)
  have key : MeetsIn prog w (Builtin.«dict.__delitem__» ⟨[.ref d, mk k t], []⟩) (fun _ R' s' => s' = s ∧ R' = R) := .of_wp fun A R' s' hh => by
    obtain ⟨rfl, rfl⟩ := hh
    unfold Builtin.«dict.__delitem__»
    refine wpAny_bind ?_
    unfold Builtin.Dict.dictSlotArgs
    refine wpAny_bind (wpAny_notOrdered_dict hT ?_)
    show wpAny _ _ (pure (Value.ref d, mk k t)) _ _ s'
    refine wpAny_pure ?_
    show wpAny _ _ (Builtin.Dict.takeOut d (mk k t) >>= _) _ _ s'
    refine wpAny_bind ?_
    unfold Builtin.Dict.takeOut
    try with_reducible refine wpAny_holding ?_
    refine wpAny_bind (knd.pyHash (hmk k t) ?_)
    refine wpAny_bind (wpAny_dictFind_of (s := { s' with toks := s'.toks + 1 }) (hmk k t) ho rfl (keysOf_ent hmk l) ?_)
    rw [idx_ent hmk]
    obtain ⟨i, hi⟩ := idx_some l k hs
    rw [hi]
    refine wpAny_bind (wpAny_dictEntries (s := { s' with toks := s'.toks + 1 }) ho rfl ?_)
    have hlt : i < l.length := (List.findIdx?_eq_some_iff_getElem.mp hi).1
    simp only [List.getElem?_toArray, List.getElem?_map, List.getElem?_eq_getElem hlt, Option.map_some]
    refine wpAny_bind (wpAny_updateDictKeys (s := { s' with toks := s'.toks + 1 }) ho rfl (wpAny_pure ?_) (by simp only [List.size_toArray, List.length_map]; exact Nat.le_trans hsz (by decide)))
    refine wpAny_bind (wpAny_letGo (wpAny_pure ⟨.none, rfl, h _ ?_⟩))
    show Obj.mapDictKeys _ (objOf _ _) = _
    have := rem_erase (knd := knd) (mk := mk) l k i hi
    simp only [objOf, Obj.mapDictKeys, List.eraseIdxIfInBounds_toArray]
    rw [this]
  exact key A R s ⟨rfl, rfl⟩
end
end
end Mine

end
/-! HKd -/
section
open PySem PySem.W PySem.W.X PyProof.Rows
namespace Mine
/-! names -/
def nS : Str := ⟨#[115, 116, 97, 116, 101, 82, 101, 102, 101, 114, 101, 110, 99, 101]⟩
def nM : Str := ⟨#[109, 115, 103, 73, 100]⟩
def nW : Str := ⟨#[119, 111, 114, 100]⟩
def nH : Str := ⟨#[115, 101, 110, 100, 80, 100, 117, 72, 97, 110, 100, 108, 101]⟩
/-! the dicts -/
abbrev IL := List (Int × Tok × Value)
abbrev SL := List (Str × Tok × Value)
abbrev TL := List (List Int × Tok × Value)
def hashP (P : Params) (x : Str) : Int := if x.cps.isEmpty = true then 0 else reduceHash (P.strHash x.cps)
def iE (x : Int × Tok × Value) : DictEntry := ⟨hashInt x.1, .int x.1 x.2.1, x.2.2⟩
def sE (P : Params) (x : Str × Tok × Value) : DictEntry := ⟨hashP P x.1, .str x.1 x.2.1, x.2.2⟩
def tE (th : List Int → Int) (x : List Int × Tok × Value) : DictEntry := ⟨th x.1, .ref x.2.1, x.2.2⟩
def idct (l : IL) (n : Nat) : Obj := objOf (l.map iE) n
def sdct (P : Params) (l : SL) (n : Nat) : Obj := objOf (l.map (sE P)) n
def tdct (th : List Int → Int) (l : TL) (n : Nat) : Obj := objOf (l.map (tE th)) n
def tupO (xs : List Value) : Obj := { cls := .type "tuple", data := .seq xs.toArray }
def lstO (xs : List Value) : Obj := { cls := .type "list", data := .seq xs.toArray }
/-! what is stored under a key, there or not -/
section
variable {K : Type} [DecidableEq K]
def setL (l : List (K × Tok × Value)) (k : K) (t : Tok) (v : Value) : List (K × Tok × Value) := if (lk l k).isSome = true then upd l k v else l ++ [(k, t, v)]
def setN (l : List (K × Tok × Value)) (n : Nat) (k : K) : Nat := if (lk l k).isSome = true then n else n + 1
theorem lk_setL (l : List (K × Tok × Value)) (k : K) (t : Tok) (v : Value) (j : K) : lk (setL l k t v) j = if j = k then some v else lk l j := by
  unfold setL
  by_cases h : (lk l k).isSome = true
  · rw [if_pos h, lk_upd]
    obtain ⟨x, hx⟩ := Option.isSome_iff_exists.mp h
    rw [hx]; rfl
  · rw [if_neg h, lk_snoc]
    simpa using h
theorem nodup_setL {l : List (K × Tok × Value)} {k : K} {t : Tok} {v : Value} (hn : (l.map (·.1)).Nodup) : ((setL l k t v).map (·.1)).Nodup := by
  unfold setL
  by_cases h : (lk l k).isSome = true
  · rw [if_pos h]; exact nodup_upd hn
  · rw [if_neg h]; exact nodup_snoc hn (by simpa using h)
theorem length_setL (l : List (K × Tok × Value)) (k : K) (t : Tok) (v : Value) : (setL l k t v).length ≤ l.length + 1 := by
  unfold setL
  by_cases h : (lk l k).isSome = true
  · rw [if_pos h]
    have : (upd l k v).length = l.length := by
      have := congrArg List.length (keys_upd l k v)
      simpa using this
    omega
  · rw [if_neg h]; simp
end

inductive Kd where
  | hasI (i a : Nat) (l : IL) (n : Nat) (k : Int) (t : Tok) (b : Bool)
  | getI (i a : Nat) (l : IL) (n : Nat) (k : Int) (t : Tok) (v : Value)
  | setI (i a : Nat) (l : IL) (n : Nat) (k : Int) (t : Tok) (v : Value)
  | delI (i a : Nat) (l : IL) (n : Nat) (k : Int) (t : Tok)
  | hasS (P : Params) (i a : Nat) (l : SL) (n : Nat) (k : Str) (t : Tok) (b : Bool)
  | getS (P : Params) (i a : Nat) (l : SL) (n : Nat) (k : Str) (t : Tok) (v : Value)
  | setS (P : Params) (i a : Nat) (l : SL) (n : Nat) (k : Str) (t : Tok) (v : Value)
  | hasT (th : List Int → Int) (i a : Nat) (l : TL) (n : Nat) (k : List Int) (kv : List Value) (j b : Nat) (r : Bool)
  | getT (th : List Int → Int) (i a : Nat) (l : TL) (n : Nat) (k : List Int) (kv : List Value) (j b : Nat) (v : Value)
  | setT (th : List Int → Int) (i a : Nat) (l : TL) (n : Nat) (k : List Int) (kv : List Value) (j b : Nat) (v : Value)
  | popT (th : List Int → Int) (i a : Nat) (l : TL) (n : Nat) (k : List Int) (kv : List Value) (j b : Nat) (v : Value)
  | fmt (n : Int) (t u : Tok) (c : Nat)
  | ge (x : Int) (t : Tok) (y : Int) (u : Tok) (b : Bool)
  | collect (j a N : Nat) (xs : List Value)
  | fdiv (x : Int) (t : Tok) (y : Int) (u : Tok) (z : Int)
  | fmod (x : Int) (t : Tok) (y : Int) (u : Tok) (z : Int)
  | tin (i a : Nat) (ns : List Int) (xs : List Value) (x : Int) (t : Tok) (b : Bool)
  | knext (it a j d : Nat) (l : IL) (n i : Nat) (k : Int) (t : Tok)
  | kend (it a j d N : Nat) (l : IL) (n : Nat)
  | lt (x : Int) (t : Tok) (y : Int) (u : Tok) (b : Bool)
  | eq (x : Int) (t : Tok) (y : Int) (u : Tok) (b : Bool)
def iterO (d i m n : Nat) : Obj := { cls := .type "dict_keyiterator", data := .fields #[.ref d, .int i 0, .int m 0, .int n 0] }
def iterE (m n : Nat) : Obj := { cls := .type "dict_keyiterator", data := .fields #[.none, .int m 0, .int m 0, .int n 0] }
def stopO (t : Nat) : Obj := { cls := .type "StopIteration", data := .fields #[.ref t, .none, .none, .none, .bool false, .none] }
def none2 : Nat → Nat → List (Nat × Obj) := fun _ _ => []
def none3 : Nat → Nat → List (Option Obj) := fun _ _ => []
def mkSm (t₀ : Nat) : Kd → Sm
  | .hasI i a l n k t b => { code := .call (.builtin "dict.__contains__") ⟨[.ref a, .int k t], []⟩, req := [(i, idct l n)], upd := none2, new := none3, res := fun _ _ => .ok (.ret (.bool b)), tk := 1, d := 80, u := 400 }
  | .getI i a l n k t v => { code := .call (.builtin "dict.__getitem__") ⟨[.ref a, .int k t], []⟩, req := [(i, idct l n)], upd := none2, new := none3, res := fun _ _ => .ok (.ret v), tk := 1, d := 80, u := 400 }
  | .setI i a l n k t v => { code := .call (.builtin "dict.__setitem__") ⟨[.ref a, .int k t, v], []⟩, req := [(i, idct l n)], upd := fun _ _ => [(i, idct (setL l k t v) (setN l n k))], new := none3, res := fun _ _ => .ok (.ret .none), tk := 1, d := 80, u := 400 }
  | .delI i a l n k t => { code := .call (.builtin "dict.__delitem__") ⟨[.ref a, .int k t], []⟩, req := [(i, idct l n)], upd := fun _ _ => [(i, idct (rem l k) (n + 1))], new := none3, res := fun _ _ => .ok (.ret .none), tk := 1, d := 80, u := 400 }
  | .hasS P i a l n k t b => { code := .call (.builtin "dict.__contains__") ⟨[.ref a, .str k t], []⟩, req := [(i, sdct P l n)], upd := none2, new := none3, res := fun _ _ => .ok (.ret (.bool b)), tk := 1, d := 80, u := 400 }
  | .getS P i a l n k t v => { code := .call (.builtin "dict.__getitem__") ⟨[.ref a, .str k t], []⟩, req := [(i, sdct P l n)], upd := none2, new := none3, res := fun _ _ => .ok (.ret v), tk := 1, d := 80, u := 400 }
  | .setS P i a l n k t v => { code := .call (.builtin "dict.__setitem__") ⟨[.ref a, .str k t, v], []⟩, req := [(i, sdct P l n)], upd := fun _ _ => [(i, sdct P (setL l k t v) (setN l n k))], new := none3, res := fun _ _ => .ok (.ret .none), tk := 1, d := 80, u := 400 }
  | .hasT th i a l n _ kv j b r => { code := .call (.builtin "dict.__contains__") ⟨[.ref a, .ref b], []⟩, req := [(i, tdct th l n), (j, tupO kv)], upd := none2, new := none3, res := fun _ _ => .ok (.ret (.bool r)), tk := 3, d := 80, u := 400 }
  | .getT th i a l n _ kv j b v => { code := .call (.builtin "dict.__getitem__") ⟨[.ref a, .ref b], []⟩, req := [(i, tdct th l n), (j, tupO kv)], upd := none2, new := none3, res := fun _ _ => .ok (.ret v), tk := 3, d := 80, u := 400 }
  | .setT th i a l n k kv j b v => { code := .call (.builtin "dict.__setitem__") ⟨[.ref a, .ref b, v], []⟩, req := [(i, tdct th l n), (j, tupO kv)], upd := fun _ _ => [(i, tdct th (setL l k b v) (setN l n k))], new := none3, res := fun _ _ => .ok (.ret .none), tk := 3, d := 80, u := 400 }
  | .popT th i a l n k kv j b v => { code := .call (.builtin "dict.pop") ⟨[.ref a, .ref b], []⟩, req := [(i, tdct th l n), (j, tupO kv)], upd := fun _ _ => [(i, tdct th (rem l k) (n + 1))], new := none3, res := fun _ _ => .ok (.ret v), tk := 3, d := 80, u := 400 }
  | .fmt n t u c => { code := .call (.builtin "int.__format__") ⟨[.int n t, .str ⟨#[]⟩ u], []⟩, req := [], upd := none2, new := none3, res := fun _ tk => .ok (.ret (.str ⟨#[c]⟩ (t₀ + tk))), tk := 1, d := 80, u := 400 }
  | .ge x t y u b => { code := .call (.builtin "int.__ge__") ⟨[.int x t, .int y u], []⟩, req := [], upd := none2, new := none3, res := fun _ _ => .ok (.ret (.bool b)), tk := 0, d := 80, u := 400 }
  | .fdiv x t y u z => { code := .call (.builtin "int.__floordiv__") ⟨[.int x t, .int y u], []⟩, req := [], upd := none2, new := none3, res := fun _ tk => .ok (.ret (.int z (t₀ + tk))), tk := 1, d := 80, u := 400 }
  | .fmod x t y u z => { code := .call (.builtin "int.__mod__") ⟨[.int x t, .int y u], []⟩, req := [], upd := none2, new := none3, res := fun _ tk => .ok (.ret (.int z (t₀ + tk))), tk := 1, d := 80, u := 400 }
  | .tin i a _ xs x t b => { code := .call (.builtin "tuple.__contains__") ⟨[.ref a, .int x t], []⟩, req := [(i, tupO xs)], upd := none2, new := none3, res := fun _ _ => .ok (.ret (.bool b)), tk := 0, d := 80, u := 400 }
  | .knext it a j d l n i k t => { code := .call (.builtin "dict_keyiterator.__next__") ⟨[.ref a], []⟩, req := [(it, iterO d i l.length n), (j, idct l n)], upd := fun _ _ => [(it, iterO d (i + 1) l.length n)], new := none3, res := fun _ _ => .ok (.ret (.int k t)), tk := 0, d := 80, u := 400 }
  | .kend it a j d N l n => { code := .call (.builtin "dict_keyiterator.__next__") ⟨[.ref a], []⟩, req := [(it, iterO d l.length l.length n), (j, idct l n)], upd := fun _ _ => [(it, iterE l.length n)], new := fun na _ => [some (tupO []), some (stopO (N + na))], res := fun na _ => .error (.ref (N + na + 1)), tk := 0, d := 80, u := 400, calm := true }
  | .lt x t y u b => { code := .call (.builtin "int.__lt__") ⟨[.int x t, .int y u], []⟩, req := [], upd := none2, new := none3, res := fun _ _ => .ok (.ret (.bool b)), tk := 0, d := 80, u := 400 }
  | .eq x t y u b => { code := .call (.builtin "int.__eq__") ⟨[.int x t, .int y u], []⟩, req := [], upd := none2, new := none3, res := fun _ _ => .ok (.ret (.bool b)), tk := 0, d := 80, u := 400 }
  | .collect j a N xs => { code := .builtin "proto.collect" ⟨[.ref a], []⟩, req := [(j, tupO xs)], upd := none2, new := fun _ _ => [some { cls := .type "list", data := .seq xs.toArray 1 }], res := fun na _ => .ok (.ret (.ref (N + na))), tk := 0, d := 80, u := 400 }

theorem app_nil : ∀ T : Tab, app T [] = T
  | [] => rfl
  | a :: r => congrArg (a :: ·) (app_nil r)
section
variable {C : Cx} {w : World} {s₀ s : Shared} {T : Tab} {na tk D U : Nat}
theorem Rep.same (R : Rep C s₀ T na tk s) (j : Nat) : Rep C s₀ (app (puts T []) []) (na + 0) (tk + j) { s with toks := s.toks + j } := by
  rw [app_nil]
  exact ⟨R.size, R.len, R.own, R.top, R.keep, by show s.toks + j = _; rw [R.toks, Nat.add_assoc], R.gens, R.drawn, R.os⟩
theorem Rep.chg (W : WF C s₀) (R : Rep C s₀ T na tk s) {i a : Nat} (ha : adrOf C.ps C.N i = a) {o o' : Obj} {f : Obj → Obj} (e : nth T i = some o) (hf : f o = o') (hz : o'.isFreed = false) (j : Nat) :
    Rep C s₀ (app (puts T [(i, o')]) []) (na + 0) (tk + j) { s with heap := s.heap.update a f, toks := s.toks + j } := by
  rw [app_nil]
  subst ha
  have z := R.update W (f := f) e (by rw [hf]; exact hz)
  rw [hf] at z
  exact ⟨z.size, z.len, z.own, z.top, z.keep, by show s.toks + j = _; rw [R.toks, Nat.add_assoc], z.gens, z.drawn, z.os⟩
variable (W : WF C s₀) {i a n : Nat} (ha : adrOf C.ps C.N i = a) (h1 : a ≠ 1)
include W ha h1
theorem ok_hasI {l : IL} {k : Int} {t : Tok} {b : Bool} (hb : (lk l k).isSome = b) : SmOk C w s₀ D U (mkSm C.t₀ (.hasI i a l n k t b)) := by
  intro A s T na tk _ _ R req
  have ho := R.own i _ (req _ (.head _))
  rw [ha] at ho
  exact code_has (knd := intKind C.prog w) (mk := Value.int) (fun k t => intKind_is C.prog w k t) h1 ho ⟨by rw [hb]; rfl, R.same 1⟩
theorem ok_getI {l : IL} {k : Int} {t : Tok} {v : Value} (hv : lk l k = some v) : SmOk C w s₀ D U (mkSm C.t₀ (.getI i a l n k t v)) := by
  intro A s T na tk _ _ R req
  have ho := R.own i _ (req _ (.head _))
  rw [ha] at ho
  exact code_get (knd := intKind C.prog w) (mk := Value.int) (fun k t => intKind_is C.prog w k t) ho hv ⟨rfl, R.same 1⟩
theorem ok_setI {l : IL} {k : Int} {t : Tok} {v : Value} (hl : l.length ≤ 1000) : SmOk C w s₀ D U (mkSm C.t₀ (.setI i a l n k t v)) := by
  intro A s T na tk _ _ R req
  have e := req _ (.head _)
  have ho := R.own i _ e
  rw [ha] at ho
  refine code_set (knd := intKind C.prog w) (mk := Value.int) (fun k t => intKind_is C.prog w k t) ho hl (fun hn f hf => ⟨rfl, R.chg W ha e ?_ rfl 1⟩) (fun hn f hf => ⟨rfl, R.chg W ha e ?_ rfl 1⟩)
  · show f (idct l n) = idct (setL l k t v) (setN l n k)
    unfold setL setN
    rw [if_neg (by rw [hn]; simp), if_neg (by rw [hn]; simp)]
    exact hf
  · show f (idct l n) = idct (setL l k t v) (setN l n k)
    unfold setL setN
    rw [if_pos hn, if_pos hn]
    exact hf
theorem ok_delI {l : IL} {k : Int} {t : Tok} (hl : l.length ≤ 1000) (hv : (lk l k).isSome = true) : SmOk C w s₀ D U (mkSm C.t₀ (.delI i a l n k t)) := by
  intro A s T na tk _ _ R req
  have e := req _ (.head _)
  have ho := R.own i _ e
  rw [ha] at ho
  exact code_del (knd := intKind C.prog w) (mk := Value.int) (fun k t => intKind_is C.prog w k t) ho hl hv (fun f hf => ⟨rfl, R.chg W ha e hf rfl 1⟩)
omit h1 in
theorem ok_hasS {P : Params} (hP : P = w.params) (h1 : a ≠ 1) {l : SL} {k : Str} {t : Tok} {b : Bool} (hb : (lk l k).isSome = b) : SmOk C w s₀ D U (mkSm C.t₀ (.hasS P i a l n k t b)) := by
  subst hP
  intro A s T na tk _ _ R req
  have ho := R.own i _ (req _ (.head _))
  rw [ha] at ho
  exact code_has (knd := strKind C.prog w) (mk := Value.str) (fun k t => strKind_is C.prog w k t) h1 ho ⟨by rw [hb]; rfl, R.same 1⟩
theorem ok_getS {P : Params} (hP : P = w.params) {l : SL} {k : Str} {t : Tok} {v : Value} (hv : lk l k = some v) : SmOk C w s₀ D U (mkSm C.t₀ (.getS P i a l n k t v)) := by
  subst hP
  intro A s T na tk _ _ R req
  have ho := R.own i _ (req _ (.head _))
  rw [ha] at ho
  exact code_get (knd := strKind C.prog w) (mk := Value.str) (fun k t => strKind_is C.prog w k t) ho hv ⟨rfl, R.same 1⟩
theorem ok_setS {P : Params} (hP : P = w.params) {l : SL} {k : Str} {t : Tok} {v : Value} (hl : l.length ≤ 1000) : SmOk C w s₀ D U (mkSm C.t₀ (.setS P i a l n k t v)) := by
  subst hP
  intro A s T na tk _ _ R req
  have e := req _ (.head _)
  have ho := R.own i _ e
  rw [ha] at ho
  refine code_set (knd := strKind C.prog w) (mk := Value.str) (fun k t => strKind_is C.prog w k t) ho hl (fun hn f hf => ⟨rfl, R.chg W ha e ?_ rfl 1⟩) (fun hn f hf => ⟨rfl, R.chg W ha e ?_ rfl 1⟩)
  · show f (sdct w.params l n) = sdct w.params (setL l k t v) (setN l n k)
    unfold setL setN
    rw [if_neg (by rw [hn]; simp), if_neg (by rw [hn]; simp)]
    exact hf
  · show f (sdct w.params l n) = sdct w.params (setL l k t v) (setN l n k)
    unfold setL setN
    rw [if_pos hn, if_pos hn]
    exact hf
end
section
variable {C : Cx} {w : World} {s₀ s : Shared} {D U : Nat}
theorem code_gives {prog : Program} {A : Around} {T : String} {name : Str} {id : String} {B : Builtin} {self : Value} {rest : List Value} {m : Made} {R : Result → Shared → Prop} (slot : Slot T name id) (hT : s.TypeIs self T) (entry : entryFor table id = some B)
    (args : argsOk id ⟨self :: rest, []⟩) (g : Gives (B ⟨self :: rest, []⟩) m) (h : m.post (fun v s' => R (.ok (.ret v)) s') s) : codeAny (model prog w) A (.call (.builtin id) ⟨self :: rest, []⟩) R s :=
  codeAny_call_builtin slot.plain entry (slot.check _ _ _ _ _ _ _ _ hT args (g prog w A R s h))
theorem ok_fmt {n : Int} {t u : Tok} {c : Nat} (h0 : 0 ≤ n) (h3 : n < 3) (hc : c = 48 + n.toNat) : SmOk C w s₀ D U (mkSm C.t₀ (.fmt n t u c)) := by
  intro A s T na tk _ _ R req
  have e : Str.ofString (toString n) = (⟨#[c]⟩ : Str) := by
    have : n = 0 ∨ n = 1 ∨ n = 2 := by omega
    rcases this with rfl | rfl | rfl <;> subst hc <;> decide +kernel
  have g := gives_int_format_empty n t u (by
    have : n = 0 ∨ n = 1 ∨ n = 2 := by omega
    rcases this with rfl | rfl | rfl <;> decide +kernel)
  rw [e] at g
  refine code_gives F.slot_int_format (typeIs_int s n t) F.entry_int_format (F.args_int_format_2 _ _) g ?_
  refine ⟨by show (1 : Nat) ≤ sizeLine; decide, ?_, R.same 1⟩
  rw [R.toks]; rfl
theorem ok_ge {x y : Int} {t u : Tok} {b : Bool} (hb : decide (x ≥ y) = b) : SmOk C w s₀ D U (mkSm C.t₀ (.ge x t y u b)) := by
  intro A s T na tk _ _ R req
  have g := AutoIntG9.int___ge___int_int_0 x t y u
  refine code_gives F.slot_int_ge (typeIs_int s x t) F.entry_int_ge (F.args_int_ge_2 _ _) g ?_
  exact ⟨by rw [← hb]; rfl, R.same 0⟩
theorem ok_fdiv {x y z : Int} {t u : Tok} (h0 : y ≠ 0) (h1 : y.natAbs < 1073741824) (hz : x.fdiv y = z) : SmOk C w s₀ D U (mkSm C.t₀ (.fdiv x t y u z)) := by
  intro A s T na tk _ _ R req
  have g := AutoIntG4.int___floordiv___int_int_1 x t y u (by simpa using h0) (by rw [PyProof.noPylong_small h1]; decide)
  rw [hz] at g
  refine code_gives F.slot_int_floordiv (typeIs_int s x t) F.entry_int_floordiv (F.args_int_floordiv_2 _ _) g ?_
  refine ⟨?_, R.same 1⟩
  rw [R.toks]; rfl
theorem ok_fmod {x y z : Int} {t u : Tok} (h0 : y ≠ 0) (hz : x.fmod y = z) : SmOk C w s₀ D U (mkSm C.t₀ (.fmod x t y u z)) := by
  intro A s T na tk _ _ R req
  have g := AutoIntG6.int___mod___int_int_1 x t y u (by simpa using h0)
  rw [hz] at g
  refine code_gives F.slot_int_mod (typeIs_int s x t) F.entry_int_mod (F.args_int_mod_2 _ _) g ?_
  refine ⟨?_, R.same 1⟩
  rw [R.toks]; rfl
theorem ok_tin {i a : Nat} (ha : adrOf C.ps C.N i = a) {ns : List Int} {xs : List Value} {x : Int} {t : Tok} {b : Bool} (hi : IntsAre xs ns) (hb : ns.any (· == x) = b) : SmOk C w s₀ D U (mkSm C.t₀ (.tin i a ns xs x t b)) := by
  intro A s T na tk _ _ R req
  have ho := R.own i _ (req _ (.head _))
  rw [ha] at ho
  have hT : IsTup s.heap a xs.toArray := ⟨_, ho, rfl, 0, rfl⟩
  refine codeAny_call_builtin slot_tuple_contains.plain entry_tuple_contains (slot_tuple_contains.check _ _ _ _ _ _ _ _ hT.typeIs (args_tuple_contains _ _) ?_)
  have key : MeetsIn C.prog w (Builtin.«tuple.__contains__» ⟨[.ref a, .int x t], []⟩) (fun _ R' s' => s' = s ∧ R' = fun r s' => r = (mkSm C.t₀ (.tin i a ns xs x t b)).res na tk ∧ Rep C s₀ (app (puts T ((mkSm C.t₀ (.tin i a ns xs x t b)).upd na tk)) ((mkSm C.t₀ (.tin i a ns xs x t b)).new na tk)) (na + len ((mkSm C.t₀ (.tin i a ns xs x t b)).new na tk)) (tk + (mkSm C.t₀ (.tin i a ns xs x t b)).tk) s') := .of_wp fun A R' s' hh => by
    obtain ⟨rfl, rfl⟩ := hh
    exact tuple_contains_tree (u := t) hT (ns := ns) (by simpa using hi) ⟨_, rfl, by rw [hb]; rfl, R.same 0⟩
  exact key A _ s ⟨rfl, rfl⟩
end
end Mine

end
/-! HKd2 -/
section
open PySem PySem.W PySem.W.X PyProof.Rows
namespace Mine
def thI (ks : List Int) : Int := reduceHash (Builtin.Tuple.tupleHashOf (ks.map hashInt))
section
variable {C : Cx} {w : World} {s₀ s : Shared} {T : Tab} {na tk D U : Nat}
abbrev tk2 (prog : Program) (w : World) := tupleKind (intKind prog w)
theorem thI_eq (prog : Program) (w : World) (k : List Int) : (tk2 prog w).hash k = thI k := rfl
theorem code_collect {prog : Program} {w : World} {A : Around} {R : Result → Shared → Prop} {s : Shared} {a : Addr} {xs : List Value} (ho : s.heap.get? a = some (tupO xs)) (hl : xs.length ≤ 100)
    (h : R (.ok (.ret (.ref s.heap.objs.size))) { s with heap := (s.heap.push { cls := .type "list", data := .seq ([] : List Value).toArray }).update s.heap.objs.size (Obj.mapSeq (· ++ xs.toArray)) }) :
    codeAny (model prog w) A (.builtin "proto.collect" ⟨[.ref a], []⟩) R s := by
  refine codeAny_builtin F.entry_proto_collect ?_
  rw [Around.under_plainId F.plain_proto_collect _]
  show wpAny _ A.in1 (newList [] >>= fun l => again (.builtin "list.__iadd__" ⟨[l, .ref a], []⟩)) _ _ s
  refine wpAny_bind (wpAny_newObj_type ?_)
  refine wpAny_pure ⟨plainId_quiet F.plain_list_iadd _, codeAny_builtin F.entry_list_iadd ?_⟩
  rw [Around.under_plainId F.plain_list_iadd _]
  have hS : (s.heap.push { cls := .type "list", data := .seq ([] : List Value).toArray }).get? s.heap.objs.size = some { cls := .type "list", data := .seq #[] 0 } := Heap.get?_push_size _ rfl
  show wpAny _ A.in1 (Builtin.List.listExtendWith (.ref s.heap.objs.size) (.ref a) (.ref s.heap.objs.size)) _ _ _
  exact wpAny_extend_seq (A := A) (R := R) (s := { s with heap := s.heap.push { cls := .type "list", data := .seq ([] : List Value).toArray } }) _ a _ 0 (.inr rfl) hS (Heap.get?_push_of_some _ ho) rfl rfl h (by
    simp only [List.size_toArray]
    exact Nat.le_trans hl (by decide))
theorem ok_collect (W : WF C s₀) {j a : Nat} {xs : List Value} (ha : adrOf C.ps C.N j = a) (hx : 0 < xs.length) (hl : xs.length ≤ 100) : SmOk C w s₀ D U (mkSm C.t₀ (.collect j a C.N xs)) := by
  intro A s T na tk _ _ R req
  have ho := R.own j _ (req _ (.head _))
  rw [ha] at ho
  have hN : s.heap.objs.size = C.N + na := R.size
  have R1 := R.alloc (o := { cls := .type "list", data := .seq ([] : List Value).toArray }) rfl
  have hadr : adrOf C.ps C.N (Mine.len T) = s.heap.objs.size := by
    rw [R.len, adrOf_new _ _ _ (Nat.le_add_right _ _), hN, Nat.add_sub_cancel_left]
  have hnth : nth (app T [some ({ cls := .type "list", data := .seq ([] : List Value).toArray } : Obj)]) (Mine.len T) = some { cls := .type "list", data := .seq #[] 0 } := by
    rw [nth_app, if_neg (Nat.lt_irrefl _), Nat.sub_self]; rfl
  refine code_collect ho hl ?_
  refine ⟨by show _ = Except.ok (Flow.ret (.ref (C.N + na))); rw [hN], ?_⟩
  have z := R1.update W (f := Obj.mapSeq (· ++ xs.toArray)) hnth rfl
  rw [hadr] at z
  have e : put (app T [some ({ cls := .type "list", data := .seq ([] : List Value).toArray } : Obj)]) (Mine.len T) (Obj.mapSeq (· ++ xs.toArray) { cls := .type "list", data := .seq #[] 0 }) = app T [some { cls := .type "list", data := .seq xs.toArray 1 }] := by
    have : ∀ (T : Tab) (o o' : Obj), put (app T [some o]) (Mine.len T) o' = app T [some o'] := by
      intro T o o'
      induction T with
      | nil => rfl
      | cons x r ih => show x :: put (app r [some o]) (Mine.len r) o' = x :: _; rw [ih]
    rw [this]
    congr 2
    cases xs with
    | nil => simp at hx
    | cons x r => simp [Obj.mapSeq]
  rw [e] at z
  show Rep C s₀ (app (puts T []) [some { cls := .type "list", data := .seq xs.toArray 1 }]) (na + 1) (tk + 0) _
  exact z

theorem code_knext {prog : Program} {w : World} {A : Around} {R : Result → Shared → Prop} {s : Shared} {a d i n : Nat} {l : IL} {x : Int × Tok × Value}
    (ho : s.heap.get? a = some (iterO d i l.length n)) (hd : s.heap.get? d = some (idct l n)) (hx : l[i]? = some x)
    (h : ∀ f : Obj → Obj, f (iterO d i l.length n) = iterO d (i + 1) l.length n → R (.ok (.ret (.int x.1 x.2.1))) { s with heap := s.heap.update a f }) :
    codeAny (model prog w) A (.call (.builtin "dict_keyiterator.__next__") ⟨[.ref a], []⟩) R s := by
  have hT : s.TypeIs (.ref a) "dict_keyiterator" := ⟨_, ho, rfl⟩
  refine codeAny_call_builtin F.slot_dict_keyiterator_next.plain F.entry_dict_keyiterator_next (F.slot_dict_keyiterator_next.check _ _ _ _ _ _ _ _ hT (F.args_dict_keyiterator_next_1 _) ?_)
  have key : MeetsIn prog w (Builtin.«dict_keyiterator.__next__» ⟨[.ref a], []⟩) (fun _ R' s' => s' = s ∧ R' = R) := .of_wp fun A R' s' hh => by
    obtain ⟨rfl, rfl⟩ := hh
    refine wpAny_bind (wpAny_pure ?_)
    refine wpAny_bind ?_
    refine wpAny_bind ?_
    refine wpAny_bind (wpAny_typeNameOfWhole_keyiter hT (wpAny_pure ?_))
    refine wpAny_bind (wpAny_fieldsOf ho rfl ?_)
    have hown : Builtin.Dict_items.ownsTuple "dict_keyiterator" = false := by decide
    simp only [hown, Bool.false_eq_true, if_false]
    show wpAny _ _ (if (Value.ref d == Value.none) = true then _ else _) _ _ s'
    rw [if_neg (show ¬ ((Value.ref d == Value.none) = true) from Bool.false_ne_true)]
    refine wpAny_bind (wpAny_pure ?_)
    refine wpAny_bind (wpAny_dictEntries hd rfl ?_)
    rw [if_neg (by simp)]
    refine wpAny_bind (wpAny_pure ?_)
    refine wpAny_bind (wpAny_dictEpoch hd rfl ?_)
    rw [if_neg (by simp)]
    refine wpAny_pure ?_
    have hlt : i < l.length := (List.getElem?_eq_some_iff.mp hx).1
    have hxe : l[i] = x := (List.getElem?_eq_some_iff.mp hx).2
    have hlt' : i < (l.map iE).toArray.size := by simpa using hlt
    simp only [show ¬ ((i : Int) < 0) from by omega, if_false, Int.toNat_natCast, Array.getElem?_eq_getElem hlt']
    refine wpAny_bind ?_
    refine wpAny_bind (wpAny_typeNameOfWhole_keyiter hT (wpAny_pure ?_))
    refine wpAny_bind (wpAny_isOneOf_keyiter hT ?_)
    show wpAny _ _ (setField (.ref a) 1 (rawInt ((i : Int) + 1)) >>= _) _ _ s'
    refine wpAny_bind (wpAny_setField ho rfl (by simp) ?_)
    have ho' : (s'.heap.update a (Obj.mapFields (·.setIfInBounds 1 (rawInt ((i : Int) + 1))))).get? a = some (iterO d (i + 1) l.length n) :=
      (Heap.get?_update_self _ ho rfl).trans (by simp [iterO, Obj.mapFields, rawInt])
    refine wpAny_bind (wpAny_holding ?_)
    refine wpAny_bind (wpAny_isOneOf_keyiter (s := { s' with heap := s'.heap.update a (Obj.mapFields (·.setIfInBounds 1 (rawInt ((i : Int) + 1)))) }) ⟨_, ho', rfl⟩ ?_)
    show wpAny _ _ (pure ((l.map iE).toArray[i]).key) _ _ _
    refine wpAny_pure (wpAny_pure ⟨_, rfl, ?_⟩)
    have e : ((l.map iE).toArray[i]).key = .int x.1 x.2.1 := by simp [iE, hxe]
    rw [e]
    exact h _ (by simp [iterO, Obj.mapFields, rawInt])
  exact key A R s ⟨rfl, rfl⟩
theorem code_kend {prog : Program} {w : World} {A : Around} {R : Result → Shared → Prop} {s : Shared} {a d n : Nat} {l : IL} (hh : A.handled = none)
    (ho : s.heap.get? a = some (iterO d l.length l.length n)) (hd : s.heap.get? d = some (idct l n))
    (h : ∀ f : Obj → Obj, f (iterO d l.length l.length n) = iterE l.length n → (s.heap.update a f).objs.size = s.heap.objs.size →
      R (.error (.ref (s.heap.objs.size + 1))) { s with heap := ((s.heap.update a f).push (tupO [])).push (stopO s.heap.objs.size) }) :
    codeAny (model prog w) A (.call (.builtin "dict_keyiterator.__next__") ⟨[.ref a], []⟩) R s := by
  have hT : s.TypeIs (.ref a) "dict_keyiterator" := ⟨_, ho, rfl⟩
  refine codeAny_call_builtin F.slot_dict_keyiterator_next.plain F.entry_dict_keyiterator_next (F.slot_dict_keyiterator_next.check _ _ _ _ _ _ _ _ hT (F.args_dict_keyiterator_next_1 _) ?_)
  have key : MeetsIn prog w (Builtin.«dict_keyiterator.__next__» ⟨[.ref a], []⟩) (fun A' R' s' => s' = s ∧ R' = R ∧ A'.handled = none) := .of_wp fun A R' s' hh => by
    obtain ⟨rfl, rfl, hh⟩ := hh
    refine wpAny_bind (wpAny_pure ?_)
    refine wpAny_bind ?_
    refine wpAny_bind ?_
    refine wpAny_bind (wpAny_typeNameOfWhole_keyiter hT (wpAny_pure ?_))
    refine wpAny_bind (wpAny_fieldsOf ho rfl ?_)
    have hown : Builtin.Dict_items.ownsTuple "dict_keyiterator" = false := by decide
    simp only [hown, Bool.false_eq_true, if_false]
    show wpAny _ _ (if (Value.ref d == Value.none) = true then _ else _) _ _ s'
    rw [if_neg (show ¬ ((Value.ref d == Value.none) = true) from Bool.false_ne_true)]
    refine wpAny_bind (wpAny_pure ?_)
    refine wpAny_bind (wpAny_dictEntries hd rfl ?_)
    rw [if_neg (by simp)]
    refine wpAny_bind (wpAny_pure ?_)
    refine wpAny_bind (wpAny_dictEpoch hd rfl ?_)
    rw [if_neg (by simp)]
    refine wpAny_pure ?_
    have hge : (l.map iE).toArray.size ≤ l.length := by simp
    simp only [show ¬ ((l.length : Int) < 0) from by omega, if_false, Int.toNat_natCast, Array.getElem?_eq_none hge]
    refine wpAny_bind ?_
    refine wpAny_bind (wpAny_typeNameOfWhole_keyiter hT (wpAny_pure ?_))
    show wpAny _ _ (setField (.ref a) 0 .none >>= _) _ _ s'
    refine wpAny_bind (wpAny_setField ho rfl (by simp) ?_)
    show wpAny _ _ (newExc (.type "StopIteration") [] >>= _) _ _ _
    refine wpAny_bind ?_
    simp only [newExc, newTuple]
    refine wpAny_bind (wpAny_newObj_type ?_ (by size_fits))
    refine wpAny_bind (m := firstArgMember _ _) (wpAny_of_eq (a := Value.none) (by first | rfl | (simp only [firstArgMember]; rfl)) ?_)
    refine wpAny_newObj_type ?_ (by size_fits)
    simp only [raiseNew]
    refine wpAny_bind (wpAny_handled ?_)
    rw [show A.in1.handled = none from hh]
    refine wpAny_bind (wpAny_pure (wpAny_throw ?_))
    have hsz : (s'.heap.update a (Obj.mapFields (·.setIfInBounds 0 Value.none))).objs.size = s'.heap.objs.size := (show Heap.SameBut a s'.heap (s'.heap.update a (Obj.mapFields (·.setIfInBounds 0 Value.none))) from Heap.SameBut.update ..).1
    have z := h (Obj.mapFields (·.setIfInBounds 0 Value.none)) (by simp [iterO, iterE, Obj.mapFields]) hsz
    have hown2 : ownMembersOf (Value.type "StopIteration") [] = #[] := by first | rfl | decide +kernel | (unfold ownMembersOf; kernel_rfl)
    rw [hown2, Heap.size_push, hsz]
    exact z
  exact key A R s ⟨rfl, rfl, hh⟩

theorem ok_knext (W : WF C s₀) {it a j d n i : Nat} {l : IL} {k : Int} {t : Tok} {v : Value} (ha : adrOf C.ps C.N it = a) (hd : adrOf C.ps C.N j = d) (hx : l[i]? = some (k, t, v)) : SmOk C w s₀ D U (mkSm C.t₀ (.knext it a j d l n i k t)) := by
  intro A s T na tk _ _ R req
  have e := req _ (.head _)
  have ho := R.own it _ e
  rw [ha] at ho
  have h2 := R.own j _ (req (j, _) (.tail _ (.head _)))
  rw [hd] at h2
  exact code_knext ho h2 hx fun f hf => ⟨rfl, R.chg W ha e hf rfl 0⟩
theorem puts_app (T : Tab) (i : Nat) (o : Obj) (l : List (Option Obj)) (h : i < Mine.len T) : put (app T l) i o = app (put T i o) l := by
  induction T generalizing i with
  | nil => simp [Mine.len] at h
  | cons x r ih =>
    cases i with
    | zero => rfl
    | succ i =>
      show x :: put (app r l) i o = x :: app (put r i o) l
      rw [ih i (by simp [Mine.len] at h; omega)]
theorem app_app : ∀ (T l m : Tab), app (app T l) m = app T (app l m)
  | [], _, _ => rfl
  | x :: r, l, m => congrArg (x :: ·) (app_app r l m)
theorem ok_kend (W : WF C s₀) {it a j d n : Nat} {l : IL} (ha : adrOf C.ps C.N it = a) (hd : adrOf C.ps C.N j = d) : SmOk C w s₀ D U (mkSm C.t₀ (.kend it a j d C.N l n)) := by
  intro A s T na tk hA _ R req
  have e := req _ (.head _)
  have ho := R.own it _ e
  rw [ha] at ho
  have h2 := R.own j _ (req (j, _) (.tail _ (.head _)))
  rw [hd] at h2
  refine code_kend (hA.2 rfl) ho h2 fun f hf hsz => ⟨?_, ?_⟩
  · rw [R.size]; rfl
  · have z := R.chg W ha e hf rfl 0
    rw [app_nil] at z
    have z1 := z.alloc (o := tupO []) rfl
    have z2 := z1.alloc (o := stopO (C.N + na)) rfl
    rw [app_app] at z2
    have hs : s.heap.objs.size = C.N + na := R.size
    show Rep C s₀ (app (put T it (iterE (List.length l) n)) [some (tupO []), some (stopO (C.N + na))]) (na + 2) (tk + 0) _
    rw [hs]
    exact z2
/-! dicts keyed by tuples of ints -/
def lk3 (l : TL) (k : List Int) : Option (Nat × Value) := atKey l k
theorem atKey_lk (l : TL) (k : List Int) : (atKey l k).map (·.2) = lk l k := by
  unfold atKey lk
  rw [Option.map_map]; rfl
theorem findIdx_of_get {l : TL} (hn : (l.map (·.1)).Nodup) {j : Nat} {k : List Int} {p : Nat × Value} (h : l[j]? = some (k, p)) : l.findIdx? (fun x => decide (x.1 = k)) = some j := by
  rw [List.findIdx?_eq_some_iff_getElem]
  have hj : j < l.length := (List.getElem?_eq_some_iff.mp h).1
  refine ⟨hj, by rw [(List.getElem?_eq_some_iff.mp h).2]; simp, fun i hi => ?_⟩
  simp only [decide_eq_true_eq]
  intro e
  have hi' : l[i]? = some (k, (l[i]'(by omega)).2) := by
    rw [List.getElem?_eq_getElem (by omega), ← e]
  exact absurd (idxH_unique hn hi' h) (by omega)
def TKeys (prog : Program) (w : World) (h : Heap) (l : TL) : Prop := ∀ x ∈ l, (tk2 prog w).is h x.1 x.2.1
section
variable {prog : Program} {w : World} {A : Around} {R : Result → Shared → Prop} {s : Shared} {d b n : Nat} {l : TL} {k : List Int}
theorem entsT (l : TL) : ((l.map (tE thI)).toArray).toList = l.map (entryOfKey (tk2 prog w)) := by
  simp only [List.map_inj_left]
  intro x _; rfl
theorem dictOfT (ho : s.heap.get? d = some (tdct thI l n)) (hk : TKeys prog w s.heap l) (hn : (l.map (·.1)).Nodup) : s.heap.DictOfH (tk2 prog w) d l :=
  ⟨_, _, n, ho, ⟨rfl, rfl, rfl⟩, rfl, entsT l, hk, hn⟩
theorem code_hasT (hu : A.in1.units < cLine) (hd : d ≠ 1) (ho : s.heap.get? d = some (tdct thI l n)) (hk : TKeys prog w s.heap l) (hn : (l.map (·.1)).Nodup) (hb : (tk2 prog w).is s.heap k b)
    (h : R (.ok (.ret (.bool (lk l k).isSome))) { s with toks := s.toks + (k.length + 1) }) : codeAny (model prog w) A (.call (.builtin "dict.__contains__") ⟨[.ref d, .ref b], []⟩) R s := by
  have hds : (d == sysModules) = false := by simpa [sysModules] using hd
  have hm := dictOfT (prog := prog) (w := w) ho hk hn
  refine codeAny_call_builtin slot_dict_contains.plain entry_dict_contains (slot_dict_contains.check _ _ _ _ _ _ _ _ hm.typeIs (args_dict_contains _ _) ?_)
  have key : MeetsIn prog w (Builtin.«dict.__contains__» ⟨[.ref d, .ref b], []⟩) (fun A' R' s' => s' = s ∧ R' = R ∧ A'.in1.units < cLine) := .of_wp fun A R' s' hh => by
    obtain ⟨rfl, rfl, hu⟩ := hh
    show wpAny _ _ (dictGet d (.ref b) >>= _) _ _ s'
    refine wpAny_bind (wpAny_dictGet_heap (knd := tk2 prog w) hu hb hm ?_)
    rw [atKey_lk]
    cases hf : lk l k with
    | some p =>
      rw [hf] at h
      show wpAny _ _ (ret (.bool true)) _ _ _
      exact wpAny_pure ⟨_, rfl, h⟩
    | none =>
      rw [hf] at h
      show wpAny _ _ (Builtin.Dict.pendingKey? d (.ref b) >>= _) _ _ _
      exact wpAny_bind (wpAny_pendingKey_other hds (wpAny_pure ⟨_, rfl, h⟩))
  exact key A R s ⟨rfl, rfl, hu⟩
theorem code_getT {v : Value} (hu : A.in1.units < cLine) (ho : s.heap.get? d = some (tdct thI l n)) (hk : TKeys prog w s.heap l) (hn : (l.map (·.1)).Nodup) (hb : (tk2 prog w).is s.heap k b) (hv : lk l k = some v)
    (h : R (.ok (.ret v)) { s with toks := s.toks + (k.length + 1) }) : codeAny (model prog w) A (.call (.builtin "dict.__getitem__") ⟨[.ref d, .ref b], []⟩) R s := by
  have hm := dictOfT (prog := prog) (w := w) ho hk hn
  refine codeAny_call_builtin slot_dict_getitem.plain entry_dict_getitem (slot_dict_getitem.check _ _ _ _ _ _ _ _ hm.typeIs (args_dict_getitem _ _) ?_)
  have key : MeetsIn prog w (Builtin.«dict.__getitem__» ⟨[.ref d, .ref b], []⟩) (fun A' R' s' => s' = s ∧ R' = R ∧ A'.in1.units < cLine) := .of_wp fun A R' s' hh => by
    obtain ⟨rfl, rfl, hu⟩ := hh
    show wpAny _ _ (dictGet d (.ref b) >>= _) _ _ s'
    refine wpAny_bind (wpAny_dictGet_heap (knd := tk2 prog w) hu hb hm ?_)
    rw [atKey_lk, hv]
    exact wpAny_pure ⟨_, rfl, h⟩
  exact key A R s ⟨rfl, rfl, hu⟩
theorem code_setT {v : Value} (hu : A.in1.units < cLine) (ho : s.heap.get? d = some (tdct thI l n)) (hk : TKeys prog w s.heap l) (hn : (l.map (·.1)).Nodup) (hb : (tk2 prog w).is s.heap k b) (hsz : l.length ≤ 1000)
    (hnew : lk l k = none → ∀ f : Obj → Obj, f (tdct thI l n) = tdct thI (l ++ [(k, b, v)]) (n + 1) → R (.ok (.ret .none)) { s with heap := s.heap.update d f, toks := s.toks + (k.length + 1) })
    (hold : (lk l k).isSome = true → ∀ f : Obj → Obj, f (tdct thI l n) = tdct thI (upd l k v) n → R (.ok (.ret .none)) { s with heap := s.heap.update d f, toks := s.toks + (k.length + 1) }) :
    codeAny (model prog w) A (.call (.builtin "dict.__setitem__") ⟨[.ref d, .ref b, v], []⟩) R s := by
  have hm := dictOfT (prog := prog) (w := w) ho hk hn
  refine codeAny_call_builtin slot_dict_setitem.plain entry_dict_setitem (slot_dict_setitem.check _ _ _ _ _ _ _ _ hm.typeIs (args_dict_setitem _ _ _) ?_)
  have key : MeetsIn prog w (Builtin.«dict.__setitem__» ⟨[.ref d, .ref b, v], []⟩) (fun A' R' s' => s' = s ∧ R' = R ∧ A'.in1.units < cLine) := .of_wp fun A R' s' hh => by
    obtain ⟨rfl, rfl, hu⟩ := hh
    show wpAny _ _ (Builtin.Dict.notOrdered "__setitem__" ⟨[.ref d, .ref b, v], []⟩ >>= _) _ _ s'
    refine wpAny_bind (wpAny_notOrdered_dict hm.typeIs ?_)
    show wpAny _ _ (dictSet d (.ref b) v >>= _) _ _ s'
    refine wpAny_bind ?_
    unfold dictSet
    try with_reducible refine wpAny_holding ?_
    refine wpAny_bind ((tk2 prog w).pyHash hu hb ?_)
    unfold dictSetHashed
    try with_reducible refine wpAny_holding ?_
    refine wpAny_bind (wpAny_dictFind_heap (knd := tk2 prog w) (s := { s' with toks := s'.toks + (tk2 prog w).draws k }) hu hb ho rfl (entsT l) hk hn ?_ ?_)
    · intro hno
      have hn' : lk l k = none := by rw [← atKey_lk, atKey_none_of_get hno]; rfl
      refine wpAny_bind (wpAny_rule (wpAny_updateDictKeys (s := { s' with toks := s'.toks + (tk2 prog w).draws k }) ho rfl (wpAny_pure ⟨.none, rfl, hnew hn' _ ?_⟩) (by simp only [List.size_toArray, List.length_map]; exact Nat.le_trans hsz (by decide))))
      show Obj.mapDictKeys _ (objOf _ _) = _
      simp [objOf, Obj.mapDictKeys, tE, tdct]; rfl
    · intro j p hj
      have hs : (lk l k).isSome = true := by rw [← atKey_lk, atKey_of_get hn hj]; rfl
      refine wpAny_bind (wpAny_rule (wpAny_bind (wpAny_updateDict (s := { s' with toks := s'.toks + (tk2 prog w).draws k }) ho rfl (wpAny_point (wpAny_pure ⟨.none, rfl, hold hs _ ?_⟩)))))
      show Obj.mapDict _ (objOf _ _) = _
      have : (l.map (tE thI)).modify j (fun e => { e with val := v }) = (upd l k v).map (tE thI) := by
        have hi := findIdx_of_get hn hj
        clear hm hk hj hs hnew hold ho hn
        induction l generalizing j with
        | nil => cases hi
        | cons x r ih =>
          rw [List.findIdx?_cons] at hi
          by_cases e : x.1 = k
          · simp only [e, decide_true, if_true, Option.some.injEq] at hi
            subst hi
            simp [upd, e, tE]
          · simp only [e, decide_false, Bool.false_eq_true, if_false, Option.map_eq_some_iff] at hi
            obtain ⟨j, hj, rfl⟩ := hi
            simp only [upd, e, if_false, List.map_cons, List.modify_succ_cons]
            rw [ih (by simp at hsz; omega) j hj]
      simp only [objOf, Obj.mapDict, List.modify_toArray, tdct]
      rw [this]
  exact key A R s ⟨rfl, rfl, hu⟩
theorem code_popT {v : Value} (hu : A.in1.units < cLine) (ho : s.heap.get? d = some (tdct thI l n)) (hk : TKeys prog w s.heap l) (hn : (l.map (·.1)).Nodup) (hb : (tk2 prog w).is s.heap k b) (hsz : l.length ≤ 1000) (hv : lk l k = some v)
    (h : ∀ f : Obj → Obj, f (tdct thI l n) = tdct thI (rem l k) (n + 1) → R (.ok (.ret v)) { s with heap := s.heap.update d f, toks := s.toks + (k.length + 1) }) :
    codeAny (model prog w) A (.call (.builtin "dict.pop") ⟨[.ref d, .ref b], []⟩) R s := by
  have hm := dictOfT (prog := prog) (w := w) ho hk hn
  refine codeAny_call_builtin F.slot_dict_pop.plain F.entry_dict_pop (F.slot_dict_pop.check _ _ _ _ _ _ _ _ hm.typeIs (F.args_dict_pop_2 _ _) ?_)
  have key : MeetsIn prog w (Builtin.«dict.pop» ⟨[.ref d, .ref b], []⟩) (fun A' R' s' => s' = s ∧ R' = R ∧ A'.in1.units < cLine) := .of_wp fun A R' s' hh => by
    obtain ⟨rfl, rfl, hu⟩ := hh
    unfold Builtin.«dict.pop»
    refine wpAny_bind ?_
    unfold Builtin.Dict.keyAndDefault
    refine wpAny_bind (wpAny_notOrdered_dict hm.typeIs ?_)
    show wpAny _ _ (pure (d, Value.ref b, none)) _ _ s'
    refine wpAny_pure ?_
    show wpAny _ _ (dictEntries d >>= _) _ _ s'
    refine wpAny_bind (wpAny_dictEntries (s := s') ho rfl ?_)
    refine wpAny_bind (wpAny_pure ?_)
    have hne : (l.map (tE thI)).toArray.isEmpty = false := by
      cases l with
      | nil => cases hv
      | cons x r => rfl
    rw [hne]
    show wpAny _ _ (Builtin.Dict.takeOut d (.ref b) >>= _) _ _ s'
    refine wpAny_bind ?_
    unfold Builtin.Dict.takeOut
    try with_reducible refine wpAny_holding ?_
    refine wpAny_bind ((tk2 prog w).pyHash hu hb ?_)
    refine wpAny_bind (wpAny_dictFind_heap (knd := tk2 prog w) (s := { s' with toks := s'.toks + (tk2 prog w).draws k }) hu hb ho rfl (entsT l) hk hn ?_ ?_)
    · intro hno
      have hn' : lk l k = none := by rw [← atKey_lk, atKey_none_of_get hno]; rfl
      rw [hv] at hn'; cases hn'
    · intro j p hj
      refine wpAny_bind (wpAny_dictEntries (s := { s' with toks := s'.toks + (tk2 prog w).draws k }) ho rfl ?_)
      have hlt : j < l.length := (List.getElem?_eq_some_iff.mp hj).1
      simp only [List.getElem?_toArray, List.getElem?_map, hj, Option.map_some]
      refine wpAny_bind (wpAny_updateDictKeys (s := { s' with toks := s'.toks + (tk2 prog w).draws k }) ho rfl (wpAny_pure ?_) (by simp only [List.size_toArray, List.length_map]; exact Nat.le_trans hsz (by decide)))
      have hpv : p.2 = v := by
        have := atKey_lk l k
        rw [atKey_of_get hn hj, hv] at this
        simpa using this
      have : (l.map (tE thI)).eraseIdx j = (rem l k).map (tE thI) := by
        have hi := findIdx_of_get hn hj
        clear hm hk hj h ho hn hne hv hlt
        induction l generalizing j with
        | nil => cases hi
        | cons x r ih =>
          rw [List.findIdx?_cons] at hi
          by_cases e : x.1 = k
          · simp only [e, decide_true, if_true, Option.some.injEq] at hi
            subst hi
            simp [rem, e]
          · simp only [e, decide_false, Bool.false_eq_true, if_false, Option.map_eq_some_iff] at hi
            obtain ⟨j, hj, rfl⟩ := hi
            simp only [rem, e, if_false, List.map_cons, List.eraseIdx_cons_succ]
            rw [ih (by simp at hsz; omega) j hj]
      have hf : ∀ (f : Obj → Obj), f (tdct thI l n) = tdct thI (rem l k) (n + 1) → R' (.ok (.ret p.2)) { s' with heap := s'.heap.update d f, toks := s'.toks + (k.length + 1) } := hpv ▸ h
      rw [if_neg (by simp)]
      refine wpAny_bind (wpAny_letGo (wpAny_pure ⟨p.2, rfl, hf _ ?_⟩))
      show Obj.mapDictKeys _ (objOf _ _) = _
      simp only [objOf, Obj.mapDictKeys, List.eraseIdxIfInBounds_toArray, tdct]
      rw [this]
  exact key A R s ⟨rfl, rfl, hu⟩
end
/-- what is asked of a dict keyed by tuples -/
structure TOk (C : Cx) (w : World) (s₀ : Shared) (D U i a : Nat) (l : TL) (k : List Int) (kv : List Value) (j b : Nat) : Prop where
  W : WF C s₀
  ha : adrOf C.ps C.N i = a
  h1 : a ≠ 1
  hb : adrOf C.ps C.N j = b
  room : U + 402 < cLine
  nd : (l.map (·.1)).Nodup
  key : ItemsAre (intKind C.prog w) k kv
  two : k.length = 2
  sz : l.length ≤ 1000
  old : ∀ x ∈ l, ∃ kv', s₀.heap.get? x.2.1 = some (tupO kv') ∧ ItemsAre (intKind C.prog w) x.1 kv' ∧ x.2.1 ∉ C.ps
section
variable {i a n j b : Nat} {l : TL} {k : List Int} {kv : List Value}
theorem TOk.keys (O : TOk C w s₀ D U i a l k kv j b) (R : Rep C s₀ T na tk s) : TKeys C.prog w s.heap l := by
  intro x hx
  obtain ⟨kv', h1, h2, h3⟩ := O.old x hx
  exact ⟨_, _, 0, R.keep _ _ h1 h3, rfl, rfl, by simpa using h2⟩
theorem TOk.key' (O : TOk C w s₀ D U i a l k kv j b) (R : Rep C s₀ T na tk s) (e : nth T j = some (tupO kv)) : (tk2 C.prog w).is s.heap k b := by
  have := R.own j _ e
  rw [O.hb] at this
  exact ⟨_, _, 0, this, rfl, rfl, by simpa using O.key⟩
theorem TOk.units {A : Around} (O : TOk C w s₀ D U i a l k kv j b) (h : A.units ≤ U + 400) : A.in1.units < cLine := by
  have := O.room
  show A.units + 1 < cLine
  omega
theorem ok_hasT {r : Bool} (O : TOk C w s₀ D U i a l k kv j b) (hr : (lk l k).isSome = r) : SmOk C w s₀ D U (mkSm C.t₀ (.hasT thI i a l n k kv j b r)) := by
  intro A s T na tk _ hu R req
  have ho := R.own i _ (req _ (.head _))
  rw [O.ha] at ho
  refine code_hasT (O.units hu) O.h1 ho (O.keys R) O.nd (O.key' R (req (j, _) (.tail _ (.head _)))) ?_
  rw [O.two]
  exact ⟨by rw [hr]; rfl, R.same 3⟩
theorem ok_getT {v : Value} (O : TOk C w s₀ D U i a l k kv j b) (hv : lk l k = some v) : SmOk C w s₀ D U (mkSm C.t₀ (.getT thI i a l n k kv j b v)) := by
  intro A s T na tk _ hu R req
  have ho := R.own i _ (req _ (.head _))
  rw [O.ha] at ho
  refine code_getT (O.units hu) ho (O.keys R) O.nd (O.key' R (req (j, _) (.tail _ (.head _)))) hv ?_
  rw [O.two]
  exact ⟨rfl, R.same 3⟩
theorem ok_setT {v : Value} (O : TOk C w s₀ D U i a l k kv j b) : SmOk C w s₀ D U (mkSm C.t₀ (.setT thI i a l n k kv j b v)) := by
  intro A s T na tk _ hu R req
  have e := req _ (.head _)
  have ho := R.own i _ e
  rw [O.ha] at ho
  refine code_setT (O.units hu) ho (O.keys R) O.nd (O.key' R (req (j, _) (.tail _ (.head _)))) O.sz (fun hn f hf => ?_) (fun hn f hf => ?_)
  · rw [O.two]
    refine ⟨rfl, R.chg O.W O.ha e ?_ rfl 3⟩
    show f (tdct thI l n) = tdct thI (setL l k b v) (setN l n k)
    unfold setL setN
    rw [if_neg (by rw [hn]; simp), if_neg (by rw [hn]; simp)]
    exact hf
  · rw [O.two]
    refine ⟨rfl, R.chg O.W O.ha e ?_ rfl 3⟩
    show f (tdct thI l n) = tdct thI (setL l k b v) (setN l n k)
    unfold setL setN
    rw [if_pos hn, if_pos hn]
    exact hf
theorem ok_popT {v : Value} (O : TOk C w s₀ D U i a l k kv j b) (hv : lk l k = some v) : SmOk C w s₀ D U (mkSm C.t₀ (.popT thI i a l n k kv j b v)) := by
  intro A s T na tk _ hu R req
  have e := req _ (.head _)
  have ho := R.own i _ e
  rw [O.ha] at ho
  refine code_popT (O.units hu) ho (O.keys R) O.nd (O.key' R (req (j, _) (.tail _ (.head _)))) O.sz hv (fun f hf => ?_)
  rw [O.two]
  exact ⟨rfl, R.chg O.W O.ha e hf rfl 3⟩
end
end
end Mine

end
/-! HBase -/
section
open PySem PySem.W PySem.W.X PyProof.Rows
namespace Mine
/-- the one switch of the world that the runs ask for, decided -/
def swP (P : Params) (b : Bool) : Params := { P with followText := fun s => if (s == "special-get-raises") = true then b else P.followText s }
theorem swP_eq (P : Params) : swP P (P.followText "special-get-raises") = P := by
  obtain ⟨⟩ := P
  unfold swP
  congr 1
  funext s
  by_cases h : s = "special-get-raises" <;> simp [h]
def pick (T : Tab) : List Nat → List (Option Obj)
  | [] => []
  | i :: r => nth T i :: pick T r
def swaps : List Ob → List Ob
  | [] => []
  | o :: r => o.swap :: swaps r
def look {α : Type} (ks : List Nat) : Out α → Option (Except Value α × List (Option Obj) × Nat × Nat × List Ob)
  | .done r _ _ _ T na tk obs => some (r, pick T ks, na, tk, swaps obs)
  | .bad _ => none
def lookD {α : Type} : Out α → Option (Except Value α × Bool × List Ob)
  | .done r _ _ _ T _ _ obs => some (r, live T, swaps obs)
  | .bad _ => none
def obsOf {α : Type} : Out α → List Ob
  | .done _ _ _ _ _ _ _ obs => obs
  | .bad _ => []
theorem swaps_ok : ∀ {l : List Ob}, swaps l = l → ∀ ob ∈ l, ob.ok
  | [], _, _, h => nomatch h
  | o :: r, e, ob, h => by
    injection e with e1 e2
    rcases List.mem_cons.mp h with rfl | h
    · cases ob <;> (simp only [Ob.swap, Ob.a.injEq, Ob.c.injEq, Ob.o.injEq, Ob.s.injEq] at e1; exact e1.2)
    · exact swaps_ok e2 ob h
theorem live_pick {T : Tab} {ks : List Nat} {o : Obj} {r : List (Option Obj)} (e : pick T ks = some o :: r) : live T = true := by
  cases ks with
  | nil => cases e
  | cons i ks =>
    simp only [pick, List.cons.injEq] at e
    exact live_nth e.1
theorem Done.of_look {α : Type} {C : Cx} {s₀ : Shared} {X : Shared → Prop} {ks : List Nat} {x : Out α} {r : Except Value α} {o : Obj} {os : List (Option Obj)} {na tk : Nat} {P : Except Value α → Pos → Shared → Prop}
    (e : look ks x = some (r, some o :: os, na, tk, obsOf x)) (k : ∀ s' T p, Rep C s₀ T na tk s' → pick T ks = some o :: os → P r p s') : Done C s₀ X x P := by
  cases x with
  | bad n => cases e
  | done r' p' h' sm' T' na' tk' obs' =>
    simp only [look, obsOf, Option.some.injEq, Prod.mk.injEq] at e
    obtain ⟨rfl, e1, rfl, rfl, e2⟩ := e
    exact ⟨_, _, _, _, _, _, _, _, rfl, swaps_ok e2, fun s' R => k s' _ _ (R.get (live_pick e1)) e1⟩
theorem Done.of_lookD {α : Type} {C : Cx} {s₀ : Shared} {X : Shared → Prop} {x : Out α} {r : Except Value α} {P : Except Value α → Pos → Shared → Prop}
    (e : lookD x = some (r, false, obsOf x)) (k : ∀ s' p, X s' → P r p s') : Done C s₀ X x P := by
  cases x with
  | bad n => cases e
  | done r' p' h' sm' T' na' tk' obs' =>
    simp only [lookD, obsOf, Option.some.injEq, Prod.mk.injEq] at e
    obtain ⟨rfl, e1, e2⟩ := e
    exact ⟨_, _, _, _, _, _, _, _, rfl, swaps_ok e2, fun s' R => k s' _ (by unfold RepX at R; rw [e1] at R; exact R)⟩
def cK1 : Str := ⟨#[95, 67, 97, 99, 104, 101, 95, 95, 109, 115, 103, 73, 100, 73, 110, 100, 101, 120]⟩
def cK2 : Str := ⟨#[95, 67, 97, 99, 104, 101, 95, 95, 115, 116, 97, 116, 101, 82, 101, 102, 101, 114, 101, 110, 99, 101, 73, 110, 100, 101, 120]⟩
def cK3 : Str := ⟨#[95, 67, 97, 99, 104, 101, 95, 95, 115, 101, 110, 100, 80, 100, 117, 72, 97, 110, 100, 108, 101, 73, 100, 120]⟩
def cK4 : Str := ⟨#[95, 67, 97, 99, 104, 101, 95, 95, 101, 120, 112, 105, 114, 97, 116, 105, 111, 110, 81, 117, 101, 117, 101]⟩
def cK5 : Str := ⟨#[95, 67, 97, 99, 104, 101, 95, 95, 101, 120, 112, 105, 114, 97, 116, 105, 111, 110, 84, 105, 109, 101, 114]⟩
/-- the attributes of a cache -/
def cdict (P : Params) (k0 k1 k2 k3 k4 : Tok) (aM aS aH aQ : Nat) (tm : Int) (ti : Tok) : Obj :=
  sdct P [(cK1, k0, .ref aM), (cK2, k1, .ref aS), (cK3, k2, .ref aH), (cK4, k3, .ref aQ), (cK5, k4, .int tm ti)] 5
def instO (dx : Nat) : Obj := { cls := .ref 118, dict := some dx, data := .plain }
example : cK1 = Str.ofString "_Cache__msgIdIndex" := by decide +kernel
example : cK2 = Str.ofString "_Cache__stateReferenceIndex" := by decide +kernel
example : cK3 = Str.ofString "_Cache__sendPduHandleIdx" := by decide +kernel
example : cK4 = Str.ofString "_Cache__expirationQueue" := by decide +kernel
example : cK5 = Str.ofString "_Cache__expirationTimer" := by decide +kernel
example : nS = Str.ofString "stateReference" ∧ nM = Str.ofString "msgId" ∧ nW = Str.ofString "word" ∧ nH = Str.ofString "sendPduHandle" := by decide +kernel
/-! two runs are one where their parts are: so that nothing need be run to see it -/
theorem xeq {C C' : Cx} {n h : Nat} {c : Code} {p : Pos} {bl : List (Code × Pos)} {sm sm' : List Sm} {T T' : Tab} (hC : C = C') (hT : T = T') (hs : sm = sm') : (run C n).c c p bl none 0 0 h sm T 0 0 [] = (run C' n).c c p bl none 0 0 h sm' T' 0 0 [] := by
  subst hC; subst hT; subst hs; rfl
theorem xeqT {α : Type} {C C' : Cx} {n h na tk : Nat} {x x' : Sem α} {cur : Code} {p : Pos} {bl : List (Code × Pos)} {sm sm' : List Sm} {T T' : Tab} (hC : C = C') (hx : x = x') (hT : T = T') (hs : sm = sm') : (run C n).t α x cur p bl none 0 0 h sm T na tk [] = (run C' n).t α x' cur p bl none 0 0 h sm' T' na tk [] := by
  subst hC; subst hx; subst hT; subst hs; rfl
theorem Done.of_lookX {α : Type} {C : Cx} {s₀ : Shared} {X : Shared → Prop} {ks : List Nat} {x y : Out α} {r : Except Value α} {o : Obj} {os : List (Option Obj)} {na tk : Nat} {P : Except Value α → Pos → Shared → Prop}
    (e : look ks y = some (r, some o :: os, na, tk, obsOf y)) (hX : y = x) (k : ∀ s' T p, Rep C s₀ T na tk s' → pick T ks = some o :: os → P r p s') : Done C s₀ X x P := by
  subst hX; exact Done.of_look e k
theorem Done.of_lookDX {α : Type} {C : Cx} {s₀ : Shared} {X : Shared → Prop} {x y : Out α} {r : Except Value α} {P : Except Value α → Pos → Shared → Prop}
    (e : lookD y = some (r, false, obsOf y)) (hX : y = x) (k : ∀ s' p, X s' → P r p s') : Done C s₀ X x P := by
  subst hX; exact Done.of_lookD e k
end Mine

end
/-! HTree -/
section
open PySem PySem.W PySem.W.X PyProof.Rows
namespace Mine
/-! the program's functions, as the top holds them -/
noncomputable def fdOf (P : Params) (a : Nat) : FuncData := match (Mine.hz.ktop_302 P).get a with
  | some o => match o.data with
    | .func fd => fd
    | _ => default
  | none => default
def bodyOf (fd : FuncData) : List Stmt := match fd.body with
  | .stmts b => b
  | _ => []
def tryB : List Stmt → List Stmt
  | [.Try b _ _ _ _] => b
  | _ => []
def tryH : List Stmt → List ExceptHandler
  | [.Try _ h _ _ _] => h
  | _ => []
noncomputable def envO (P : Params) (a L : Nat) : Env :=
  { scope := (fdOf P a).scope, locals := L, globals := (fdOf P a).globals, cells := [], qual := (fdOf P a).qualname ++ ".<locals>.", func := some a, code := (fdOf P a).code, frame := some L, builtins := (fdOf P a).builtins }
def frmO (P : Params) (l : SL) (n : Nat) : Obj := { cls := .type "frame", data := (sdct P l n).data }

abbrev TH := List Int → Int
abbrev ON := Option Nat
abbrev VL := List Value
abbrev SLO := Array (Option Value)
def excO (c : Value) (d : Option Nat) (xs : List Value) (sl : Array (Option Value)) : Obj := { cls := c, dict := d, data := .fields xs.toArray, slots := sl }
def raiseSm (c : Code) (req : List (Nat × Obj)) (e na0 : Nat) (st : List Code) : Sm := { code := c, req := req, upd := none2, new := none3, res := fun _ _ => .error (.ref e), tk := 0, d := 80, u := 400, dead := true, st := st, na0 := na0 }
section
variable {C : Cx} {w : World} {s₀ : Shared} {D U : Nat} {X : Shared → Prop} (W : WF C s₀) (hP : C.P = w.params) (hX : ∀ s, X s → s.heap.NoLimit) (hD : D + 90 < recursionLimit)
include W hP hX hD
theorem tree_run {α : Type} {A : Around} {x : Sem α} {Q : α → Shared → Prop} {E : Value → Shared → Prop} {s : Shared} {T : Tab} {na tk n h : Nat} {sm : Code → List (Code × Pos) → List Sm} (hh : A.handled = none) (hd : A.depth ≤ D) (hu : A.units ≤ U) (R : Rep C s₀ T na tk s) (hl : live T = true)
    (hs : ∀ Γ, Ctx.In Γ A → ∀ m ∈ sm Γ.code Γ.below, SmOkX C w s₀ D U X m)
    (H : ∀ cur p bl, Done C s₀ X ((run C n).t α x cur p bl none 0 0 h (sm cur bl) T na tk []) (fun r _ s' => match r with | .ok a => Q a s' | .error e => E e s')) :
    wpAny (model C.prog w) A x Q E s := by
  intro Γ p hΓ
  have hh' : Γ.handled = none := hΓ.1.trans hh
  refine (sound W hP hX hD n).1 α x Γ p 0 0 h (sm Γ.code Γ.below) T na tk [] s _ _ (by have := hΓ.2.1; omega) (by have := hΓ.2.2.2.2; omega) (RepX.mk R hl) (hs Γ hΓ) ?_
  rw [hh']
  have z := H Γ.code p Γ.below
  obtain ⟨r, p', h', sm', T', na', tk', obs', e, k1, k2⟩ := z
  refine ⟨r, p', h', sm', T', na', tk', obs', e, k1, fun s' R' => ?_⟩
  have y := k2 s' R'
  cases r <;> exact y
theorem code_run {A : Around} {c : Code} {R : Result → Shared → Prop} {s : Shared} {T : Tab} {na tk n h : Nat} {sm : List Sm} (hh : A.handled = none) (hd : A.depth ≤ D) (hu : A.units ≤ U) (Rp : Rep C s₀ T na tk s) (hl : live T = true)
    (hs : ∀ m ∈ sm, SmOkX C w s₀ D U X m)
    (H : ∀ p bl, Done C s₀ X ((run C n).c c p bl none 0 0 h sm T na tk []) (fun r _ s' => R r s')) :
    codeAny (model C.prog w) A c R s := by
  intro Γ p hc hΓ
  have hh' : Γ.handled = none := hΓ.1.trans hh
  refine (sound W hP hX hD n).2 Γ p 0 0 h sm T na tk [] s R (by have := hΓ.2.1; omega) (by have := hΓ.2.2.2.2; omega) (RepX.mk Rp hl) hs ?_
  rw [hh', hc]
  exact H p Γ.below
end
theorem codeAny_enter {prog : Program} {w : World} {A : Around} {a : Nat} {args : Args} {R : Result → Shared → Prop} {s : Shared} {o : Obj} {fd : FuncData} (hroom : A.depth < recursionLimit) (ho : s.heap.get? a = some o) (hfd : o.data = .func fd)
    (hg : fd.scope.isGenerator = false) (hc : fd.scope.isCoroutine = false)
    (h : wpAny (model prog w) A.in1 (enterTree a fd args) (fun fin s' => s'.heap.NoLimit ∧ ∃ c, fin = .again c ∧ c.quiet = true ∧ codeAny (model prog w) A c R s') (fun e s' => R (.error e) s') s) :
    codeAny (model prog w) A (.call (.ref a) args) R s := by
  refine codeAny_of_tree ?_
  show wpAny _ A.in1 (callAny (.ref a) args) _ _ s
  simp only [callAny]
  refine wpAny_bind (wpAny_load ho ?_)
  simp only [hfd]
  rw [callFunction_eq a fd args hg hc]
  refine wpAny_bind ?_
  have z : wpAny (model prog w) A.in1 (entryEnv a fd args) (fun env s' => s'.heap.NoLimit ∧ ∃ c, Fin.again (bodyCode fd env) = .again c ∧ c.quiet = true ∧ codeAny (model prog w) A c R s') (fun e s' => R (.error e) s') s := by
    intro Γ p hΓ
    have y := h Γ p hΓ
    unfold enterTree at y
    rw [Sem.wp_bind'] at y
    exact y
  refine wpAny_mono z (fun env s' h' => ?_) (fun _ _ h' => h')
  refine wpAny_bind (wpAny_enterFrame h'.1 hroom (wpAny_pure ?_))
  obtain ⟨_, c, hc, hq, k⟩ := h'
  injection hc with hc
  subst hc
  exact ⟨hq, k⟩
theorem envs_codes : ∀ {l l' : List (Code × Pos)}, codesOf l = codesOf l' → envsOf l = envsOf l'
  | [], [], _ => rfl
  | [], _ :: _, h => by cases h
  | _ :: _, [], h => by cases h
  | (c, p) :: l, (c', p') :: l', h => by
    simp only [codesOf, List.cons.injEq] at h
    obtain ⟨rfl, h⟩ := h
    rw [envsOf_cons, envsOf_cons, envs_codes h]
theorem smDead_of {C : Cx} {w : World} {s₀ : Shared} {D U : Nat} {X : Shared → Prop} {m : Sm} {A : Around} {bl : List (Code × Pos)} {es : List Env} (hst : m.st = codesOf bl) (hes : envsOf bl = es)
    (h1 : A.handled = none) (h2 : D + m.d ≤ A.depth) (h3 : U + m.u ≤ A.units) (h4 : A.guards = none) (h5 : A.frames = some es)
    (h : ∀ s T na tk, na = m.na0 → Rep C s₀ T na tk s → (∀ p ∈ m.req, nth T p.1 = some p.2) → codeAny (model C.prog w) A m.code (fun r s' => r = m.res na tk ∧ X s') s) : SmDead C w s₀ D U X m := by
  intro Γ p s T na tk hc hh hna hb hd hu R req
  refine h s T na tk hna R req Γ p hc ⟨hh.trans h1.symm, Nat.le_trans hd h2, fun l hl => ?_, fun g hg => ?_, Nat.le_trans hu h3⟩
  · rw [h5] at hl
    injection hl with hl
    rw [← hl, ← hes]
    exact envs_codes (hb.trans hst)
  · rw [h4] at hg; cases hg
end Mine

end
/-! HInv -/
section
open PySem PySem.W PySem.W.X PyProof.Rows
namespace Mine
/-! the top -/
noncomputable def es2 (P : Params) : List DictEntry := match (Mine.hz.ktop_302 P).get 2 with
  | some o => match o.data with
    | .dict es _ => es.toList
    | _ => []
  | none => []
noncomputable def ob2 (P : Params) : Obj := match (Mine.hz.ktop_302 P).get 2 with
  | some o => o
  | none => default
theorem kt2 (P : Params) : (Mine.hz.ktop_302 P).get 2 = some (ob2 P) := by kernel_rfl
theorem kt2d (P : Params) : (ob2 P).data = .dict (es2 P).toArray 3 := by kernel_rfl
def isStrKey : Value → Bool
  | .str _ _ => true
  | _ => false
theorem kt2s (P : Params) : ((es2 P).all fun e => isStrKey e.key) = true := by kernel_rfl
theorem kt2f (P : Params) : nsFind (es2 P).toArray "sys.recursionlimit" = none := by kernel_rfl
theorem top_nolim (P : Params) (h : Heap) (H : ∀ b o, (Mine.hz.ktop_302 P).get b = some o → h.get? b = some o) : h.NoLimit := by
  refine ⟨fun x => nsFind (es2 P).toArray x, ⟨_, _, _, H 2 _ (kt2 P), kt2d P, ?_, fun _ => rfl⟩, kt2f P⟩
  intro e he
  have := List.all_eq_true.mp (kt2s P) e (by simpa using he)
  cases hk : e.key <;> rw [hk] at this <;> first | exact ⟨_, _, rfl⟩ | cases this
def TopIn (P : Params) (h : Heap) : Prop := ∀ b o, (Mine.hz.ktop_302 P).get b = some o → h.get? b = some o
def TopB (P : Params) : Prop := ∀ b o, (Mine.hz.ktop_302 P).get b = some o → b < 150
/-- the context of a run that starts at s -/
noncomputable def cxOf (prog : Program) (w : World) (s : Shared) (ps : List Nat) : Cx := ⟨prog, swP w.params (w.params.followText "special-get-raises"), Mine.hz.ktop_302 w.params, s.heap.objs.size - 150 + 150, s.toks, ps⟩
theorem cxP (prog : Program) (w : World) (s : Shared) (ps : List Nat) : (cxOf prog w s ps).P = w.params := swP_eq _
theorem wf_of {prog : Program} {w : World} {s : Shared} {ps : List Nat} (HB : TopB w.params) (HT : TopIn w.params s.heap) (h150 : 150 ≤ s.heap.objs.size) (hb : ∀ p ∈ ps, 150 ≤ p ∧ p < s.heap.objs.size) (hn : ps.Nodup) : WF (cxOf prog w s ps) s := by
  refine ⟨?_, fun p hp => ?_, hn, HT, fun b o e hm => ?_, fun h H => top_nolim _ h H⟩
  · show _ = s.heap.objs.size - 150 + 150
    omega
  · show p < s.heap.objs.size - 150 + 150
    have := (hb p hp).2
    omega
  · have h1 := HB b o e
    have h2 := (hb b hm).1
    omega
section
variable {prog : Program} {w : World} {s : Shared} {ps : List Nat} {D U : Nat}
/-- a run of a code from s on -/
theorem run_code {A : Around} {c : Code} {R : Result → Shared → Prop} {T : Tab} {n h na tk : Nat} {sm : List Sm} {ks : List Nat} {r : Result} {o : Obj} {os : List (Option Obj)} {X : Pos → List (Code × Pos) → Out Flow} (W : WF (cxOf prog w s ps) s) (hh : A.handled = none) (hd : A.depth ≤ D) (hD : D + 90 < recursionLimit) (hu : A.units ≤ U)
    (hl : Mine.len T = ps.length) (hT : ∀ i o, nth T i = some o → s.heap.get? (adrOf ps (s.heap.objs.size - 150 + 150) i) = some o) (hv : live T = true) (hs : ∀ m ∈ sm, SmOkX (cxOf prog w s ps) w s D U (fun _ => False) m)
    (e : ∀ p bl, look ks (X p bl) = some (r, some o :: os, na, tk, obsOf (X p bl))) (hX : ∀ p bl, X p bl = (run (cxOf prog w s ps) n).c c p bl none 0 0 h sm T 0 0 [])
    (k : ∀ s' T', Rep (cxOf prog w s ps) s T' na tk s' → pick T' ks = some o :: os → R r s') : codeAny (model prog w) A c R s :=
  code_run (C := cxOf prog w s ps) (X := fun _ => False) W (cxP ..) (fun _ f => f.elim) hD hh hd hu (Rep.start W hl rfl hT) hv hs fun p bl => by
    rw [← hX]
    exact Done.of_look (e p bl) fun s' T' p' R' hp => k s' T' R' hp
end
/-- what a picked table says of the heap -/
theorem own_pick {C : Cx} {s₀ s : Shared} {T : Tab} {na tk : Nat} (R : Rep C s₀ T na tk s) : ∀ {ks : List Nat} {os : List (Option Obj)}, pick T ks = os → ∀ p ∈ List.zip ks os, ∀ o, p.2 = some o → s.heap.get? (adrOf C.ps C.N p.1) = some o
  | [], os, e, p, hp, _, _ => by simp at hp
  | k :: ks, os, e, p, hp, o, ho => by
    subst e
    simp only [pick, List.zip_cons_cons, List.mem_cons] at hp
    rcases hp with rfl | hp
    · exact R.own _ _ ho
    · exact own_pick R rfl p hp o ho
end Mine

end
/-! HSep -/
section
open PySem PySem.W PySem.W.X PyProof.Rows
namespace Mine
/-- the part that an object plays -/
inductive Role where
  | o (i : Nat)
  | q (e : Int)
  | r (e : Int) (b : Bool)
  | t (b : Bool) (k : Int)
  | i (b : Bool) (k : Int)
structure Cch where
  A0 : Nat
  A1 : Nat
  A2 : Nat
  A3 : Nat
  A4 : Nat
  A5 : Nat
  k0 : Nat
  k1 : Nat
  k2 : Nat
  k3 : Nat
  k4 : Nat
  ti : Nat
  tm : Int
  lM : IL
  lS : IL
  lH : IL
  lQ : IL
  eM : Nat
  eS : Nat
  eH : Nat
  eQ : Nat
  lab : Nat → Option Role
def Cch.L (g : Cch) : Bool → IL
  | true => g.lM
  | false => g.lS
def nm : Bool → Str
  | true => nM
  | false => nS
abbrev Ab := Bool → Int → Option (Int × Int)
def EntO (P : Params) (h : Heap) (g : Cch) (b : Bool) (k : Int) : Option Value → Option (Int × Int) → Prop
  | none, r => r = none
  | some v, r => ∃ (T I : Nat) (e x : Int) (y : Tok) (li : SL) (ni : Nat), 150 ≤ T ∧ 150 ≤ I ∧ v = .ref T ∧ r = some (x, e) ∧ h.get? T = some (tupO [.ref I, .int e y]) ∧ h.get? I = some (sdct P li ni) ∧ (∃ y', lk li nW = some (.int x y')) ∧
      (b = true → ∃ z, lk li nH = some (.int (100 + k) z)) ∧ g.lab T = some (.t b k) ∧ g.lab I = some (.i b k)
def InnO (h : Heap) (g : Cch) (a : Ab) (B : Nat) (e : Int) (b : Bool) : Option Value → Prop
  | none => ∀ k x, a b k ≠ some (x, e)
  | some u => ∃ (r : Nat) (lr : IL) (nr : Nat), 150 ≤ r ∧ u = .ref r ∧ h.get? r = some (idct lr nr) ∧ g.lab r = some (.r e b) ∧ (lr.map (·.1)).Nodup ∧ lr.length ≤ B ∧ ∀ k, (lk lr k).isSome = true ↔ ∃ x, a b k = some (x, e)
def QueO (P : Params) (h : Heap) (g : Cch) (a : Ab) (B : Nat) (e : Int) : Option Value → Prop
  | none => ∀ b k x, a b k ≠ some (x, e)
  | some v => ∃ (q : Nat) (lq : SL) (nq : Nat), 150 ≤ q ∧ v = .ref q ∧ h.get? q = some (sdct P lq nq) ∧ g.lab q = some (.q e) ∧ (lq.map (·.1)).Nodup ∧ lq.length ≤ B ∧ ∀ b, InnO h g a B e b (lk lq (nm b))
structure Obs (P : Params) (h : Heap) (g : Cch) (B : Nat) : Prop where
  o0 : h.get? (g.A0+150) = some (cdict P g.k0 g.k1 g.k2 g.k3 g.k4 (g.A2+150) (g.A3+150) (g.A4+150) (g.A5+150) g.tm g.ti)
  o1 : h.get? (g.A1+150) = some (instO (g.A0+150))
  o2 : h.get? (g.A2+150) = some (idct g.lM g.eM)
  o3 : h.get? (g.A3+150) = some (idct g.lS g.eS)
  o4 : h.get? (g.A4+150) = some (idct g.lH g.eH)
  o5 : h.get? (g.A5+150) = some (idct g.lQ g.eQ)
  labs : [g.A0+150, g.A1+150, g.A2+150, g.A3+150, g.A4+150, g.A5+150].map g.lab = [Role.o 0, .o 1, .o 2, .o 3, .o 4, .o 5].map some
  nd : ∀ b, ((g.L b).map (·.1)).Nodup
  ndH : (g.lH.map (·.1)).Nodup
  ndQ : (g.lQ.map (·.1)).Nodup
  le : ∀ b, (g.L b).length ≤ B
  leH : g.lH.length ≤ B
  leQ : g.lQ.length ≤ B
structure Hds (g : Cch) (a : Ab) (hd : Int → Bool) : Prop where
  hdl : ∀ k, hd k = (lk g.lH (100 + k)).isSome
  hdk : ∀ k v, lk g.lH (100 + k) = some v → ∃ t, v = .int k t
  hda : ∀ k, (a true k).isSome = true → hd k = true
  rng : ∀ b k, (a b k).isSome = true → 0 ≤ k ∧ k < 3
structure Rp (P : Params) (h : Heap) (g : Cch) (a : Ab) (hd : Int → Bool) (B : Nat) : Prop where
  obs : Obs P h g B
  ent : ∀ b k, EntO P h g b k (lk (g.L b) k) (a b k)
  que : ∀ e, QueO P h g a B e (lk g.lQ e)
  hds : Hds g a hd
/-- what stays: all that plays no part in Z -/
def Kp (h h' : Heap) (g g' : Cch) (Z : List Role) : Prop := ∀ x o r, g.lab x = some r → r ∉ Z → h.get? x = some o → h'.get? x = some o ∧ g'.lab x = some r
theorem EntO.mono {P : Params} {h h' : Heap} {g g' : Cch} {b : Bool} {k : Int} {Z : List Role} (K : Kp h h' g g' Z) (h1 : .t b k ∉ Z) (h2 : .i b k ∉ Z) : ∀ {v : Option Value} {r : Option (Int × Int)}, EntO P h g b k v r → EntO P h' g' b k v r
  | none, _, x => x
  | some v, _, ⟨T, I, e, x, y, li, ni, a1, a2, a3, a4, a5, a6, a7, a8, a9, a10⟩ => by
    have u := K T _ _ a9 h1 a5
    have u2 := K I _ _ a10 h2 a6
    exact ⟨T, I, e, x, y, li, ni, a1, a2, a3, a4, u.1, u2.1, a7, a8, u.2, u2.2⟩
theorem InnO.mono {h h' : Heap} {g g' : Cch} {a a' : Ab} {B B' : Nat} {e : Int} {b : Bool} {Z : List Role} (K : Kp h h' g g' Z) (h1 : .r e b ∉ Z) (hB : B ≤ B') (ha : ∀ k x, a' b k = some (x, e) ↔ a b k = some (x, e)) : ∀ {v : Option Value}, InnO h g a B e b v → InnO h' g' a' B' e b v
  | none, x => fun k y hk => x k y ((ha k y).mp hk)
  | some u, ⟨r, lr, nr, a1, a2, a3, a4, a5, a6, a7⟩ => by
    have u := K r _ _ a4 h1 a3
    exact ⟨r, lr, nr, a1, a2, u.1, u.2, a5, Nat.le_trans a6 hB, fun k => (a7 k).trans (exists_congr fun x => (ha k x).symm)⟩
theorem QueO.mono {P : Params} {h h' : Heap} {g g' : Cch} {a a' : Ab} {B B' : Nat} {e : Int} {Z : List Role} (K : Kp h h' g g' Z) (h1 : .q e ∉ Z) (h2 : ∀ b, .r e b ∉ Z) (hB : B ≤ B') (ha : ∀ b k x, a' b k = some (x, e) ↔ a b k = some (x, e)) : ∀ {v : Option Value}, QueO P h g a B e v → QueO P h' g' a' B' e v
  | none, x => fun b k y hk => x b k y ((ha b k y).mp hk)
  | some u, ⟨q, lq, nq, a1, a2, a3, a4, a5, a6, a7⟩ => by
    have u := K q _ _ a4 h1 a3
    exact ⟨q, lq, nq, a1, a2, u.1, u.2, a5, Nat.le_trans a6 hB, fun b => (a7 b).mono K (h2 b) hB (ha b)⟩
theorem Rp.step {P : Params} {h h' : Heap} {g g' : Cch} {a a' : Ab} {hd hd' : Int → Bool} {B B' : Nat} {Z : List Role} (R : Rp P h g a hd B) (hB : B ≤ B') (K : Kp h h' g g' Z) (ob : Obs P h' g' B') (hs : Hds g' a' hd')
    (ent : ∀ b k, (lk (g'.L b) k = lk (g.L b) k ∧ a' b k = a b k ∧ .t b k ∉ Z ∧ .i b k ∉ Z) ∨ EntO P h' g' b k (lk (g'.L b) k) (a' b k))
    (que : ∀ e, (lk g'.lQ e = lk g.lQ e ∧ (∀ b k x, a' b k = some (x, e) ↔ a b k = some (x, e)) ∧ .q e ∉ Z ∧ ∀ b, .r e b ∉ Z) ∨ QueO P h' g' a' B' e (lk g'.lQ e)) : Rp P h' g' a' hd' B' := by
  refine ⟨ob, fun b k => ?_, fun e => ?_, hs⟩
  · rcases ent b k with ⟨e1, e2, e3, e4⟩ | x
    · rw [e1, e2]
      exact (R.ent b k).mono K e3 e4
    · exact x
  · rcases que e with ⟨e1, e2, e3, e4⟩ | x
    · rw [e1]
      exact (R.que e).mono K e3 e4 hB e2
    · exact x
/-! labels of new objects -/
def ext (lab : Nat → Option Role) (N : Nat) (f : Nat → Option Role) : Nat → Option Role := fun x => if x < N then lab x else f (x - N)
theorem ext_old {lab : Nat → Option Role} {N : Nat} {f : Nat → Option Role} {x : Nat} (h : x < N) : ext lab N f x = lab x := if_pos h
theorem ext_new (lab : Nat → Option Role) (N : Nat) (f : Nat → Option Role) (i : Nat) : ext lab N f (N + i) = f i := by
  unfold ext
  rw [if_neg (by omega), Nat.add_sub_cancel_left]
theorem nodup_ps {lab : Nat → Option Role} {ps : List Nat} {Z : List Role} (e : ps.map lab = Z.map some) (hn : Z.Nodup) : ps.Nodup := by
  have h2 : (Z.map some).Nodup := by
    induction Z generalizing ps with
    | nil => exact List.nodup_nil
    | cons z r ih =>
      cases ps with
      | nil => cases e
      | cons p q =>
        rw [List.nodup_cons] at hn
        simp only [List.map_cons, List.cons.injEq] at e
        rw [List.map_cons, List.nodup_cons]
        exact ⟨by simpa using hn.1, ih e.2 hn.2⟩
  rw [← e] at h2
  clear hn
  induction ps generalizing Z with
  | nil => exact List.nodup_nil
  | cons p q ih =>
    rw [List.map_cons, List.nodup_cons] at h2
    rw [List.nodup_cons]
    cases Z with
    | nil => cases e
    | cons z r =>
      simp only [List.map_cons, List.cons.injEq] at e
      exact ⟨fun hm => h2.1 (List.mem_map_of_mem hm), ih e.2 h2.2⟩
theorem not_ps {lab : Nat → Option Role} {ps : List Nat} {Z : List Role} (e : ps.map lab = Z.map some) {x : Nat} {r : Role} (h : lab x = some r) (hr : r ∉ Z) : x ∉ ps := by
  intro hm
  have := List.mem_map_of_mem (f := lab) hm
  rw [e, h] at this
  simp only [List.mem_map, Option.some.injEq] at this
  obtain ⟨z, hz, rfl⟩ := this
  exact hr hz
/-- the objects that a picked table tells of -/
def AllGet (h : Heap) (f : Nat → Nat) : List Nat → List (Option Obj) → Prop
  | k :: ks, some o :: os => h.get? (f k) = some o ∧ AllGet h f ks os
  | _ :: ks, none :: os => AllGet h f ks os
  | _, _ => True
theorem allGet {C : Cx} {s₀ s : Shared} {T : Tab} {na tk : Nat} (R : Rep C s₀ T na tk s) : ∀ {ks : List Nat} {os : List (Option Obj)}, pick T ks = os → AllGet s.heap (adrOf C.ps C.N) ks os
  | [], _, _ => by unfold AllGet; trivial
  | k :: ks, os, e => by
    subst e
    simp only [pick]
    cases hk : nth T k with
    | none =>
      show AllGet _ _ ks (pick T ks)
      exact allGet R rfl
    | some o => exact ⟨R.own k o hk, allGet R rfl⟩
/-- a start's table holds -/
theorem nthOf (h : Heap) (f : Nat → Nat) : ∀ (T : Tab) (i0 : Nat), AllGet h f (List.range' i0 T.length) T → ∀ i o, nth T i = some o → h.get? (f (i0 + i)) = some o
  | [], _, _, i, o, e => by cases i <;> cases e
  | x :: T, i0, H, i, o, e => by
    cases x with
    | none =>
      cases i with
      | zero => cases e
      | succ i =>
        have := nthOf h f T (i0 + 1) H i o e
        rwa [show i0 + 1 + i = i0 + (i + 1) by omega] at this
    | some y =>
      cases i with
      | zero => cases e; exact H.1
      | succ i =>
        have := nthOf h f T (i0 + 1) H.2 i o e
        rwa [show i0 + 1 + i = i0 + (i + 1) by omega] at this
theorem start_of (h : Heap) (f : Nat → Nat) (T : Tab) (H : AllGet h f (List.range' 0 T.length) T) : ∀ i o, nth T i = some o → h.get? (f i) = some o := fun i o e => by
  have := nthOf h f T 0 H i o e
  rwa [Nat.zero_add] at this
end Mine

end
/-! HPush -/
section
open PySem PySem.W PySem.W.X PyProof.Rows
namespace Mine
def setA (a : Ab) (b : Bool) (n : Int) (v : Option (Int × Int)) : Ab := fun c k => if c = b ∧ k = n then v else a c k
theorem setA_self (a : Ab) (b : Bool) (n : Int) (v : Option (Int × Int)) : setA a b n v b n = v := if_pos ⟨rfl, rfl⟩
theorem setA_ne (a : Ab) {b c : Bool} {n k : Int} (v : Option (Int × Int)) (h : ¬ (c = b ∧ k = n)) : setA a b n v c k = a c k := if_neg h
theorem setA_iff {a : Ab} {b : Bool} {n x E e : Int} (hno : a b n = none) (he : e ≠ E) (c : Bool) (k y : Int) : setA a b n (some (x, E)) c k = some (y, e) ↔ a c k = some (y, e) := by
  by_cases h : c = b ∧ k = n
  · obtain ⟨rfl, rfl⟩ := h
    rw [setA_self, hno]
    simp only [Option.some.injEq, Prod.mk.injEq, reduceCtorEq, iff_false, not_and]
    exact fun _ h => he h.symm
  · rw [setA_ne _ _ h]
theorem setN_iff {a : Ab} {b : Bool} {n x E e : Int} (hin : a b n = some (x, E)) (he : e ≠ E) (c : Bool) (k y : Int) : setA a b n none c k = some (y, e) ↔ a c k = some (y, e) := by
  by_cases h : c = b ∧ k = n
  · obtain ⟨rfl, rfl⟩ := h
    rw [setA_self, hin]
    simp only [Option.some.injEq, Prod.mk.injEq, reduceCtorEq, false_iff, not_and]
    exact fun _ h => he h.symm
  · rw [setA_ne _ _ h]
section
variable {P : Params} {h h' : Heap} {g g' : Cch} {a : Ab} {hd hd' : Int → Bool} {B : Nat} {Z : List Role}
theorem Rp.push (R : Rp P h g a hd B) (b : Bool) {n x E : Int} {T : Nat} {u : Value} (hno : a b n = none)
    (K : Kp h h' g g' Z) (hZ : ∀ c k, .t c k ∉ Z ∧ .i c k ∉ Z) (hZq : ∀ e, e ≠ E → .q e ∉ Z ∧ ∀ c, .r e c ∉ Z)
    (ob : Obs P h' g' (B+1))
    (hL : ∀ k, lk (g'.L b) k = if k = n then some (.ref T) else lk (g.L b) k) (hLo : ∀ c, c ≠ b → g'.L c = g.L c)
    (hQ : ∀ e, lk g'.lQ e = if e = E then some u else lk g.lQ e)
    (ent : EntO P h' g' b n (some (.ref T)) (some (x, E)))
    (que : QueO P h' g' (setA a b n (some (x, E))) (B+1) E (some u))
    (hH : Hds g' (setA a b n (some (x, E))) hd') : Rp P h' g' (setA a b n (some (x, E))) hd' (B+1) := by
  refine R.step (Nat.le_succ B) K ob hH (fun c k => ?_) (fun e => ?_)
  · by_cases hc : c = b
    · subst hc
      by_cases hk : k = n
      · subst hk
        right
        rw [hL, if_pos rfl, setA_self]
        exact ent
      · left
        rw [hL, if_neg hk, setA_ne _ _ fun h => hk h.2]
        exact ⟨rfl, rfl, (hZ c k).1, (hZ c k).2⟩
    · left
      rw [hLo c hc, setA_ne _ _ fun h => hc h.1]
      exact ⟨rfl, rfl, (hZ c k).1, (hZ c k).2⟩
  · by_cases he : e = E
    · subst he
      right
      rw [hQ, if_pos rfl]
      exact que
    · left
      rw [hQ, if_neg he]
      exact ⟨rfl, setA_iff hno he, (hZq e he).1, (hZq e he).2⟩
theorem que_push {b : Bool} {n x E : Int} {q r nq nr : Nat} {lq : SL} {lr : IL} (hno : a b n = none) (hq0 : 150 ≤ q) (hq : h'.get? q = some (sdct P lq nq)) (hql : g'.lab q = some (.q E)) (hqn : (lq.map (·.1)).Nodup) (hqb : lq.length ≤ B+1)
    (hqr : lk lq (nm b) = some (.ref r)) (hr0 : 150 ≤ r) (hr : h'.get? r = some (idct lr nr)) (hrl : g'.lab r = some (.r E b)) (hrn : (lr.map (·.1)).Nodup) (hrb : lr.length ≤ B+1)
    (hk : ∀ k, (lk lr k).isSome = true ↔ k = n ∨ ∃ y, a b k = some (y, E)) (ho : ∀ c, c ≠ b → InnO h' g' a (B+1) E c (lk lq (nm c))) :
    QueO P h' g' (setA a b n (some (x, E))) (B+1) E (some (.ref q)) := by
  refine ⟨q, lq, nq, hq0, rfl, hq, hql, hqn, hqb, fun c => ?_⟩
  by_cases hc : c = b
  · subst hc
    rw [hqr]
    refine ⟨r, lr, nr, hr0, rfl, hr, hrl, hrn, hrb, fun k => ?_⟩
    rw [hk]
    by_cases e : k = n
    · subst e
      simp [setA_self]
    · rw [setA_ne _ _ fun h => e h.2]
      simp [e]
  · have z := ho c hc
    have ha : ∀ k y, setA a b n (some (x, E)) c k = some (y, E) ↔ a c k = some (y, E) := fun k y => by rw [setA_ne _ _ fun h => hc h.1]
    exact z.mono (Z := []) (fun x o r hl _ ho => ⟨ho, hl⟩) (by simp) (Nat.le_refl _) ha
theorem Rp.pop (R : Rp P h g a hd B) (b : Bool) {n x e : Int} (hin : a b n = some (x, e))
    (K : Kp h h' g g' Z) (hZ : ∀ c k, ¬ (c = b ∧ k = n) → .t c k ∉ Z ∧ .i c k ∉ Z) (hZq : ∀ e', e' ≠ e → .q e' ∉ Z ∧ ∀ c, .r e' c ∉ Z)
    (ob : Obs P h' g' B) (hL : ∀ k, lk (g'.L b) k = if k = n then none else lk (g.L b) k) (hLo : ∀ c, c ≠ b → g'.L c = g.L c) (hQ : g'.lQ = g.lQ)
    (que : QueO P h' g' (setA a b n none) B e (lk g.lQ e)) (hH : Hds g' (setA a b n none) hd') : Rp P h' g' (setA a b n none) hd' B := by
  refine R.step (Nat.le_refl B) K ob hH (fun c k => ?_) (fun e' => ?_)
  · by_cases hc : c = b ∧ k = n
    · obtain ⟨rfl, rfl⟩ := hc
      right
      rw [hL, if_pos rfl, setA_self]
      exact rfl
    · left
      rw [setA_ne _ _ hc]
      refine ⟨?_, rfl, (hZ c k hc).1, (hZ c k hc).2⟩
      by_cases hb : c = b
      · subst hb
        rw [hL, if_neg fun h => hc ⟨rfl, h⟩]
      · rw [hLo c hb]
  · rw [hQ]
    by_cases he : e' = e
    · subst he
      exact .inr que
    · exact .inl ⟨rfl, setN_iff hin he, (hZq e' he).1, (hZq e' he).2⟩
theorem que_pop {b : Bool} {n x e : Int} {q r nq nr : Nat} {lq : SL} {lr : IL} (hin : a b n = some (x, e)) (hq0 : 150 ≤ q) (hq : h'.get? q = some (sdct P lq nq)) (hql : g'.lab q = some (.q e)) (hqn : (lq.map (·.1)).Nodup) (hqb : lq.length ≤ B)
    (hqr : lk lq (nm b) = some (.ref r)) (hr0 : 150 ≤ r) (hr : h'.get? r = some (idct lr nr)) (hrl : g'.lab r = some (.r e b)) (hrn : (lr.map (·.1)).Nodup) (hrb : lr.length ≤ B)
    (hk : ∀ k, (lk lr k).isSome = true ↔ k ≠ n ∧ ∃ y, a b k = some (y, e)) (ho : ∀ c, c ≠ b → InnO h' g' a B e c (lk lq (nm c))) :
    QueO P h' g' (setA a b n none) B e (some (.ref q)) := by
  refine ⟨q, lq, nq, hq0, rfl, hq, hql, hqn, hqb, fun c => ?_⟩
  by_cases hc : c = b
  · subst hc
    rw [hqr]
    refine ⟨r, lr, nr, hr0, rfl, hr, hrl, hrn, hrb, fun k => ?_⟩
    rw [hk]
    by_cases e' : k = n
    · subst e'
      simp [setA_self]
    · rw [setA_ne _ _ fun h => e' h.2]
      simp [e']
  · have z := ho c hc
    have ha : ∀ k y, setA a b n none c k = some (y, e) ↔ a c k = some (y, e) := fun k y => by rw [setA_ne _ _ fun h => hc h.1]
    exact z.mono (Z := []) (fun x o r hl _ ho => ⟨ho, hl⟩) (by simp) (Nat.le_refl _) ha
/-! handles -/
theorem Hds.setF (H : Hds g a hd) (hH : g'.lH = g.lH) {n : Int} {r : Option (Int × Int)} (hn : 0 ≤ n ∧ n < 3) : Hds g' (setA a false n r) hd := by
  refine ⟨fun k => by rw [hH]; exact H.hdl k, fun k v => by rw [hH]; exact H.hdk k v, fun k => ?_, fun b k hb => ?_⟩
  · rw [setA_ne a r (show ¬ (true = false ∧ k = n) by simp)]
    exact H.hda k
  · by_cases h : b = false ∧ k = n
    · exact h.2 ▸ hn
    · rw [setA_ne _ _ h] at hb
      exact H.rng b k hb
theorem Hds.pushT (H : Hds g a hd) {n x E : Int} {t : Tok} (hH : ∀ j, lk g'.lH j = if j = 100 + n then some (.int n t) else lk g.lH j) (hn : 0 ≤ n ∧ n < 3) : Hds g' (setA a true n (some (x, E))) (fun k => if k = n then true else hd k) := by
  refine ⟨fun k => ?_, fun k v hv => ?_, fun k hk => ?_, fun b k hb => ?_⟩
  · rw [hH]
    by_cases h : k = n
    · subst h; simp
    · have : ¬ (100 + k = 100 + n) := by omega
      simp only [h, this, if_false]
      exact H.hdl k
  · rw [hH] at hv
    by_cases h : k = n
    · subst h
      simp at hv
      exact ⟨t, hv.symm⟩
    · have : ¬ (100 + k = 100 + n) := by omega
      simp only [this, if_false] at hv
      exact H.hdk k v hv
  · by_cases h : k = n
    · simp [h]
    · simp only [h, if_false]
      rw [setA_ne _ _ fun e => h e.2] at hk
      exact H.hda k hk
  · by_cases h : b = true ∧ k = n
    · exact h.2 ▸ hn
    · rw [setA_ne _ _ h] at hb
      exact H.rng b k hb
theorem Hds.popT (H : Hds g a hd) {n : Int} (hH : ∀ j, lk g'.lH j = if j = 100 + n then none else lk g.lH j) : Hds g' (setA a true n none) (fun k => if k = n then false else hd k) := by
  refine ⟨fun k => ?_, fun k v hv => ?_, fun k hk => ?_, fun b k hb => ?_⟩
  · rw [hH]
    by_cases h : k = n
    · subst h; simp
    · have : ¬ (100 + k = 100 + n) := by omega
      simp only [h, this, if_false]
      exact H.hdl k
  · rw [hH] at hv
    by_cases h : k = n
    · subst h
      simp at hv
    · have : ¬ (100 + k = 100 + n) := by omega
      simp only [this, if_false] at hv
      exact H.hdk k v hv
  · by_cases h : k = n
    · subst h
      rw [setA_self] at hk; cases hk
    · simp only [h, if_false]
      rw [setA_ne _ _ fun e => h e.2] at hk
      exact H.hda k hk
  · by_cases h : b = true ∧ k = n
    · obtain ⟨rfl, rfl⟩ := h
      rw [setA_self] at hb; cases hb
    · rw [setA_ne _ _ h] at hb
      exact H.rng b k hb
end
/-! what a call leaves -/
structure Aft (P : Params) (s s' : Shared) (g g' : Cch) (fr : Nat → Prop) : Prop where
  top : TopIn P s'.heap
  keep : ∀ x o, s.heap.get? x = some o → g.lab x = none → ¬ fr x → s'.heap.get? x = some o
  keepF : ∀ x o, s.heap.get? x = some o → g.lab x = none → (∀ vs, o.data ≠ .fields vs) → ∃ sl, s'.heap.get? x = some { o with slots := sl }
  lab : ∀ x, x < s.heap.objs.size → g'.lab x = g.lab x
  A1 : g'.A1 = g.A1
  toks : s.toks ≤ s'.toks
  gens : s'.gens = s.gens
  drawn : s'.drawn = s.drawn
  os : s'.os = s.os
theorem length_rem {K : Type} [DecidableEq K] (l : List (K × Tok × Value)) (k : K) : (rem l k).length ≤ l.length := by
  induction l with
  | nil => exact Nat.le_refl _
  | cons x r ih => unfold rem; by_cases e : x.1 = k <;> simp [e] <;> omega
end Mine

end
/-! Told -/
noncomputable section
open PySem PySem.W PySem.W.X PyProof.Rows
namespace Mine

def p0a_S (P : Params) (b : Bool) (prog : Program) (p : Pos) (bl : List (Code × Pos)) (N t0 : Nat) (A0 A1 A2 A3 A4 A5 k0 k1 k2 k3 k4 ti : Nat) (tm : Int) (lM lS lH lQ : IL) (nM' nS' nH' nQ : Nat) (j1 j2 j3 : Nat) (n v : Int) : List Sm := [mkSm t0 (.hasI 3 (A3+150) lS nS' n j2 false), mkSm t0 (.setI 3 (A3+150) lS nS' n j2 (.ref (N+150+3))), mkSm t0 (.hasI 5 (A5+150) lQ nQ (tm+600) (t0+14) false), mkSm t0 (.setI 5 (A5+150) lQ nQ (tm+600) (t0+14) (.ref (N+150+4))), mkSm t0 (.getI 5 (A5+150) (setL lQ (tm+600) (t0+14) (.ref (N+150+4))) (setN lQ nQ (tm+600)) (tm+600) (t0+14) (.ref (N+150+4))), mkSm t0 (.hasS P 10 (N+150+4) [] 0 nS (t0+22) false), mkSm t0 (.getI 5 (A5+150) (setL lQ (tm+600) (t0+14) (.ref (N+150+4))) (setN lQ nQ (tm+600)) (tm+600) (t0+14) (.ref (N+150+4))), mkSm t0 (.setS P 10 (N+150+4) [] 0 nS (t0+28) (.ref (N+150+5))), mkSm t0 (.getI 5 (A5+150) (setL lQ (tm+600) (t0+14) (.ref (N+150+4))) (setN lQ nQ (tm+600)) (tm+600) (t0+14) (.ref (N+150+4))), mkSm t0 (.getS P 10 (N+150+4) (setL [] nS (t0+28) (.ref (N+150+5))) (setN [] 0 nS) nS (t0+33) (.ref (N+150+5))), mkSm t0 (.setI 11 (N+150+5) [] 0 n j2 (.int 1 (t0+30)))]
def p0a_T (P : Params) (b : Bool) (prog : Program) (p : Pos) (bl : List (Code × Pos)) (N t0 : Nat) (A0 A1 A2 A3 A4 A5 k0 k1 k2 k3 k4 ti : Nat) (tm : Int) (lM lS lH lQ : IL) (nM' nS' nH' nQ : Nat) (j1 j2 j3 : Nat) (n v : Int) : Tab := [some (cdict P k0 k1 k2 k3 k4 (A2+150) (A3+150) (A4+150) (A5+150) tm ti), some (instO (A0+150)), some (idct lM nM'), some (idct lS nS'), some (idct lH nH'), some (idct lQ nQ)]
def p0a_X (P : Params) (b : Bool) (prog : Program) (p : Pos) (bl : List (Code × Pos)) (N t0 : Nat) (A0 A1 A2 A3 A4 A5 k0 k1 k2 k3 k4 ti : Nat) (tm : Int) (lM lS lH lQ : IL) (nM' nS' nH' nQ : Nat) (j1 j2 j3 : Nat) (n v : Int) : Out Flow := (run ⟨prog, swP P b, Mine.hz.ktop_302 P, N+150, t0, [A0+150, A1+150, A2+150, A3+150, A4+150, A5+150]⟩ 100000).c (.call (.ref 137) ⟨[(.ref (A1+150)), (.int 0 j1), (.int n j2), (.int v j3)], []⟩) p bl none 0 0 34016148798539115973124078917910674100907578992985949534295745383803839558571340018160507700329687211252326049203621339520840014011350790994913519697949674573670574550176265030059728651707310543001987922794210070791691228466976499569548986447218269453551009964415543545541294442674654265220277283382924615979431954003070761313717392999172730830936688440224605796842577332039682 (p0a_S P b prog p bl N t0 A0 A1 A2 A3 A4 A5 k0 k1 k2 k3 k4 ti tm lM lS lH lQ nM' nS' nH' nQ j1 j2 j3 n v) (p0a_T P b prog p bl N t0 A0 A1 A2 A3 A4 A5 k0 k1 k2 k3 k4 ti tm lM lS lH lQ nM' nS' nH' nQ j1 j2 j3 n v) 0 0 []
def p0a_L (P : Params) (b : Bool) (prog : Program) (p : Pos) (bl : List (Code × Pos)) (N t0 : Nat) (A0 A1 A2 A3 A4 A5 k0 k1 k2 k3 k4 ti : Nat) (tm : Int) (lM lS lH lQ : IL) (nM' nS' nH' nQ : Nat) (j1 j2 j3 : Nat) (n v : Int) := look [0, 1, 2, 3, 4, 5, 7, 9, 10, 11, 12] (p0a_X P b prog p bl N t0 A0 A1 A2 A3 A4 A5 k0 k1 k2 k3 k4 ti tm lM lS lH lQ nM' nS' nH' nQ j1 j2 j3 n v)
def p0a_R (P : Params) (b : Bool) (prog : Program) (p : Pos) (bl : List (Code × Pos)) (N t0 : Nat) (A0 A1 A2 A3 A4 A5 k0 k1 k2 k3 k4 ti : Nat) (tm : Int) (lM lS lH lQ : IL) (nM' nS' nH' nQ : Nat) (j1 j2 j3 : Nat) (n v : Int) : Option (Except Value Flow × List (Option Obj) × Nat × Nat × List Ob) := some ((.ok (.ret (.ref (N+150+6)))), [some (cdict P k0 k1 k2 k3 k4 (A2+150) (A3+150) (A4+150) (A5+150) tm ti), some (instO (A0+150)), some (idct lM nM'), some (idct (setL lS n j2 (.ref (N+150+3))) (setN lS nS' n)), some (idct lH nH'), some (idct (setL lQ (tm+600) (t0+14) (.ref (N+150+4))) (setN lQ nQ (tm+600))), some (sdct P [(nW, (t0+6), (.int v j3))] 1), some (tupO [(.ref (N+150+1)), (.int (tm+600) (t0+14))]), some (sdct P (setL [] nS (t0+28) (.ref (N+150+5))) (setN [] 0 nS)), some (idct (setL [] n j2 (.int 1 (t0+30))) (setN [] 0 n)), some (lstO [(.int n j2)])], 7, 36, obsOf (p0a_X P b prog p bl N t0 A0 A1 A2 A3 A4 A5 k0 k1 k2 k3 k4 ti tm lM lS lH lQ nM' nS' nH' nQ j1 j2 j3 n v))
theorem p0a_L0 : @p0a_L = p0a_L := rfl
theorem p0a_R0 : @p0a_R = p0a_R := rfl
lay_z Mine.p0a_L Mine.p0a_R
name_z p0aLZ for Mine.p0a_L by Mine.p0a_L0
name_z p0aRZ for Mine.p0a_R by Mine.p0a_R0
theorem p0a_ok (P : Params) (b : Bool) (prog : Program) (p : Pos) (bl : List (Code × Pos)) (N t0 : Nat) (A0 A1 A2 A3 A4 A5 k0 k1 k2 k3 k4 ti : Nat) (tm : Int) (lM lS lH lQ : IL) (nM' nS' nH' nQ : Nat) (j1 j2 j3 : Nat) (n v : Int) : p0a_L P b prog p bl N t0 A0 A1 A2 A3 A4 A5 k0 k1 k2 k3 k4 ti tm lM lS lH lQ nM' nS' nH' nQ j1 j2 j3 n v = p0a_R P b prog p bl N t0 A0 A1 A2 A3 A4 A5 k0 k1 k2 k3 k4 ti tm lM lS lH lQ nM' nS' nH' nQ j1 j2 j3 n v := by
  rw [PySem.W.ZFast.p0aLZ_eq, PySem.W.ZFast.p0aRZ_eq]
  cases b <;> kernel_rfl!

def p0b_S (P : Params) (b : Bool) (prog : Program) (p : Pos) (bl : List (Code × Pos)) (N t0 : Nat) (A0 A1 A2 A3 A4 A5 k0 k1 k2 k3 k4 ti : Nat) (tm : Int) (lM lS lH lQ : IL) (nM' nS' nH' nQ : Nat) (j1 j2 j3 : Nat) (n v : Int) (B0 : Nat) (lq : SL) (nq : Nat) : List Sm := [mkSm t0 (.hasI 3 (A3+150) lS nS' n j2 false), mkSm t0 (.setI 3 (A3+150) lS nS' n j2 (.ref (N+150+3))), mkSm t0 (.hasI 5 (A5+150) lQ nQ (tm+600) (t0+14) true), mkSm t0 (.getI 5 (A5+150) lQ nQ (tm+600) (t0+14) (.ref (B0+150))), mkSm t0 (.hasS P 6 (B0+150) lq nq nS (t0+20) false), mkSm t0 (.getI 5 (A5+150) lQ nQ (tm+600) (t0+14) (.ref (B0+150))), mkSm t0 (.setS P 6 (B0+150) lq nq nS (t0+26) (.ref (N+150+4))), mkSm t0 (.getI 5 (A5+150) lQ nQ (tm+600) (t0+14) (.ref (B0+150))), mkSm t0 (.getS P 6 (B0+150) (setL lq nS (t0+26) (.ref (N+150+4))) (setN lq nq nS) nS (t0+31) (.ref (N+150+4))), mkSm t0 (.setI 11 (N+150+4) [] 0 n j2 (.int 1 (t0+28)))]
def p0b_T (P : Params) (b : Bool) (prog : Program) (p : Pos) (bl : List (Code × Pos)) (N t0 : Nat) (A0 A1 A2 A3 A4 A5 k0 k1 k2 k3 k4 ti : Nat) (tm : Int) (lM lS lH lQ : IL) (nM' nS' nH' nQ : Nat) (j1 j2 j3 : Nat) (n v : Int) (B0 : Nat) (lq : SL) (nq : Nat) : Tab := [some (cdict P k0 k1 k2 k3 k4 (A2+150) (A3+150) (A4+150) (A5+150) tm ti), some (instO (A0+150)), some (idct lM nM'), some (idct lS nS'), some (idct lH nH'), some (idct lQ nQ), some (sdct P lq nq)]
def p0b_X (P : Params) (b : Bool) (prog : Program) (p : Pos) (bl : List (Code × Pos)) (N t0 : Nat) (A0 A1 A2 A3 A4 A5 k0 k1 k2 k3 k4 ti : Nat) (tm : Int) (lM lS lH lQ : IL) (nM' nS' nH' nQ : Nat) (j1 j2 j3 : Nat) (n v : Int) (B0 : Nat) (lq : SL) (nq : Nat) : Out Flow := (run ⟨prog, swP P b, Mine.hz.ktop_302 P, N+150, t0, [A0+150, A1+150, A2+150, A3+150, A4+150, A5+150, B0+150]⟩ 100000).c (.call (.ref 137) ⟨[(.ref (A1+150)), (.int 0 j1), (.int n j2), (.int v j3)], []⟩) p bl none 0 0 119755002459110498921507321313388220902966808121814108874710391584375135839910064614840488281595357547154014129527461918184561760720701893612369557696699405635946314948424475903845709849802937482174028193557482619023310055979950800476306293940959904081862817018217302277683584371807642056806439634523047270364681145623889773550624621123562668034 (p0b_S P b prog p bl N t0 A0 A1 A2 A3 A4 A5 k0 k1 k2 k3 k4 ti tm lM lS lH lQ nM' nS' nH' nQ j1 j2 j3 n v B0 lq nq) (p0b_T P b prog p bl N t0 A0 A1 A2 A3 A4 A5 k0 k1 k2 k3 k4 ti tm lM lS lH lQ nM' nS' nH' nQ j1 j2 j3 n v B0 lq nq) 0 0 []
def p0b_L (P : Params) (b : Bool) (prog : Program) (p : Pos) (bl : List (Code × Pos)) (N t0 : Nat) (A0 A1 A2 A3 A4 A5 k0 k1 k2 k3 k4 ti : Nat) (tm : Int) (lM lS lH lQ : IL) (nM' nS' nH' nQ : Nat) (j1 j2 j3 : Nat) (n v : Int) (B0 : Nat) (lq : SL) (nq : Nat) := look [0, 1, 2, 3, 4, 5, 6, 8, 10, 11, 12] (p0b_X P b prog p bl N t0 A0 A1 A2 A3 A4 A5 k0 k1 k2 k3 k4 ti tm lM lS lH lQ nM' nS' nH' nQ j1 j2 j3 n v B0 lq nq)
def p0b_R (P : Params) (b : Bool) (prog : Program) (p : Pos) (bl : List (Code × Pos)) (N t0 : Nat) (A0 A1 A2 A3 A4 A5 k0 k1 k2 k3 k4 ti : Nat) (tm : Int) (lM lS lH lQ : IL) (nM' nS' nH' nQ : Nat) (j1 j2 j3 : Nat) (n v : Int) (B0 : Nat) (lq : SL) (nq : Nat) : Option (Except Value Flow × List (Option Obj) × Nat × Nat × List Ob) := some ((.ok (.ret (.ref (N+150+5)))), [some (cdict P k0 k1 k2 k3 k4 (A2+150) (A3+150) (A4+150) (A5+150) tm ti), some (instO (A0+150)), some (idct lM nM'), some (idct (setL lS n j2 (.ref (N+150+3))) (setN lS nS' n)), some (idct lH nH'), some (idct lQ nQ), some (sdct P (setL lq nS (t0+26) (.ref (N+150+4))) (setN lq nq nS)), some (sdct P [(nW, (t0+6), (.int v j3))] 1), some (tupO [(.ref (N+150+1)), (.int (tm+600) (t0+14))]), some (idct (setL [] n j2 (.int 1 (t0+28))) (setN [] 0 n)), some (lstO [(.int n j2)])], 6, 34, obsOf (p0b_X P b prog p bl N t0 A0 A1 A2 A3 A4 A5 k0 k1 k2 k3 k4 ti tm lM lS lH lQ nM' nS' nH' nQ j1 j2 j3 n v B0 lq nq))
theorem p0b_L0 : @p0b_L = p0b_L := rfl
theorem p0b_R0 : @p0b_R = p0b_R := rfl
lay_z Mine.p0b_L Mine.p0b_R
name_z p0bLZ for Mine.p0b_L by Mine.p0b_L0
name_z p0bRZ for Mine.p0b_R by Mine.p0b_R0
theorem p0b_ok (P : Params) (b : Bool) (prog : Program) (p : Pos) (bl : List (Code × Pos)) (N t0 : Nat) (A0 A1 A2 A3 A4 A5 k0 k1 k2 k3 k4 ti : Nat) (tm : Int) (lM lS lH lQ : IL) (nM' nS' nH' nQ : Nat) (j1 j2 j3 : Nat) (n v : Int) (B0 : Nat) (lq : SL) (nq : Nat) : p0b_L P b prog p bl N t0 A0 A1 A2 A3 A4 A5 k0 k1 k2 k3 k4 ti tm lM lS lH lQ nM' nS' nH' nQ j1 j2 j3 n v B0 lq nq = p0b_R P b prog p bl N t0 A0 A1 A2 A3 A4 A5 k0 k1 k2 k3 k4 ti tm lM lS lH lQ nM' nS' nH' nQ j1 j2 j3 n v B0 lq nq := by
  rw [PySem.W.ZFast.p0bLZ_eq, PySem.W.ZFast.p0bRZ_eq]
  cases b <;> kernel_rfl!

def p0c_S (P : Params) (b : Bool) (prog : Program) (p : Pos) (bl : List (Code × Pos)) (N t0 : Nat) (A0 A1 A2 A3 A4 A5 k0 k1 k2 k3 k4 ti : Nat) (tm : Int) (lM lS lH lQ : IL) (nM' nS' nH' nQ : Nat) (j1 j2 j3 : Nat) (n v : Int) (B0 B1 : Nat) (lq : SL) (nq : Nat) (lr : IL) (nr : Nat) : List Sm := [mkSm t0 (.hasI 3 (A3+150) lS nS' n j2 false), mkSm t0 (.setI 3 (A3+150) lS nS' n j2 (.ref (N+150+3))), mkSm t0 (.hasI 5 (A5+150) lQ nQ (tm+600) (t0+14) true), mkSm t0 (.getI 5 (A5+150) lQ nQ (tm+600) (t0+14) (.ref (B0+150))), mkSm t0 (.hasS P 6 (B0+150) lq nq nS (t0+20) true), mkSm t0 (.getI 5 (A5+150) lQ nQ (tm+600) (t0+14) (.ref (B0+150))), mkSm t0 (.getS P 6 (B0+150) lq nq nS (t0+27) (.ref (B1+150))), mkSm t0 (.setI 7 (B1+150) lr nr n j2 (.int 1 (t0+24)))]
def p0c_T (P : Params) (b : Bool) (prog : Program) (p : Pos) (bl : List (Code × Pos)) (N t0 : Nat) (A0 A1 A2 A3 A4 A5 k0 k1 k2 k3 k4 ti : Nat) (tm : Int) (lM lS lH lQ : IL) (nM' nS' nH' nQ : Nat) (j1 j2 j3 : Nat) (n v : Int) (B0 B1 : Nat) (lq : SL) (nq : Nat) (lr : IL) (nr : Nat) : Tab := [some (cdict P k0 k1 k2 k3 k4 (A2+150) (A3+150) (A4+150) (A5+150) tm ti), some (instO (A0+150)), some (idct lM nM'), some (idct lS nS'), some (idct lH nH'), some (idct lQ nQ), some (sdct P lq nq), some (idct lr nr)]
def p0c_X (P : Params) (b : Bool) (prog : Program) (p : Pos) (bl : List (Code × Pos)) (N t0 : Nat) (A0 A1 A2 A3 A4 A5 k0 k1 k2 k3 k4 ti : Nat) (tm : Int) (lM lS lH lQ : IL) (nM' nS' nH' nQ : Nat) (j1 j2 j3 : Nat) (n v : Int) (B0 B1 : Nat) (lq : SL) (nq : Nat) (lr : IL) (nr : Nat) : Out Flow := (run ⟨prog, swP P b, Mine.hz.ktop_302 P, N+150, t0, [A0+150, A1+150, A2+150, A3+150, A4+150, A5+150, B0+150, B1+150]⟩ 100000).c (.call (.ref 137) ⟨[(.ref (A1+150)), (.int 0 j1), (.int n j2), (.int v j3)], []⟩) p bl none 0 0 386497839172513894518060552746886175333332176070503984568466575900080500205510583520230930742002313180044458137654043642266094292346730610290810612345879194680756850315987998234155608278302103777570021349386808726565944468827909656975138913796179214033565112503847758086069870437134792512977366281392130 (p0c_S P b prog p bl N t0 A0 A1 A2 A3 A4 A5 k0 k1 k2 k3 k4 ti tm lM lS lH lQ nM' nS' nH' nQ j1 j2 j3 n v B0 B1 lq nq lr nr) (p0c_T P b prog p bl N t0 A0 A1 A2 A3 A4 A5 k0 k1 k2 k3 k4 ti tm lM lS lH lQ nM' nS' nH' nQ j1 j2 j3 n v B0 B1 lq nq lr nr) 0 0 []
def p0c_L (P : Params) (b : Bool) (prog : Program) (p : Pos) (bl : List (Code × Pos)) (N t0 : Nat) (A0 A1 A2 A3 A4 A5 k0 k1 k2 k3 k4 ti : Nat) (tm : Int) (lM lS lH lQ : IL) (nM' nS' nH' nQ : Nat) (j1 j2 j3 : Nat) (n v : Int) (B0 B1 : Nat) (lq : SL) (nq : Nat) (lr : IL) (nr : Nat) := look [0, 1, 2, 3, 4, 5, 6, 7, 9, 11, 12] (p0c_X P b prog p bl N t0 A0 A1 A2 A3 A4 A5 k0 k1 k2 k3 k4 ti tm lM lS lH lQ nM' nS' nH' nQ j1 j2 j3 n v B0 B1 lq nq lr nr)
def p0c_R (P : Params) (b : Bool) (prog : Program) (p : Pos) (bl : List (Code × Pos)) (N t0 : Nat) (A0 A1 A2 A3 A4 A5 k0 k1 k2 k3 k4 ti : Nat) (tm : Int) (lM lS lH lQ : IL) (nM' nS' nH' nQ : Nat) (j1 j2 j3 : Nat) (n v : Int) (B0 B1 : Nat) (lq : SL) (nq : Nat) (lr : IL) (nr : Nat) : Option (Except Value Flow × List (Option Obj) × Nat × Nat × List Ob) := some ((.ok (.ret (.ref (N+150+4)))), [some (cdict P k0 k1 k2 k3 k4 (A2+150) (A3+150) (A4+150) (A5+150) tm ti), some (instO (A0+150)), some (idct lM nM'), some (idct (setL lS n j2 (.ref (N+150+3))) (setN lS nS' n)), some (idct lH nH'), some (idct lQ nQ), some (sdct P lq nq), some (idct (setL lr n j2 (.int 1 (t0+24))) (setN lr nr n)), some (sdct P [(nW, (t0+6), (.int v j3))] 1), some (tupO [(.ref (N+150+1)), (.int (tm+600) (t0+14))]), some (lstO [(.int n j2)])], 5, 30, obsOf (p0c_X P b prog p bl N t0 A0 A1 A2 A3 A4 A5 k0 k1 k2 k3 k4 ti tm lM lS lH lQ nM' nS' nH' nQ j1 j2 j3 n v B0 B1 lq nq lr nr))
theorem p0c_L0 : @p0c_L = p0c_L := rfl
theorem p0c_R0 : @p0c_R = p0c_R := rfl
lay_z Mine.p0c_L Mine.p0c_R
name_z p0cLZ for Mine.p0c_L by Mine.p0c_L0
name_z p0cRZ for Mine.p0c_R by Mine.p0c_R0
theorem p0c_ok (P : Params) (b : Bool) (prog : Program) (p : Pos) (bl : List (Code × Pos)) (N t0 : Nat) (A0 A1 A2 A3 A4 A5 k0 k1 k2 k3 k4 ti : Nat) (tm : Int) (lM lS lH lQ : IL) (nM' nS' nH' nQ : Nat) (j1 j2 j3 : Nat) (n v : Int) (B0 B1 : Nat) (lq : SL) (nq : Nat) (lr : IL) (nr : Nat) : p0c_L P b prog p bl N t0 A0 A1 A2 A3 A4 A5 k0 k1 k2 k3 k4 ti tm lM lS lH lQ nM' nS' nH' nQ j1 j2 j3 n v B0 B1 lq nq lr nr = p0c_R P b prog p bl N t0 A0 A1 A2 A3 A4 A5 k0 k1 k2 k3 k4 ti tm lM lS lH lQ nM' nS' nH' nQ j1 j2 j3 n v B0 B1 lq nq lr nr := by
  rw [PySem.W.ZFast.p0cLZ_eq, PySem.W.ZFast.p0cRZ_eq]
  cases b <;> kernel_rfl!

def p1hit_S (P : Params) (b : Bool) (prog : Program) (p : Pos) (bl : List (Code × Pos)) (N t0 : Nat) (A0 A1 A2 A3 A4 A5 k0 k1 k2 k3 k4 ti : Nat) (tm : Int) (lM lS lH lQ : IL) (nM' nS' nH' nQ : Nat) (j1 j2 j3 : Nat) (n v : Int) (B0 B1 B2 B3 : Nat) (li lq : SL) (ni nq : Nat) (lr : IL) (nr y704 y706 : Nat) (e x : Int) : List Sm := [mkSm t0 (.hasI 3 (A3+150) lS nS' n j2 true), mkSm t0 (.getI 3 (A3+150) lS nS' n j2 (.ref (B0+150))), mkSm t0 (.delI 3 (A3+150) lS nS' n j2), mkSm t0 (.getI 5 (A5+150) lQ nQ e y704 (.ref (B2+150))), mkSm t0 (.getS P 8 (B2+150) lq nq nS (t0+20) (.ref (B3+150))), mkSm t0 (.delI 9 (B3+150) lr nr n j2), mkSm t0 (.getS P 7 (B1+150) li ni nW (t0+23) (.int x y706))]
def p1hit_T (P : Params) (b : Bool) (prog : Program) (p : Pos) (bl : List (Code × Pos)) (N t0 : Nat) (A0 A1 A2 A3 A4 A5 k0 k1 k2 k3 k4 ti : Nat) (tm : Int) (lM lS lH lQ : IL) (nM' nS' nH' nQ : Nat) (j1 j2 j3 : Nat) (n v : Int) (B0 B1 B2 B3 : Nat) (li lq : SL) (ni nq : Nat) (lr : IL) (nr y704 y706 : Nat) (e x : Int) : Tab := [some (cdict P k0 k1 k2 k3 k4 (A2+150) (A3+150) (A4+150) (A5+150) tm ti), some (instO (A0+150)), some (idct lM nM'), some (idct lS nS'), some (idct lH nH'), some (idct lQ nQ), some (tupO [.ref (B1+150), .int e y704]), some (sdct P li ni), some (sdct P lq nq), some (idct lr nr)]
def p1hit_X (P : Params) (b : Bool) (prog : Program) (p : Pos) (bl : List (Code × Pos)) (N t0 : Nat) (A0 A1 A2 A3 A4 A5 k0 k1 k2 k3 k4 ti : Nat) (tm : Int) (lM lS lH lQ : IL) (nM' nS' nH' nQ : Nat) (j1 j2 j3 : Nat) (n v : Int) (B0 B1 B2 B3 : Nat) (li lq : SL) (ni nq : Nat) (lr : IL) (nr y704 y706 : Nat) (e x : Int) : Out Flow := (run ⟨prog, swP P b, Mine.hz.ktop_302 P, N+150, t0, [A0+150, A1+150, A2+150, A3+150, A4+150, A5+150, B0+150, B1+150, B2+150, B3+150]⟩ 100000).c (.call (.ref 137) ⟨[(.ref (A1+150)), (.int 1 j1), (.int n j2), (.int v j3)], []⟩) p bl none 0 0 12662325281969656375900374925613538707603289699047085553166105521647091843068921188893731532350620430860866675591759178029676700035185304175294789728172845478754566636525402188008278161172884070223203300747062089992130566288763031522544324572541425944712602515151045806396779744363822223765767491151173824514 (p1hit_S P b prog p bl N t0 A0 A1 A2 A3 A4 A5 k0 k1 k2 k3 k4 ti tm lM lS lH lQ nM' nS' nH' nQ j1 j2 j3 n v B0 B1 B2 B3 li lq ni nq lr nr y704 y706 e x) (p1hit_T P b prog p bl N t0 A0 A1 A2 A3 A4 A5 k0 k1 k2 k3 k4 ti tm lM lS lH lQ nM' nS' nH' nQ j1 j2 j3 n v B0 B1 B2 B3 li lq ni nq lr nr y704 y706 e x) 0 0 []
def p1hit_L (P : Params) (b : Bool) (prog : Program) (p : Pos) (bl : List (Code × Pos)) (N t0 : Nat) (A0 A1 A2 A3 A4 A5 k0 k1 k2 k3 k4 ti : Nat) (tm : Int) (lM lS lH lQ : IL) (nM' nS' nH' nQ : Nat) (j1 j2 j3 : Nat) (n v : Int) (B0 B1 B2 B3 : Nat) (li lq : SL) (ni nq : Nat) (lr : IL) (nr y704 y706 : Nat) (e x : Int) := look [0, 1, 2, 3, 4, 5, 6, 7, 8, 9, 15] (p1hit_X P b prog p bl N t0 A0 A1 A2 A3 A4 A5 k0 k1 k2 k3 k4 ti tm lM lS lH lQ nM' nS' nH' nQ j1 j2 j3 n v B0 B1 B2 B3 li lq ni nq lr nr y704 y706 e x)
def p1hit_R (P : Params) (b : Bool) (prog : Program) (p : Pos) (bl : List (Code × Pos)) (N t0 : Nat) (A0 A1 A2 A3 A4 A5 k0 k1 k2 k3 k4 ti : Nat) (tm : Int) (lM lS lH lQ : IL) (nM' nS' nH' nQ : Nat) (j1 j2 j3 : Nat) (n v : Int) (B0 B1 B2 B3 : Nat) (li lq : SL) (ni nq : Nat) (lr : IL) (nr y704 y706 : Nat) (e x : Int) : Option (Except Value Flow × List (Option Obj) × Nat × Nat × List Ob) := some ((.ok (.ret (.ref (N+150+5)))), [some (cdict P k0 k1 k2 k3 k4 (A2+150) (A3+150) (A4+150) (A5+150) tm ti), some (instO (A0+150)), some (idct lM nM'), some (idct (rem lS n) (nS' + 1)), some (idct lH nH'), some (idct lQ nQ), some (tupO [.ref (B1+150), .int e y704]), some (sdct P li ni), some (sdct P lq nq), some (idct (rem lr n) (nr + 1)), some (lstO [(.int x y706)])], 6, 25, obsOf (p1hit_X P b prog p bl N t0 A0 A1 A2 A3 A4 A5 k0 k1 k2 k3 k4 ti tm lM lS lH lQ nM' nS' nH' nQ j1 j2 j3 n v B0 B1 B2 B3 li lq ni nq lr nr y704 y706 e x))
theorem p1hit_L0 : @p1hit_L = p1hit_L := rfl
theorem p1hit_R0 : @p1hit_R = p1hit_R := rfl
lay_z Mine.p1hit_L Mine.p1hit_R
name_z p1hitLZ for Mine.p1hit_L by Mine.p1hit_L0
name_z p1hitRZ for Mine.p1hit_R by Mine.p1hit_R0
theorem p1hit_ok (P : Params) (b : Bool) (prog : Program) (p : Pos) (bl : List (Code × Pos)) (N t0 : Nat) (A0 A1 A2 A3 A4 A5 k0 k1 k2 k3 k4 ti : Nat) (tm : Int) (lM lS lH lQ : IL) (nM' nS' nH' nQ : Nat) (j1 j2 j3 : Nat) (n v : Int) (B0 B1 B2 B3 : Nat) (li lq : SL) (ni nq : Nat) (lr : IL) (nr y704 y706 : Nat) (e x : Int) : p1hit_L P b prog p bl N t0 A0 A1 A2 A3 A4 A5 k0 k1 k2 k3 k4 ti tm lM lS lH lQ nM' nS' nH' nQ j1 j2 j3 n v B0 B1 B2 B3 li lq ni nq lr nr y704 y706 e x = p1hit_R P b prog p bl N t0 A0 A1 A2 A3 A4 A5 k0 k1 k2 k3 k4 ti tm lM lS lH lQ nM' nS' nH' nQ j1 j2 j3 n v B0 B1 B2 B3 li lq ni nq lr nr y704 y706 e x := by
  rw [PySem.W.ZFast.p1hitLZ_eq, PySem.W.ZFast.p1hitRZ_eq]
  cases b <;> kernel_rfl!

def p2a_S (P : Params) (b : Bool) (prog : Program) (p : Pos) (bl : List (Code × Pos)) (N t0 : Nat) (A0 A1 A2 A3 A4 A5 k0 k1 k2 k3 k4 ti : Nat) (tm : Int) (lM lS lH lQ : IL) (nM' nS' nH' nQ : Nat) (j1 j2 j3 : Nat) (n v : Int) : List Sm := [mkSm t0 (.hasI 2 (A2+150) lM nM' n j2 false), mkSm t0 (.setI 2 (A2+150) lM nM' n j2 (.ref (N+150+3))), mkSm t0 (.getS P 7 (N+150+1) [(nH, (t0+10), (.int (100+n) (t0+9))), (nW, (t0+11), (.int v j3))] 2 nH (t0+24) (.int (100+n) (t0+9))), mkSm t0 (.setI 4 (A4+150) lH nH' (100+n) (t0+9) (.int n j2)), mkSm t0 (.hasI 5 (A5+150) lQ nQ (tm+600) (t0+19) false), mkSm t0 (.setI 5 (A5+150) lQ nQ (tm+600) (t0+19) (.ref (N+150+4))), mkSm t0 (.getI 5 (A5+150) (setL lQ (tm+600) (t0+19) (.ref (N+150+4))) (setN lQ nQ (tm+600)) (tm+600) (t0+19) (.ref (N+150+4))), mkSm t0 (.hasS P 10 (N+150+4) [] 0 nM (t0+31) false), mkSm t0 (.getI 5 (A5+150) (setL lQ (tm+600) (t0+19) (.ref (N+150+4))) (setN lQ nQ (tm+600)) (tm+600) (t0+19) (.ref (N+150+4))), mkSm t0 (.setS P 10 (N+150+4) [] 0 nM (t0+37) (.ref (N+150+5))), mkSm t0 (.getI 5 (A5+150) (setL lQ (tm+600) (t0+19) (.ref (N+150+4))) (setN lQ nQ (tm+600)) (tm+600) (t0+19) (.ref (N+150+4))), mkSm t0 (.getS P 10 (N+150+4) (setL [] nM (t0+37) (.ref (N+150+5))) (setN [] 0 nM) nM (t0+42) (.ref (N+150+5))), mkSm t0 (.setI 11 (N+150+5) [] 0 n j2 (.int 1 (t0+39)))]
def p2a_T (P : Params) (b : Bool) (prog : Program) (p : Pos) (bl : List (Code × Pos)) (N t0 : Nat) (A0 A1 A2 A3 A4 A5 k0 k1 k2 k3 k4 ti : Nat) (tm : Int) (lM lS lH lQ : IL) (nM' nS' nH' nQ : Nat) (j1 j2 j3 : Nat) (n v : Int) : Tab := [some (cdict P k0 k1 k2 k3 k4 (A2+150) (A3+150) (A4+150) (A5+150) tm ti), some (instO (A0+150)), some (idct lM nM'), some (idct lS nS'), some (idct lH nH'), some (idct lQ nQ)]
def p2a_X (P : Params) (b : Bool) (prog : Program) (p : Pos) (bl : List (Code × Pos)) (N t0 : Nat) (A0 A1 A2 A3 A4 A5 k0 k1 k2 k3 k4 ti : Nat) (tm : Int) (lM lS lH lQ : IL) (nM' nS' nH' nQ : Nat) (j1 j2 j3 : Nat) (n v : Int) : Out Flow := (run ⟨prog, swP P b, Mine.hz.ktop_302 P, N+150, t0, [A0+150, A1+150, A2+150, A3+150, A4+150, A5+150]⟩ 100000).c (.call (.ref 137) ⟨[(.ref (A1+150)), (.int 2 j1), (.int n j2), (.int v j3)], []⟩) p bl none 0 0 874589497976755981272819077856478347248357223235945265395661465883743495612408908075755091558360649584074814854248452104851553796490901944697637631014135153475403411725992894909814194776559894400482798153851355399579322872727736693151382548710833830746986248420774282062960991857213154608543626179115206277866360902749320051797348319469948170196858490471287927536546025428052410475182471891724413245760707518420963315409397150771046019074 (p2a_S P b prog p bl N t0 A0 A1 A2 A3 A4 A5 k0 k1 k2 k3 k4 ti tm lM lS lH lQ nM' nS' nH' nQ j1 j2 j3 n v) (p2a_T P b prog p bl N t0 A0 A1 A2 A3 A4 A5 k0 k1 k2 k3 k4 ti tm lM lS lH lQ nM' nS' nH' nQ j1 j2 j3 n v) 0 0 []
def p2a_L (P : Params) (b : Bool) (prog : Program) (p : Pos) (bl : List (Code × Pos)) (N t0 : Nat) (A0 A1 A2 A3 A4 A5 k0 k1 k2 k3 k4 ti : Nat) (tm : Int) (lM lS lH lQ : IL) (nM' nS' nH' nQ : Nat) (j1 j2 j3 : Nat) (n v : Int) := look [0, 1, 2, 3, 4, 5, 7, 9, 10, 11, 12] (p2a_X P b prog p bl N t0 A0 A1 A2 A3 A4 A5 k0 k1 k2 k3 k4 ti tm lM lS lH lQ nM' nS' nH' nQ j1 j2 j3 n v)
def p2a_R (P : Params) (b : Bool) (prog : Program) (p : Pos) (bl : List (Code × Pos)) (N t0 : Nat) (A0 A1 A2 A3 A4 A5 k0 k1 k2 k3 k4 ti : Nat) (tm : Int) (lM lS lH lQ : IL) (nM' nS' nH' nQ : Nat) (j1 j2 j3 : Nat) (n v : Int) : Option (Except Value Flow × List (Option Obj) × Nat × Nat × List Ob) := some ((.ok (.ret (.ref (N+150+6)))), [some (cdict P k0 k1 k2 k3 k4 (A2+150) (A3+150) (A4+150) (A5+150) tm ti), some (instO (A0+150)), some (idct (setL lM n j2 (.ref (N+150+3))) (setN lM nM' n)), some (idct lS nS'), some (idct (setL lH (100+n) (t0+9) (.int n j2)) (setN lH nH' (100+n))), some (idct (setL lQ (tm+600) (t0+19) (.ref (N+150+4))) (setN lQ nQ (tm+600))), some (sdct P [(nH, (t0+10), (.int (100+n) (t0+9))), (nW, (t0+11), (.int v j3))] 2), some (tupO [(.ref (N+150+1)), (.int (tm+600) (t0+19))]), some (sdct P (setL [] nM (t0+37) (.ref (N+150+5))) (setN [] 0 nM)), some (idct (setL [] n j2 (.int 1 (t0+39))) (setN [] 0 n)), some (lstO [(.int n j2)])], 7, 45, obsOf (p2a_X P b prog p bl N t0 A0 A1 A2 A3 A4 A5 k0 k1 k2 k3 k4 ti tm lM lS lH lQ nM' nS' nH' nQ j1 j2 j3 n v))
theorem p2a_L0 : @p2a_L = p2a_L := rfl
theorem p2a_R0 : @p2a_R = p2a_R := rfl
lay_z Mine.p2a_L Mine.p2a_R
name_z p2aLZ for Mine.p2a_L by Mine.p2a_L0
name_z p2aRZ for Mine.p2a_R by Mine.p2a_R0
theorem p2a_ok (P : Params) (b : Bool) (prog : Program) (p : Pos) (bl : List (Code × Pos)) (N t0 : Nat) (A0 A1 A2 A3 A4 A5 k0 k1 k2 k3 k4 ti : Nat) (tm : Int) (lM lS lH lQ : IL) (nM' nS' nH' nQ : Nat) (j1 j2 j3 : Nat) (n v : Int) : p2a_L P b prog p bl N t0 A0 A1 A2 A3 A4 A5 k0 k1 k2 k3 k4 ti tm lM lS lH lQ nM' nS' nH' nQ j1 j2 j3 n v = p2a_R P b prog p bl N t0 A0 A1 A2 A3 A4 A5 k0 k1 k2 k3 k4 ti tm lM lS lH lQ nM' nS' nH' nQ j1 j2 j3 n v := by
  rw [PySem.W.ZFast.p2aLZ_eq, PySem.W.ZFast.p2aRZ_eq]
  cases b <;> kernel_rfl!

def p2b_S (P : Params) (b : Bool) (prog : Program) (p : Pos) (bl : List (Code × Pos)) (N t0 : Nat) (A0 A1 A2 A3 A4 A5 k0 k1 k2 k3 k4 ti : Nat) (tm : Int) (lM lS lH lQ : IL) (nM' nS' nH' nQ : Nat) (j1 j2 j3 : Nat) (n v : Int) (B0 : Nat) (lq : SL) (nq : Nat) : List Sm := [mkSm t0 (.hasI 2 (A2+150) lM nM' n j2 false), mkSm t0 (.setI 2 (A2+150) lM nM' n j2 (.ref (N+150+3))), mkSm t0 (.getS P 8 (N+150+1) [(nH, (t0+10), (.int (100+n) (t0+9))), (nW, (t0+11), (.int v j3))] 2 nH (t0+24) (.int (100+n) (t0+9))), mkSm t0 (.setI 4 (A4+150) lH nH' (100+n) (t0+9) (.int n j2)), mkSm t0 (.hasI 5 (A5+150) lQ nQ (tm+600) (t0+19) true), mkSm t0 (.getI 5 (A5+150) lQ nQ (tm+600) (t0+19) (.ref (B0+150))), mkSm t0 (.hasS P 6 (B0+150) lq nq nM (t0+29) false), mkSm t0 (.getI 5 (A5+150) lQ nQ (tm+600) (t0+19) (.ref (B0+150))), mkSm t0 (.setS P 6 (B0+150) lq nq nM (t0+35) (.ref (N+150+4))), mkSm t0 (.getI 5 (A5+150) lQ nQ (tm+600) (t0+19) (.ref (B0+150))), mkSm t0 (.getS P 6 (B0+150) (setL lq nM (t0+35) (.ref (N+150+4))) (setN lq nq nM) nM (t0+40) (.ref (N+150+4))), mkSm t0 (.setI 11 (N+150+4) [] 0 n j2 (.int 1 (t0+37)))]
def p2b_T (P : Params) (b : Bool) (prog : Program) (p : Pos) (bl : List (Code × Pos)) (N t0 : Nat) (A0 A1 A2 A3 A4 A5 k0 k1 k2 k3 k4 ti : Nat) (tm : Int) (lM lS lH lQ : IL) (nM' nS' nH' nQ : Nat) (j1 j2 j3 : Nat) (n v : Int) (B0 : Nat) (lq : SL) (nq : Nat) : Tab := [some (cdict P k0 k1 k2 k3 k4 (A2+150) (A3+150) (A4+150) (A5+150) tm ti), some (instO (A0+150)), some (idct lM nM'), some (idct lS nS'), some (idct lH nH'), some (idct lQ nQ), some (sdct P lq nq)]
def p2b_X (P : Params) (b : Bool) (prog : Program) (p : Pos) (bl : List (Code × Pos)) (N t0 : Nat) (A0 A1 A2 A3 A4 A5 k0 k1 k2 k3 k4 ti : Nat) (tm : Int) (lM lS lH lQ : IL) (nM' nS' nH' nQ : Nat) (j1 j2 j3 : Nat) (n v : Int) (B0 : Nat) (lq : SL) (nq : Nat) : Out Flow := (run ⟨prog, swP P b, Mine.hz.ktop_302 P, N+150, t0, [A0+150, A1+150, A2+150, A3+150, A4+150, A5+150, B0+150]⟩ 100000).c (.call (.ref 137) ⟨[(.ref (A1+150)), (.int 2 j1), (.int n j2), (.int v j3)], []⟩) p bl none 0 0 3079021911069977539219271368242312992489407709249989114866422214439856029496747707342272894247572426917856492259111321778470263788151333189144447187361096373907688870082567238530063409122621160144949079977718823379778965474761909189669293367337351320961507266771642620548825434524617616696277042165819002721648313016976365672244216404449257191279694122226106278184346614160410940011275863395444503594696706 (p2b_S P b prog p bl N t0 A0 A1 A2 A3 A4 A5 k0 k1 k2 k3 k4 ti tm lM lS lH lQ nM' nS' nH' nQ j1 j2 j3 n v B0 lq nq) (p2b_T P b prog p bl N t0 A0 A1 A2 A3 A4 A5 k0 k1 k2 k3 k4 ti tm lM lS lH lQ nM' nS' nH' nQ j1 j2 j3 n v B0 lq nq) 0 0 []
def p2b_L (P : Params) (b : Bool) (prog : Program) (p : Pos) (bl : List (Code × Pos)) (N t0 : Nat) (A0 A1 A2 A3 A4 A5 k0 k1 k2 k3 k4 ti : Nat) (tm : Int) (lM lS lH lQ : IL) (nM' nS' nH' nQ : Nat) (j1 j2 j3 : Nat) (n v : Int) (B0 : Nat) (lq : SL) (nq : Nat) := look [0, 1, 2, 3, 4, 5, 6, 8, 10, 11, 12] (p2b_X P b prog p bl N t0 A0 A1 A2 A3 A4 A5 k0 k1 k2 k3 k4 ti tm lM lS lH lQ nM' nS' nH' nQ j1 j2 j3 n v B0 lq nq)
def p2b_R (P : Params) (b : Bool) (prog : Program) (p : Pos) (bl : List (Code × Pos)) (N t0 : Nat) (A0 A1 A2 A3 A4 A5 k0 k1 k2 k3 k4 ti : Nat) (tm : Int) (lM lS lH lQ : IL) (nM' nS' nH' nQ : Nat) (j1 j2 j3 : Nat) (n v : Int) (B0 : Nat) (lq : SL) (nq : Nat) : Option (Except Value Flow × List (Option Obj) × Nat × Nat × List Ob) := some ((.ok (.ret (.ref (N+150+5)))), [some (cdict P k0 k1 k2 k3 k4 (A2+150) (A3+150) (A4+150) (A5+150) tm ti), some (instO (A0+150)), some (idct (setL lM n j2 (.ref (N+150+3))) (setN lM nM' n)), some (idct lS nS'), some (idct (setL lH (100+n) (t0+9) (.int n j2)) (setN lH nH' (100+n))), some (idct lQ nQ), some (sdct P (setL lq nM (t0+35) (.ref (N+150+4))) (setN lq nq nM)), some (sdct P [(nH, (t0+10), (.int (100+n) (t0+9))), (nW, (t0+11), (.int v j3))] 2), some (tupO [(.ref (N+150+1)), (.int (tm+600) (t0+19))]), some (idct (setL [] n j2 (.int 1 (t0+37))) (setN [] 0 n)), some (lstO [(.int n j2)])], 6, 43, obsOf (p2b_X P b prog p bl N t0 A0 A1 A2 A3 A4 A5 k0 k1 k2 k3 k4 ti tm lM lS lH lQ nM' nS' nH' nQ j1 j2 j3 n v B0 lq nq))
theorem p2b_L0 : @p2b_L = p2b_L := rfl
theorem p2b_R0 : @p2b_R = p2b_R := rfl
lay_z Mine.p2b_L Mine.p2b_R
name_z p2bLZ for Mine.p2b_L by Mine.p2b_L0
name_z p2bRZ for Mine.p2b_R by Mine.p2b_R0
theorem p2b_ok (P : Params) (b : Bool) (prog : Program) (p : Pos) (bl : List (Code × Pos)) (N t0 : Nat) (A0 A1 A2 A3 A4 A5 k0 k1 k2 k3 k4 ti : Nat) (tm : Int) (lM lS lH lQ : IL) (nM' nS' nH' nQ : Nat) (j1 j2 j3 : Nat) (n v : Int) (B0 : Nat) (lq : SL) (nq : Nat) : p2b_L P b prog p bl N t0 A0 A1 A2 A3 A4 A5 k0 k1 k2 k3 k4 ti tm lM lS lH lQ nM' nS' nH' nQ j1 j2 j3 n v B0 lq nq = p2b_R P b prog p bl N t0 A0 A1 A2 A3 A4 A5 k0 k1 k2 k3 k4 ti tm lM lS lH lQ nM' nS' nH' nQ j1 j2 j3 n v B0 lq nq := by
  rw [PySem.W.ZFast.p2bLZ_eq, PySem.W.ZFast.p2bRZ_eq]
  cases b <;> kernel_rfl!

def p2c_S (P : Params) (b : Bool) (prog : Program) (p : Pos) (bl : List (Code × Pos)) (N t0 : Nat) (A0 A1 A2 A3 A4 A5 k0 k1 k2 k3 k4 ti : Nat) (tm : Int) (lM lS lH lQ : IL) (nM' nS' nH' nQ : Nat) (j1 j2 j3 : Nat) (n v : Int) (B0 B1 : Nat) (lq : SL) (nq : Nat) (lr : IL) (nr : Nat) : List Sm := [mkSm t0 (.hasI 2 (A2+150) lM nM' n j2 false), mkSm t0 (.setI 2 (A2+150) lM nM' n j2 (.ref (N+150+3))), mkSm t0 (.getS P 9 (N+150+1) [(nH, (t0+10), (.int (100+n) (t0+9))), (nW, (t0+11), (.int v j3))] 2 nH (t0+24) (.int (100+n) (t0+9))), mkSm t0 (.setI 4 (A4+150) lH nH' (100+n) (t0+9) (.int n j2)), mkSm t0 (.hasI 5 (A5+150) lQ nQ (tm+600) (t0+19) true), mkSm t0 (.getI 5 (A5+150) lQ nQ (tm+600) (t0+19) (.ref (B0+150))), mkSm t0 (.hasS P 6 (B0+150) lq nq nM (t0+29) true), mkSm t0 (.getI 5 (A5+150) lQ nQ (tm+600) (t0+19) (.ref (B0+150))), mkSm t0 (.getS P 6 (B0+150) lq nq nM (t0+36) (.ref (B1+150))), mkSm t0 (.setI 7 (B1+150) lr nr n j2 (.int 1 (t0+33)))]
def p2c_T (P : Params) (b : Bool) (prog : Program) (p : Pos) (bl : List (Code × Pos)) (N t0 : Nat) (A0 A1 A2 A3 A4 A5 k0 k1 k2 k3 k4 ti : Nat) (tm : Int) (lM lS lH lQ : IL) (nM' nS' nH' nQ : Nat) (j1 j2 j3 : Nat) (n v : Int) (B0 B1 : Nat) (lq : SL) (nq : Nat) (lr : IL) (nr : Nat) : Tab := [some (cdict P k0 k1 k2 k3 k4 (A2+150) (A3+150) (A4+150) (A5+150) tm ti), some (instO (A0+150)), some (idct lM nM'), some (idct lS nS'), some (idct lH nH'), some (idct lQ nQ), some (sdct P lq nq), some (idct lr nr)]
def p2c_X (P : Params) (b : Bool) (prog : Program) (p : Pos) (bl : List (Code × Pos)) (N t0 : Nat) (A0 A1 A2 A3 A4 A5 k0 k1 k2 k3 k4 ti : Nat) (tm : Int) (lM lS lH lQ : IL) (nM' nS' nH' nQ : Nat) (j1 j2 j3 : Nat) (n v : Int) (B0 B1 : Nat) (lq : SL) (nq : Nat) (lr : IL) (nr : Nat) : Out Flow := (run ⟨prog, swP P b, Mine.hz.ktop_302 P, N+150, t0, [A0+150, A1+150, A2+150, A3+150, A4+150, A5+150, B0+150, B1+150]⟩ 100000).c (.call (.ref 137) ⟨[(.ref (A1+150)), (.int 2 j1), (.int n j2), (.int v j3)], []⟩) p bl none 0 0 9937249308643283809333389934247478088907712572016930986509575038426620371249888842730295611205455920700574672757889861235256482530326508549467245727394049220504217375323747021826953422948249472297210126936622717797082562278075464597445446807080422386594178160911511723097293151620464297007893414351080365955021131324836601152196595297397219203940866602085470474242 (p2c_S P b prog p bl N t0 A0 A1 A2 A3 A4 A5 k0 k1 k2 k3 k4 ti tm lM lS lH lQ nM' nS' nH' nQ j1 j2 j3 n v B0 B1 lq nq lr nr) (p2c_T P b prog p bl N t0 A0 A1 A2 A3 A4 A5 k0 k1 k2 k3 k4 ti tm lM lS lH lQ nM' nS' nH' nQ j1 j2 j3 n v B0 B1 lq nq lr nr) 0 0 []
def p2c_L (P : Params) (b : Bool) (prog : Program) (p : Pos) (bl : List (Code × Pos)) (N t0 : Nat) (A0 A1 A2 A3 A4 A5 k0 k1 k2 k3 k4 ti : Nat) (tm : Int) (lM lS lH lQ : IL) (nM' nS' nH' nQ : Nat) (j1 j2 j3 : Nat) (n v : Int) (B0 B1 : Nat) (lq : SL) (nq : Nat) (lr : IL) (nr : Nat) := look [0, 1, 2, 3, 4, 5, 6, 7, 9, 11, 12] (p2c_X P b prog p bl N t0 A0 A1 A2 A3 A4 A5 k0 k1 k2 k3 k4 ti tm lM lS lH lQ nM' nS' nH' nQ j1 j2 j3 n v B0 B1 lq nq lr nr)
def p2c_R (P : Params) (b : Bool) (prog : Program) (p : Pos) (bl : List (Code × Pos)) (N t0 : Nat) (A0 A1 A2 A3 A4 A5 k0 k1 k2 k3 k4 ti : Nat) (tm : Int) (lM lS lH lQ : IL) (nM' nS' nH' nQ : Nat) (j1 j2 j3 : Nat) (n v : Int) (B0 B1 : Nat) (lq : SL) (nq : Nat) (lr : IL) (nr : Nat) : Option (Except Value Flow × List (Option Obj) × Nat × Nat × List Ob) := some ((.ok (.ret (.ref (N+150+4)))), [some (cdict P k0 k1 k2 k3 k4 (A2+150) (A3+150) (A4+150) (A5+150) tm ti), some (instO (A0+150)), some (idct (setL lM n j2 (.ref (N+150+3))) (setN lM nM' n)), some (idct lS nS'), some (idct (setL lH (100+n) (t0+9) (.int n j2)) (setN lH nH' (100+n))), some (idct lQ nQ), some (sdct P lq nq), some (idct (setL lr n j2 (.int 1 (t0+33))) (setN lr nr n)), some (sdct P [(nH, (t0+10), (.int (100+n) (t0+9))), (nW, (t0+11), (.int v j3))] 2), some (tupO [(.ref (N+150+1)), (.int (tm+600) (t0+19))]), some (lstO [(.int n j2)])], 5, 39, obsOf (p2c_X P b prog p bl N t0 A0 A1 A2 A3 A4 A5 k0 k1 k2 k3 k4 ti tm lM lS lH lQ nM' nS' nH' nQ j1 j2 j3 n v B0 B1 lq nq lr nr))
theorem p2c_L0 : @p2c_L = p2c_L := rfl
theorem p2c_R0 : @p2c_R = p2c_R := rfl
lay_z Mine.p2c_L Mine.p2c_R
name_z p2cLZ for Mine.p2c_L by Mine.p2c_L0
name_z p2cRZ for Mine.p2c_R by Mine.p2c_R0
theorem p2c_ok (P : Params) (b : Bool) (prog : Program) (p : Pos) (bl : List (Code × Pos)) (N t0 : Nat) (A0 A1 A2 A3 A4 A5 k0 k1 k2 k3 k4 ti : Nat) (tm : Int) (lM lS lH lQ : IL) (nM' nS' nH' nQ : Nat) (j1 j2 j3 : Nat) (n v : Int) (B0 B1 : Nat) (lq : SL) (nq : Nat) (lr : IL) (nr : Nat) : p2c_L P b prog p bl N t0 A0 A1 A2 A3 A4 A5 k0 k1 k2 k3 k4 ti tm lM lS lH lQ nM' nS' nH' nQ j1 j2 j3 n v B0 B1 lq nq lr nr = p2c_R P b prog p bl N t0 A0 A1 A2 A3 A4 A5 k0 k1 k2 k3 k4 ti tm lM lS lH lQ nM' nS' nH' nQ j1 j2 j3 n v B0 B1 lq nq lr nr := by
  rw [PySem.W.ZFast.p2cLZ_eq, PySem.W.ZFast.p2cRZ_eq]
  cases b <;> kernel_rfl!

def p3hit_S (P : Params) (b : Bool) (prog : Program) (p : Pos) (bl : List (Code × Pos)) (N t0 : Nat) (A0 A1 A2 A3 A4 A5 k0 k1 k2 k3 k4 ti : Nat) (tm : Int) (lM lS lH lQ : IL) (nM' nS' nH' nQ : Nat) (j1 j2 j3 : Nat) (n v : Int) (B0 B1 B2 B3 : Nat) (li lq : SL) (ni nq : Nat) (lr : IL) (nr y704 y706 y712 : Nat) (e x : Int) : List Sm := [mkSm t0 (.hasI 2 (A2+150) lM nM' n j2 true), mkSm t0 (.getI 2 (A2+150) lM nM' n j2 (.ref (B0+150))), mkSm t0 (.getS P 7 (B1+150) li ni nH (t0+19) (.int (100+n) y712)), mkSm t0 (.delI 4 (A4+150) lH nH' (100+n) y712), mkSm t0 (.delI 2 (A2+150) lM nM' n j2), mkSm t0 (.getI 5 (A5+150) lQ nQ e y704 (.ref (B2+150))), mkSm t0 (.getS P 8 (B2+150) lq nq nM (t0+28) (.ref (B3+150))), mkSm t0 (.delI 9 (B3+150) lr nr n j2), mkSm t0 (.getS P 7 (B1+150) li ni nW (t0+31) (.int x y706))]
def p3hit_T (P : Params) (b : Bool) (prog : Program) (p : Pos) (bl : List (Code × Pos)) (N t0 : Nat) (A0 A1 A2 A3 A4 A5 k0 k1 k2 k3 k4 ti : Nat) (tm : Int) (lM lS lH lQ : IL) (nM' nS' nH' nQ : Nat) (j1 j2 j3 : Nat) (n v : Int) (B0 B1 B2 B3 : Nat) (li lq : SL) (ni nq : Nat) (lr : IL) (nr y704 y706 y712 : Nat) (e x : Int) : Tab := [some (cdict P k0 k1 k2 k3 k4 (A2+150) (A3+150) (A4+150) (A5+150) tm ti), some (instO (A0+150)), some (idct lM nM'), some (idct lS nS'), some (idct lH nH'), some (idct lQ nQ), some (tupO [.ref (B1+150), .int e y704]), some (sdct P li ni), some (sdct P lq nq), some (idct lr nr)]
def p3hit_X (P : Params) (b : Bool) (prog : Program) (p : Pos) (bl : List (Code × Pos)) (N t0 : Nat) (A0 A1 A2 A3 A4 A5 k0 k1 k2 k3 k4 ti : Nat) (tm : Int) (lM lS lH lQ : IL) (nM' nS' nH' nQ : Nat) (j1 j2 j3 : Nat) (n v : Int) (B0 B1 B2 B3 : Nat) (li lq : SL) (ni nq : Nat) (lr : IL) (nr y704 y706 y712 : Nat) (e x : Int) : Out Flow := (run ⟨prog, swP P b, Mine.hz.ktop_302 P, N+150, t0, [A0+150, A1+150, A2+150, A3+150, A4+150, A5+150, B0+150, B1+150, B2+150, B3+150]⟩ 100000).c (.call (.ref 137) ⟨[(.ref (A1+150)), (.int 3 j1), (.int n j2), (.int v j3)], []⟩) p bl none 0 0 8370505706409708955748131118808707958755627226833026063010404638358002077224641590682328124076472993476091425427023556673613469055112623151516636281952329926629849608268375543430660266449420342915384421012073115459122780797719162113865436358031619518955132503576468362643158112867175021089015638290559777970256975750912099584368802822436600136936556821827963786697692977627120781047272597158903418038905748226624842508413352849410 (p3hit_S P b prog p bl N t0 A0 A1 A2 A3 A4 A5 k0 k1 k2 k3 k4 ti tm lM lS lH lQ nM' nS' nH' nQ j1 j2 j3 n v B0 B1 B2 B3 li lq ni nq lr nr y704 y706 y712 e x) (p3hit_T P b prog p bl N t0 A0 A1 A2 A3 A4 A5 k0 k1 k2 k3 k4 ti tm lM lS lH lQ nM' nS' nH' nQ j1 j2 j3 n v B0 B1 B2 B3 li lq ni nq lr nr y704 y706 y712 e x) 0 0 []
def p3hit_L (P : Params) (b : Bool) (prog : Program) (p : Pos) (bl : List (Code × Pos)) (N t0 : Nat) (A0 A1 A2 A3 A4 A5 k0 k1 k2 k3 k4 ti : Nat) (tm : Int) (lM lS lH lQ : IL) (nM' nS' nH' nQ : Nat) (j1 j2 j3 : Nat) (n v : Int) (B0 B1 B2 B3 : Nat) (li lq : SL) (ni nq : Nat) (lr : IL) (nr y704 y706 y712 : Nat) (e x : Int) := look [0, 1, 2, 3, 4, 5, 6, 7, 8, 9, 18] (p3hit_X P b prog p bl N t0 A0 A1 A2 A3 A4 A5 k0 k1 k2 k3 k4 ti tm lM lS lH lQ nM' nS' nH' nQ j1 j2 j3 n v B0 B1 B2 B3 li lq ni nq lr nr y704 y706 y712 e x)
def p3hit_R (P : Params) (b : Bool) (prog : Program) (p : Pos) (bl : List (Code × Pos)) (N t0 : Nat) (A0 A1 A2 A3 A4 A5 k0 k1 k2 k3 k4 ti : Nat) (tm : Int) (lM lS lH lQ : IL) (nM' nS' nH' nQ : Nat) (j1 j2 j3 : Nat) (n v : Int) (B0 B1 B2 B3 : Nat) (li lq : SL) (ni nq : Nat) (lr : IL) (nr y704 y706 y712 : Nat) (e x : Int) : Option (Except Value Flow × List (Option Obj) × Nat × Nat × List Ob) := some ((.ok (.ret (.ref (N+150+8)))), [some (cdict P k0 k1 k2 k3 k4 (A2+150) (A3+150) (A4+150) (A5+150) tm ti), some (instO (A0+150)), some (idct (rem lM n) (nM' + 1)), some (idct lS nS'), some (idct (rem lH (100+n)) (nH' + 1)), some (idct lQ nQ), some (tupO [.ref (B1+150), .int e y704]), some (sdct P li ni), some (sdct P lq nq), some (idct (rem lr n) (nr + 1)), some (lstO [(.int x y706)])], 9, 33, obsOf (p3hit_X P b prog p bl N t0 A0 A1 A2 A3 A4 A5 k0 k1 k2 k3 k4 ti tm lM lS lH lQ nM' nS' nH' nQ j1 j2 j3 n v B0 B1 B2 B3 li lq ni nq lr nr y704 y706 y712 e x))
theorem p3hit_L0 : @p3hit_L = p3hit_L := rfl
theorem p3hit_R0 : @p3hit_R = p3hit_R := rfl
lay_z Mine.p3hit_L Mine.p3hit_R
name_z p3hitLZ for Mine.p3hit_L by Mine.p3hit_L0
name_z p3hitRZ for Mine.p3hit_R by Mine.p3hit_R0
theorem p3hit_ok (P : Params) (b : Bool) (prog : Program) (p : Pos) (bl : List (Code × Pos)) (N t0 : Nat) (A0 A1 A2 A3 A4 A5 k0 k1 k2 k3 k4 ti : Nat) (tm : Int) (lM lS lH lQ : IL) (nM' nS' nH' nQ : Nat) (j1 j2 j3 : Nat) (n v : Int) (B0 B1 B2 B3 : Nat) (li lq : SL) (ni nq : Nat) (lr : IL) (nr y704 y706 y712 : Nat) (e x : Int) : p3hit_L P b prog p bl N t0 A0 A1 A2 A3 A4 A5 k0 k1 k2 k3 k4 ti tm lM lS lH lQ nM' nS' nH' nQ j1 j2 j3 n v B0 B1 B2 B3 li lq ni nq lr nr y704 y706 y712 e x = p3hit_R P b prog p bl N t0 A0 A1 A2 A3 A4 A5 k0 k1 k2 k3 k4 ti tm lM lS lH lQ nM' nS' nH' nQ j1 j2 j3 n v B0 B1 B2 B3 li lq ni nq lr nr y704 y706 y712 e x := by
  rw [PySem.W.ZFast.p3hitLZ_eq, PySem.W.ZFast.p3hitRZ_eq]
  cases b <;> kernel_rfl!

def p4no_S (P : Params) (b : Bool) (prog : Program) (p : Pos) (bl : List (Code × Pos)) (N t0 : Nat) (A0 A1 A2 A3 A4 A5 k0 k1 k2 k3 k4 ti : Nat) (tm : Int) (lM lS lH lQ : IL) (nM' nS' nH' nQ : Nat) (j1 j2 j3 : Nat) (n v : Int) : List Sm := [mkSm t0 (.hasI 4 (A4+150) lH nH' (100+n) (t0+10) false)]
def p4no_T (P : Params) (b : Bool) (prog : Program) (p : Pos) (bl : List (Code × Pos)) (N t0 : Nat) (A0 A1 A2 A3 A4 A5 k0 k1 k2 k3 k4 ti : Nat) (tm : Int) (lM lS lH lQ : IL) (nM' nS' nH' nQ : Nat) (j1 j2 j3 : Nat) (n v : Int) : Tab := [some (cdict P k0 k1 k2 k3 k4 (A2+150) (A3+150) (A4+150) (A5+150) tm ti), some (instO (A0+150)), some (idct lM nM'), some (idct lS nS'), some (idct lH nH'), some (idct lQ nQ)]
def p4no_X (P : Params) (b : Bool) (prog : Program) (p : Pos) (bl : List (Code × Pos)) (N t0 : Nat) (A0 A1 A2 A3 A4 A5 k0 k1 k2 k3 k4 ti : Nat) (tm : Int) (lM lS lH lQ : IL) (nM' nS' nH' nQ : Nat) (j1 j2 j3 : Nat) (n v : Int) : Out Flow := (run ⟨prog, swP P b, Mine.hz.ktop_302 P, N+150, t0, [A0+150, A1+150, A2+150, A3+150, A4+150, A5+150]⟩ 100000).c (.call (.ref 137) ⟨[(.ref (A1+150)), (.int 4 j1), (.int n j2), (.int v j3)], []⟩) p bl none 0 0 17694627312448573695719610975806205701157462085633930467195760499294474881992873759325438981575100703871863521942466562 (p4no_S P b prog p bl N t0 A0 A1 A2 A3 A4 A5 k0 k1 k2 k3 k4 ti tm lM lS lH lQ nM' nS' nH' nQ j1 j2 j3 n v) (p4no_T P b prog p bl N t0 A0 A1 A2 A3 A4 A5 k0 k1 k2 k3 k4 ti tm lM lS lH lQ nM' nS' nH' nQ j1 j2 j3 n v) 0 0 []
def p4no_L (P : Params) (b : Bool) (prog : Program) (p : Pos) (bl : List (Code × Pos)) (N t0 : Nat) (A0 A1 A2 A3 A4 A5 k0 k1 k2 k3 k4 ti : Nat) (tm : Int) (lM lS lH lQ : IL) (nM' nS' nH' nQ : Nat) (j1 j2 j3 : Nat) (n v : Int) := look [0, 1, 2, 3, 4, 5, 8] (p4no_X P b prog p bl N t0 A0 A1 A2 A3 A4 A5 k0 k1 k2 k3 k4 ti tm lM lS lH lQ nM' nS' nH' nQ j1 j2 j3 n v)
def p4no_R (P : Params) (b : Bool) (prog : Program) (p : Pos) (bl : List (Code × Pos)) (N t0 : Nat) (A0 A1 A2 A3 A4 A5 k0 k1 k2 k3 k4 ti : Nat) (tm : Int) (lM lS lH lQ : IL) (nM' nS' nH' nQ : Nat) (j1 j2 j3 : Nat) (n v : Int) : Option (Except Value Flow × List (Option Obj) × Nat × Nat × List Ob) := some ((.ok (.ret (.ref (N+150+2)))), [some (cdict P k0 k1 k2 k3 k4 (A2+150) (A3+150) (A4+150) (A5+150) tm ti), some (instO (A0+150)), some (idct lM nM'), some (idct lS nS'), some (idct lH nH'), some (idct lQ nQ), some (lstO [(.int n j2)])], 3, 15, obsOf (p4no_X P b prog p bl N t0 A0 A1 A2 A3 A4 A5 k0 k1 k2 k3 k4 ti tm lM lS lH lQ nM' nS' nH' nQ j1 j2 j3 n v))
theorem p4no_L0 : @p4no_L = p4no_L := rfl
theorem p4no_R0 : @p4no_R = p4no_R := rfl
lay_z Mine.p4no_L Mine.p4no_R
name_z p4noLZ for Mine.p4no_L by Mine.p4no_L0
name_z p4noRZ for Mine.p4no_R by Mine.p4no_R0
theorem p4no_ok (P : Params) (b : Bool) (prog : Program) (p : Pos) (bl : List (Code × Pos)) (N t0 : Nat) (A0 A1 A2 A3 A4 A5 k0 k1 k2 k3 k4 ti : Nat) (tm : Int) (lM lS lH lQ : IL) (nM' nS' nH' nQ : Nat) (j1 j2 j3 : Nat) (n v : Int) : p4no_L P b prog p bl N t0 A0 A1 A2 A3 A4 A5 k0 k1 k2 k3 k4 ti tm lM lS lH lQ nM' nS' nH' nQ j1 j2 j3 n v = p4no_R P b prog p bl N t0 A0 A1 A2 A3 A4 A5 k0 k1 k2 k3 k4 ti tm lM lS lH lQ nM' nS' nH' nQ j1 j2 j3 n v := by
  rw [PySem.W.ZFast.p4noLZ_eq, PySem.W.ZFast.p4noRZ_eq]
  cases b <;> kernel_rfl!

def p4hit_S (P : Params) (b : Bool) (prog : Program) (p : Pos) (bl : List (Code × Pos)) (N t0 : Nat) (A0 A1 A2 A3 A4 A5 k0 k1 k2 k3 k4 ti : Nat) (tm : Int) (lM lS lH lQ : IL) (nM' nS' nH' nQ : Nat) (j1 j2 j3 : Nat) (n v : Int) (B0 B1 B2 B3 : Nat) (li lq : SL) (ni nq : Nat) (lr : IL) (nr y704 y706 y710 y712 : Nat) (e x : Int) : List Sm := [mkSm t0 (.hasI 4 (A4+150) lH nH' (100+n) (t0+10) true), mkSm t0 (.getI 4 (A4+150) lH nH' (100+n) (t0+10) (.int n y710)), mkSm t0 (.hasI 2 (A2+150) lM nM' n y710 true), mkSm t0 (.getI 2 (A2+150) lM nM' n y710 (.ref (B0+150))), mkSm t0 (.getS P 7 (B1+150) li ni nH (t0+27) (.int (100+n) y712)), mkSm t0 (.delI 4 (A4+150) lH nH' (100+n) y712), mkSm t0 (.delI 2 (A2+150) lM nM' n y710), mkSm t0 (.getI 5 (A5+150) lQ nQ e y704 (.ref (B2+150))), mkSm t0 (.getS P 8 (B2+150) lq nq nM (t0+36) (.ref (B3+150))), mkSm t0 (.delI 9 (B3+150) lr nr n y710)]
def p4hit_T (P : Params) (b : Bool) (prog : Program) (p : Pos) (bl : List (Code × Pos)) (N t0 : Nat) (A0 A1 A2 A3 A4 A5 k0 k1 k2 k3 k4 ti : Nat) (tm : Int) (lM lS lH lQ : IL) (nM' nS' nH' nQ : Nat) (j1 j2 j3 : Nat) (n v : Int) (B0 B1 B2 B3 : Nat) (li lq : SL) (ni nq : Nat) (lr : IL) (nr y704 y706 y710 y712 : Nat) (e x : Int) : Tab := [some (cdict P k0 k1 k2 k3 k4 (A2+150) (A3+150) (A4+150) (A5+150) tm ti), some (instO (A0+150)), some (idct lM nM'), some (idct lS nS'), some (idct lH nH'), some (idct lQ nQ), some (tupO [.ref (B1+150), .int e y704]), some (sdct P li ni), some (sdct P lq nq), some (idct lr nr)]
def p4hit_X (P : Params) (b : Bool) (prog : Program) (p : Pos) (bl : List (Code × Pos)) (N t0 : Nat) (A0 A1 A2 A3 A4 A5 k0 k1 k2 k3 k4 ti : Nat) (tm : Int) (lM lS lH lQ : IL) (nM' nS' nH' nQ : Nat) (j1 j2 j3 : Nat) (n v : Int) (B0 B1 B2 B3 : Nat) (li lq : SL) (ni nq : Nat) (lr : IL) (nr y704 y706 y710 y712 : Nat) (e x : Int) : Out Flow := (run ⟨prog, swP P b, Mine.hz.ktop_302 P, N+150, t0, [A0+150, A1+150, A2+150, A3+150, A4+150, A5+150, B0+150, B1+150, B2+150, B3+150]⟩ 100000).c (.call (.ref 137) ⟨[(.ref (A1+150)), (.int 4 j1), (.int n j2), (.int v j3)], []⟩) p bl none 0 0 786158914941515361772440965527691725107018110797979314421140025129581246586596849748184692306991208083974625536444862599864322756199048398273689069526083554493392254078332013398588059196461602421783139704437711987116442780776491366397149722062569747371992700763703024745546104886460712730848946940685308995234716624013367239673947383392038890968822802144006497388286946441337290227395069134627988289502953344493191920728825139557264970474223313466186013387845980884996638720215252393833153598478246796108102098121512554267049461661799375745026 (p4hit_S P b prog p bl N t0 A0 A1 A2 A3 A4 A5 k0 k1 k2 k3 k4 ti tm lM lS lH lQ nM' nS' nH' nQ j1 j2 j3 n v B0 B1 B2 B3 li lq ni nq lr nr y704 y706 y710 y712 e x) (p4hit_T P b prog p bl N t0 A0 A1 A2 A3 A4 A5 k0 k1 k2 k3 k4 ti tm lM lS lH lQ nM' nS' nH' nQ j1 j2 j3 n v B0 B1 B2 B3 li lq ni nq lr nr y704 y706 y710 y712 e x) 0 0 []
def p4hit_L (P : Params) (b : Bool) (prog : Program) (p : Pos) (bl : List (Code × Pos)) (N t0 : Nat) (A0 A1 A2 A3 A4 A5 k0 k1 k2 k3 k4 ti : Nat) (tm : Int) (lM lS lH lQ : IL) (nM' nS' nH' nQ : Nat) (j1 j2 j3 : Nat) (n v : Int) (B0 B1 B2 B3 : Nat) (li lq : SL) (ni nq : Nat) (lr : IL) (nr y704 y706 y710 y712 : Nat) (e x : Int) := look [0, 1, 2, 3, 4, 5, 6, 7, 8, 9, 19] (p4hit_X P b prog p bl N t0 A0 A1 A2 A3 A4 A5 k0 k1 k2 k3 k4 ti tm lM lS lH lQ nM' nS' nH' nQ j1 j2 j3 n v B0 B1 B2 B3 li lq ni nq lr nr y704 y706 y710 y712 e x)
def p4hit_R (P : Params) (b : Bool) (prog : Program) (p : Pos) (bl : List (Code × Pos)) (N t0 : Nat) (A0 A1 A2 A3 A4 A5 k0 k1 k2 k3 k4 ti : Nat) (tm : Int) (lM lS lH lQ : IL) (nM' nS' nH' nQ : Nat) (j1 j2 j3 : Nat) (n v : Int) (B0 B1 B2 B3 : Nat) (li lq : SL) (ni nq : Nat) (lr : IL) (nr y704 y706 y710 y712 : Nat) (e x : Int) : Option (Except Value Flow × List (Option Obj) × Nat × Nat × List Ob) := some ((.ok (.ret (.ref (N+150+9)))), [some (cdict P k0 k1 k2 k3 k4 (A2+150) (A3+150) (A4+150) (A5+150) tm ti), some (instO (A0+150)), some (idct (rem lM n) (nM' + 1)), some (idct lS nS'), some (idct (rem lH (100+n)) (nH' + 1)), some (idct lQ nQ), some (tupO [.ref (B1+150), .int e y704]), some (sdct P li ni), some (sdct P lq nq), some (idct (rem lr n) (nr + 1)), some (lstO [(.int n j2)])], 10, 39, obsOf (p4hit_X P b prog p bl N t0 A0 A1 A2 A3 A4 A5 k0 k1 k2 k3 k4 ti tm lM lS lH lQ nM' nS' nH' nQ j1 j2 j3 n v B0 B1 B2 B3 li lq ni nq lr nr y704 y706 y710 y712 e x))
theorem p4hit_L0 : @p4hit_L = p4hit_L := rfl
theorem p4hit_R0 : @p4hit_R = p4hit_R := rfl
lay_z Mine.p4hit_L Mine.p4hit_R
name_z p4hitLZ for Mine.p4hit_L by Mine.p4hit_L0
name_z p4hitRZ for Mine.p4hit_R by Mine.p4hit_R0
theorem p4hit_ok (P : Params) (b : Bool) (prog : Program) (p : Pos) (bl : List (Code × Pos)) (N t0 : Nat) (A0 A1 A2 A3 A4 A5 k0 k1 k2 k3 k4 ti : Nat) (tm : Int) (lM lS lH lQ : IL) (nM' nS' nH' nQ : Nat) (j1 j2 j3 : Nat) (n v : Int) (B0 B1 B2 B3 : Nat) (li lq : SL) (ni nq : Nat) (lr : IL) (nr y704 y706 y710 y712 : Nat) (e x : Int) : p4hit_L P b prog p bl N t0 A0 A1 A2 A3 A4 A5 k0 k1 k2 k3 k4 ti tm lM lS lH lQ nM' nS' nH' nQ j1 j2 j3 n v B0 B1 B2 B3 li lq ni nq lr nr y704 y706 y710 y712 e x = p4hit_R P b prog p bl N t0 A0 A1 A2 A3 A4 A5 k0 k1 k2 k3 k4 ti tm lM lS lH lQ nM' nS' nH' nQ j1 j2 j3 n v B0 B1 B2 B3 li lq ni nq lr nr y704 y706 y710 y712 e x := by
  rw [PySem.W.ZFast.p4hitLZ_eq, PySem.W.ZFast.p4hitRZ_eq]
  cases b <;> kernel_rfl!
end Mine

end
/-! HT0 -/
section
open PySem PySem.W PySem.W.X PyProof.Rows
namespace Mine
theorem all_nil {p : Sm → Prop} : ∀ m ∈ ([] : List Sm), p m := fun _ h => nomatch h
theorem all_cons {p : Sm → Prop} {m : Sm} {l : List Sm} (h : p m) (hl : ∀ x ∈ l, p x) : ∀ x ∈ m :: l, p x := fun x hx => by
  rcases List.mem_cons.mp hx with rfl | hx
  · exact h
  · exact hl x hx
theorem okx {C : Cx} {w : World} {s₀ : Shared} {D U : Nat} {X : Shared → Prop} {m : Sm} (h : SmOk C w s₀ D U m) (hd : m.dead = false) : SmOkX C w s₀ D U X m := by
  unfold SmOkX
  rw [hd]
  exact h
/-- where a call may start -/
structure Rdy (w : World) (A : Around) (s : Shared) : Prop where
  hh : A.handled = none
  hd : A.depth + 90 < recursionLimit
  hu : A.units + 402 < cLine
  tb : TopB w.params
  ti : TopIn w.params s.heap
  sz : 150 ≤ s.heap.objs.size
theorem nm_ne : nM ≠ nS := by decide
theorem nm_ne' : nS ≠ nM := by decide
theorem nWH : nH ≠ nW := by decide
abbrev topN (s : Shared) : Nat := s.heap.objs.size - 150 + 150
theorem aft_of {prog : Program} {w : World} {s s' : Shared} {ps : List Nat} {T : Tab} {na tk : Nat} {g g' : Cch} {Z : List Role} {f : Nat → Option Role} {fp : Nat → Prop} (R : Rep (cxOf prog w s ps) s T na tk s') (hsz : 150 ≤ s.heap.objs.size)
    (hlab : ps.map g.lab = Z.map some) (hg : g'.lab = ext g.lab (topN s) f) (hA : g'.A1 = g.A1) : Aft w.params s s' g g' fp ∧ Kp s.heap s'.heap g g' Z := by
  have hM : topN s = s.heap.objs.size := by show s.heap.objs.size - 150 + 150 = _; omega
  have hk : ∀ x o, s.heap.get? x = some o → x ∉ ps → s'.heap.get? x = some o := R.keep
  have hno : ∀ x, g.lab x = none → x ∉ ps := by
    intro x hx hm
    have := List.mem_map_of_mem (f := g.lab) hm
    rw [hlab, hx] at this
    simp at this
  refine ⟨⟨R.top, fun x o h hl _ => hk x o h (hno x hl), fun x o h hl _ => ⟨o.slots, hk x o h (hno x hl)⟩, fun x hx => ?_, hA, ?_, R.gens, R.drawn, R.os⟩, fun x o r hl hr h => ⟨hk x o h (not_ps hlab hl hr), ?_⟩⟩
  · rw [hg]
    exact ext_old (by omega)
  · rw [R.toks]
    exact Nat.le_add_right _ _
  · have hx : x < topN s := by rw [hM]; exact Heap.lt_size h
    rw [hg, ext_old hx]
    exact hl
theorem labs_ext {lab : Nat → Option Role} {s : Shared} {f : Nat → Option Role} {ps : List Nat} (h : ∀ p ∈ ps, 150 ≤ p ∧ p < s.heap.objs.size) : ps.map (ext lab (topN s) f) = ps.map lab := by
  apply List.map_congr_left
  intro p hp
  have := h p hp
  exact ext_old (by show p < s.heap.objs.size - 150 + 150; omega)
theorem lt_cons {s : Shared} {p : Nat} {ps : List Nat} {o : Obj} (h : s.heap.get? p = some o) (h1 : 150 ≤ p) (hl : ∀ p ∈ ps, 150 ≤ p ∧ p < s.heap.objs.size) : ∀ x ∈ p :: ps, 150 ≤ x ∧ x < s.heap.objs.size := by
  intro x hx
  rcases List.mem_cons.mp hx with rfl | hx
  · exact ⟨h1, Heap.lt_size h⟩
  · exact hl x hx
theorem lt_nil {s : Shared} : ∀ x ∈ ([] : List Nat), 150 ≤ x ∧ x < s.heap.objs.size := fun _ h => nomatch h
section
variable {prog : Program} {w : World} {A : Around} {s : Shared} {g : Cch} {a : Ab} {hd : Int → Bool} {B : Nat} {R0 : Result → Shared → Prop} {n v : Int} {j1 j2 j3 : Nat} {fp : Nat → Prop}
theorem Obs.lts (O : Obs w.params s.heap g B) : ∀ p ∈ [g.A0+150, g.A1+150, g.A2+150, g.A3+150, g.A4+150, g.A5+150], 150 ≤ p ∧ p < s.heap.objs.size :=
  lt_cons O.o0 (by omega) (lt_cons O.o1 (by omega) (lt_cons O.o2 (by omega) (lt_cons O.o3 (by omega) (lt_cons O.o4 (by omega) (lt_cons O.o5 (by omega) lt_nil)))))
theorem told0a (Y : Rdy w A s) (R : Rp w.params s.heap g a hd B) (hB : B ≤ 100) (hn : 0 ≤ n ∧ n < 3) (h1 : lk g.lS n = none) (h2 : lk g.lQ (g.tm+600) = none)
    (k : ∀ s' g' l, Aft w.params s s' g g' fp → g'.tm = g.tm → Rp w.params s'.heap g' (setA a false n (some (v, g.tm+600))) hd (B+1) → s'.heap.get? l = some (lstO [.int n j2]) → s.heap.objs.size ≤ l → g'.lab l = none → R0 (.ok (.ret (.ref l))) s') :
    codeAny (model prog w) A (.call (.ref 137) ⟨[.ref (g.A1+150), .int 0 j1, .int n j2, .int v j3], []⟩) R0 s := by
  have O := R.obs
  have hlab : [g.A0+150, g.A1+150, g.A2+150, g.A3+150, g.A4+150, g.A5+150].map g.lab = ([Role.o 0, .o 1, .o 2, .o 3, .o 4, .o 5] : List Role).map some := by
    have := O.labs
    simp only [List.map_cons, List.map_nil, List.cons.injEq, and_true] at this ⊢
    simp [this]
  have hZn : ([Role.o 0, .o 1, .o 2, .o 3, .o 4, .o 5] : List Role).Nodup := by simp
  have hlt : ∀ p ∈ [g.A0+150, g.A1+150, g.A2+150, g.A3+150, g.A4+150, g.A5+150], 150 ≤ p ∧ p < s.heap.objs.size :=
    lt_cons O.o0 (by omega) (lt_cons O.o1 (by omega) (lt_cons O.o2 (by omega) (lt_cons O.o3 (by omega) (lt_cons O.o4 (by omega) (lt_cons O.o5 (by omega) lt_nil)))))
  have W := wf_of (prog := prog) (w := w) (s := s) Y.tb Y.ti Y.sz hlt (nodup_ps hlab hZn)
  have lS : g.lS.length ≤ B := O.le false
  have lM : g.lM.length ≤ B := O.le true
  have lH := O.leH
  have lQ := O.leQ
  have hM : topN s = s.heap.objs.size := by have := Y.sz; show s.heap.objs.size - 150 + 150 = _; omega
  have h150 := Y.sz
  have ha : a false n = none := by have := R.ent false n; rw [show g.L false = g.lS from rfl, h1] at this; exact this
  refine run_code W Y.hh (Nat.le_refl _) Y.hd (Nat.le_refl _) (T := p0a_T w.params true prog default [] 0 0 g.A0 g.A1 g.A2 g.A3 g.A4 g.A5 g.k0 g.k1 g.k2 g.k3 g.k4 g.ti g.tm g.lM g.lS g.lH g.lQ g.eM g.eS g.eH g.eQ j1 j2 j3 n v)
    (sm := p0a_S w.params true prog default [] (s.heap.objs.size - 150) s.toks g.A0 g.A1 g.A2 g.A3 g.A4 g.A5 g.k0 g.k1 g.k2 g.k3 g.k4 g.ti g.tm g.lM g.lS g.lH g.lQ g.eM g.eS g.eH g.eQ j1 j2 j3 n v) rfl ?_ rfl ?_
    (fun p bl => p0a_ok w.params (w.params.followText "special-get-raises") prog p bl (s.heap.objs.size - 150) s.toks g.A0 g.A1 g.A2 g.A3 g.A4 g.A5 g.k0 g.k1 g.k2 g.k3 g.k4 g.ti g.tm g.lM g.lS g.lH g.lQ g.eM g.eS g.eH g.eQ j1 j2 j3 n v) (fun p bl => xeq rfl rfl rfl) ?_
  · exact start_of _ _ _ (And.intro O.o0 (And.intro O.o1 (And.intro O.o2 (And.intro O.o3 (And.intro O.o4 (And.intro O.o5 trivial))))))
  · unfold p0a_S
    repeat' (first | exact all_nil | refine all_cons ?_ ?_)
    all_goals refine okx ?_ rfl
    all_goals first
      | (refine ok_hasI W ?_ ?_ ?_; rfl; omega; simp [lk_setL, h1, h2])
      | (refine ok_getI W ?_ ?_ ?_; rfl; omega; simp [lk_setL, h1, h2])
      | (refine ok_setI W ?_ ?_ ?_; rfl; omega; (first | omega | (simp; done) | (simp; omega)))
      | (refine ok_delI W ?_ ?_ ?_ ?_; rfl; omega; omega; simp [h1, h2])
      | (refine ok_hasS W ?_ ?_ ?_ ?_; rfl; rfl; omega; simp [lk_setL, lk_nil, h1, h2])
      | (refine ok_getS W ?_ ?_ ?_ ?_; rfl; omega; rfl; simp [lk_setL, lk_cons, lk_nil, nWH, nWH.symm, h1, h2])
      | (refine ok_setS W ?_ ?_ ?_ ?_; rfl; omega; rfl; (first | omega | (simp; done)))
  · intro s' T' R' hp
    have F := allGet R' hp
    obtain ⟨f0, f1, f2, f3, f4, f5, fi, ft, fq, fr, fl, -⟩ := F
    let g' : Cch := { g with lS := setL g.lS n j2 (.ref (topN s+3)), eS := setN g.lS g.eS n, lQ := setL g.lQ (g.tm+600) (s.toks+14) (.ref (topN s+4)), eQ := setN g.lQ g.eQ (g.tm+600), lab := ext g.lab (topN s) (fun | 1 => some (.i false n) | 3 => some (.t false n) | 4 => some (.q (g.tm+600)) | 5 => some (.r (g.tm+600) false) | _ => none) }
    obtain ⟨AF, K⟩ := aft_of (f := (fun | 1 => some (.i false n) | 3 => some (.t false n) | 4 => some (.q (g.tm+600)) | 5 => some (.r (g.tm+600) false) | _ => none)) (g' := g') (fp := fp) R' Y.sz hlab rfl rfl
    have hx : ∀ i, g'.lab (topN s + i) = (fun | 1 => some (.i false n) | 3 => some (.t false n) | 4 => some (.q (g.tm+600)) | 5 => some (.r (g.tm+600) false) | _ => none : Nat → Option Role) i := fun i => ext_new g.lab (topN s) (fun | 1 => some (.i false n) | 3 => some (.t false n) | 4 => some (.q (g.tm+600)) | 5 => some (.r (g.tm+600) false) | _ => none) i
    have hnq := R.que (g.tm+600)
    rw [h2] at hnq
    have hnone : ∀ k x, a false k ≠ some (x, g.tm+600) := fun k x => hnq false k x
    refine k s' g' _ AF rfl (R.push false (E := g.tm+600) (T := topN s+3) (u := .ref (topN s+4)) ha K (fun c k => by simp) (fun e he => by simp [he]) ?_ ?_ ?_ ?_ ?_ ?_ ?_) fl (by show _ ≤ topN s + _; omega) (hx 6)
    · refine ⟨f0, f1, f2, f3, f4, f5, (List.map_congr_left fun p hp => AF.lab p (O.lts p hp).2).trans O.labs, fun b => ?_, O.ndH, nodup_setL O.ndQ, fun b => ?_, (by show g.lH.length ≤ _; omega), Nat.le_trans (length_setL ..) (by omega)⟩
      cases b
      · exact nodup_setL (O.nd false)
      · exact O.nd true
      cases b
      · exact Nat.le_trans (length_setL ..) (by omega)
      · show g.lM.length ≤ _; omega
    · exact fun k => lk_setL ..
    · intro c hc
      cases c <;> first | exact absurd rfl hc | rfl
    · exact fun e => lk_setL ..
    · exact ⟨topN s+3, topN s+1, g.tm+600, v, _, _, _, by omega, by omega, rfl, rfl, ft, fi, ⟨j3, by simp [lk_cons]⟩, (fun h => nomatch h), hx 3, hx 1⟩
    · refine que_push (q := topN s+4) (r := topN s+5) ha (by omega) fq (hx 4) (nodup_setL (by simp)) (Nat.le_trans (length_setL ..) (by simp)) (by simp [lk_setL, nm]) (by omega) fr (hx 5) (nodup_setL (by simp)) (Nat.le_trans (length_setL ..) (by simp)) (fun k => by
        rw [lk_setL]
        by_cases hk : k = n
        · simp [hk]
        · simp [hk, lk_nil, hnone]) (fun c hc => by
        cases c
        · first | exact absurd rfl hc | (rw [lk_setL, if_neg (by first | exact nm_ne | exact nm_ne'), lk_nil]; exact fun k x => hnq _ k x)
        · first | exact absurd rfl hc | (rw [lk_setL, if_neg (by first | exact nm_ne | exact nm_ne'), lk_nil]; exact fun k x => hnq _ k x))
    · exact R.hds.setF (g' := g') rfl hn
theorem told0b (Y : Rdy w A s) (R : Rp w.params s.heap g a hd B) (hB : B ≤ 100) (hn : 0 ≤ n ∧ n < 3) (h1 : lk g.lS n = none) {q nq : Nat} {lq : SL} (h2 : lk g.lQ (g.tm+600) = some (.ref (q+150))) (hq : s.heap.get? (q+150) = some (sdct w.params lq nq)) (hql : g.lab (q+150) = some (.q (g.tm+600))) (hqn : (lq.map (·.1)).Nodup) (hqb : lq.length ≤ B) (hin : ∀ b, InnO s.heap g a B (g.tm+600) b (lk lq (nm b))) (h3 : lk lq nS = none)
    (k : ∀ s' g' l, Aft w.params s s' g g' fp → g'.tm = g.tm → Rp w.params s'.heap g' (setA a false n (some (v, g.tm+600))) hd (B+1) → s'.heap.get? l = some (lstO [.int n j2]) → s.heap.objs.size ≤ l → g'.lab l = none → R0 (.ok (.ret (.ref l))) s') :
    codeAny (model prog w) A (.call (.ref 137) ⟨[.ref (g.A1+150), .int 0 j1, .int n j2, .int v j3], []⟩) R0 s := by
  have O := R.obs
  have hlab : [g.A0+150, g.A1+150, g.A2+150, g.A3+150, g.A4+150, g.A5+150, q+150].map g.lab = ([Role.o 0, .o 1, .o 2, .o 3, .o 4, .o 5, .q (g.tm+600)] : List Role).map some := by
    have := O.labs
    simp only [List.map_cons, List.map_nil, List.cons.injEq, and_true] at this ⊢
    simp [this, hql]
  have hZn : ([Role.o 0, .o 1, .o 2, .o 3, .o 4, .o 5, .q (g.tm+600)] : List Role).Nodup := by simp
  have hlt : ∀ p ∈ [g.A0+150, g.A1+150, g.A2+150, g.A3+150, g.A4+150, g.A5+150, q+150], 150 ≤ p ∧ p < s.heap.objs.size :=
    lt_cons O.o0 (by omega) (lt_cons O.o1 (by omega) (lt_cons O.o2 (by omega) (lt_cons O.o3 (by omega) (lt_cons O.o4 (by omega) (lt_cons O.o5 (by omega) (lt_cons hq (by omega) lt_nil))))))
  have W := wf_of (prog := prog) (w := w) (s := s) Y.tb Y.ti Y.sz hlt (nodup_ps hlab hZn)
  have lS : g.lS.length ≤ B := O.le false
  have lM : g.lM.length ≤ B := O.le true
  have lH := O.leH
  have lQ := O.leQ
  have hM : topN s = s.heap.objs.size := by have := Y.sz; show s.heap.objs.size - 150 + 150 = _; omega
  have h150 := Y.sz
  have ha : a false n = none := by have := R.ent false n; rw [show g.L false = g.lS from rfl, h1] at this; exact this
  refine run_code W Y.hh (Nat.le_refl _) Y.hd (Nat.le_refl _) (T := p0b_T w.params true prog default [] 0 0 g.A0 g.A1 g.A2 g.A3 g.A4 g.A5 g.k0 g.k1 g.k2 g.k3 g.k4 g.ti g.tm g.lM g.lS g.lH g.lQ g.eM g.eS g.eH g.eQ j1 j2 j3 n v q lq nq)
    (sm := p0b_S w.params true prog default [] (s.heap.objs.size - 150) s.toks g.A0 g.A1 g.A2 g.A3 g.A4 g.A5 g.k0 g.k1 g.k2 g.k3 g.k4 g.ti g.tm g.lM g.lS g.lH g.lQ g.eM g.eS g.eH g.eQ j1 j2 j3 n v q lq nq) rfl ?_ rfl ?_
    (fun p bl => p0b_ok w.params (w.params.followText "special-get-raises") prog p bl (s.heap.objs.size - 150) s.toks g.A0 g.A1 g.A2 g.A3 g.A4 g.A5 g.k0 g.k1 g.k2 g.k3 g.k4 g.ti g.tm g.lM g.lS g.lH g.lQ g.eM g.eS g.eH g.eQ j1 j2 j3 n v q lq nq) (fun p bl => xeq rfl rfl rfl) ?_
  · exact start_of _ _ _ (And.intro O.o0 (And.intro O.o1 (And.intro O.o2 (And.intro O.o3 (And.intro O.o4 (And.intro O.o5 (And.intro hq trivial)))))))
  · unfold p0b_S
    repeat' (first | exact all_nil | refine all_cons ?_ ?_)
    all_goals refine okx ?_ rfl
    all_goals first
      | (refine ok_hasI W ?_ ?_ ?_; rfl; omega; simp [lk_setL, h1, h2, h3])
      | (refine ok_getI W ?_ ?_ ?_; rfl; omega; simp [lk_setL, h1, h2, h3])
      | (refine ok_setI W ?_ ?_ ?_; rfl; omega; (first | omega | (simp; done) | (simp; omega)))
      | (refine ok_delI W ?_ ?_ ?_ ?_; rfl; omega; omega; simp [h1, h2, h3])
      | (refine ok_hasS W ?_ ?_ ?_ ?_; rfl; rfl; omega; simp [lk_setL, lk_nil, h1, h2, h3])
      | (refine ok_getS W ?_ ?_ ?_ ?_; rfl; omega; rfl; simp [lk_setL, lk_cons, lk_nil, nWH, nWH.symm, h1, h2, h3])
      | (refine ok_setS W ?_ ?_ ?_ ?_; rfl; omega; rfl; (first | omega | (simp; done)))
  · intro s' T' R' hp
    have F := allGet R' hp
    obtain ⟨f0, f1, f2, f3, f4, f5, fq, fi, ft, fr, fl, -⟩ := F
    let g' : Cch := { g with lS := setL g.lS n j2 (.ref (topN s+3)), eS := setN g.lS g.eS n, lab := ext g.lab (topN s) (fun | 1 => some (.i false n) | 3 => some (.t false n) | 4 => some (.r (g.tm+600) false) | _ => none) }
    obtain ⟨AF, K⟩ := aft_of (f := (fun | 1 => some (.i false n) | 3 => some (.t false n) | 4 => some (.r (g.tm+600) false) | _ => none)) (g' := g') (fp := fp) R' Y.sz hlab rfl rfl
    have hx : ∀ i, g'.lab (topN s + i) = (fun | 1 => some (.i false n) | 3 => some (.t false n) | 4 => some (.r (g.tm+600) false) | _ => none : Nat → Option Role) i := fun i => ext_new g.lab (topN s) (fun | 1 => some (.i false n) | 3 => some (.t false n) | 4 => some (.r (g.tm+600) false) | _ => none) i
    have hnone : ∀ k x, a false k ≠ some (x, g.tm+600) := by
      have := hin false
      rw [show lk lq (nm false) = none from h3] at this
      exact this
    refine k s' g' _ AF rfl (R.push false (E := g.tm+600) (T := topN s+3) (u := .ref (q+150)) ha K (fun c k => by simp) (fun e he => by simp [he]) ?_ ?_ ?_ ?_ ?_ ?_ ?_) fl (by show _ ≤ topN s + _; omega) (hx 5)
    · refine ⟨f0, f1, f2, f3, f4, f5, (List.map_congr_left fun p hp => AF.lab p (O.lts p hp).2).trans O.labs, fun b => ?_, O.ndH, O.ndQ, fun b => ?_, (by show g.lH.length ≤ _; omega), (by show g.lQ.length ≤ _; omega)⟩
      cases b
      · exact nodup_setL (O.nd false)
      · exact O.nd true
      cases b
      · exact Nat.le_trans (length_setL ..) (by omega)
      · show g.lM.length ≤ _; omega
    · exact fun k => lk_setL ..
    · intro c hc
      cases c <;> first | exact absurd rfl hc | rfl
    · exact fun e => by
        by_cases he : e = g.tm+600
        · subst he; rw [if_pos rfl]; exact h2
        · rw [if_neg he]
    · exact ⟨topN s+3, topN s+1, g.tm+600, v, _, _, _, by omega, by omega, rfl, rfl, ft, fi, ⟨j3, by simp [lk_cons]⟩, (fun h => nomatch h), hx 3, hx 1⟩
    · refine que_push (q := q+150) (r := topN s+4) ha (by omega) fq ((AF.lab _ (Heap.lt_size hq)).trans hql) (nodup_setL hqn) (Nat.le_trans (length_setL ..) (by omega)) (by simp [lk_setL, nm]) (by omega) fr (hx 4) (nodup_setL (by simp)) (Nat.le_trans (length_setL ..) (by simp)) (fun k => by
        rw [lk_setL]
        by_cases hk : k = n
        · simp [hk]
        · simp [hk, lk_nil, hnone]) (fun c hc => by
        cases c
        · first | exact absurd rfl hc | (rw [lk_setL, if_neg (by first | exact nm_ne | exact nm_ne')]; exact (hin _).mono K (by simp) (Nat.le_succ B) fun _ _ => Iff.rfl)
        · first | exact absurd rfl hc | (rw [lk_setL, if_neg (by first | exact nm_ne | exact nm_ne')]; exact (hin _).mono K (by simp) (Nat.le_succ B) fun _ _ => Iff.rfl))
    · exact R.hds.setF (g' := g') rfl hn
theorem told0c (Y : Rdy w A s) (R : Rp w.params s.heap g a hd B) (hB : B ≤ 100) (hn : 0 ≤ n ∧ n < 3) (h1 : lk g.lS n = none) {q nq r nr : Nat} {lq : SL} {lr : IL} (h2 : lk g.lQ (g.tm+600) = some (.ref (q+150))) (hq : s.heap.get? (q+150) = some (sdct w.params lq nq)) (hql : g.lab (q+150) = some (.q (g.tm+600))) (hqn : (lq.map (·.1)).Nodup) (hqb : lq.length ≤ B) (hin : ∀ b, InnO s.heap g a B (g.tm+600) b (lk lq (nm b))) (h3 : lk lq nS = some (.ref (r+150))) (hr : s.heap.get? (r+150) = some (idct lr nr)) (hrl : g.lab (r+150) = some (.r (g.tm+600) false)) (hrn : (lr.map (·.1)).Nodup) (hrb : lr.length ≤ B) (hrk : ∀ k, (lk lr k).isSome = true ↔ ∃ x, a false k = some (x, g.tm+600))
    (k : ∀ s' g' l, Aft w.params s s' g g' fp → g'.tm = g.tm → Rp w.params s'.heap g' (setA a false n (some (v, g.tm+600))) hd (B+1) → s'.heap.get? l = some (lstO [.int n j2]) → s.heap.objs.size ≤ l → g'.lab l = none → R0 (.ok (.ret (.ref l))) s') :
    codeAny (model prog w) A (.call (.ref 137) ⟨[.ref (g.A1+150), .int 0 j1, .int n j2, .int v j3], []⟩) R0 s := by
  have O := R.obs
  have hlab : [g.A0+150, g.A1+150, g.A2+150, g.A3+150, g.A4+150, g.A5+150, q+150, r+150].map g.lab = ([Role.o 0, .o 1, .o 2, .o 3, .o 4, .o 5, .q (g.tm+600), .r (g.tm+600) false] : List Role).map some := by
    have := O.labs
    simp only [List.map_cons, List.map_nil, List.cons.injEq, and_true] at this ⊢
    simp [this, hql, hrl]
  have hZn : ([Role.o 0, .o 1, .o 2, .o 3, .o 4, .o 5, .q (g.tm+600), .r (g.tm+600) false] : List Role).Nodup := by simp
  have hlt : ∀ p ∈ [g.A0+150, g.A1+150, g.A2+150, g.A3+150, g.A4+150, g.A5+150, q+150, r+150], 150 ≤ p ∧ p < s.heap.objs.size :=
    lt_cons O.o0 (by omega) (lt_cons O.o1 (by omega) (lt_cons O.o2 (by omega) (lt_cons O.o3 (by omega) (lt_cons O.o4 (by omega) (lt_cons O.o5 (by omega) (lt_cons hq (by omega) (lt_cons hr (by omega) lt_nil)))))))
  have W := wf_of (prog := prog) (w := w) (s := s) Y.tb Y.ti Y.sz hlt (nodup_ps hlab hZn)
  have lS : g.lS.length ≤ B := O.le false
  have lM : g.lM.length ≤ B := O.le true
  have lH := O.leH
  have lQ := O.leQ
  have hM : topN s = s.heap.objs.size := by have := Y.sz; show s.heap.objs.size - 150 + 150 = _; omega
  have h150 := Y.sz
  have ha : a false n = none := by have := R.ent false n; rw [show g.L false = g.lS from rfl, h1] at this; exact this
  refine run_code W Y.hh (Nat.le_refl _) Y.hd (Nat.le_refl _) (T := p0c_T w.params true prog default [] 0 0 g.A0 g.A1 g.A2 g.A3 g.A4 g.A5 g.k0 g.k1 g.k2 g.k3 g.k4 g.ti g.tm g.lM g.lS g.lH g.lQ g.eM g.eS g.eH g.eQ j1 j2 j3 n v q r lq nq lr nr)
    (sm := p0c_S w.params true prog default [] (s.heap.objs.size - 150) s.toks g.A0 g.A1 g.A2 g.A3 g.A4 g.A5 g.k0 g.k1 g.k2 g.k3 g.k4 g.ti g.tm g.lM g.lS g.lH g.lQ g.eM g.eS g.eH g.eQ j1 j2 j3 n v q r lq nq lr nr) rfl ?_ rfl ?_
    (fun p bl => p0c_ok w.params (w.params.followText "special-get-raises") prog p bl (s.heap.objs.size - 150) s.toks g.A0 g.A1 g.A2 g.A3 g.A4 g.A5 g.k0 g.k1 g.k2 g.k3 g.k4 g.ti g.tm g.lM g.lS g.lH g.lQ g.eM g.eS g.eH g.eQ j1 j2 j3 n v q r lq nq lr nr) (fun p bl => xeq rfl rfl rfl) ?_
  · exact start_of _ _ _ (And.intro O.o0 (And.intro O.o1 (And.intro O.o2 (And.intro O.o3 (And.intro O.o4 (And.intro O.o5 (And.intro hq (And.intro hr trivial))))))))
  · unfold p0c_S
    repeat' (first | exact all_nil | refine all_cons ?_ ?_)
    all_goals refine okx ?_ rfl
    all_goals first
      | (refine ok_hasI W ?_ ?_ ?_; rfl; omega; simp [lk_setL, h1, h2, h3])
      | (refine ok_getI W ?_ ?_ ?_; rfl; omega; simp [lk_setL, h1, h2, h3])
      | (refine ok_setI W ?_ ?_ ?_; rfl; omega; (first | omega | (simp; done) | (simp; omega)))
      | (refine ok_delI W ?_ ?_ ?_ ?_; rfl; omega; omega; simp [h1, h2, h3])
      | (refine ok_hasS W ?_ ?_ ?_ ?_; rfl; rfl; omega; simp [lk_setL, lk_nil, h1, h2, h3])
      | (refine ok_getS W ?_ ?_ ?_ ?_; rfl; omega; rfl; simp [lk_setL, lk_cons, lk_nil, nWH, nWH.symm, h1, h2, h3])
      | (refine ok_setS W ?_ ?_ ?_ ?_; rfl; omega; rfl; (first | omega | (simp; done)))
  · intro s' T' R' hp
    have F := allGet R' hp
    obtain ⟨f0, f1, f2, f3, f4, f5, fq, fr, fi, ft, fl, -⟩ := F
    let g' : Cch := { g with lS := setL g.lS n j2 (.ref (topN s+3)), eS := setN g.lS g.eS n, lab := ext g.lab (topN s) (fun | 1 => some (.i false n) | 3 => some (.t false n) | _ => none) }
    obtain ⟨AF, K⟩ := aft_of (f := (fun | 1 => some (.i false n) | 3 => some (.t false n) | _ => none)) (g' := g') (fp := fp) R' Y.sz hlab rfl rfl
    have hx : ∀ i, g'.lab (topN s + i) = (fun | 1 => some (.i false n) | 3 => some (.t false n) | _ => none : Nat → Option Role) i := fun i => ext_new g.lab (topN s) (fun | 1 => some (.i false n) | 3 => some (.t false n) | _ => none) i
    
    refine k s' g' _ AF rfl (R.push false (E := g.tm+600) (T := topN s+3) (u := .ref (q+150)) ha K (fun c k => by simp) (fun e he => by simp [he]) ?_ ?_ ?_ ?_ ?_ ?_ ?_) fl (by show _ ≤ topN s + _; omega) (hx 4)
    · refine ⟨f0, f1, f2, f3, f4, f5, (List.map_congr_left fun p hp => AF.lab p (O.lts p hp).2).trans O.labs, fun b => ?_, O.ndH, O.ndQ, fun b => ?_, (by show g.lH.length ≤ _; omega), (by show g.lQ.length ≤ _; omega)⟩
      cases b
      · exact nodup_setL (O.nd false)
      · exact O.nd true
      cases b
      · exact Nat.le_trans (length_setL ..) (by omega)
      · show g.lM.length ≤ _; omega
    · exact fun k => lk_setL ..
    · intro c hc
      cases c <;> first | exact absurd rfl hc | rfl
    · exact fun e => by
        by_cases he : e = g.tm+600
        · subst he; rw [if_pos rfl]; exact h2
        · rw [if_neg he]
    · exact ⟨topN s+3, topN s+1, g.tm+600, v, _, _, _, by omega, by omega, rfl, rfl, ft, fi, ⟨j3, by simp [lk_cons]⟩, (fun h => nomatch h), hx 3, hx 1⟩
    · refine que_push (q := q+150) (r := r+150) ha (by omega) fq ((AF.lab _ (Heap.lt_size hq)).trans hql) (hqn) ((by omega)) (h3) (by omega) fr ((AF.lab _ (Heap.lt_size hr)).trans hrl) (nodup_setL hrn) (Nat.le_trans (length_setL ..) (by omega)) (fun k => by
        rw [lk_setL]
        by_cases hk : k = n
        · simp [hk]
        · rw [if_neg hk, hrk]; simp [hk]) (fun c hc => (hin c).mono K (by cases c <;> first | exact absurd rfl hc | simp) (Nat.le_succ B) fun _ _ => Iff.rfl)
    · exact R.hds.setF (g' := g') rfl hn
theorem told2a (Y : Rdy w A s) (R : Rp w.params s.heap g a hd B) (hB : B ≤ 100) (hn : 0 ≤ n ∧ n < 3) (h1 : lk g.lM n = none) (h2 : lk g.lQ (g.tm+600) = none)
    (k : ∀ s' g' l, Aft w.params s s' g g' fp → g'.tm = g.tm → Rp w.params s'.heap g' (setA a true n (some (v, g.tm+600))) (fun k => if k = n then true else hd k) (B+1) → s'.heap.get? l = some (lstO [.int n j2]) → s.heap.objs.size ≤ l → g'.lab l = none → R0 (.ok (.ret (.ref l))) s') :
    codeAny (model prog w) A (.call (.ref 137) ⟨[.ref (g.A1+150), .int 2 j1, .int n j2, .int v j3], []⟩) R0 s := by
  have O := R.obs
  have hlab : [g.A0+150, g.A1+150, g.A2+150, g.A3+150, g.A4+150, g.A5+150].map g.lab = ([Role.o 0, .o 1, .o 2, .o 3, .o 4, .o 5] : List Role).map some := by
    have := O.labs
    simp only [List.map_cons, List.map_nil, List.cons.injEq, and_true] at this ⊢
    simp [this]
  have hZn : ([Role.o 0, .o 1, .o 2, .o 3, .o 4, .o 5] : List Role).Nodup := by simp
  have hlt : ∀ p ∈ [g.A0+150, g.A1+150, g.A2+150, g.A3+150, g.A4+150, g.A5+150], 150 ≤ p ∧ p < s.heap.objs.size :=
    lt_cons O.o0 (by omega) (lt_cons O.o1 (by omega) (lt_cons O.o2 (by omega) (lt_cons O.o3 (by omega) (lt_cons O.o4 (by omega) (lt_cons O.o5 (by omega) lt_nil)))))
  have W := wf_of (prog := prog) (w := w) (s := s) Y.tb Y.ti Y.sz hlt (nodup_ps hlab hZn)
  have lS : g.lS.length ≤ B := O.le false
  have lM : g.lM.length ≤ B := O.le true
  have lH := O.leH
  have lQ := O.leQ
  have hM : topN s = s.heap.objs.size := by have := Y.sz; show s.heap.objs.size - 150 + 150 = _; omega
  have h150 := Y.sz
  have ha : a true n = none := by have := R.ent true n; rw [show g.L true = g.lM from rfl, h1] at this; exact this
  refine run_code W Y.hh (Nat.le_refl _) Y.hd (Nat.le_refl _) (T := p2a_T w.params true prog default [] 0 0 g.A0 g.A1 g.A2 g.A3 g.A4 g.A5 g.k0 g.k1 g.k2 g.k3 g.k4 g.ti g.tm g.lM g.lS g.lH g.lQ g.eM g.eS g.eH g.eQ j1 j2 j3 n v)
    (sm := p2a_S w.params true prog default [] (s.heap.objs.size - 150) s.toks g.A0 g.A1 g.A2 g.A3 g.A4 g.A5 g.k0 g.k1 g.k2 g.k3 g.k4 g.ti g.tm g.lM g.lS g.lH g.lQ g.eM g.eS g.eH g.eQ j1 j2 j3 n v) rfl ?_ rfl ?_
    (fun p bl => p2a_ok w.params (w.params.followText "special-get-raises") prog p bl (s.heap.objs.size - 150) s.toks g.A0 g.A1 g.A2 g.A3 g.A4 g.A5 g.k0 g.k1 g.k2 g.k3 g.k4 g.ti g.tm g.lM g.lS g.lH g.lQ g.eM g.eS g.eH g.eQ j1 j2 j3 n v) (fun p bl => xeq rfl rfl rfl) ?_
  · exact start_of _ _ _ (And.intro O.o0 (And.intro O.o1 (And.intro O.o2 (And.intro O.o3 (And.intro O.o4 (And.intro O.o5 trivial))))))
  · unfold p2a_S
    repeat' (first | exact all_nil | refine all_cons ?_ ?_)
    all_goals refine okx ?_ rfl
    all_goals first
      | (refine ok_hasI W ?_ ?_ ?_; rfl; omega; simp [lk_setL, h1, h2])
      | (refine ok_getI W ?_ ?_ ?_; rfl; omega; simp [lk_setL, h1, h2])
      | (refine ok_setI W ?_ ?_ ?_; rfl; omega; (first | omega | (simp; done) | (simp; omega)))
      | (refine ok_delI W ?_ ?_ ?_ ?_; rfl; omega; omega; simp [h1, h2])
      | (refine ok_hasS W ?_ ?_ ?_ ?_; rfl; rfl; omega; simp [lk_setL, lk_nil, h1, h2])
      | (refine ok_getS W ?_ ?_ ?_ ?_; rfl; omega; rfl; simp [lk_setL, lk_cons, lk_nil, nWH, nWH.symm, h1, h2])
      | (refine ok_setS W ?_ ?_ ?_ ?_; rfl; omega; rfl; (first | omega | (simp; done)))
  · intro s' T' R' hp
    have F := allGet R' hp
    obtain ⟨f0, f1, f2, f3, f4, f5, fi, ft, fq, fr, fl, -⟩ := F
    let g' : Cch := { g with lM := setL g.lM n j2 (.ref (topN s+3)), eM := setN g.lM g.eM n, lQ := setL g.lQ (g.tm+600) (s.toks+19) (.ref (topN s+4)), eQ := setN g.lQ g.eQ (g.tm+600), lH := setL g.lH (100+n) (s.toks+9) (.int n j2), eH := setN g.lH g.eH (100+n), lab := ext g.lab (topN s) (fun | 1 => some (.i true n) | 3 => some (.t true n) | 4 => some (.q (g.tm+600)) | 5 => some (.r (g.tm+600) true) | _ => none) }
    obtain ⟨AF, K⟩ := aft_of (f := (fun | 1 => some (.i true n) | 3 => some (.t true n) | 4 => some (.q (g.tm+600)) | 5 => some (.r (g.tm+600) true) | _ => none)) (g' := g') (fp := fp) R' Y.sz hlab rfl rfl
    have hx : ∀ i, g'.lab (topN s + i) = (fun | 1 => some (.i true n) | 3 => some (.t true n) | 4 => some (.q (g.tm+600)) | 5 => some (.r (g.tm+600) true) | _ => none : Nat → Option Role) i := fun i => ext_new g.lab (topN s) (fun | 1 => some (.i true n) | 3 => some (.t true n) | 4 => some (.q (g.tm+600)) | 5 => some (.r (g.tm+600) true) | _ => none) i
    have hnq := R.que (g.tm+600)
    rw [h2] at hnq
    have hnone : ∀ k x, a true k ≠ some (x, g.tm+600) := fun k x => hnq true k x
    refine k s' g' _ AF rfl (R.push true (E := g.tm+600) (T := topN s+3) (u := .ref (topN s+4)) ha K (fun c k => by simp) (fun e he => by simp [he]) ?_ ?_ ?_ ?_ ?_ ?_ ?_) fl (by show _ ≤ topN s + _; omega) (hx 6)
    · refine ⟨f0, f1, f2, f3, f4, f5, (List.map_congr_left fun p hp => AF.lab p (O.lts p hp).2).trans O.labs, fun b => ?_, nodup_setL O.ndH, nodup_setL O.ndQ, fun b => ?_, Nat.le_trans (length_setL ..) (by omega), Nat.le_trans (length_setL ..) (by omega)⟩
      cases b
      · exact O.nd false
      · exact nodup_setL (O.nd true)
      cases b
      · show g.lS.length ≤ _; omega
      · exact Nat.le_trans (length_setL ..) (by omega)
    · exact fun k => lk_setL ..
    · intro c hc
      cases c <;> first | exact absurd rfl hc | rfl
    · exact fun e => lk_setL ..
    · exact ⟨topN s+3, topN s+1, g.tm+600, v, _, _, _, by omega, by omega, rfl, rfl, ft, fi, ⟨j3, by simp [lk_cons, nWH]⟩, (fun _ => ⟨s.toks+9, by simp [lk_cons]⟩), hx 3, hx 1⟩
    · refine que_push (q := topN s+4) (r := topN s+5) ha (by omega) fq (hx 4) (nodup_setL (by simp)) (Nat.le_trans (length_setL ..) (by simp)) (by simp [lk_setL, nm]) (by omega) fr (hx 5) (nodup_setL (by simp)) (Nat.le_trans (length_setL ..) (by simp)) (fun k => by
        rw [lk_setL]
        by_cases hk : k = n
        · simp [hk]
        · simp [hk, lk_nil, hnone]) (fun c hc => by
        cases c
        · first | exact absurd rfl hc | (rw [lk_setL, if_neg (by first | exact nm_ne | exact nm_ne'), lk_nil]; exact fun k x => hnq _ k x)
        · first | exact absurd rfl hc | (rw [lk_setL, if_neg (by first | exact nm_ne | exact nm_ne'), lk_nil]; exact fun k x => hnq _ k x))
    · exact R.hds.pushT (g' := g') (t := j2) (fun j => lk_setL ..) hn
theorem told2b (Y : Rdy w A s) (R : Rp w.params s.heap g a hd B) (hB : B ≤ 100) (hn : 0 ≤ n ∧ n < 3) (h1 : lk g.lM n = none) {q nq : Nat} {lq : SL} (h2 : lk g.lQ (g.tm+600) = some (.ref (q+150))) (hq : s.heap.get? (q+150) = some (sdct w.params lq nq)) (hql : g.lab (q+150) = some (.q (g.tm+600))) (hqn : (lq.map (·.1)).Nodup) (hqb : lq.length ≤ B) (hin : ∀ b, InnO s.heap g a B (g.tm+600) b (lk lq (nm b))) (h3 : lk lq nM = none)
    (k : ∀ s' g' l, Aft w.params s s' g g' fp → g'.tm = g.tm → Rp w.params s'.heap g' (setA a true n (some (v, g.tm+600))) (fun k => if k = n then true else hd k) (B+1) → s'.heap.get? l = some (lstO [.int n j2]) → s.heap.objs.size ≤ l → g'.lab l = none → R0 (.ok (.ret (.ref l))) s') :
    codeAny (model prog w) A (.call (.ref 137) ⟨[.ref (g.A1+150), .int 2 j1, .int n j2, .int v j3], []⟩) R0 s := by
  have O := R.obs
  have hlab : [g.A0+150, g.A1+150, g.A2+150, g.A3+150, g.A4+150, g.A5+150, q+150].map g.lab = ([Role.o 0, .o 1, .o 2, .o 3, .o 4, .o 5, .q (g.tm+600)] : List Role).map some := by
    have := O.labs
    simp only [List.map_cons, List.map_nil, List.cons.injEq, and_true] at this ⊢
    simp [this, hql]
  have hZn : ([Role.o 0, .o 1, .o 2, .o 3, .o 4, .o 5, .q (g.tm+600)] : List Role).Nodup := by simp
  have hlt : ∀ p ∈ [g.A0+150, g.A1+150, g.A2+150, g.A3+150, g.A4+150, g.A5+150, q+150], 150 ≤ p ∧ p < s.heap.objs.size :=
    lt_cons O.o0 (by omega) (lt_cons O.o1 (by omega) (lt_cons O.o2 (by omega) (lt_cons O.o3 (by omega) (lt_cons O.o4 (by omega) (lt_cons O.o5 (by omega) (lt_cons hq (by omega) lt_nil))))))
  have W := wf_of (prog := prog) (w := w) (s := s) Y.tb Y.ti Y.sz hlt (nodup_ps hlab hZn)
  have lS : g.lS.length ≤ B := O.le false
  have lM : g.lM.length ≤ B := O.le true
  have lH := O.leH
  have lQ := O.leQ
  have hM : topN s = s.heap.objs.size := by have := Y.sz; show s.heap.objs.size - 150 + 150 = _; omega
  have h150 := Y.sz
  have ha : a true n = none := by have := R.ent true n; rw [show g.L true = g.lM from rfl, h1] at this; exact this
  refine run_code W Y.hh (Nat.le_refl _) Y.hd (Nat.le_refl _) (T := p2b_T w.params true prog default [] 0 0 g.A0 g.A1 g.A2 g.A3 g.A4 g.A5 g.k0 g.k1 g.k2 g.k3 g.k4 g.ti g.tm g.lM g.lS g.lH g.lQ g.eM g.eS g.eH g.eQ j1 j2 j3 n v q lq nq)
    (sm := p2b_S w.params true prog default [] (s.heap.objs.size - 150) s.toks g.A0 g.A1 g.A2 g.A3 g.A4 g.A5 g.k0 g.k1 g.k2 g.k3 g.k4 g.ti g.tm g.lM g.lS g.lH g.lQ g.eM g.eS g.eH g.eQ j1 j2 j3 n v q lq nq) rfl ?_ rfl ?_
    (fun p bl => p2b_ok w.params (w.params.followText "special-get-raises") prog p bl (s.heap.objs.size - 150) s.toks g.A0 g.A1 g.A2 g.A3 g.A4 g.A5 g.k0 g.k1 g.k2 g.k3 g.k4 g.ti g.tm g.lM g.lS g.lH g.lQ g.eM g.eS g.eH g.eQ j1 j2 j3 n v q lq nq) (fun p bl => xeq rfl rfl rfl) ?_
  · exact start_of _ _ _ (And.intro O.o0 (And.intro O.o1 (And.intro O.o2 (And.intro O.o3 (And.intro O.o4 (And.intro O.o5 (And.intro hq trivial)))))))
  · unfold p2b_S
    repeat' (first | exact all_nil | refine all_cons ?_ ?_)
    all_goals refine okx ?_ rfl
    all_goals first
      | (refine ok_hasI W ?_ ?_ ?_; rfl; omega; simp [lk_setL, h1, h2, h3])
      | (refine ok_getI W ?_ ?_ ?_; rfl; omega; simp [lk_setL, h1, h2, h3])
      | (refine ok_setI W ?_ ?_ ?_; rfl; omega; (first | omega | (simp; done) | (simp; omega)))
      | (refine ok_delI W ?_ ?_ ?_ ?_; rfl; omega; omega; simp [h1, h2, h3])
      | (refine ok_hasS W ?_ ?_ ?_ ?_; rfl; rfl; omega; simp [lk_setL, lk_nil, h1, h2, h3])
      | (refine ok_getS W ?_ ?_ ?_ ?_; rfl; omega; rfl; simp [lk_setL, lk_cons, lk_nil, nWH, nWH.symm, h1, h2, h3])
      | (refine ok_setS W ?_ ?_ ?_ ?_; rfl; omega; rfl; (first | omega | (simp; done)))
  · intro s' T' R' hp
    have F := allGet R' hp
    obtain ⟨f0, f1, f2, f3, f4, f5, fq, fi, ft, fr, fl, -⟩ := F
    let g' : Cch := { g with lM := setL g.lM n j2 (.ref (topN s+3)), eM := setN g.lM g.eM n, lH := setL g.lH (100+n) (s.toks+9) (.int n j2), eH := setN g.lH g.eH (100+n), lab := ext g.lab (topN s) (fun | 1 => some (.i true n) | 3 => some (.t true n) | 4 => some (.r (g.tm+600) true) | _ => none) }
    obtain ⟨AF, K⟩ := aft_of (f := (fun | 1 => some (.i true n) | 3 => some (.t true n) | 4 => some (.r (g.tm+600) true) | _ => none)) (g' := g') (fp := fp) R' Y.sz hlab rfl rfl
    have hx : ∀ i, g'.lab (topN s + i) = (fun | 1 => some (.i true n) | 3 => some (.t true n) | 4 => some (.r (g.tm+600) true) | _ => none : Nat → Option Role) i := fun i => ext_new g.lab (topN s) (fun | 1 => some (.i true n) | 3 => some (.t true n) | 4 => some (.r (g.tm+600) true) | _ => none) i
    have hnone : ∀ k x, a true k ≠ some (x, g.tm+600) := by
      have := hin true
      rw [show lk lq (nm true) = none from h3] at this
      exact this
    refine k s' g' _ AF rfl (R.push true (E := g.tm+600) (T := topN s+3) (u := .ref (q+150)) ha K (fun c k => by simp) (fun e he => by simp [he]) ?_ ?_ ?_ ?_ ?_ ?_ ?_) fl (by show _ ≤ topN s + _; omega) (hx 5)
    · refine ⟨f0, f1, f2, f3, f4, f5, (List.map_congr_left fun p hp => AF.lab p (O.lts p hp).2).trans O.labs, fun b => ?_, nodup_setL O.ndH, O.ndQ, fun b => ?_, Nat.le_trans (length_setL ..) (by omega), (by show g.lQ.length ≤ _; omega)⟩
      cases b
      · exact O.nd false
      · exact nodup_setL (O.nd true)
      cases b
      · show g.lS.length ≤ _; omega
      · exact Nat.le_trans (length_setL ..) (by omega)
    · exact fun k => lk_setL ..
    · intro c hc
      cases c <;> first | exact absurd rfl hc | rfl
    · exact fun e => by
        by_cases he : e = g.tm+600
        · subst he; rw [if_pos rfl]; exact h2
        · rw [if_neg he]
    · exact ⟨topN s+3, topN s+1, g.tm+600, v, _, _, _, by omega, by omega, rfl, rfl, ft, fi, ⟨j3, by simp [lk_cons, nWH]⟩, (fun _ => ⟨s.toks+9, by simp [lk_cons]⟩), hx 3, hx 1⟩
    · refine que_push (q := q+150) (r := topN s+4) ha (by omega) fq ((AF.lab _ (Heap.lt_size hq)).trans hql) (nodup_setL hqn) (Nat.le_trans (length_setL ..) (by omega)) (by simp [lk_setL, nm]) (by omega) fr (hx 4) (nodup_setL (by simp)) (Nat.le_trans (length_setL ..) (by simp)) (fun k => by
        rw [lk_setL]
        by_cases hk : k = n
        · simp [hk]
        · simp [hk, lk_nil, hnone]) (fun c hc => by
        cases c
        · first | exact absurd rfl hc | (rw [lk_setL, if_neg (by first | exact nm_ne | exact nm_ne')]; exact (hin _).mono K (by simp) (Nat.le_succ B) fun _ _ => Iff.rfl)
        · first | exact absurd rfl hc | (rw [lk_setL, if_neg (by first | exact nm_ne | exact nm_ne')]; exact (hin _).mono K (by simp) (Nat.le_succ B) fun _ _ => Iff.rfl))
    · exact R.hds.pushT (g' := g') (t := j2) (fun j => lk_setL ..) hn
theorem told2c (Y : Rdy w A s) (R : Rp w.params s.heap g a hd B) (hB : B ≤ 100) (hn : 0 ≤ n ∧ n < 3) (h1 : lk g.lM n = none) {q nq r nr : Nat} {lq : SL} {lr : IL} (h2 : lk g.lQ (g.tm+600) = some (.ref (q+150))) (hq : s.heap.get? (q+150) = some (sdct w.params lq nq)) (hql : g.lab (q+150) = some (.q (g.tm+600))) (hqn : (lq.map (·.1)).Nodup) (hqb : lq.length ≤ B) (hin : ∀ b, InnO s.heap g a B (g.tm+600) b (lk lq (nm b))) (h3 : lk lq nM = some (.ref (r+150))) (hr : s.heap.get? (r+150) = some (idct lr nr)) (hrl : g.lab (r+150) = some (.r (g.tm+600) true)) (hrn : (lr.map (·.1)).Nodup) (hrb : lr.length ≤ B) (hrk : ∀ k, (lk lr k).isSome = true ↔ ∃ x, a true k = some (x, g.tm+600))
    (k : ∀ s' g' l, Aft w.params s s' g g' fp → g'.tm = g.tm → Rp w.params s'.heap g' (setA a true n (some (v, g.tm+600))) (fun k => if k = n then true else hd k) (B+1) → s'.heap.get? l = some (lstO [.int n j2]) → s.heap.objs.size ≤ l → g'.lab l = none → R0 (.ok (.ret (.ref l))) s') :
    codeAny (model prog w) A (.call (.ref 137) ⟨[.ref (g.A1+150), .int 2 j1, .int n j2, .int v j3], []⟩) R0 s := by
  have O := R.obs
  have hlab : [g.A0+150, g.A1+150, g.A2+150, g.A3+150, g.A4+150, g.A5+150, q+150, r+150].map g.lab = ([Role.o 0, .o 1, .o 2, .o 3, .o 4, .o 5, .q (g.tm+600), .r (g.tm+600) true] : List Role).map some := by
    have := O.labs
    simp only [List.map_cons, List.map_nil, List.cons.injEq, and_true] at this ⊢
    simp [this, hql, hrl]
  have hZn : ([Role.o 0, .o 1, .o 2, .o 3, .o 4, .o 5, .q (g.tm+600), .r (g.tm+600) true] : List Role).Nodup := by simp
  have hlt : ∀ p ∈ [g.A0+150, g.A1+150, g.A2+150, g.A3+150, g.A4+150, g.A5+150, q+150, r+150], 150 ≤ p ∧ p < s.heap.objs.size :=
    lt_cons O.o0 (by omega) (lt_cons O.o1 (by omega) (lt_cons O.o2 (by omega) (lt_cons O.o3 (by omega) (lt_cons O.o4 (by omega) (lt_cons O.o5 (by omega) (lt_cons hq (by omega) (lt_cons hr (by omega) lt_nil)))))))
  have W := wf_of (prog := prog) (w := w) (s := s) Y.tb Y.ti Y.sz hlt (nodup_ps hlab hZn)
  have lS : g.lS.length ≤ B := O.le false
  have lM : g.lM.length ≤ B := O.le true
  have lH := O.leH
  have lQ := O.leQ
  have hM : topN s = s.heap.objs.size := by have := Y.sz; show s.heap.objs.size - 150 + 150 = _; omega
  have h150 := Y.sz
  have ha : a true n = none := by have := R.ent true n; rw [show g.L true = g.lM from rfl, h1] at this; exact this
  refine run_code W Y.hh (Nat.le_refl _) Y.hd (Nat.le_refl _) (T := p2c_T w.params true prog default [] 0 0 g.A0 g.A1 g.A2 g.A3 g.A4 g.A5 g.k0 g.k1 g.k2 g.k3 g.k4 g.ti g.tm g.lM g.lS g.lH g.lQ g.eM g.eS g.eH g.eQ j1 j2 j3 n v q r lq nq lr nr)
    (sm := p2c_S w.params true prog default [] (s.heap.objs.size - 150) s.toks g.A0 g.A1 g.A2 g.A3 g.A4 g.A5 g.k0 g.k1 g.k2 g.k3 g.k4 g.ti g.tm g.lM g.lS g.lH g.lQ g.eM g.eS g.eH g.eQ j1 j2 j3 n v q r lq nq lr nr) rfl ?_ rfl ?_
    (fun p bl => p2c_ok w.params (w.params.followText "special-get-raises") prog p bl (s.heap.objs.size - 150) s.toks g.A0 g.A1 g.A2 g.A3 g.A4 g.A5 g.k0 g.k1 g.k2 g.k3 g.k4 g.ti g.tm g.lM g.lS g.lH g.lQ g.eM g.eS g.eH g.eQ j1 j2 j3 n v q r lq nq lr nr) (fun p bl => xeq rfl rfl rfl) ?_
  · exact start_of _ _ _ (And.intro O.o0 (And.intro O.o1 (And.intro O.o2 (And.intro O.o3 (And.intro O.o4 (And.intro O.o5 (And.intro hq (And.intro hr trivial))))))))
  · unfold p2c_S
    repeat' (first | exact all_nil | refine all_cons ?_ ?_)
    all_goals refine okx ?_ rfl
    all_goals first
      | (refine ok_hasI W ?_ ?_ ?_; rfl; omega; simp [lk_setL, h1, h2, h3])
      | (refine ok_getI W ?_ ?_ ?_; rfl; omega; simp [lk_setL, h1, h2, h3])
      | (refine ok_setI W ?_ ?_ ?_; rfl; omega; (first | omega | (simp; done) | (simp; omega)))
      | (refine ok_delI W ?_ ?_ ?_ ?_; rfl; omega; omega; simp [h1, h2, h3])
      | (refine ok_hasS W ?_ ?_ ?_ ?_; rfl; rfl; omega; simp [lk_setL, lk_nil, h1, h2, h3])
      | (refine ok_getS W ?_ ?_ ?_ ?_; rfl; omega; rfl; simp [lk_setL, lk_cons, lk_nil, nWH, nWH.symm, h1, h2, h3])
      | (refine ok_setS W ?_ ?_ ?_ ?_; rfl; omega; rfl; (first | omega | (simp; done)))
  · intro s' T' R' hp
    have F := allGet R' hp
    obtain ⟨f0, f1, f2, f3, f4, f5, fq, fr, fi, ft, fl, -⟩ := F
    let g' : Cch := { g with lM := setL g.lM n j2 (.ref (topN s+3)), eM := setN g.lM g.eM n, lH := setL g.lH (100+n) (s.toks+9) (.int n j2), eH := setN g.lH g.eH (100+n), lab := ext g.lab (topN s) (fun | 1 => some (.i true n) | 3 => some (.t true n) | _ => none) }
    obtain ⟨AF, K⟩ := aft_of (f := (fun | 1 => some (.i true n) | 3 => some (.t true n) | _ => none)) (g' := g') (fp := fp) R' Y.sz hlab rfl rfl
    have hx : ∀ i, g'.lab (topN s + i) = (fun | 1 => some (.i true n) | 3 => some (.t true n) | _ => none : Nat → Option Role) i := fun i => ext_new g.lab (topN s) (fun | 1 => some (.i true n) | 3 => some (.t true n) | _ => none) i
    
    refine k s' g' _ AF rfl (R.push true (E := g.tm+600) (T := topN s+3) (u := .ref (q+150)) ha K (fun c k => by simp) (fun e he => by simp [he]) ?_ ?_ ?_ ?_ ?_ ?_ ?_) fl (by show _ ≤ topN s + _; omega) (hx 4)
    · refine ⟨f0, f1, f2, f3, f4, f5, (List.map_congr_left fun p hp => AF.lab p (O.lts p hp).2).trans O.labs, fun b => ?_, nodup_setL O.ndH, O.ndQ, fun b => ?_, Nat.le_trans (length_setL ..) (by omega), (by show g.lQ.length ≤ _; omega)⟩
      cases b
      · exact O.nd false
      · exact nodup_setL (O.nd true)
      cases b
      · show g.lS.length ≤ _; omega
      · exact Nat.le_trans (length_setL ..) (by omega)
    · exact fun k => lk_setL ..
    · intro c hc
      cases c <;> first | exact absurd rfl hc | rfl
    · exact fun e => by
        by_cases he : e = g.tm+600
        · subst he; rw [if_pos rfl]; exact h2
        · rw [if_neg he]
    · exact ⟨topN s+3, topN s+1, g.tm+600, v, _, _, _, by omega, by omega, rfl, rfl, ft, fi, ⟨j3, by simp [lk_cons, nWH]⟩, (fun _ => ⟨s.toks+9, by simp [lk_cons]⟩), hx 3, hx 1⟩
    · refine que_push (q := q+150) (r := r+150) ha (by omega) fq ((AF.lab _ (Heap.lt_size hq)).trans hql) (hqn) ((by omega)) (h3) (by omega) fr ((AF.lab _ (Heap.lt_size hr)).trans hrl) (nodup_setL hrn) (Nat.le_trans (length_setL ..) (by omega)) (fun k => by
        rw [lk_setL]
        by_cases hk : k = n
        · simp [hk]
        · rw [if_neg hk, hrk]; simp [hk]) (fun c hc => (hin c).mono K (by cases c <;> first | exact absurd rfl hc | simp) (Nat.le_succ B) fun _ _ => Iff.rfl)
    · exact R.hds.pushT (g' := g') (t := j2) (fun j => lk_setL ..) hn
end
end Mine

end
/-! HT1 -/
section
open PySem PySem.W PySem.W.X PyProof.Rows
namespace Mine
theorem lk_rem' {l : IL} {k : Int} (hn : (l.map (·.1)).Nodup) (j : Int) : lk (rem l k) j = if j = k then none else lk l j := lk_rem l k hn j
section
variable {prog : Program} {w : World} {A : Around} {s : Shared} {g : Cch} {a : Ab} {hd : Int → Bool} {B : Nat} {R0 : Result → Shared → Prop} {n v : Int} {j1 j2 j3 : Nat} {fp : Nat → Prop}
theorem told1h (Y : Rdy w A s) (R : Rp w.params s.heap g a hd B) (hB : B ≤ 100) {t i q r ni nq nr : Nat} {li lq : SL} {lr : IL} {x e : Int} {y y' : Tok} (ha : a false n = some (x, e)) (h1 : lk g.lS n = some (.ref (t+150))) (ht : s.heap.get? (t+150) = some (tupO [.ref (i+150), .int e y])) (hi : s.heap.get? (i+150) = some (sdct w.params li ni))
    (hw : lk li nW = some (.int x y')) (htl : g.lab (t+150) = some (.t false n)) (hil : g.lab (i+150) = some (.i false n)) (h2 : lk g.lQ e = some (.ref (q+150))) (hq : s.heap.get? (q+150) = some (sdct w.params lq nq)) (hql : g.lab (q+150) = some (.q e)) (hqn : (lq.map (·.1)).Nodup) (hqb : lq.length ≤ B)
    (hin : ∀ b, InnO s.heap g a B e b (lk lq (nm b))) (h3 : lk lq nS = some (.ref (r+150))) (hr : s.heap.get? (r+150) = some (idct lr nr)) (hrl : g.lab (r+150) = some (.r e false)) (hrn : (lr.map (·.1)).Nodup) (hrb : lr.length ≤ B) (hrk : ∀ k, (lk lr k).isSome = true ↔ ∃ x, a false k = some (x, e))
    (k : ∀ s' g' l u, Aft w.params s s' g g' fp → g'.tm = g.tm → Rp w.params s'.heap g' (setA a false n none) hd B → s'.heap.get? l = some (lstO [.int x u]) → s.heap.objs.size ≤ l → g'.lab l = none → R0 (.ok (.ret (.ref l))) s') :
    codeAny (model prog w) A (.call (.ref 137) ⟨[.ref (g.A1+150), .int 1 j1, .int n j2, .int v j3], []⟩) R0 s := by
  have O := R.obs
  have hlab : [g.A0+150, g.A1+150, g.A2+150, g.A3+150, g.A4+150, g.A5+150, t+150, i+150, q+150, r+150].map g.lab = ([Role.o 0, .o 1, .o 2, .o 3, .o 4, .o 5, .t false n, .i false n, .q e, .r e false] : List Role).map some := by
    have := O.labs
    simp only [List.map_cons, List.map_nil, List.cons.injEq, and_true] at this ⊢
    simp [this, htl, hil, hql, hrl]
  have hZn : ([Role.o 0, .o 1, .o 2, .o 3, .o 4, .o 5, .t false n, .i false n, .q e, .r e false] : List Role).Nodup := by simp
  have hlt : ∀ p ∈ [g.A0+150, g.A1+150, g.A2+150, g.A3+150, g.A4+150, g.A5+150, t+150, i+150, q+150, r+150], 150 ≤ p ∧ p < s.heap.objs.size :=
    lt_cons O.o0 (by omega) (lt_cons O.o1 (by omega) (lt_cons O.o2 (by omega) (lt_cons O.o3 (by omega) (lt_cons O.o4 (by omega) (lt_cons O.o5 (by omega) (lt_cons ht (by omega) (lt_cons hi (by omega) (lt_cons hq (by omega) (lt_cons hr (by omega) lt_nil)))))))))
  have W := wf_of (prog := prog) (w := w) (s := s) Y.tb Y.ti Y.sz hlt (nodup_ps hlab hZn)
  have lS : g.lS.length ≤ B := O.le false
  have lM : g.lM.length ≤ B := O.le true
  have lH := O.leH
  have lQ := O.leQ
  have hM : topN s = s.heap.objs.size := by have := Y.sz; show s.heap.objs.size - 150 + 150 = _; omega
  have h150 := Y.sz
  have hlr : (lk lr n).isSome = true := (hrk n).mpr ⟨x, ha⟩
  refine run_code W Y.hh (Nat.le_refl _) Y.hd (Nat.le_refl _) (T := p1hit_T w.params true prog default [] 0 0 g.A0 g.A1 g.A2 g.A3 g.A4 g.A5 g.k0 g.k1 g.k2 g.k3 g.k4 g.ti g.tm g.lM g.lS g.lH g.lQ g.eM g.eS g.eH g.eQ j1 j2 j3 n v t i q r li lq ni nq lr nr y y' e x)
    (sm := p1hit_S w.params true prog default [] (s.heap.objs.size - 150) s.toks g.A0 g.A1 g.A2 g.A3 g.A4 g.A5 g.k0 g.k1 g.k2 g.k3 g.k4 g.ti g.tm g.lM g.lS g.lH g.lQ g.eM g.eS g.eH g.eQ j1 j2 j3 n v t i q r li lq ni nq lr nr y y' e x) rfl ?_ rfl ?_
    (fun p bl => p1hit_ok w.params (w.params.followText "special-get-raises") prog p bl (s.heap.objs.size - 150) s.toks g.A0 g.A1 g.A2 g.A3 g.A4 g.A5 g.k0 g.k1 g.k2 g.k3 g.k4 g.ti g.tm g.lM g.lS g.lH g.lQ g.eM g.eS g.eH g.eQ j1 j2 j3 n v t i q r li lq ni nq lr nr y y' e x) (fun p bl => xeq rfl rfl rfl) ?_
  · exact start_of _ _ _ (And.intro O.o0 (And.intro O.o1 (And.intro O.o2 (And.intro O.o3 (And.intro O.o4 (And.intro O.o5 (And.intro ht (And.intro hi (And.intro hq (And.intro hr trivial))))))))))
  · unfold p1hit_S
    repeat' (first | exact all_nil | refine all_cons ?_ ?_)
    all_goals refine okx ?_ rfl
    all_goals first
      | (refine ok_hasI W ?_ ?_ ?_; rfl; omega; simp [lk_setL, h1, h2, h3, hlr, hw])
      | (refine ok_getI W ?_ ?_ ?_; rfl; omega; simp [lk_setL, h1, h2, h3, hlr, hw])
      | (refine ok_setI W ?_ ?_ ?_; rfl; omega; (first | omega | (simp; done) | (simp; omega)))
      | (refine ok_delI W ?_ ?_ ?_ ?_; rfl; omega; omega; simp [h1, h2, h3, hlr, hw])
      | (refine ok_hasS W ?_ ?_ ?_ ?_; rfl; rfl; omega; simp [lk_setL, lk_nil, h1, h2, h3, hlr, hw])
      | (refine ok_getS W ?_ ?_ ?_ ?_; rfl; omega; rfl; simp [lk_setL, lk_cons, lk_nil, nWH, nWH.symm, h1, h2, h3, hlr, hw])
      | (refine ok_setS W ?_ ?_ ?_ ?_; rfl; omega; rfl; (first | omega | (simp; done)))
  · intro s' T' R' hp
    have F := allGet R' hp
    obtain ⟨f0, f1, f2, f3, f4, f5, ft, fi, fq, fr, fl, -⟩ := F
    let g' : Cch := { g with lS := rem g.lS n, eS := g.eS + 1, lab := ext g.lab (topN s) (fun _ => none) }
    obtain ⟨AF, K⟩ := aft_of (f := fun _ => none) (g' := g') (fp := fp) R' Y.sz hlab rfl rfl
    have hx : ∀ i, g'.lab (topN s + i) = none := fun i => ext_new g.lab (topN s) (fun _ => none) i
    refine k s' g' _ _ AF rfl (R.pop false ha K (fun c k hc => ?_) (fun e he => by simp [he]) ?_ ?_ ?_ rfl ?_ ?_) fl (by show _ ≤ topN s + _; omega) (hx _)
    · simp only [List.mem_cons, reduceCtorEq, Role.t.injEq, Role.i.injEq, List.mem_nil_iff, or_false, false_or]
      exact ⟨hc, hc⟩
    · refine ⟨f0, f1, f2, f3, f4, f5, (List.map_congr_left fun p hp => AF.lab p (O.lts p hp).2).trans O.labs, fun b => ?_, O.ndH, O.ndQ, fun b => ?_, O.leH, O.leQ⟩
      cases b
      · exact nodup_rem (O.nd false)
      · exact O.nd true
      cases b
      · exact Nat.le_trans (length_rem ..) lS
      · exact lM
    · exact fun k => lk_rem' (O.nd false) k
    · intro c hc
      cases c <;> first | exact absurd rfl hc | rfl
    · rw [h2]
      refine que_pop (q := q+150) (r := r+150) ha (by omega) fq ((AF.lab _ (Heap.lt_size hq)).trans hql) hqn hqb h3 (by omega) fr ((AF.lab _ (Heap.lt_size hr)).trans hrl) (nodup_rem hrn) (Nat.le_trans (length_rem ..) hrb) (fun k => ?_) (fun c hc => (hin c).mono K (by cases c <;> first | exact absurd rfl hc | simp) (Nat.le_refl B) fun _ _ => Iff.rfl)
      rw [lk_rem' hrn]
      by_cases hk : k = n
      · simp [hk]
      · rw [if_neg hk, hrk]; simp [hk]
    · exact R.hds.setF (g' := g') rfl (R.hds.rng false n (by rw [ha]; rfl))
theorem told3h (Y : Rdy w A s) (R : Rp w.params s.heap g a hd B) (hB : B ≤ 100) {t i q r ni nq nr : Nat} {li lq : SL} {lr : IL} {x e : Int} {y y' : Tok} (ha : a true n = some (x, e)) (h1 : lk g.lM n = some (.ref (t+150))) (ht : s.heap.get? (t+150) = some (tupO [.ref (i+150), .int e y])) (hi : s.heap.get? (i+150) = some (sdct w.params li ni))
    (hw : lk li nW = some (.int x y')) (htl : g.lab (t+150) = some (.t true n)) (hil : g.lab (i+150) = some (.i true n)) (h2 : lk g.lQ e = some (.ref (q+150))) (hq : s.heap.get? (q+150) = some (sdct w.params lq nq)) (hql : g.lab (q+150) = some (.q e)) (hqn : (lq.map (·.1)).Nodup) (hqb : lq.length ≤ B)
    (hin : ∀ b, InnO s.heap g a B e b (lk lq (nm b))) (h3 : lk lq nM = some (.ref (r+150))) (hr : s.heap.get? (r+150) = some (idct lr nr)) (hrl : g.lab (r+150) = some (.r e true)) (hrn : (lr.map (·.1)).Nodup) (hrb : lr.length ≤ B) (hrk : ∀ k, (lk lr k).isSome = true ↔ ∃ x, a true k = some (x, e)) {zh : Tok} (hwh : lk li nH = some (.int (100+n) zh))
    (k : ∀ s' g' l u, Aft w.params s s' g g' fp → g'.tm = g.tm → Rp w.params s'.heap g' (setA a true n none) (fun k => if k = n then false else hd k) B → s'.heap.get? l = some (lstO [.int x u]) → s.heap.objs.size ≤ l → g'.lab l = none → R0 (.ok (.ret (.ref l))) s') :
    codeAny (model prog w) A (.call (.ref 137) ⟨[.ref (g.A1+150), .int 3 j1, .int n j2, .int v j3], []⟩) R0 s := by
  have O := R.obs
  have hlab : [g.A0+150, g.A1+150, g.A2+150, g.A3+150, g.A4+150, g.A5+150, t+150, i+150, q+150, r+150].map g.lab = ([Role.o 0, .o 1, .o 2, .o 3, .o 4, .o 5, .t true n, .i true n, .q e, .r e true] : List Role).map some := by
    have := O.labs
    simp only [List.map_cons, List.map_nil, List.cons.injEq, and_true] at this ⊢
    simp [this, htl, hil, hql, hrl]
  have hZn : ([Role.o 0, .o 1, .o 2, .o 3, .o 4, .o 5, .t true n, .i true n, .q e, .r e true] : List Role).Nodup := by simp
  have hlt : ∀ p ∈ [g.A0+150, g.A1+150, g.A2+150, g.A3+150, g.A4+150, g.A5+150, t+150, i+150, q+150, r+150], 150 ≤ p ∧ p < s.heap.objs.size :=
    lt_cons O.o0 (by omega) (lt_cons O.o1 (by omega) (lt_cons O.o2 (by omega) (lt_cons O.o3 (by omega) (lt_cons O.o4 (by omega) (lt_cons O.o5 (by omega) (lt_cons ht (by omega) (lt_cons hi (by omega) (lt_cons hq (by omega) (lt_cons hr (by omega) lt_nil)))))))))
  have W := wf_of (prog := prog) (w := w) (s := s) Y.tb Y.ti Y.sz hlt (nodup_ps hlab hZn)
  have lS : g.lS.length ≤ B := O.le false
  have lM : g.lM.length ≤ B := O.le true
  have lH := O.leH
  have lQ := O.leQ
  have hM : topN s = s.heap.objs.size := by have := Y.sz; show s.heap.objs.size - 150 + 150 = _; omega
  have h150 := Y.sz
  have hlr : (lk lr n).isSome = true := (hrk n).mpr ⟨x, ha⟩
  have hlh0 : (lk g.lH (100+n)).isSome = true := by rw [← R.hds.hdl]; exact R.hds.hda n (by rw [ha]; rfl)
  refine run_code W Y.hh (Nat.le_refl _) Y.hd (Nat.le_refl _) (T := p3hit_T w.params true prog default [] 0 0 g.A0 g.A1 g.A2 g.A3 g.A4 g.A5 g.k0 g.k1 g.k2 g.k3 g.k4 g.ti g.tm g.lM g.lS g.lH g.lQ g.eM g.eS g.eH g.eQ j1 j2 j3 n v t i q r li lq ni nq lr nr y y' zh e x)
    (sm := p3hit_S w.params true prog default [] (s.heap.objs.size - 150) s.toks g.A0 g.A1 g.A2 g.A3 g.A4 g.A5 g.k0 g.k1 g.k2 g.k3 g.k4 g.ti g.tm g.lM g.lS g.lH g.lQ g.eM g.eS g.eH g.eQ j1 j2 j3 n v t i q r li lq ni nq lr nr y y' zh e x) rfl ?_ rfl ?_
    (fun p bl => p3hit_ok w.params (w.params.followText "special-get-raises") prog p bl (s.heap.objs.size - 150) s.toks g.A0 g.A1 g.A2 g.A3 g.A4 g.A5 g.k0 g.k1 g.k2 g.k3 g.k4 g.ti g.tm g.lM g.lS g.lH g.lQ g.eM g.eS g.eH g.eQ j1 j2 j3 n v t i q r li lq ni nq lr nr y y' zh e x) (fun p bl => xeq rfl rfl rfl) ?_
  · exact start_of _ _ _ (And.intro O.o0 (And.intro O.o1 (And.intro O.o2 (And.intro O.o3 (And.intro O.o4 (And.intro O.o5 (And.intro ht (And.intro hi (And.intro hq (And.intro hr trivial))))))))))
  · unfold p3hit_S
    repeat' (first | exact all_nil | refine all_cons ?_ ?_)
    all_goals refine okx ?_ rfl
    all_goals first
      | (refine ok_hasI W ?_ ?_ ?_; rfl; omega; simp [lk_setL, h1, h2, h3, hlr, hw, hwh, hlh0])
      | (refine ok_getI W ?_ ?_ ?_; rfl; omega; simp [lk_setL, h1, h2, h3, hlr, hw, hwh, hlh0])
      | (refine ok_setI W ?_ ?_ ?_; rfl; omega; (first | omega | (simp; done) | (simp; omega)))
      | (refine ok_delI W ?_ ?_ ?_ ?_; rfl; omega; omega; simp [h1, h2, h3, hlr, hw, hwh, hlh0])
      | (refine ok_hasS W ?_ ?_ ?_ ?_; rfl; rfl; omega; simp [lk_setL, lk_nil, h1, h2, h3, hlr, hw, hwh, hlh0])
      | (refine ok_getS W ?_ ?_ ?_ ?_; rfl; omega; rfl; simp [lk_setL, lk_cons, lk_nil, nWH, nWH.symm, h1, h2, h3, hlr, hw, hwh, hlh0])
      | (refine ok_setS W ?_ ?_ ?_ ?_; rfl; omega; rfl; (first | omega | (simp; done)))
  · intro s' T' R' hp
    have F := allGet R' hp
    obtain ⟨f0, f1, f2, f3, f4, f5, ft, fi, fq, fr, fl, -⟩ := F
    let g' : Cch := { g with lM := rem g.lM n, eM := g.eM + 1, lH := rem g.lH (100+n), eH := g.eH + 1, lab := ext g.lab (topN s) (fun _ => none) }
    obtain ⟨AF, K⟩ := aft_of (f := fun _ => none) (g' := g') (fp := fp) R' Y.sz hlab rfl rfl
    have hx : ∀ i, g'.lab (topN s + i) = none := fun i => ext_new g.lab (topN s) (fun _ => none) i
    refine k s' g' _ _ AF rfl (R.pop true ha K (fun c k hc => ?_) (fun e he => by simp [he]) ?_ ?_ ?_ rfl ?_ ?_) fl (by show _ ≤ topN s + _; omega) (hx _)
    · simp only [List.mem_cons, reduceCtorEq, Role.t.injEq, Role.i.injEq, List.mem_nil_iff, or_false, false_or]
      exact ⟨hc, hc⟩
    · refine ⟨f0, f1, f2, f3, f4, f5, (List.map_congr_left fun p hp => AF.lab p (O.lts p hp).2).trans O.labs, fun b => ?_, nodup_rem O.ndH, O.ndQ, fun b => ?_, Nat.le_trans (length_rem ..) O.leH, O.leQ⟩
      cases b
      · exact O.nd false
      · exact nodup_rem (O.nd true)
      cases b
      · exact lS
      · exact Nat.le_trans (length_rem ..) lM
    · exact fun k => lk_rem' (O.nd true) k
    · intro c hc
      cases c <;> first | exact absurd rfl hc | rfl
    · rw [h2]
      refine que_pop (q := q+150) (r := r+150) ha (by omega) fq ((AF.lab _ (Heap.lt_size hq)).trans hql) hqn hqb h3 (by omega) fr ((AF.lab _ (Heap.lt_size hr)).trans hrl) (nodup_rem hrn) (Nat.le_trans (length_rem ..) hrb) (fun k => ?_) (fun c hc => (hin c).mono K (by cases c <;> first | exact absurd rfl hc | simp) (Nat.le_refl B) fun _ _ => Iff.rfl)
      rw [lk_rem' hrn]
      by_cases hk : k = n
      · simp [hk]
      · rw [if_neg hk, hrk]; simp [hk]
    · exact R.hds.popT (g' := g') (fun j => lk_rem' O.ndH j)
theorem told4h (Y : Rdy w A s) (R : Rp w.params s.heap g a hd B) (hB : B ≤ 100) {t i q r ni nq nr : Nat} {li lq : SL} {lr : IL} {x e : Int} {y y' : Tok} (ha : a true n = some (x, e)) (h1 : lk g.lM n = some (.ref (t+150))) (ht : s.heap.get? (t+150) = some (tupO [.ref (i+150), .int e y])) (hi : s.heap.get? (i+150) = some (sdct w.params li ni))
    (hw : lk li nW = some (.int x y')) (htl : g.lab (t+150) = some (.t true n)) (hil : g.lab (i+150) = some (.i true n)) (h2 : lk g.lQ e = some (.ref (q+150))) (hq : s.heap.get? (q+150) = some (sdct w.params lq nq)) (hql : g.lab (q+150) = some (.q e)) (hqn : (lq.map (·.1)).Nodup) (hqb : lq.length ≤ B)
    (hin : ∀ b, InnO s.heap g a B e b (lk lq (nm b))) (h3 : lk lq nM = some (.ref (r+150))) (hr : s.heap.get? (r+150) = some (idct lr nr)) (hrl : g.lab (r+150) = some (.r e true)) (hrn : (lr.map (·.1)).Nodup) (hrb : lr.length ≤ B) (hrk : ∀ k, (lk lr k).isSome = true ↔ ∃ x, a true k = some (x, e)) {zh yh : Tok} (hwh : lk li nH = some (.int (100+n) zh)) (hlh : lk g.lH (100+n) = some (.int n yh))
    (k : ∀ s' g' l u, Aft w.params s s' g g' fp → g'.tm = g.tm → Rp w.params s'.heap g' (setA a true n none) (fun k => if k = n then false else hd k) B → s'.heap.get? l = some (lstO [.int n u]) → s.heap.objs.size ≤ l → g'.lab l = none → R0 (.ok (.ret (.ref l))) s') :
    codeAny (model prog w) A (.call (.ref 137) ⟨[.ref (g.A1+150), .int 4 j1, .int n j2, .int v j3], []⟩) R0 s := by
  have O := R.obs
  have hlab : [g.A0+150, g.A1+150, g.A2+150, g.A3+150, g.A4+150, g.A5+150, t+150, i+150, q+150, r+150].map g.lab = ([Role.o 0, .o 1, .o 2, .o 3, .o 4, .o 5, .t true n, .i true n, .q e, .r e true] : List Role).map some := by
    have := O.labs
    simp only [List.map_cons, List.map_nil, List.cons.injEq, and_true] at this ⊢
    simp [this, htl, hil, hql, hrl]
  have hZn : ([Role.o 0, .o 1, .o 2, .o 3, .o 4, .o 5, .t true n, .i true n, .q e, .r e true] : List Role).Nodup := by simp
  have hlt : ∀ p ∈ [g.A0+150, g.A1+150, g.A2+150, g.A3+150, g.A4+150, g.A5+150, t+150, i+150, q+150, r+150], 150 ≤ p ∧ p < s.heap.objs.size :=
    lt_cons O.o0 (by omega) (lt_cons O.o1 (by omega) (lt_cons O.o2 (by omega) (lt_cons O.o3 (by omega) (lt_cons O.o4 (by omega) (lt_cons O.o5 (by omega) (lt_cons ht (by omega) (lt_cons hi (by omega) (lt_cons hq (by omega) (lt_cons hr (by omega) lt_nil)))))))))
  have W := wf_of (prog := prog) (w := w) (s := s) Y.tb Y.ti Y.sz hlt (nodup_ps hlab hZn)
  have lS : g.lS.length ≤ B := O.le false
  have lM : g.lM.length ≤ B := O.le true
  have lH := O.leH
  have lQ := O.leQ
  have hM : topN s = s.heap.objs.size := by have := Y.sz; show s.heap.objs.size - 150 + 150 = _; omega
  have h150 := Y.sz
  have hlr : (lk lr n).isSome = true := (hrk n).mpr ⟨x, ha⟩
  refine run_code W Y.hh (Nat.le_refl _) Y.hd (Nat.le_refl _) (T := p4hit_T w.params true prog default [] 0 0 g.A0 g.A1 g.A2 g.A3 g.A4 g.A5 g.k0 g.k1 g.k2 g.k3 g.k4 g.ti g.tm g.lM g.lS g.lH g.lQ g.eM g.eS g.eH g.eQ j1 j2 j3 n v t i q r li lq ni nq lr nr y y' yh zh e x)
    (sm := p4hit_S w.params true prog default [] (s.heap.objs.size - 150) s.toks g.A0 g.A1 g.A2 g.A3 g.A4 g.A5 g.k0 g.k1 g.k2 g.k3 g.k4 g.ti g.tm g.lM g.lS g.lH g.lQ g.eM g.eS g.eH g.eQ j1 j2 j3 n v t i q r li lq ni nq lr nr y y' yh zh e x) rfl ?_ rfl ?_
    (fun p bl => p4hit_ok w.params (w.params.followText "special-get-raises") prog p bl (s.heap.objs.size - 150) s.toks g.A0 g.A1 g.A2 g.A3 g.A4 g.A5 g.k0 g.k1 g.k2 g.k3 g.k4 g.ti g.tm g.lM g.lS g.lH g.lQ g.eM g.eS g.eH g.eQ j1 j2 j3 n v t i q r li lq ni nq lr nr y y' yh zh e x) (fun p bl => xeq rfl rfl rfl) ?_
  · exact start_of _ _ _ (And.intro O.o0 (And.intro O.o1 (And.intro O.o2 (And.intro O.o3 (And.intro O.o4 (And.intro O.o5 (And.intro ht (And.intro hi (And.intro hq (And.intro hr trivial))))))))))
  · unfold p4hit_S
    repeat' (first | exact all_nil | refine all_cons ?_ ?_)
    all_goals refine okx ?_ rfl
    all_goals first
      | (refine ok_hasI W ?_ ?_ ?_; rfl; omega; simp [lk_setL, h1, h2, h3, hlr, hw, hwh, hlh])
      | (refine ok_getI W ?_ ?_ ?_; rfl; omega; simp [lk_setL, h1, h2, h3, hlr, hw, hwh, hlh])
      | (refine ok_setI W ?_ ?_ ?_; rfl; omega; (first | omega | (simp; done) | (simp; omega)))
      | (refine ok_delI W ?_ ?_ ?_ ?_; rfl; omega; omega; simp [h1, h2, h3, hlr, hw, hwh, hlh])
      | (refine ok_hasS W ?_ ?_ ?_ ?_; rfl; rfl; omega; simp [lk_setL, lk_nil, h1, h2, h3, hlr, hw, hwh, hlh])
      | (refine ok_getS W ?_ ?_ ?_ ?_; rfl; omega; rfl; simp [lk_setL, lk_cons, lk_nil, nWH, nWH.symm, h1, h2, h3, hlr, hw, hwh, hlh])
      | (refine ok_setS W ?_ ?_ ?_ ?_; rfl; omega; rfl; (first | omega | (simp; done)))
  · intro s' T' R' hp
    have F := allGet R' hp
    obtain ⟨f0, f1, f2, f3, f4, f5, ft, fi, fq, fr, fl, -⟩ := F
    let g' : Cch := { g with lM := rem g.lM n, eM := g.eM + 1, lH := rem g.lH (100+n), eH := g.eH + 1, lab := ext g.lab (topN s) (fun _ => none) }
    obtain ⟨AF, K⟩ := aft_of (f := fun _ => none) (g' := g') (fp := fp) R' Y.sz hlab rfl rfl
    have hx : ∀ i, g'.lab (topN s + i) = none := fun i => ext_new g.lab (topN s) (fun _ => none) i
    refine k s' g' _ _ AF rfl (R.pop true ha K (fun c k hc => ?_) (fun e he => by simp [he]) ?_ ?_ ?_ rfl ?_ ?_) fl (by show _ ≤ topN s + _; omega) (hx _)
    · simp only [List.mem_cons, reduceCtorEq, Role.t.injEq, Role.i.injEq, List.mem_nil_iff, or_false, false_or]
      exact ⟨hc, hc⟩
    · refine ⟨f0, f1, f2, f3, f4, f5, (List.map_congr_left fun p hp => AF.lab p (O.lts p hp).2).trans O.labs, fun b => ?_, nodup_rem O.ndH, O.ndQ, fun b => ?_, Nat.le_trans (length_rem ..) O.leH, O.leQ⟩
      cases b
      · exact O.nd false
      · exact nodup_rem (O.nd true)
      cases b
      · exact lS
      · exact Nat.le_trans (length_rem ..) lM
    · exact fun k => lk_rem' (O.nd true) k
    · intro c hc
      cases c <;> first | exact absurd rfl hc | rfl
    · rw [h2]
      refine que_pop (q := q+150) (r := r+150) ha (by omega) fq ((AF.lab _ (Heap.lt_size hq)).trans hql) hqn hqb h3 (by omega) fr ((AF.lab _ (Heap.lt_size hr)).trans hrl) (nodup_rem hrn) (Nat.le_trans (length_rem ..) hrb) (fun k => ?_) (fun c hc => (hin c).mono K (by cases c <;> first | exact absurd rfl hc | simp) (Nat.le_refl B) fun _ _ => Iff.rfl)
      rw [lk_rem' hrn]
      by_cases hk : k = n
      · simp [hk]
      · rw [if_neg hk, hrk]; simp [hk]
    · exact R.hds.popT (g' := g') (fun j => lk_rem' O.ndH j)
theorem Hds.same {g' : Cch} (H : Hds g a hd) (h : g'.lH = g.lH) : Hds g' a hd := ⟨fun k => by rw [h]; exact H.hdl k, fun k v => by rw [h]; exact H.hdk k v, H.hda, H.rng⟩
theorem told4n (Y : Rdy w A s) (R : Rp w.params s.heap g a hd B) (hB : B ≤ 100) (h1 : lk g.lH (100+n) = none)
    (k : ∀ s' g' l, Aft w.params s s' g g' fp → g'.tm = g.tm → Rp w.params s'.heap g' a hd B → s'.heap.get? l = some (lstO [.int n j2]) → s.heap.objs.size ≤ l → g'.lab l = none → R0 (.ok (.ret (.ref l))) s') :
    codeAny (model prog w) A (.call (.ref 137) ⟨[.ref (g.A1+150), .int 4 j1, .int n j2, .int v j3], []⟩) R0 s := by
  have O := R.obs
  have hlab : [g.A0+150, g.A1+150, g.A2+150, g.A3+150, g.A4+150, g.A5+150].map g.lab = ([Role.o 0, .o 1, .o 2, .o 3, .o 4, .o 5] : List Role).map some := O.labs
  have hZn : ([Role.o 0, .o 1, .o 2, .o 3, .o 4, .o 5] : List Role).Nodup := by simp
  have W := wf_of (prog := prog) (w := w) (s := s) Y.tb Y.ti Y.sz O.lts (nodup_ps hlab hZn)
  have hM : topN s = s.heap.objs.size := by have := Y.sz; show s.heap.objs.size - 150 + 150 = _; omega
  have h150 := Y.sz
  refine run_code W Y.hh (Nat.le_refl _) Y.hd (Nat.le_refl _) (T := p4no_T w.params true prog default [] 0 0 g.A0 g.A1 g.A2 g.A3 g.A4 g.A5 g.k0 g.k1 g.k2 g.k3 g.k4 g.ti g.tm g.lM g.lS g.lH g.lQ g.eM g.eS g.eH g.eQ j1 j2 j3 n v)
    (sm := p4no_S w.params true prog default [] (s.heap.objs.size - 150) s.toks g.A0 g.A1 g.A2 g.A3 g.A4 g.A5 g.k0 g.k1 g.k2 g.k3 g.k4 g.ti g.tm g.lM g.lS g.lH g.lQ g.eM g.eS g.eH g.eQ j1 j2 j3 n v) rfl ?_ rfl ?_
    (fun p bl => p4no_ok w.params (w.params.followText "special-get-raises") prog p bl (s.heap.objs.size - 150) s.toks g.A0 g.A1 g.A2 g.A3 g.A4 g.A5 g.k0 g.k1 g.k2 g.k3 g.k4 g.ti g.tm g.lM g.lS g.lH g.lQ g.eM g.eS g.eH g.eQ j1 j2 j3 n v) (fun p bl => xeq rfl rfl rfl) ?_
  · exact start_of _ _ _ (And.intro O.o0 (And.intro O.o1 (And.intro O.o2 (And.intro O.o3 (And.intro O.o4 (And.intro O.o5 trivial))))))
  · unfold p4no_S
    repeat' (first | exact all_nil | refine all_cons ?_ ?_)
    all_goals refine okx ?_ rfl
    all_goals first
      | (refine ok_hasI W ?_ ?_ ?_; rfl; omega; simp [lk_setL, h1])
      | (refine ok_getI W ?_ ?_ ?_; rfl; omega; simp [lk_setL, h1])
      | (refine ok_setI W ?_ ?_ ?_; rfl; omega; (first | omega | (simp; done) | (simp; omega)))
      | (refine ok_delI W ?_ ?_ ?_ ?_; rfl; omega; omega; simp [h1])
      | (refine ok_hasS W ?_ ?_ ?_ ?_; rfl; rfl; omega; simp [lk_setL, lk_nil, h1])
      | (refine ok_getS W ?_ ?_ ?_ ?_; rfl; omega; rfl; simp [lk_setL, lk_cons, lk_nil, nWH, nWH.symm, h1])
      | (refine ok_setS W ?_ ?_ ?_ ?_; rfl; omega; rfl; (first | omega | (simp; done)))
  · intro s' T' R' hp
    have F := allGet R' hp
    obtain ⟨f0, f1, f2, f3, f4, f5, fl, -⟩ := F
    let g' : Cch := { g with lab := ext g.lab (topN s) (fun _ => none) }
    obtain ⟨AF, K⟩ := aft_of (f := fun _ => none) (g' := g') (fp := fp) R' Y.sz hlab rfl rfl
    have hx : ∀ i, g'.lab (topN s + i) = none := fun i => ext_new g.lab (topN s) (fun _ => none) i
    refine k s' g' _ AF rfl (R.step (Nat.le_refl B) K ⟨f0, f1, f2, f3, f4, f5, (List.map_congr_left fun p hp => AF.lab p (O.lts p hp).2).trans O.labs, O.nd, O.ndH, O.ndQ, O.le, O.leH, O.leQ⟩ (R.hds.same rfl) (fun b k => .inl ⟨rfl, rfl, by simp, by simp⟩) (fun e => .inl ⟨rfl, fun _ _ _ => Iff.rfl, by simp, by simp⟩)) fl (by show _ ≤ topN s + _; omega) (hx _)
end
end Mine

end
/-! Raise -/
noncomputable section
open PySem PySem.W PySem.W.X PyProof.Rows
namespace Mine
def tE0_S (P : Params) (b : Bool) (prog : Program) (cur : Code) (p : Pos) (bl : List (Code × Pos)) (N t0 : Nat) (A0 A1 A2 A3 A4 A5 k0 k1 k2 k3 k4 ti : Nat) (tm : Int) (lM lS lH lQ : IL) (nM' nS' nH' nQ : Nat) (j1 j2 j3 j4 : Nat) (n v : Int) (c : Nat) : List Sm := []
def tE0_T (P : Params) (b : Bool) (prog : Program) (cur : Code) (p : Pos) (bl : List (Code × Pos)) (N t0 : Nat) (A0 A1 A2 A3 A4 A5 k0 k1 k2 k3 k4 ti : Nat) (tm : Int) (lM lS lH lQ : IL) (nM' nS' nH' nQ : Nat) (j1 j2 j3 j4 : Nat) (n v : Int) (c : Nat) : Tab := [some (cdict P k0 k1 k2 k3 k4 (A2+150) (A3+150) (A4+150) (A5+150) tm ti), some (instO (A0+150)), some (idct lM nM'), some (idct lS nS'), some (idct lH nH'), some (idct lQ nQ)]
def tE0_X (P : Params) (b : Bool) (prog : Program) (cur : Code) (p : Pos) (bl : List (Code × Pos)) (N t0 : Nat) (A0 A1 A2 A3 A4 A5 k0 k1 k2 k3 k4 ti : Nat) (tm : Int) (lM lS lH lQ : IL) (nM' nS' nH' nQ : Nat) (j1 j2 j3 j4 : Nat) (n v : Int) (c : Nat) : Out Fin := (run ⟨prog, swP P b, Mine.hz.ktop_302 P, N+150, t0, [A0+150, A1+150, A2+150, A3+150, A4+150, A5+150]⟩ 100000).t Fin (enterTree 137 (fdOf P 137) ⟨[(.ref (A1+150)), (.int 0 j1), (.int n j2), (.int v j3)], []⟩) cur p bl none 0 0 2001599834386880 (tE0_S P b prog cur p bl N t0 A0 A1 A2 A3 A4 A5 k0 k1 k2 k3 k4 ti tm lM lS lH lQ nM' nS' nH' nQ j1 j2 j3 j4 n v c) (tE0_T P b prog cur p bl N t0 A0 A1 A2 A3 A4 A5 k0 k1 k2 k3 k4 ti tm lM lS lH lQ nM' nS' nH' nQ j1 j2 j3 j4 n v c) 0 0 []
def tE0_L (P : Params) (b : Bool) (prog : Program) (cur : Code) (p : Pos) (bl : List (Code × Pos)) (N t0 : Nat) (A0 A1 A2 A3 A4 A5 k0 k1 k2 k3 k4 ti : Nat) (tm : Int) (lM lS lH lQ : IL) (nM' nS' nH' nQ : Nat) (j1 j2 j3 j4 : Nat) (n v : Int) (c : Nat) := look [0, 1, 2, 3, 4, 5, 6] (tE0_X P b prog cur p bl N t0 A0 A1 A2 A3 A4 A5 k0 k1 k2 k3 k4 ti tm lM lS lH lQ nM' nS' nH' nQ j1 j2 j3 j4 n v c)
def tE0_R (P : Params) (b : Bool) (prog : Program) (cur : Code) (p : Pos) (bl : List (Code × Pos)) (N t0 : Nat) (A0 A1 A2 A3 A4 A5 k0 k1 k2 k3 k4 ti : Nat) (tm : Int) (lM lS lH lQ : IL) (nM' nS' nH' nQ : Nat) (j1 j2 j3 j4 : Nat) (n v : Int) (c : Nat) : Option (Except Value Fin × List (Option Obj) × Nat × Nat × List Ob) := some ((.ok (.again (bodyCode (fdOf P 137) (envO P 137 (N+150+0))))), [some (cdict P k0 k1 k2 k3 k4 (A2+150) (A3+150) (A4+150) (A5+150) tm ti), some (instO (A0+150)), some (idct lM nM'), some (idct lS nS'), some (idct lH nH'), some (idct lQ nQ), some (frmO P [(⟨#[107, 101, 112, 116]⟩, (t0+0), (.ref (A1+150))), (⟨#[107, 105, 110, 100]⟩, (t0+1), (.int 0 j1)), (⟨#[110, 117, 109, 98, 101, 114]⟩, (t0+2), (.int n j2)), (⟨#[118, 97, 108, 117, 101]⟩, (t0+3), (.int v j3))] 4)], 1, 4, obsOf (tE0_X P b prog cur p bl N t0 A0 A1 A2 A3 A4 A5 k0 k1 k2 k3 k4 ti tm lM lS lH lQ nM' nS' nH' nQ j1 j2 j3 j4 n v c))
theorem tE0_L0 : @tE0_L = tE0_L := rfl
theorem tE0_R0 : @tE0_R = tE0_R := rfl
lay_z Mine.tE0_L Mine.tE0_R
name_z tE0LZ for Mine.tE0_L by Mine.tE0_L0
name_z tE0RZ for Mine.tE0_R by Mine.tE0_R0
theorem tE0_ok (P : Params) (b : Bool) (prog : Program) (cur : Code) (p : Pos) (bl : List (Code × Pos)) (N t0 : Nat) (A0 A1 A2 A3 A4 A5 k0 k1 k2 k3 k4 ti : Nat) (tm : Int) (lM lS lH lQ : IL) (nM' nS' nH' nQ : Nat) (j1 j2 j3 j4 : Nat) (n v : Int) (c : Nat) : tE0_L P b prog cur p bl N t0 A0 A1 A2 A3 A4 A5 k0 k1 k2 k3 k4 ti tm lM lS lH lQ nM' nS' nH' nQ j1 j2 j3 j4 n v c = tE0_R P b prog cur p bl N t0 A0 A1 A2 A3 A4 A5 k0 k1 k2 k3 k4 ti tm lM lS lH lQ nM' nS' nH' nQ j1 j2 j3 j4 n v c := by
  rw [PySem.W.ZFast.tE0LZ_eq, PySem.W.ZFast.tE0RZ_eq]
  cases b <;> kernel_rfl!

def tB0_S (P : Params) (b : Bool) (prog : Program) (cur : Code) (p : Pos) (bl : List (Code × Pos)) (N t0 : Nat) (A0 A1 A2 A3 A4 A5 k0 k1 k2 k3 k4 ti : Nat) (tm : Int) (lM lS lH lQ : IL) (nM' nS' nH' nQ : Nat) (j1 j2 j3 j4 : Nat) (n v : Int) (c : Nat) : List Sm := [raiseSm (.call (.ref 80) ⟨[(.ref (A1+150)), (.int n j2)], [(nW, (.int v j3))]⟩) [(0, (cdict P k0 k1 k2 k3 k4 (A2+150) (A3+150) (A4+150) (A5+150) tm ti)), (1, (instO (A0+150))), (2, (idct lM nM')), (3, (idct lS nS')), (4, (idct lH nH')), (5, (idct lQ nQ)), (6, (frmO P [(⟨#[107, 101, 112, 116]⟩, (t0+0), (.ref (A1+150))), (⟨#[107, 105, 110, 100]⟩, (t0+1), (.int 0 j1)), (⟨#[110, 117, 109, 98, 101, 114]⟩, (t0+2), (.int n j2)), (⟨#[118, 97, 108, 117, 101]⟩, (t0+3), (.int v j3))] 4))] (N+150+4) 1 (cur :: codesOf bl)]
def tB0_T (P : Params) (b : Bool) (prog : Program) (cur : Code) (p : Pos) (bl : List (Code × Pos)) (N t0 : Nat) (A0 A1 A2 A3 A4 A5 k0 k1 k2 k3 k4 ti : Nat) (tm : Int) (lM lS lH lQ : IL) (nM' nS' nH' nQ : Nat) (j1 j2 j3 j4 : Nat) (n v : Int) (c : Nat) : Tab := [some (cdict P k0 k1 k2 k3 k4 (A2+150) (A3+150) (A4+150) (A5+150) tm ti), some (instO (A0+150)), some (idct lM nM'), some (idct lS nS'), some (idct lH nH'), some (idct lQ nQ), some (frmO P [(⟨#[107, 101, 112, 116]⟩, (t0+0), (.ref (A1+150))), (⟨#[107, 105, 110, 100]⟩, (t0+1), (.int 0 j1)), (⟨#[110, 117, 109, 98, 101, 114]⟩, (t0+2), (.int n j2)), (⟨#[118, 97, 108, 117, 101]⟩, (t0+3), (.int v j3))] 4)]
def tB0_X (P : Params) (b : Bool) (prog : Program) (cur : Code) (p : Pos) (bl : List (Code × Pos)) (N t0 : Nat) (A0 A1 A2 A3 A4 A5 k0 k1 k2 k3 k4 ti : Nat) (tm : Int) (lM lS lH lQ : IL) (nM' nS' nH' nQ : Nat) (j1 j2 j3 j4 : Nat) (n v : Int) (c : Nat) : Out Flow := (run ⟨prog, swP P b, Mine.hz.ktop_302 P, N+150, t0, [A0+150, A1+150, A2+150, A3+150, A4+150, A5+150]⟩ 100000).t Flow (execs (tryB (bodyOf (fdOf P 137))) (envO P 137 (N+150+0))) cur p bl none 0 0 20805244913663575785388972108152839 (tB0_S P b prog cur p bl N t0 A0 A1 A2 A3 A4 A5 k0 k1 k2 k3 k4 ti tm lM lS lH lQ nM' nS' nH' nQ j1 j2 j3 j4 n v c) (tB0_T P b prog cur p bl N t0 A0 A1 A2 A3 A4 A5 k0 k1 k2 k3 k4 ti tm lM lS lH lQ nM' nS' nH' nQ j1 j2 j3 j4 n v c) 1 4 []
def tB0_L (P : Params) (b : Bool) (prog : Program) (cur : Code) (p : Pos) (bl : List (Code × Pos)) (N t0 : Nat) (A0 A1 A2 A3 A4 A5 k0 k1 k2 k3 k4 ti : Nat) (tm : Int) (lM lS lH lQ : IL) (nM' nS' nH' nQ : Nat) (j1 j2 j3 j4 : Nat) (n v : Int) (c : Nat) := lookD (tB0_X P b prog cur p bl N t0 A0 A1 A2 A3 A4 A5 k0 k1 k2 k3 k4 ti tm lM lS lH lQ nM' nS' nH' nQ j1 j2 j3 j4 n v c)
def tB0_R (P : Params) (b : Bool) (prog : Program) (cur : Code) (p : Pos) (bl : List (Code × Pos)) (N t0 : Nat) (A0 A1 A2 A3 A4 A5 k0 k1 k2 k3 k4 ti : Nat) (tm : Int) (lM lS lH lQ : IL) (nM' nS' nH' nQ : Nat) (j1 j2 j3 j4 : Nat) (n v : Int) (c : Nat) : Option (Except Value Flow × Bool × List Ob) := some ((.error (.ref (N+150+4))), false, obsOf (tB0_X P b prog cur p bl N t0 A0 A1 A2 A3 A4 A5 k0 k1 k2 k3 k4 ti tm lM lS lH lQ nM' nS' nH' nQ j1 j2 j3 j4 n v c))
theorem tB0_L0 : @tB0_L = tB0_L := rfl
theorem tB0_R0 : @tB0_R = tB0_R := rfl
lay_z Mine.tB0_L Mine.tB0_R
name_z tB0LZ for Mine.tB0_L by Mine.tB0_L0
name_z tB0RZ for Mine.tB0_R by Mine.tB0_R0
theorem tB0_ok (P : Params) (b : Bool) (prog : Program) (cur : Code) (p : Pos) (bl : List (Code × Pos)) (N t0 : Nat) (A0 A1 A2 A3 A4 A5 k0 k1 k2 k3 k4 ti : Nat) (tm : Int) (lM lS lH lQ : IL) (nM' nS' nH' nQ : Nat) (j1 j2 j3 j4 : Nat) (n v : Int) (c : Nat) : tB0_L P b prog cur p bl N t0 A0 A1 A2 A3 A4 A5 k0 k1 k2 k3 k4 ti tm lM lS lH lQ nM' nS' nH' nQ j1 j2 j3 j4 n v c = tB0_R P b prog cur p bl N t0 A0 A1 A2 A3 A4 A5 k0 k1 k2 k3 k4 ti tm lM lS lH lQ nM' nS' nH' nQ j1 j2 j3 j4 n v c := by
  rw [PySem.W.ZFast.tB0LZ_eq, PySem.W.ZFast.tB0RZ_eq]
  cases b <;> kernel_rfl!

def pE0_S (P : Params) (b : Bool) (prog : Program) (cur : Code) (p : Pos) (bl : List (Code × Pos)) (N t0 : Nat) (A0 A1 A2 A3 A4 A5 k0 k1 k2 k3 k4 ti : Nat) (tm : Int) (lM lS lH lQ : IL) (nM' nS' nH' nQ : Nat) (j1 j2 j3 j4 : Nat) (n v : Int) (c : Nat) : List Sm := []
def pE0_T (P : Params) (b : Bool) (prog : Program) (cur : Code) (p : Pos) (bl : List (Code × Pos)) (N t0 : Nat) (A0 A1 A2 A3 A4 A5 k0 k1 k2 k3 k4 ti : Nat) (tm : Int) (lM lS lH lQ : IL) (nM' nS' nH' nQ : Nat) (j1 j2 j3 j4 : Nat) (n v : Int) (c : Nat) : Tab := [some (cdict P k0 k1 k2 k3 k4 (A2+150) (A3+150) (A4+150) (A5+150) tm ti), some (instO (A0+150)), some (idct lM nM'), some (idct lS nS'), some (idct lH nH'), some (idct lQ nQ)]
def pE0_X (P : Params) (b : Bool) (prog : Program) (cur : Code) (p : Pos) (bl : List (Code × Pos)) (N t0 : Nat) (A0 A1 A2 A3 A4 A5 k0 k1 k2 k3 k4 ti : Nat) (tm : Int) (lM lS lH lQ : IL) (nM' nS' nH' nQ : Nat) (j1 j2 j3 j4 : Nat) (n v : Int) (c : Nat) : Out Fin := (run ⟨prog, swP P b, Mine.hz.ktop_302 P, N+150, t0, [A0+150, A1+150, A2+150, A3+150, A4+150, A5+150]⟩ 100000).t Fin (enterTree 80 (fdOf P 80) ⟨[(.ref (A1+150)), (.int n j2)], [(nW, (.int v j3))]⟩) cur p bl none 0 0 2287542667866560 (pE0_S P b prog cur p bl N t0 A0 A1 A2 A3 A4 A5 k0 k1 k2 k3 k4 ti tm lM lS lH lQ nM' nS' nH' nQ j1 j2 j3 j4 n v c) (pE0_T P b prog cur p bl N t0 A0 A1 A2 A3 A4 A5 k0 k1 k2 k3 k4 ti tm lM lS lH lQ nM' nS' nH' nQ j1 j2 j3 j4 n v c) 0 0 []
def pE0_L (P : Params) (b : Bool) (prog : Program) (cur : Code) (p : Pos) (bl : List (Code × Pos)) (N t0 : Nat) (A0 A1 A2 A3 A4 A5 k0 k1 k2 k3 k4 ti : Nat) (tm : Int) (lM lS lH lQ : IL) (nM' nS' nH' nQ : Nat) (j1 j2 j3 j4 : Nat) (n v : Int) (c : Nat) := look [0, 1, 2, 3, 4, 5, 6, 7] (pE0_X P b prog cur p bl N t0 A0 A1 A2 A3 A4 A5 k0 k1 k2 k3 k4 ti tm lM lS lH lQ nM' nS' nH' nQ j1 j2 j3 j4 n v c)
def pE0_R (P : Params) (b : Bool) (prog : Program) (cur : Code) (p : Pos) (bl : List (Code × Pos)) (N t0 : Nat) (A0 A1 A2 A3 A4 A5 k0 k1 k2 k3 k4 ti : Nat) (tm : Int) (lM lS lH lQ : IL) (nM' nS' nH' nQ : Nat) (j1 j2 j3 j4 : Nat) (n v : Int) (c : Nat) : Option (Except Value Fin × List (Option Obj) × Nat × Nat × List Ob) := some ((.ok (.again (bodyCode (fdOf P 80) (envO P 80 (N+150+1))))), [some (cdict P k0 k1 k2 k3 k4 (A2+150) (A3+150) (A4+150) (A5+150) tm ti), some (instO (A0+150)), some (idct lM nM'), some (idct lS nS'), some (idct lH nH'), some (idct lQ nQ), some (sdct P [(nW, (t0+0), (.int v j3))] 1), some (frmO P [(⟨#[115, 101, 108, 102]⟩, (t0+1), (.ref (A1+150))), (nS, (t0+2), (.int n j2)), (⟨#[109, 115, 103, 73, 110, 102, 111]⟩, (t0+3), (.ref (N+150+0)))] 3)], 2, 4, obsOf (pE0_X P b prog cur p bl N t0 A0 A1 A2 A3 A4 A5 k0 k1 k2 k3 k4 ti tm lM lS lH lQ nM' nS' nH' nQ j1 j2 j3 j4 n v c))
theorem pE0_L0 : @pE0_L = pE0_L := rfl
theorem pE0_R0 : @pE0_R = pE0_R := rfl
lay_z Mine.pE0_L Mine.pE0_R
name_z pE0LZ for Mine.pE0_L by Mine.pE0_L0
name_z pE0RZ for Mine.pE0_R by Mine.pE0_R0
theorem pE0_ok (P : Params) (b : Bool) (prog : Program) (cur : Code) (p : Pos) (bl : List (Code × Pos)) (N t0 : Nat) (A0 A1 A2 A3 A4 A5 k0 k1 k2 k3 k4 ti : Nat) (tm : Int) (lM lS lH lQ : IL) (nM' nS' nH' nQ : Nat) (j1 j2 j3 j4 : Nat) (n v : Int) (c : Nat) : pE0_L P b prog cur p bl N t0 A0 A1 A2 A3 A4 A5 k0 k1 k2 k3 k4 ti tm lM lS lH lQ nM' nS' nH' nQ j1 j2 j3 j4 n v c = pE0_R P b prog cur p bl N t0 A0 A1 A2 A3 A4 A5 k0 k1 k2 k3 k4 ti tm lM lS lH lQ nM' nS' nH' nQ j1 j2 j3 j4 n v c := by
  rw [PySem.W.ZFast.pE0LZ_eq, PySem.W.ZFast.pE0RZ_eq]
  cases b <;> kernel_rfl!

def pB0_S (P : Params) (b : Bool) (prog : Program) (cur : Code) (p : Pos) (bl : List (Code × Pos)) (N t0 : Nat) (A0 A1 A2 A3 A4 A5 k0 k1 k2 k3 k4 ti : Nat) (tm : Int) (lM lS lH lQ : IL) (nM' nS' nH' nQ : Nat) (j1 j2 j3 j4 : Nat) (n v : Int) (c : Nat) : List Sm := [mkSm t0 (.hasI 3 (A3+150) lS nS' n j2 true), mkSm t0 (.fmt n j2 (t0+7) c), mkSm t0 (.collect 12 (N+150+6) (N+150) [(.str ⟨#[67, 97, 99, 104, 101, 32, 100, 117, 112, 32, 102, 111, 114, 32, 115, 116, 97, 116, 101, 82, 101, 102, 101, 114, 101, 110, 99, 101, 61, c]⟩ (t0+9))])]
def pB0_T (P : Params) (b : Bool) (prog : Program) (cur : Code) (p : Pos) (bl : List (Code × Pos)) (N t0 : Nat) (A0 A1 A2 A3 A4 A5 k0 k1 k2 k3 k4 ti : Nat) (tm : Int) (lM lS lH lQ : IL) (nM' nS' nH' nQ : Nat) (j1 j2 j3 j4 : Nat) (n v : Int) (c : Nat) : Tab := [some (cdict P k0 k1 k2 k3 k4 (A2+150) (A3+150) (A4+150) (A5+150) tm ti), some (instO (A0+150)), some (idct lM nM'), some (idct lS nS'), some (idct lH nH'), some (idct lQ nQ), some (sdct P [(nW, (t0+0), (.int v j3))] 1), some (frmO P [(⟨#[115, 101, 108, 102]⟩, (t0+1), (.ref (A1+150))), (nS, (t0+2), (.int n j2)), (⟨#[109, 115, 103, 73, 110, 102, 111]⟩, (t0+3), (.ref (N+150+0)))] 3)]
def pB0_X (P : Params) (b : Bool) (prog : Program) (cur : Code) (p : Pos) (bl : List (Code × Pos)) (N t0 : Nat) (A0 A1 A2 A3 A4 A5 k0 k1 k2 k3 k4 ti : Nat) (tm : Int) (lM lS lH lQ : IL) (nM' nS' nH' nQ : Nat) (j1 j2 j3 j4 : Nat) (n v : Int) (c : Nat) : Out Flow := (run ⟨prog, swP P b, Mine.hz.ktop_302 P, N+150, t0, [A0+150, A1+150, A2+150, A3+150, A4+150, A5+150]⟩ 100000).t Flow (execs (bodyOf (fdOf P 80)) (envO P 80 (N+150+1))) cur p bl none 0 0 84548084012193040654251941436748630770414270187604761123690807274309866578999521830352825185423329214073317143728800047037998269302665503586955894721668421243197346607218860335699807732844992067487760485406952362967970876028979318410862640624145176355910315350127519212040 (pB0_S P b prog cur p bl N t0 A0 A1 A2 A3 A4 A5 k0 k1 k2 k3 k4 ti tm lM lS lH lQ nM' nS' nH' nQ j1 j2 j3 j4 n v c) (pB0_T P b prog cur p bl N t0 A0 A1 A2 A3 A4 A5 k0 k1 k2 k3 k4 ti tm lM lS lH lQ nM' nS' nH' nQ j1 j2 j3 j4 n v c) 2 4 []
def pB0_L (P : Params) (b : Bool) (prog : Program) (cur : Code) (p : Pos) (bl : List (Code × Pos)) (N t0 : Nat) (A0 A1 A2 A3 A4 A5 k0 k1 k2 k3 k4 ti : Nat) (tm : Int) (lM lS lH lQ : IL) (nM' nS' nH' nQ : Nat) (j1 j2 j3 j4 : Nat) (n v : Int) (c : Nat) := look [0, 1, 2, 3, 4, 5, 7, 9] (pB0_X P b prog cur p bl N t0 A0 A1 A2 A3 A4 A5 k0 k1 k2 k3 k4 ti tm lM lS lH lQ nM' nS' nH' nQ j1 j2 j3 j4 n v c)
def pB0_R (P : Params) (b : Bool) (prog : Program) (cur : Code) (p : Pos) (bl : List (Code × Pos)) (N t0 : Nat) (A0 A1 A2 A3 A4 A5 k0 k1 k2 k3 k4 ti : Nat) (tm : Int) (lM lS lH lQ : IL) (nM' nS' nH' nQ : Nat) (j1 j2 j3 j4 : Nat) (n v : Int) (c : Nat) : Option (Except Value Flow × List (Option Obj) × Nat × Nat × List Ob) := some ((.error (.ref (N+150+3))), [some (cdict P k0 k1 k2 k3 k4 (A2+150) (A3+150) (A4+150) (A5+150) tm ti), some (instO (A0+150)), some (idct lM nM'), some (idct lS nS'), some (idct lH nH'), some (idct lQ nQ), some (frmO P [(⟨#[115, 101, 108, 102]⟩, (t0+1), (.ref (A1+150))), (nS, (t0+2), (.int n j2)), (⟨#[109, 115, 103, 73, 110, 102, 111]⟩, (t0+3), (.ref (N+150+0)))] 3), some ({ cls := (.ref 57), dict := none, data := .fields [(.ref (N+150+10)), .none, .none, .none, (.bool false), .none].toArray } : Obj)], 11, 23, obsOf (pB0_X P b prog cur p bl N t0 A0 A1 A2 A3 A4 A5 k0 k1 k2 k3 k4 ti tm lM lS lH lQ nM' nS' nH' nQ j1 j2 j3 j4 n v c))
theorem pB0_L0 : @pB0_L = pB0_L := rfl
theorem pB0_R0 : @pB0_R = pB0_R := rfl
lay_z Mine.pB0_L Mine.pB0_R
name_z pB0LZ for Mine.pB0_L by Mine.pB0_L0
name_z pB0RZ for Mine.pB0_R by Mine.pB0_R0
theorem pB0_ok (P : Params) (b : Bool) (prog : Program) (cur : Code) (p : Pos) (bl : List (Code × Pos)) (N t0 : Nat) (A0 A1 A2 A3 A4 A5 k0 k1 k2 k3 k4 ti : Nat) (tm : Int) (lM lS lH lQ : IL) (nM' nS' nH' nQ : Nat) (j1 j2 j3 j4 : Nat) (n v : Int) (c : Nat) : pB0_L P b prog cur p bl N t0 A0 A1 A2 A3 A4 A5 k0 k1 k2 k3 k4 ti tm lM lS lH lQ nM' nS' nH' nQ j1 j2 j3 j4 n v c = pB0_R P b prog cur p bl N t0 A0 A1 A2 A3 A4 A5 k0 k1 k2 k3 k4 ti tm lM lS lH lQ nM' nS' nH' nQ j1 j2 j3 j4 n v c := by
  rw [PySem.W.ZFast.pB0LZ_eq, PySem.W.ZFast.pB0RZ_eq]
  cases b <;> kernel_rfl!

def tE1_S (P : Params) (b : Bool) (prog : Program) (cur : Code) (p : Pos) (bl : List (Code × Pos)) (N t0 : Nat) (A0 A1 A2 A3 A4 A5 k0 k1 k2 k3 k4 ti : Nat) (tm : Int) (lM lS lH lQ : IL) (nM' nS' nH' nQ : Nat) (j1 j2 j3 j4 : Nat) (n v : Int) (c : Nat) : List Sm := []
def tE1_T (P : Params) (b : Bool) (prog : Program) (cur : Code) (p : Pos) (bl : List (Code × Pos)) (N t0 : Nat) (A0 A1 A2 A3 A4 A5 k0 k1 k2 k3 k4 ti : Nat) (tm : Int) (lM lS lH lQ : IL) (nM' nS' nH' nQ : Nat) (j1 j2 j3 j4 : Nat) (n v : Int) (c : Nat) : Tab := [some (cdict P k0 k1 k2 k3 k4 (A2+150) (A3+150) (A4+150) (A5+150) tm ti), some (instO (A0+150)), some (idct lM nM'), some (idct lS nS'), some (idct lH nH'), some (idct lQ nQ)]
def tE1_X (P : Params) (b : Bool) (prog : Program) (cur : Code) (p : Pos) (bl : List (Code × Pos)) (N t0 : Nat) (A0 A1 A2 A3 A4 A5 k0 k1 k2 k3 k4 ti : Nat) (tm : Int) (lM lS lH lQ : IL) (nM' nS' nH' nQ : Nat) (j1 j2 j3 j4 : Nat) (n v : Int) (c : Nat) : Out Fin := (run ⟨prog, swP P b, Mine.hz.ktop_302 P, N+150, t0, [A0+150, A1+150, A2+150, A3+150, A4+150, A5+150]⟩ 100000).t Fin (enterTree 137 (fdOf P 137) ⟨[(.ref (A1+150)), (.int 1 j1), (.int n j2), (.int v j3)], []⟩) cur p bl none 0 0 2001599834386880 (tE1_S P b prog cur p bl N t0 A0 A1 A2 A3 A4 A5 k0 k1 k2 k3 k4 ti tm lM lS lH lQ nM' nS' nH' nQ j1 j2 j3 j4 n v c) (tE1_T P b prog cur p bl N t0 A0 A1 A2 A3 A4 A5 k0 k1 k2 k3 k4 ti tm lM lS lH lQ nM' nS' nH' nQ j1 j2 j3 j4 n v c) 0 0 []
def tE1_L (P : Params) (b : Bool) (prog : Program) (cur : Code) (p : Pos) (bl : List (Code × Pos)) (N t0 : Nat) (A0 A1 A2 A3 A4 A5 k0 k1 k2 k3 k4 ti : Nat) (tm : Int) (lM lS lH lQ : IL) (nM' nS' nH' nQ : Nat) (j1 j2 j3 j4 : Nat) (n v : Int) (c : Nat) := look [0, 1, 2, 3, 4, 5, 6] (tE1_X P b prog cur p bl N t0 A0 A1 A2 A3 A4 A5 k0 k1 k2 k3 k4 ti tm lM lS lH lQ nM' nS' nH' nQ j1 j2 j3 j4 n v c)
def tE1_R (P : Params) (b : Bool) (prog : Program) (cur : Code) (p : Pos) (bl : List (Code × Pos)) (N t0 : Nat) (A0 A1 A2 A3 A4 A5 k0 k1 k2 k3 k4 ti : Nat) (tm : Int) (lM lS lH lQ : IL) (nM' nS' nH' nQ : Nat) (j1 j2 j3 j4 : Nat) (n v : Int) (c : Nat) : Option (Except Value Fin × List (Option Obj) × Nat × Nat × List Ob) := some ((.ok (.again (bodyCode (fdOf P 137) (envO P 137 (N+150+0))))), [some (cdict P k0 k1 k2 k3 k4 (A2+150) (A3+150) (A4+150) (A5+150) tm ti), some (instO (A0+150)), some (idct lM nM'), some (idct lS nS'), some (idct lH nH'), some (idct lQ nQ), some (frmO P [(⟨#[107, 101, 112, 116]⟩, (t0+0), (.ref (A1+150))), (⟨#[107, 105, 110, 100]⟩, (t0+1), (.int 1 j1)), (⟨#[110, 117, 109, 98, 101, 114]⟩, (t0+2), (.int n j2)), (⟨#[118, 97, 108, 117, 101]⟩, (t0+3), (.int v j3))] 4)], 1, 4, obsOf (tE1_X P b prog cur p bl N t0 A0 A1 A2 A3 A4 A5 k0 k1 k2 k3 k4 ti tm lM lS lH lQ nM' nS' nH' nQ j1 j2 j3 j4 n v c))
theorem tE1_L0 : @tE1_L = tE1_L := rfl
theorem tE1_R0 : @tE1_R = tE1_R := rfl
lay_z Mine.tE1_L Mine.tE1_R
name_z tE1LZ for Mine.tE1_L by Mine.tE1_L0
name_z tE1RZ for Mine.tE1_R by Mine.tE1_R0
theorem tE1_ok (P : Params) (b : Bool) (prog : Program) (cur : Code) (p : Pos) (bl : List (Code × Pos)) (N t0 : Nat) (A0 A1 A2 A3 A4 A5 k0 k1 k2 k3 k4 ti : Nat) (tm : Int) (lM lS lH lQ : IL) (nM' nS' nH' nQ : Nat) (j1 j2 j3 j4 : Nat) (n v : Int) (c : Nat) : tE1_L P b prog cur p bl N t0 A0 A1 A2 A3 A4 A5 k0 k1 k2 k3 k4 ti tm lM lS lH lQ nM' nS' nH' nQ j1 j2 j3 j4 n v c = tE1_R P b prog cur p bl N t0 A0 A1 A2 A3 A4 A5 k0 k1 k2 k3 k4 ti tm lM lS lH lQ nM' nS' nH' nQ j1 j2 j3 j4 n v c := by
  rw [PySem.W.ZFast.tE1LZ_eq, PySem.W.ZFast.tE1RZ_eq]
  cases b <;> kernel_rfl!

def tB1_S (P : Params) (b : Bool) (prog : Program) (cur : Code) (p : Pos) (bl : List (Code × Pos)) (N t0 : Nat) (A0 A1 A2 A3 A4 A5 k0 k1 k2 k3 k4 ti : Nat) (tm : Int) (lM lS lH lQ : IL) (nM' nS' nH' nQ : Nat) (j1 j2 j3 j4 : Nat) (n v : Int) (c : Nat) : List Sm := [raiseSm (.call (.ref 87) ⟨[(.ref (A1+150)), (.int n j2)], []⟩) [(0, (cdict P k0 k1 k2 k3 k4 (A2+150) (A3+150) (A4+150) (A5+150) tm ti)), (1, (instO (A0+150))), (2, (idct lM nM')), (3, (idct lS nS')), (4, (idct lH nH')), (5, (idct lQ nQ)), (6, (frmO P [(⟨#[107, 101, 112, 116]⟩, (t0+0), (.ref (A1+150))), (⟨#[107, 105, 110, 100]⟩, (t0+1), (.int 1 j1)), (⟨#[110, 117, 109, 98, 101, 114]⟩, (t0+2), (.int n j2)), (⟨#[118, 97, 108, 117, 101]⟩, (t0+3), (.int v j3))] 4))] (N+150+3) 1 (cur :: codesOf bl)]
def tB1_T (P : Params) (b : Bool) (prog : Program) (cur : Code) (p : Pos) (bl : List (Code × Pos)) (N t0 : Nat) (A0 A1 A2 A3 A4 A5 k0 k1 k2 k3 k4 ti : Nat) (tm : Int) (lM lS lH lQ : IL) (nM' nS' nH' nQ : Nat) (j1 j2 j3 j4 : Nat) (n v : Int) (c : Nat) : Tab := [some (cdict P k0 k1 k2 k3 k4 (A2+150) (A3+150) (A4+150) (A5+150) tm ti), some (instO (A0+150)), some (idct lM nM'), some (idct lS nS'), some (idct lH nH'), some (idct lQ nQ), some (frmO P [(⟨#[107, 101, 112, 116]⟩, (t0+0), (.ref (A1+150))), (⟨#[107, 105, 110, 100]⟩, (t0+1), (.int 1 j1)), (⟨#[110, 117, 109, 98, 101, 114]⟩, (t0+2), (.int n j2)), (⟨#[118, 97, 108, 117, 101]⟩, (t0+3), (.int v j3))] 4)]
def tB1_X (P : Params) (b : Bool) (prog : Program) (cur : Code) (p : Pos) (bl : List (Code × Pos)) (N t0 : Nat) (A0 A1 A2 A3 A4 A5 k0 k1 k2 k3 k4 ti : Nat) (tm : Int) (lM lS lH lQ : IL) (nM' nS' nH' nQ : Nat) (j1 j2 j3 j4 : Nat) (n v : Int) (c : Nat) : Out Flow := (run ⟨prog, swP P b, Mine.hz.ktop_302 P, N+150, t0, [A0+150, A1+150, A2+150, A3+150, A4+150, A5+150]⟩ 100000).t Flow (execs (tryB (bodyOf (fdOf P 137))) (envO P 137 (N+150+0))) cur p bl none 0 0 85218247672149200026529987847306084359 (tB1_S P b prog cur p bl N t0 A0 A1 A2 A3 A4 A5 k0 k1 k2 k3 k4 ti tm lM lS lH lQ nM' nS' nH' nQ j1 j2 j3 j4 n v c) (tB1_T P b prog cur p bl N t0 A0 A1 A2 A3 A4 A5 k0 k1 k2 k3 k4 ti tm lM lS lH lQ nM' nS' nH' nQ j1 j2 j3 j4 n v c) 1 4 []
def tB1_L (P : Params) (b : Bool) (prog : Program) (cur : Code) (p : Pos) (bl : List (Code × Pos)) (N t0 : Nat) (A0 A1 A2 A3 A4 A5 k0 k1 k2 k3 k4 ti : Nat) (tm : Int) (lM lS lH lQ : IL) (nM' nS' nH' nQ : Nat) (j1 j2 j3 j4 : Nat) (n v : Int) (c : Nat) := lookD (tB1_X P b prog cur p bl N t0 A0 A1 A2 A3 A4 A5 k0 k1 k2 k3 k4 ti tm lM lS lH lQ nM' nS' nH' nQ j1 j2 j3 j4 n v c)
def tB1_R (P : Params) (b : Bool) (prog : Program) (cur : Code) (p : Pos) (bl : List (Code × Pos)) (N t0 : Nat) (A0 A1 A2 A3 A4 A5 k0 k1 k2 k3 k4 ti : Nat) (tm : Int) (lM lS lH lQ : IL) (nM' nS' nH' nQ : Nat) (j1 j2 j3 j4 : Nat) (n v : Int) (c : Nat) : Option (Except Value Flow × Bool × List Ob) := some ((.error (.ref (N+150+3))), false, obsOf (tB1_X P b prog cur p bl N t0 A0 A1 A2 A3 A4 A5 k0 k1 k2 k3 k4 ti tm lM lS lH lQ nM' nS' nH' nQ j1 j2 j3 j4 n v c))
theorem tB1_L0 : @tB1_L = tB1_L := rfl
theorem tB1_R0 : @tB1_R = tB1_R := rfl
lay_z Mine.tB1_L Mine.tB1_R
name_z tB1LZ for Mine.tB1_L by Mine.tB1_L0
name_z tB1RZ for Mine.tB1_R by Mine.tB1_R0
theorem tB1_ok (P : Params) (b : Bool) (prog : Program) (cur : Code) (p : Pos) (bl : List (Code × Pos)) (N t0 : Nat) (A0 A1 A2 A3 A4 A5 k0 k1 k2 k3 k4 ti : Nat) (tm : Int) (lM lS lH lQ : IL) (nM' nS' nH' nQ : Nat) (j1 j2 j3 j4 : Nat) (n v : Int) (c : Nat) : tB1_L P b prog cur p bl N t0 A0 A1 A2 A3 A4 A5 k0 k1 k2 k3 k4 ti tm lM lS lH lQ nM' nS' nH' nQ j1 j2 j3 j4 n v c = tB1_R P b prog cur p bl N t0 A0 A1 A2 A3 A4 A5 k0 k1 k2 k3 k4 ti tm lM lS lH lQ nM' nS' nH' nQ j1 j2 j3 j4 n v c := by
  rw [PySem.W.ZFast.tB1LZ_eq, PySem.W.ZFast.tB1RZ_eq]
  cases b <;> kernel_rfl!

def pE1_S (P : Params) (b : Bool) (prog : Program) (cur : Code) (p : Pos) (bl : List (Code × Pos)) (N t0 : Nat) (A0 A1 A2 A3 A4 A5 k0 k1 k2 k3 k4 ti : Nat) (tm : Int) (lM lS lH lQ : IL) (nM' nS' nH' nQ : Nat) (j1 j2 j3 j4 : Nat) (n v : Int) (c : Nat) : List Sm := []
def pE1_T (P : Params) (b : Bool) (prog : Program) (cur : Code) (p : Pos) (bl : List (Code × Pos)) (N t0 : Nat) (A0 A1 A2 A3 A4 A5 k0 k1 k2 k3 k4 ti : Nat) (tm : Int) (lM lS lH lQ : IL) (nM' nS' nH' nQ : Nat) (j1 j2 j3 j4 : Nat) (n v : Int) (c : Nat) : Tab := [some (cdict P k0 k1 k2 k3 k4 (A2+150) (A3+150) (A4+150) (A5+150) tm ti), some (instO (A0+150)), some (idct lM nM'), some (idct lS nS'), some (idct lH nH'), some (idct lQ nQ)]
def pE1_X (P : Params) (b : Bool) (prog : Program) (cur : Code) (p : Pos) (bl : List (Code × Pos)) (N t0 : Nat) (A0 A1 A2 A3 A4 A5 k0 k1 k2 k3 k4 ti : Nat) (tm : Int) (lM lS lH lQ : IL) (nM' nS' nH' nQ : Nat) (j1 j2 j3 j4 : Nat) (n v : Int) (c : Nat) : Out Fin := (run ⟨prog, swP P b, Mine.hz.ktop_302 P, N+150, t0, [A0+150, A1+150, A2+150, A3+150, A4+150, A5+150]⟩ 100000).t Fin (enterTree 87 (fdOf P 87) ⟨[(.ref (A1+150)), (.int n j2)], []⟩) cur p bl none 0 0 119304640 (pE1_S P b prog cur p bl N t0 A0 A1 A2 A3 A4 A5 k0 k1 k2 k3 k4 ti tm lM lS lH lQ nM' nS' nH' nQ j1 j2 j3 j4 n v c) (pE1_T P b prog cur p bl N t0 A0 A1 A2 A3 A4 A5 k0 k1 k2 k3 k4 ti tm lM lS lH lQ nM' nS' nH' nQ j1 j2 j3 j4 n v c) 0 0 []
def pE1_L (P : Params) (b : Bool) (prog : Program) (cur : Code) (p : Pos) (bl : List (Code × Pos)) (N t0 : Nat) (A0 A1 A2 A3 A4 A5 k0 k1 k2 k3 k4 ti : Nat) (tm : Int) (lM lS lH lQ : IL) (nM' nS' nH' nQ : Nat) (j1 j2 j3 j4 : Nat) (n v : Int) (c : Nat) := look [0, 1, 2, 3, 4, 5, 6] (pE1_X P b prog cur p bl N t0 A0 A1 A2 A3 A4 A5 k0 k1 k2 k3 k4 ti tm lM lS lH lQ nM' nS' nH' nQ j1 j2 j3 j4 n v c)
def pE1_R (P : Params) (b : Bool) (prog : Program) (cur : Code) (p : Pos) (bl : List (Code × Pos)) (N t0 : Nat) (A0 A1 A2 A3 A4 A5 k0 k1 k2 k3 k4 ti : Nat) (tm : Int) (lM lS lH lQ : IL) (nM' nS' nH' nQ : Nat) (j1 j2 j3 j4 : Nat) (n v : Int) (c : Nat) : Option (Except Value Fin × List (Option Obj) × Nat × Nat × List Ob) := some ((.ok (.again (bodyCode (fdOf P 87) (envO P 87 (N+150+0))))), [some (cdict P k0 k1 k2 k3 k4 (A2+150) (A3+150) (A4+150) (A5+150) tm ti), some (instO (A0+150)), some (idct lM nM'), some (idct lS nS'), some (idct lH nH'), some (idct lQ nQ), some (frmO P [(⟨#[115, 101, 108, 102]⟩, (t0+0), (.ref (A1+150))), (nS, (t0+1), (.int n j2))] 2)], 1, 2, obsOf (pE1_X P b prog cur p bl N t0 A0 A1 A2 A3 A4 A5 k0 k1 k2 k3 k4 ti tm lM lS lH lQ nM' nS' nH' nQ j1 j2 j3 j4 n v c))
theorem pE1_L0 : @pE1_L = pE1_L := rfl
theorem pE1_R0 : @pE1_R = pE1_R := rfl
lay_z Mine.pE1_L Mine.pE1_R
name_z pE1LZ for Mine.pE1_L by Mine.pE1_L0
name_z pE1RZ for Mine.pE1_R by Mine.pE1_R0
theorem pE1_ok (P : Params) (b : Bool) (prog : Program) (cur : Code) (p : Pos) (bl : List (Code × Pos)) (N t0 : Nat) (A0 A1 A2 A3 A4 A5 k0 k1 k2 k3 k4 ti : Nat) (tm : Int) (lM lS lH lQ : IL) (nM' nS' nH' nQ : Nat) (j1 j2 j3 j4 : Nat) (n v : Int) (c : Nat) : pE1_L P b prog cur p bl N t0 A0 A1 A2 A3 A4 A5 k0 k1 k2 k3 k4 ti tm lM lS lH lQ nM' nS' nH' nQ j1 j2 j3 j4 n v c = pE1_R P b prog cur p bl N t0 A0 A1 A2 A3 A4 A5 k0 k1 k2 k3 k4 ti tm lM lS lH lQ nM' nS' nH' nQ j1 j2 j3 j4 n v c := by
  rw [PySem.W.ZFast.pE1LZ_eq, PySem.W.ZFast.pE1RZ_eq]
  cases b <;> kernel_rfl!

def pB1_S (P : Params) (b : Bool) (prog : Program) (cur : Code) (p : Pos) (bl : List (Code × Pos)) (N t0 : Nat) (A0 A1 A2 A3 A4 A5 k0 k1 k2 k3 k4 ti : Nat) (tm : Int) (lM lS lH lQ : IL) (nM' nS' nH' nQ : Nat) (j1 j2 j3 j4 : Nat) (n v : Int) (c : Nat) : List Sm := [mkSm t0 (.hasI 3 (A3+150) lS nS' n j2 false), mkSm t0 (.fmt n j2 (t0+5) c), mkSm t0 (.collect 11 (N+150+5) (N+150) [(.str ⟨#[67, 97, 99, 104, 101, 32, 109, 105, 115, 115, 32, 102, 111, 114, 32, 115, 116, 97, 116, 101, 82, 101, 102, 101, 114, 101, 110, 99, 101, 61, c]⟩ (t0+7))])]
def pB1_T (P : Params) (b : Bool) (prog : Program) (cur : Code) (p : Pos) (bl : List (Code × Pos)) (N t0 : Nat) (A0 A1 A2 A3 A4 A5 k0 k1 k2 k3 k4 ti : Nat) (tm : Int) (lM lS lH lQ : IL) (nM' nS' nH' nQ : Nat) (j1 j2 j3 j4 : Nat) (n v : Int) (c : Nat) : Tab := [some (cdict P k0 k1 k2 k3 k4 (A2+150) (A3+150) (A4+150) (A5+150) tm ti), some (instO (A0+150)), some (idct lM nM'), some (idct lS nS'), some (idct lH nH'), some (idct lQ nQ), some (frmO P [(⟨#[115, 101, 108, 102]⟩, (t0+0), (.ref (A1+150))), (nS, (t0+1), (.int n j2))] 2)]
def pB1_X (P : Params) (b : Bool) (prog : Program) (cur : Code) (p : Pos) (bl : List (Code × Pos)) (N t0 : Nat) (A0 A1 A2 A3 A4 A5 k0 k1 k2 k3 k4 ti : Nat) (tm : Int) (lM lS lH lQ : IL) (nM' nS' nH' nQ : Nat) (j1 j2 j3 j4 : Nat) (n v : Int) (c : Nat) : Out Flow := (run ⟨prog, swP P b, Mine.hz.ktop_302 P, N+150, t0, [A0+150, A1+150, A2+150, A3+150, A4+150, A5+150]⟩ 100000).t Flow (execs (bodyOf (fdOf P 87)) (envO P 87 (N+150+0))) cur p bl none 0 0 76093275610973736588826747293137955229037208677343110336391603106366554858632672639557700463702638450994493114966785746141627774923043656939537533905781798729062989121708128577073592309285581870578188435036781771689813785967681161494081574889029169911784978891844909801927 (pB1_S P b prog cur p bl N t0 A0 A1 A2 A3 A4 A5 k0 k1 k2 k3 k4 ti tm lM lS lH lQ nM' nS' nH' nQ j1 j2 j3 j4 n v c) (pB1_T P b prog cur p bl N t0 A0 A1 A2 A3 A4 A5 k0 k1 k2 k3 k4 ti tm lM lS lH lQ nM' nS' nH' nQ j1 j2 j3 j4 n v c) 1 2 []
def pB1_L (P : Params) (b : Bool) (prog : Program) (cur : Code) (p : Pos) (bl : List (Code × Pos)) (N t0 : Nat) (A0 A1 A2 A3 A4 A5 k0 k1 k2 k3 k4 ti : Nat) (tm : Int) (lM lS lH lQ : IL) (nM' nS' nH' nQ : Nat) (j1 j2 j3 j4 : Nat) (n v : Int) (c : Nat) := look [0, 1, 2, 3, 4, 5, 6, 8] (pB1_X P b prog cur p bl N t0 A0 A1 A2 A3 A4 A5 k0 k1 k2 k3 k4 ti tm lM lS lH lQ nM' nS' nH' nQ j1 j2 j3 j4 n v c)
def pB1_R (P : Params) (b : Bool) (prog : Program) (cur : Code) (p : Pos) (bl : List (Code × Pos)) (N t0 : Nat) (A0 A1 A2 A3 A4 A5 k0 k1 k2 k3 k4 ti : Nat) (tm : Int) (lM lS lH lQ : IL) (nM' nS' nH' nQ : Nat) (j1 j2 j3 j4 : Nat) (n v : Int) (c : Nat) : Option (Except Value Flow × List (Option Obj) × Nat × Nat × List Ob) := some ((.error (.ref (N+150+2))), [some (cdict P k0 k1 k2 k3 k4 (A2+150) (A3+150) (A4+150) (A5+150) tm ti), some (instO (A0+150)), some (idct lM nM'), some (idct lS nS'), some (idct lH nH'), some (idct lQ nQ), some (frmO P [(⟨#[115, 101, 108, 102]⟩, (t0+0), (.ref (A1+150))), (nS, (t0+1), (.int n j2))] 2), some ({ cls := (.ref 57), dict := none, data := .fields [(.ref (N+150+9)), .none, .none, .none, (.bool false), .none].toArray } : Obj)], 10, 21, obsOf (pB1_X P b prog cur p bl N t0 A0 A1 A2 A3 A4 A5 k0 k1 k2 k3 k4 ti tm lM lS lH lQ nM' nS' nH' nQ j1 j2 j3 j4 n v c))
theorem pB1_L0 : @pB1_L = pB1_L := rfl
theorem pB1_R0 : @pB1_R = pB1_R := rfl
lay_z Mine.pB1_L Mine.pB1_R
name_z pB1LZ for Mine.pB1_L by Mine.pB1_L0
name_z pB1RZ for Mine.pB1_R by Mine.pB1_R0
theorem pB1_ok (P : Params) (b : Bool) (prog : Program) (cur : Code) (p : Pos) (bl : List (Code × Pos)) (N t0 : Nat) (A0 A1 A2 A3 A4 A5 k0 k1 k2 k3 k4 ti : Nat) (tm : Int) (lM lS lH lQ : IL) (nM' nS' nH' nQ : Nat) (j1 j2 j3 j4 : Nat) (n v : Int) (c : Nat) : pB1_L P b prog cur p bl N t0 A0 A1 A2 A3 A4 A5 k0 k1 k2 k3 k4 ti tm lM lS lH lQ nM' nS' nH' nQ j1 j2 j3 j4 n v c = pB1_R P b prog cur p bl N t0 A0 A1 A2 A3 A4 A5 k0 k1 k2 k3 k4 ti tm lM lS lH lQ nM' nS' nH' nQ j1 j2 j3 j4 n v c := by
  rw [PySem.W.ZFast.pB1LZ_eq, PySem.W.ZFast.pB1RZ_eq]
  cases b <;> kernel_rfl!

def tE2_S (P : Params) (b : Bool) (prog : Program) (cur : Code) (p : Pos) (bl : List (Code × Pos)) (N t0 : Nat) (A0 A1 A2 A3 A4 A5 k0 k1 k2 k3 k4 ti : Nat) (tm : Int) (lM lS lH lQ : IL) (nM' nS' nH' nQ : Nat) (j1 j2 j3 j4 : Nat) (n v : Int) (c : Nat) : List Sm := []
def tE2_T (P : Params) (b : Bool) (prog : Program) (cur : Code) (p : Pos) (bl : List (Code × Pos)) (N t0 : Nat) (A0 A1 A2 A3 A4 A5 k0 k1 k2 k3 k4 ti : Nat) (tm : Int) (lM lS lH lQ : IL) (nM' nS' nH' nQ : Nat) (j1 j2 j3 j4 : Nat) (n v : Int) (c : Nat) : Tab := [some (cdict P k0 k1 k2 k3 k4 (A2+150) (A3+150) (A4+150) (A5+150) tm ti), some (instO (A0+150)), some (idct lM nM'), some (idct lS nS'), some (idct lH nH'), some (idct lQ nQ)]
def tE2_X (P : Params) (b : Bool) (prog : Program) (cur : Code) (p : Pos) (bl : List (Code × Pos)) (N t0 : Nat) (A0 A1 A2 A3 A4 A5 k0 k1 k2 k3 k4 ti : Nat) (tm : Int) (lM lS lH lQ : IL) (nM' nS' nH' nQ : Nat) (j1 j2 j3 j4 : Nat) (n v : Int) (c : Nat) : Out Fin := (run ⟨prog, swP P b, Mine.hz.ktop_302 P, N+150, t0, [A0+150, A1+150, A2+150, A3+150, A4+150, A5+150]⟩ 100000).t Fin (enterTree 137 (fdOf P 137) ⟨[(.ref (A1+150)), (.int 2 j1), (.int n j2), (.int v j3)], []⟩) cur p bl none 0 0 2001599834386880 (tE2_S P b prog cur p bl N t0 A0 A1 A2 A3 A4 A5 k0 k1 k2 k3 k4 ti tm lM lS lH lQ nM' nS' nH' nQ j1 j2 j3 j4 n v c) (tE2_T P b prog cur p bl N t0 A0 A1 A2 A3 A4 A5 k0 k1 k2 k3 k4 ti tm lM lS lH lQ nM' nS' nH' nQ j1 j2 j3 j4 n v c) 0 0 []
def tE2_L (P : Params) (b : Bool) (prog : Program) (cur : Code) (p : Pos) (bl : List (Code × Pos)) (N t0 : Nat) (A0 A1 A2 A3 A4 A5 k0 k1 k2 k3 k4 ti : Nat) (tm : Int) (lM lS lH lQ : IL) (nM' nS' nH' nQ : Nat) (j1 j2 j3 j4 : Nat) (n v : Int) (c : Nat) := look [0, 1, 2, 3, 4, 5, 6] (tE2_X P b prog cur p bl N t0 A0 A1 A2 A3 A4 A5 k0 k1 k2 k3 k4 ti tm lM lS lH lQ nM' nS' nH' nQ j1 j2 j3 j4 n v c)
def tE2_R (P : Params) (b : Bool) (prog : Program) (cur : Code) (p : Pos) (bl : List (Code × Pos)) (N t0 : Nat) (A0 A1 A2 A3 A4 A5 k0 k1 k2 k3 k4 ti : Nat) (tm : Int) (lM lS lH lQ : IL) (nM' nS' nH' nQ : Nat) (j1 j2 j3 j4 : Nat) (n v : Int) (c : Nat) : Option (Except Value Fin × List (Option Obj) × Nat × Nat × List Ob) := some ((.ok (.again (bodyCode (fdOf P 137) (envO P 137 (N+150+0))))), [some (cdict P k0 k1 k2 k3 k4 (A2+150) (A3+150) (A4+150) (A5+150) tm ti), some (instO (A0+150)), some (idct lM nM'), some (idct lS nS'), some (idct lH nH'), some (idct lQ nQ), some (frmO P [(⟨#[107, 101, 112, 116]⟩, (t0+0), (.ref (A1+150))), (⟨#[107, 105, 110, 100]⟩, (t0+1), (.int 2 j1)), (⟨#[110, 117, 109, 98, 101, 114]⟩, (t0+2), (.int n j2)), (⟨#[118, 97, 108, 117, 101]⟩, (t0+3), (.int v j3))] 4)], 1, 4, obsOf (tE2_X P b prog cur p bl N t0 A0 A1 A2 A3 A4 A5 k0 k1 k2 k3 k4 ti tm lM lS lH lQ nM' nS' nH' nQ j1 j2 j3 j4 n v c))
theorem tE2_L0 : @tE2_L = tE2_L := rfl
theorem tE2_R0 : @tE2_R = tE2_R := rfl
lay_z Mine.tE2_L Mine.tE2_R
name_z tE2LZ for Mine.tE2_L by Mine.tE2_L0
name_z tE2RZ for Mine.tE2_R by Mine.tE2_R0
theorem tE2_ok (P : Params) (b : Bool) (prog : Program) (cur : Code) (p : Pos) (bl : List (Code × Pos)) (N t0 : Nat) (A0 A1 A2 A3 A4 A5 k0 k1 k2 k3 k4 ti : Nat) (tm : Int) (lM lS lH lQ : IL) (nM' nS' nH' nQ : Nat) (j1 j2 j3 j4 : Nat) (n v : Int) (c : Nat) : tE2_L P b prog cur p bl N t0 A0 A1 A2 A3 A4 A5 k0 k1 k2 k3 k4 ti tm lM lS lH lQ nM' nS' nH' nQ j1 j2 j3 j4 n v c = tE2_R P b prog cur p bl N t0 A0 A1 A2 A3 A4 A5 k0 k1 k2 k3 k4 ti tm lM lS lH lQ nM' nS' nH' nQ j1 j2 j3 j4 n v c := by
  rw [PySem.W.ZFast.tE2LZ_eq, PySem.W.ZFast.tE2RZ_eq]
  cases b <;> kernel_rfl!

def tB2_S (P : Params) (b : Bool) (prog : Program) (cur : Code) (p : Pos) (bl : List (Code × Pos)) (N t0 : Nat) (A0 A1 A2 A3 A4 A5 k0 k1 k2 k3 k4 ti : Nat) (tm : Int) (lM lS lH lQ : IL) (nM' nS' nH' nQ : Nat) (j1 j2 j3 j4 : Nat) (n v : Int) (c : Nat) : List Sm := [raiseSm (.call (.ref 94) ⟨[(.ref (A1+150)), (.int n j2)], [(nH, (.int (100+n) (t0+9))), (nW, (.int v j3))]⟩) [(0, (cdict P k0 k1 k2 k3 k4 (A2+150) (A3+150) (A4+150) (A5+150) tm ti)), (1, (instO (A0+150))), (2, (idct lM nM')), (3, (idct lS nS')), (4, (idct lH nH')), (5, (idct lQ nQ)), (6, (frmO P [(⟨#[107, 101, 112, 116]⟩, (t0+0), (.ref (A1+150))), (⟨#[107, 105, 110, 100]⟩, (t0+1), (.int 2 j1)), (⟨#[110, 117, 109, 98, 101, 114]⟩, (t0+2), (.int n j2)), (⟨#[118, 97, 108, 117, 101]⟩, (t0+3), (.int v j3))] 4))] (N+150+4) 1 (cur :: codesOf bl)]
def tB2_T (P : Params) (b : Bool) (prog : Program) (cur : Code) (p : Pos) (bl : List (Code × Pos)) (N t0 : Nat) (A0 A1 A2 A3 A4 A5 k0 k1 k2 k3 k4 ti : Nat) (tm : Int) (lM lS lH lQ : IL) (nM' nS' nH' nQ : Nat) (j1 j2 j3 j4 : Nat) (n v : Int) (c : Nat) : Tab := [some (cdict P k0 k1 k2 k3 k4 (A2+150) (A3+150) (A4+150) (A5+150) tm ti), some (instO (A0+150)), some (idct lM nM'), some (idct lS nS'), some (idct lH nH'), some (idct lQ nQ), some (frmO P [(⟨#[107, 101, 112, 116]⟩, (t0+0), (.ref (A1+150))), (⟨#[107, 105, 110, 100]⟩, (t0+1), (.int 2 j1)), (⟨#[110, 117, 109, 98, 101, 114]⟩, (t0+2), (.int n j2)), (⟨#[118, 97, 108, 117, 101]⟩, (t0+3), (.int v j3))] 4)]
def tB2_X (P : Params) (b : Bool) (prog : Program) (cur : Code) (p : Pos) (bl : List (Code × Pos)) (N t0 : Nat) (A0 A1 A2 A3 A4 A5 k0 k1 k2 k3 k4 ti : Nat) (tm : Int) (lM lS lH lQ : IL) (nM' nS' nH' nQ : Nat) (j1 j2 j3 j4 : Nat) (n v : Int) (c : Nat) : Out Flow := (run ⟨prog, swP P b, Mine.hz.ktop_302 P, N+150, t0, [A0+150, A1+150, A2+150, A3+150, A4+150, A5+150]⟩ 100000).t Flow (execs (tryB (bodyOf (fdOf P 137))) (envO P 137 (N+150+0))) cur p bl none 0 0 374783828600894542413401085614109874519777413431303 (tB2_S P b prog cur p bl N t0 A0 A1 A2 A3 A4 A5 k0 k1 k2 k3 k4 ti tm lM lS lH lQ nM' nS' nH' nQ j1 j2 j3 j4 n v c) (tB2_T P b prog cur p bl N t0 A0 A1 A2 A3 A4 A5 k0 k1 k2 k3 k4 ti tm lM lS lH lQ nM' nS' nH' nQ j1 j2 j3 j4 n v c) 1 4 []
def tB2_L (P : Params) (b : Bool) (prog : Program) (cur : Code) (p : Pos) (bl : List (Code × Pos)) (N t0 : Nat) (A0 A1 A2 A3 A4 A5 k0 k1 k2 k3 k4 ti : Nat) (tm : Int) (lM lS lH lQ : IL) (nM' nS' nH' nQ : Nat) (j1 j2 j3 j4 : Nat) (n v : Int) (c : Nat) := lookD (tB2_X P b prog cur p bl N t0 A0 A1 A2 A3 A4 A5 k0 k1 k2 k3 k4 ti tm lM lS lH lQ nM' nS' nH' nQ j1 j2 j3 j4 n v c)
def tB2_R (P : Params) (b : Bool) (prog : Program) (cur : Code) (p : Pos) (bl : List (Code × Pos)) (N t0 : Nat) (A0 A1 A2 A3 A4 A5 k0 k1 k2 k3 k4 ti : Nat) (tm : Int) (lM lS lH lQ : IL) (nM' nS' nH' nQ : Nat) (j1 j2 j3 j4 : Nat) (n v : Int) (c : Nat) : Option (Except Value Flow × Bool × List Ob) := some ((.error (.ref (N+150+4))), false, obsOf (tB2_X P b prog cur p bl N t0 A0 A1 A2 A3 A4 A5 k0 k1 k2 k3 k4 ti tm lM lS lH lQ nM' nS' nH' nQ j1 j2 j3 j4 n v c))
theorem tB2_L0 : @tB2_L = tB2_L := rfl
theorem tB2_R0 : @tB2_R = tB2_R := rfl
lay_z Mine.tB2_L Mine.tB2_R
name_z tB2LZ for Mine.tB2_L by Mine.tB2_L0
name_z tB2RZ for Mine.tB2_R by Mine.tB2_R0
theorem tB2_ok (P : Params) (b : Bool) (prog : Program) (cur : Code) (p : Pos) (bl : List (Code × Pos)) (N t0 : Nat) (A0 A1 A2 A3 A4 A5 k0 k1 k2 k3 k4 ti : Nat) (tm : Int) (lM lS lH lQ : IL) (nM' nS' nH' nQ : Nat) (j1 j2 j3 j4 : Nat) (n v : Int) (c : Nat) : tB2_L P b prog cur p bl N t0 A0 A1 A2 A3 A4 A5 k0 k1 k2 k3 k4 ti tm lM lS lH lQ nM' nS' nH' nQ j1 j2 j3 j4 n v c = tB2_R P b prog cur p bl N t0 A0 A1 A2 A3 A4 A5 k0 k1 k2 k3 k4 ti tm lM lS lH lQ nM' nS' nH' nQ j1 j2 j3 j4 n v c := by
  rw [PySem.W.ZFast.tB2LZ_eq, PySem.W.ZFast.tB2RZ_eq]
  cases b <;> kernel_rfl!

def pE2_S (P : Params) (b : Bool) (prog : Program) (cur : Code) (p : Pos) (bl : List (Code × Pos)) (N t0 : Nat) (A0 A1 A2 A3 A4 A5 k0 k1 k2 k3 k4 ti : Nat) (tm : Int) (lM lS lH lQ : IL) (nM' nS' nH' nQ : Nat) (j1 j2 j3 j4 : Nat) (n v : Int) (c : Nat) : List Sm := []
def pE2_T (P : Params) (b : Bool) (prog : Program) (cur : Code) (p : Pos) (bl : List (Code × Pos)) (N t0 : Nat) (A0 A1 A2 A3 A4 A5 k0 k1 k2 k3 k4 ti : Nat) (tm : Int) (lM lS lH lQ : IL) (nM' nS' nH' nQ : Nat) (j1 j2 j3 j4 : Nat) (n v : Int) (c : Nat) : Tab := [some (cdict P k0 k1 k2 k3 k4 (A2+150) (A3+150) (A4+150) (A5+150) tm ti), some (instO (A0+150)), some (idct lM nM'), some (idct lS nS'), some (idct lH nH'), some (idct lQ nQ)]
def pE2_X (P : Params) (b : Bool) (prog : Program) (cur : Code) (p : Pos) (bl : List (Code × Pos)) (N t0 : Nat) (A0 A1 A2 A3 A4 A5 k0 k1 k2 k3 k4 ti : Nat) (tm : Int) (lM lS lH lQ : IL) (nM' nS' nH' nQ : Nat) (j1 j2 j3 j4 : Nat) (n v : Int) (c : Nat) : Out Fin := (run ⟨prog, swP P b, Mine.hz.ktop_302 P, N+150, t0, [A0+150, A1+150, A2+150, A3+150, A4+150, A5+150]⟩ 100000).t Fin (enterTree 94 (fdOf P 94) ⟨[(.ref (A1+150)), (.int n j2)], [(nH, (.int (100+n) j4)), (nW, (.int v j3))]⟩) cur p bl none 0 0 9369774767581458880 (pE2_S P b prog cur p bl N t0 A0 A1 A2 A3 A4 A5 k0 k1 k2 k3 k4 ti tm lM lS lH lQ nM' nS' nH' nQ j1 j2 j3 j4 n v c) (pE2_T P b prog cur p bl N t0 A0 A1 A2 A3 A4 A5 k0 k1 k2 k3 k4 ti tm lM lS lH lQ nM' nS' nH' nQ j1 j2 j3 j4 n v c) 0 0 []
def pE2_L (P : Params) (b : Bool) (prog : Program) (cur : Code) (p : Pos) (bl : List (Code × Pos)) (N t0 : Nat) (A0 A1 A2 A3 A4 A5 k0 k1 k2 k3 k4 ti : Nat) (tm : Int) (lM lS lH lQ : IL) (nM' nS' nH' nQ : Nat) (j1 j2 j3 j4 : Nat) (n v : Int) (c : Nat) := look [0, 1, 2, 3, 4, 5, 6, 7] (pE2_X P b prog cur p bl N t0 A0 A1 A2 A3 A4 A5 k0 k1 k2 k3 k4 ti tm lM lS lH lQ nM' nS' nH' nQ j1 j2 j3 j4 n v c)
def pE2_R (P : Params) (b : Bool) (prog : Program) (cur : Code) (p : Pos) (bl : List (Code × Pos)) (N t0 : Nat) (A0 A1 A2 A3 A4 A5 k0 k1 k2 k3 k4 ti : Nat) (tm : Int) (lM lS lH lQ : IL) (nM' nS' nH' nQ : Nat) (j1 j2 j3 j4 : Nat) (n v : Int) (c : Nat) : Option (Except Value Fin × List (Option Obj) × Nat × Nat × List Ob) := some ((.ok (.again (bodyCode (fdOf P 94) (envO P 94 (N+150+1))))), [some (cdict P k0 k1 k2 k3 k4 (A2+150) (A3+150) (A4+150) (A5+150) tm ti), some (instO (A0+150)), some (idct lM nM'), some (idct lS nS'), some (idct lH nH'), some (idct lQ nQ), some (sdct P [(nH, (t0+0), (.int (100+n) j4)), (nW, (t0+1), (.int v j3))] 2), some (frmO P [(⟨#[115, 101, 108, 102]⟩, (t0+2), (.ref (A1+150))), (nM, (t0+3), (.int n j2)), (⟨#[109, 115, 103, 73, 110, 102, 111]⟩, (t0+4), (.ref (N+150+0)))] 3)], 2, 5, obsOf (pE2_X P b prog cur p bl N t0 A0 A1 A2 A3 A4 A5 k0 k1 k2 k3 k4 ti tm lM lS lH lQ nM' nS' nH' nQ j1 j2 j3 j4 n v c))
theorem pE2_L0 : @pE2_L = pE2_L := rfl
theorem pE2_R0 : @pE2_R = pE2_R := rfl
lay_z Mine.pE2_L Mine.pE2_R
name_z pE2LZ for Mine.pE2_L by Mine.pE2_L0
name_z pE2RZ for Mine.pE2_R by Mine.pE2_R0
theorem pE2_ok (P : Params) (b : Bool) (prog : Program) (cur : Code) (p : Pos) (bl : List (Code × Pos)) (N t0 : Nat) (A0 A1 A2 A3 A4 A5 k0 k1 k2 k3 k4 ti : Nat) (tm : Int) (lM lS lH lQ : IL) (nM' nS' nH' nQ : Nat) (j1 j2 j3 j4 : Nat) (n v : Int) (c : Nat) : pE2_L P b prog cur p bl N t0 A0 A1 A2 A3 A4 A5 k0 k1 k2 k3 k4 ti tm lM lS lH lQ nM' nS' nH' nQ j1 j2 j3 j4 n v c = pE2_R P b prog cur p bl N t0 A0 A1 A2 A3 A4 A5 k0 k1 k2 k3 k4 ti tm lM lS lH lQ nM' nS' nH' nQ j1 j2 j3 j4 n v c := by
  rw [PySem.W.ZFast.pE2LZ_eq, PySem.W.ZFast.pE2RZ_eq]
  cases b <;> kernel_rfl!

def pB2_S (P : Params) (b : Bool) (prog : Program) (cur : Code) (p : Pos) (bl : List (Code × Pos)) (N t0 : Nat) (A0 A1 A2 A3 A4 A5 k0 k1 k2 k3 k4 ti : Nat) (tm : Int) (lM lS lH lQ : IL) (nM' nS' nH' nQ : Nat) (j1 j2 j3 j4 : Nat) (n v : Int) (c : Nat) : List Sm := [mkSm t0 (.hasI 2 (A2+150) lM nM' n j2 true), mkSm t0 (.fmt n j2 (t0+8) c), mkSm t0 (.collect 12 (N+150+6) (N+150) [(.str ⟨#[67, 97, 99, 104, 101, 32, 100, 117, 112, 32, 102, 111, 114, 32, 109, 115, 103, 73, 100, 61, c]⟩ (t0+10))])]
def pB2_T (P : Params) (b : Bool) (prog : Program) (cur : Code) (p : Pos) (bl : List (Code × Pos)) (N t0 : Nat) (A0 A1 A2 A3 A4 A5 k0 k1 k2 k3 k4 ti : Nat) (tm : Int) (lM lS lH lQ : IL) (nM' nS' nH' nQ : Nat) (j1 j2 j3 j4 : Nat) (n v : Int) (c : Nat) : Tab := [some (cdict P k0 k1 k2 k3 k4 (A2+150) (A3+150) (A4+150) (A5+150) tm ti), some (instO (A0+150)), some (idct lM nM'), some (idct lS nS'), some (idct lH nH'), some (idct lQ nQ), some (sdct P [(nH, (t0+0), (.int (100+n) j4)), (nW, (t0+1), (.int v j3))] 2), some (frmO P [(⟨#[115, 101, 108, 102]⟩, (t0+2), (.ref (A1+150))), (nM, (t0+3), (.int n j2)), (⟨#[109, 115, 103, 73, 110, 102, 111]⟩, (t0+4), (.ref (N+150+0)))] 3)]
def pB2_X (P : Params) (b : Bool) (prog : Program) (cur : Code) (p : Pos) (bl : List (Code × Pos)) (N t0 : Nat) (A0 A1 A2 A3 A4 A5 k0 k1 k2 k3 k4 ti : Nat) (tm : Int) (lM lS lH lQ : IL) (nM' nS' nH' nQ : Nat) (j1 j2 j3 j4 : Nat) (n v : Int) (c : Nat) : Out Flow := (run ⟨prog, swP P b, Mine.hz.ktop_302 P, N+150, t0, [A0+150, A1+150, A2+150, A3+150, A4+150, A5+150]⟩ 100000).t Flow (execs (bodyOf (fdOf P 94)) (envO P 94 (N+150+1))) cur p bl none 0 0 84548084012193040654251941436748630770414270187604761123690807274309866578999521830352825185423329214073317143728800047037998269302665503586955894721668421243197346607218860335699807732844992067487760485406952362967970876028979318410862640624064710253356765632259076137480 (pB2_S P b prog cur p bl N t0 A0 A1 A2 A3 A4 A5 k0 k1 k2 k3 k4 ti tm lM lS lH lQ nM' nS' nH' nQ j1 j2 j3 j4 n v c) (pB2_T P b prog cur p bl N t0 A0 A1 A2 A3 A4 A5 k0 k1 k2 k3 k4 ti tm lM lS lH lQ nM' nS' nH' nQ j1 j2 j3 j4 n v c) 2 5 []
def pB2_L (P : Params) (b : Bool) (prog : Program) (cur : Code) (p : Pos) (bl : List (Code × Pos)) (N t0 : Nat) (A0 A1 A2 A3 A4 A5 k0 k1 k2 k3 k4 ti : Nat) (tm : Int) (lM lS lH lQ : IL) (nM' nS' nH' nQ : Nat) (j1 j2 j3 j4 : Nat) (n v : Int) (c : Nat) := look [0, 1, 2, 3, 4, 5, 7, 9] (pB2_X P b prog cur p bl N t0 A0 A1 A2 A3 A4 A5 k0 k1 k2 k3 k4 ti tm lM lS lH lQ nM' nS' nH' nQ j1 j2 j3 j4 n v c)
def pB2_R (P : Params) (b : Bool) (prog : Program) (cur : Code) (p : Pos) (bl : List (Code × Pos)) (N t0 : Nat) (A0 A1 A2 A3 A4 A5 k0 k1 k2 k3 k4 ti : Nat) (tm : Int) (lM lS lH lQ : IL) (nM' nS' nH' nQ : Nat) (j1 j2 j3 j4 : Nat) (n v : Int) (c : Nat) : Option (Except Value Flow × List (Option Obj) × Nat × Nat × List Ob) := some ((.error (.ref (N+150+3))), [some (cdict P k0 k1 k2 k3 k4 (A2+150) (A3+150) (A4+150) (A5+150) tm ti), some (instO (A0+150)), some (idct lM nM'), some (idct lS nS'), some (idct lH nH'), some (idct lQ nQ), some (frmO P [(⟨#[115, 101, 108, 102]⟩, (t0+2), (.ref (A1+150))), (nM, (t0+3), (.int n j2)), (⟨#[109, 115, 103, 73, 110, 102, 111]⟩, (t0+4), (.ref (N+150+0)))] 3), some ({ cls := (.ref 57), dict := none, data := .fields [(.ref (N+150+10)), .none, .none, .none, (.bool false), .none].toArray } : Obj)], 11, 24, obsOf (pB2_X P b prog cur p bl N t0 A0 A1 A2 A3 A4 A5 k0 k1 k2 k3 k4 ti tm lM lS lH lQ nM' nS' nH' nQ j1 j2 j3 j4 n v c))
theorem pB2_L0 : @pB2_L = pB2_L := rfl
theorem pB2_R0 : @pB2_R = pB2_R := rfl
lay_z Mine.pB2_L Mine.pB2_R
name_z pB2LZ for Mine.pB2_L by Mine.pB2_L0
name_z pB2RZ for Mine.pB2_R by Mine.pB2_R0
theorem pB2_ok (P : Params) (b : Bool) (prog : Program) (cur : Code) (p : Pos) (bl : List (Code × Pos)) (N t0 : Nat) (A0 A1 A2 A3 A4 A5 k0 k1 k2 k3 k4 ti : Nat) (tm : Int) (lM lS lH lQ : IL) (nM' nS' nH' nQ : Nat) (j1 j2 j3 j4 : Nat) (n v : Int) (c : Nat) : pB2_L P b prog cur p bl N t0 A0 A1 A2 A3 A4 A5 k0 k1 k2 k3 k4 ti tm lM lS lH lQ nM' nS' nH' nQ j1 j2 j3 j4 n v c = pB2_R P b prog cur p bl N t0 A0 A1 A2 A3 A4 A5 k0 k1 k2 k3 k4 ti tm lM lS lH lQ nM' nS' nH' nQ j1 j2 j3 j4 n v c := by
  rw [PySem.W.ZFast.pB2LZ_eq, PySem.W.ZFast.pB2RZ_eq]
  cases b <;> kernel_rfl!

def tE3_S (P : Params) (b : Bool) (prog : Program) (cur : Code) (p : Pos) (bl : List (Code × Pos)) (N t0 : Nat) (A0 A1 A2 A3 A4 A5 k0 k1 k2 k3 k4 ti : Nat) (tm : Int) (lM lS lH lQ : IL) (nM' nS' nH' nQ : Nat) (j1 j2 j3 j4 : Nat) (n v : Int) (c : Nat) : List Sm := []
def tE3_T (P : Params) (b : Bool) (prog : Program) (cur : Code) (p : Pos) (bl : List (Code × Pos)) (N t0 : Nat) (A0 A1 A2 A3 A4 A5 k0 k1 k2 k3 k4 ti : Nat) (tm : Int) (lM lS lH lQ : IL) (nM' nS' nH' nQ : Nat) (j1 j2 j3 j4 : Nat) (n v : Int) (c : Nat) : Tab := [some (cdict P k0 k1 k2 k3 k4 (A2+150) (A3+150) (A4+150) (A5+150) tm ti), some (instO (A0+150)), some (idct lM nM'), some (idct lS nS'), some (idct lH nH'), some (idct lQ nQ)]
def tE3_X (P : Params) (b : Bool) (prog : Program) (cur : Code) (p : Pos) (bl : List (Code × Pos)) (N t0 : Nat) (A0 A1 A2 A3 A4 A5 k0 k1 k2 k3 k4 ti : Nat) (tm : Int) (lM lS lH lQ : IL) (nM' nS' nH' nQ : Nat) (j1 j2 j3 j4 : Nat) (n v : Int) (c : Nat) : Out Fin := (run ⟨prog, swP P b, Mine.hz.ktop_302 P, N+150, t0, [A0+150, A1+150, A2+150, A3+150, A4+150, A5+150]⟩ 100000).t Fin (enterTree 137 (fdOf P 137) ⟨[(.ref (A1+150)), (.int 3 j1), (.int n j2), (.int v j3)], []⟩) cur p bl none 0 0 2001599834386880 (tE3_S P b prog cur p bl N t0 A0 A1 A2 A3 A4 A5 k0 k1 k2 k3 k4 ti tm lM lS lH lQ nM' nS' nH' nQ j1 j2 j3 j4 n v c) (tE3_T P b prog cur p bl N t0 A0 A1 A2 A3 A4 A5 k0 k1 k2 k3 k4 ti tm lM lS lH lQ nM' nS' nH' nQ j1 j2 j3 j4 n v c) 0 0 []
def tE3_L (P : Params) (b : Bool) (prog : Program) (cur : Code) (p : Pos) (bl : List (Code × Pos)) (N t0 : Nat) (A0 A1 A2 A3 A4 A5 k0 k1 k2 k3 k4 ti : Nat) (tm : Int) (lM lS lH lQ : IL) (nM' nS' nH' nQ : Nat) (j1 j2 j3 j4 : Nat) (n v : Int) (c : Nat) := look [0, 1, 2, 3, 4, 5, 6] (tE3_X P b prog cur p bl N t0 A0 A1 A2 A3 A4 A5 k0 k1 k2 k3 k4 ti tm lM lS lH lQ nM' nS' nH' nQ j1 j2 j3 j4 n v c)
def tE3_R (P : Params) (b : Bool) (prog : Program) (cur : Code) (p : Pos) (bl : List (Code × Pos)) (N t0 : Nat) (A0 A1 A2 A3 A4 A5 k0 k1 k2 k3 k4 ti : Nat) (tm : Int) (lM lS lH lQ : IL) (nM' nS' nH' nQ : Nat) (j1 j2 j3 j4 : Nat) (n v : Int) (c : Nat) : Option (Except Value Fin × List (Option Obj) × Nat × Nat × List Ob) := some ((.ok (.again (bodyCode (fdOf P 137) (envO P 137 (N+150+0))))), [some (cdict P k0 k1 k2 k3 k4 (A2+150) (A3+150) (A4+150) (A5+150) tm ti), some (instO (A0+150)), some (idct lM nM'), some (idct lS nS'), some (idct lH nH'), some (idct lQ nQ), some (frmO P [(⟨#[107, 101, 112, 116]⟩, (t0+0), (.ref (A1+150))), (⟨#[107, 105, 110, 100]⟩, (t0+1), (.int 3 j1)), (⟨#[110, 117, 109, 98, 101, 114]⟩, (t0+2), (.int n j2)), (⟨#[118, 97, 108, 117, 101]⟩, (t0+3), (.int v j3))] 4)], 1, 4, obsOf (tE3_X P b prog cur p bl N t0 A0 A1 A2 A3 A4 A5 k0 k1 k2 k3 k4 ti tm lM lS lH lQ nM' nS' nH' nQ j1 j2 j3 j4 n v c))
theorem tE3_L0 : @tE3_L = tE3_L := rfl
theorem tE3_R0 : @tE3_R = tE3_R := rfl
lay_z Mine.tE3_L Mine.tE3_R
name_z tE3LZ for Mine.tE3_L by Mine.tE3_L0
name_z tE3RZ for Mine.tE3_R by Mine.tE3_R0
theorem tE3_ok (P : Params) (b : Bool) (prog : Program) (cur : Code) (p : Pos) (bl : List (Code × Pos)) (N t0 : Nat) (A0 A1 A2 A3 A4 A5 k0 k1 k2 k3 k4 ti : Nat) (tm : Int) (lM lS lH lQ : IL) (nM' nS' nH' nQ : Nat) (j1 j2 j3 j4 : Nat) (n v : Int) (c : Nat) : tE3_L P b prog cur p bl N t0 A0 A1 A2 A3 A4 A5 k0 k1 k2 k3 k4 ti tm lM lS lH lQ nM' nS' nH' nQ j1 j2 j3 j4 n v c = tE3_R P b prog cur p bl N t0 A0 A1 A2 A3 A4 A5 k0 k1 k2 k3 k4 ti tm lM lS lH lQ nM' nS' nH' nQ j1 j2 j3 j4 n v c := by
  rw [PySem.W.ZFast.tE3LZ_eq, PySem.W.ZFast.tE3RZ_eq]
  cases b <;> kernel_rfl!

def tB3_S (P : Params) (b : Bool) (prog : Program) (cur : Code) (p : Pos) (bl : List (Code × Pos)) (N t0 : Nat) (A0 A1 A2 A3 A4 A5 k0 k1 k2 k3 k4 ti : Nat) (tm : Int) (lM lS lH lQ : IL) (nM' nS' nH' nQ : Nat) (j1 j2 j3 j4 : Nat) (n v : Int) (c : Nat) : List Sm := [raiseSm (.call (.ref 101) ⟨[(.ref (A1+150)), (.int n j2)], []⟩) [(0, (cdict P k0 k1 k2 k3 k4 (A2+150) (A3+150) (A4+150) (A5+150) tm ti)), (1, (instO (A0+150))), (2, (idct lM nM')), (3, (idct lS nS')), (4, (idct lH nH')), (5, (idct lQ nQ)), (6, (frmO P [(⟨#[107, 101, 112, 116]⟩, (t0+0), (.ref (A1+150))), (⟨#[107, 105, 110, 100]⟩, (t0+1), (.int 3 j1)), (⟨#[110, 117, 109, 98, 101, 114]⟩, (t0+2), (.int n j2)), (⟨#[118, 97, 108, 117, 101]⟩, (t0+3), (.int v j3))] 4))] (N+150+3) 1 (cur :: codesOf bl)]
def tB3_T (P : Params) (b : Bool) (prog : Program) (cur : Code) (p : Pos) (bl : List (Code × Pos)) (N t0 : Nat) (A0 A1 A2 A3 A4 A5 k0 k1 k2 k3 k4 ti : Nat) (tm : Int) (lM lS lH lQ : IL) (nM' nS' nH' nQ : Nat) (j1 j2 j3 j4 : Nat) (n v : Int) (c : Nat) : Tab := [some (cdict P k0 k1 k2 k3 k4 (A2+150) (A3+150) (A4+150) (A5+150) tm ti), some (instO (A0+150)), some (idct lM nM'), some (idct lS nS'), some (idct lH nH'), some (idct lQ nQ), some (frmO P [(⟨#[107, 101, 112, 116]⟩, (t0+0), (.ref (A1+150))), (⟨#[107, 105, 110, 100]⟩, (t0+1), (.int 3 j1)), (⟨#[110, 117, 109, 98, 101, 114]⟩, (t0+2), (.int n j2)), (⟨#[118, 97, 108, 117, 101]⟩, (t0+3), (.int v j3))] 4)]
def tB3_X (P : Params) (b : Bool) (prog : Program) (cur : Code) (p : Pos) (bl : List (Code × Pos)) (N t0 : Nat) (A0 A1 A2 A3 A4 A5 k0 k1 k2 k3 k4 ti : Nat) (tm : Int) (lM lS lH lQ : IL) (nM' nS' nH' nQ : Nat) (j1 j2 j3 j4 : Nat) (n v : Int) (c : Nat) : Out Flow := (run ⟨prog, swP P b, Mine.hz.ktop_302 P, N+150, t0, [A0+150, A1+150, A2+150, A3+150, A4+150, A5+150]⟩ 100000).t Flow (execs (tryB (bodyOf (fdOf P 137))) (envO P 137 (N+150+0))) cur p bl none 0 0 5856153388388943106344138082679313184379555807239 (tB3_S P b prog cur p bl N t0 A0 A1 A2 A3 A4 A5 k0 k1 k2 k3 k4 ti tm lM lS lH lQ nM' nS' nH' nQ j1 j2 j3 j4 n v c) (tB3_T P b prog cur p bl N t0 A0 A1 A2 A3 A4 A5 k0 k1 k2 k3 k4 ti tm lM lS lH lQ nM' nS' nH' nQ j1 j2 j3 j4 n v c) 1 4 []
def tB3_L (P : Params) (b : Bool) (prog : Program) (cur : Code) (p : Pos) (bl : List (Code × Pos)) (N t0 : Nat) (A0 A1 A2 A3 A4 A5 k0 k1 k2 k3 k4 ti : Nat) (tm : Int) (lM lS lH lQ : IL) (nM' nS' nH' nQ : Nat) (j1 j2 j3 j4 : Nat) (n v : Int) (c : Nat) := lookD (tB3_X P b prog cur p bl N t0 A0 A1 A2 A3 A4 A5 k0 k1 k2 k3 k4 ti tm lM lS lH lQ nM' nS' nH' nQ j1 j2 j3 j4 n v c)
def tB3_R (P : Params) (b : Bool) (prog : Program) (cur : Code) (p : Pos) (bl : List (Code × Pos)) (N t0 : Nat) (A0 A1 A2 A3 A4 A5 k0 k1 k2 k3 k4 ti : Nat) (tm : Int) (lM lS lH lQ : IL) (nM' nS' nH' nQ : Nat) (j1 j2 j3 j4 : Nat) (n v : Int) (c : Nat) : Option (Except Value Flow × Bool × List Ob) := some ((.error (.ref (N+150+3))), false, obsOf (tB3_X P b prog cur p bl N t0 A0 A1 A2 A3 A4 A5 k0 k1 k2 k3 k4 ti tm lM lS lH lQ nM' nS' nH' nQ j1 j2 j3 j4 n v c))
theorem tB3_L0 : @tB3_L = tB3_L := rfl
theorem tB3_R0 : @tB3_R = tB3_R := rfl
lay_z Mine.tB3_L Mine.tB3_R
name_z tB3LZ for Mine.tB3_L by Mine.tB3_L0
name_z tB3RZ for Mine.tB3_R by Mine.tB3_R0
theorem tB3_ok (P : Params) (b : Bool) (prog : Program) (cur : Code) (p : Pos) (bl : List (Code × Pos)) (N t0 : Nat) (A0 A1 A2 A3 A4 A5 k0 k1 k2 k3 k4 ti : Nat) (tm : Int) (lM lS lH lQ : IL) (nM' nS' nH' nQ : Nat) (j1 j2 j3 j4 : Nat) (n v : Int) (c : Nat) : tB3_L P b prog cur p bl N t0 A0 A1 A2 A3 A4 A5 k0 k1 k2 k3 k4 ti tm lM lS lH lQ nM' nS' nH' nQ j1 j2 j3 j4 n v c = tB3_R P b prog cur p bl N t0 A0 A1 A2 A3 A4 A5 k0 k1 k2 k3 k4 ti tm lM lS lH lQ nM' nS' nH' nQ j1 j2 j3 j4 n v c := by
  rw [PySem.W.ZFast.tB3LZ_eq, PySem.W.ZFast.tB3RZ_eq]
  cases b <;> kernel_rfl!

def pE3_S (P : Params) (b : Bool) (prog : Program) (cur : Code) (p : Pos) (bl : List (Code × Pos)) (N t0 : Nat) (A0 A1 A2 A3 A4 A5 k0 k1 k2 k3 k4 ti : Nat) (tm : Int) (lM lS lH lQ : IL) (nM' nS' nH' nQ : Nat) (j1 j2 j3 j4 : Nat) (n v : Int) (c : Nat) : List Sm := []
def pE3_T (P : Params) (b : Bool) (prog : Program) (cur : Code) (p : Pos) (bl : List (Code × Pos)) (N t0 : Nat) (A0 A1 A2 A3 A4 A5 k0 k1 k2 k3 k4 ti : Nat) (tm : Int) (lM lS lH lQ : IL) (nM' nS' nH' nQ : Nat) (j1 j2 j3 j4 : Nat) (n v : Int) (c : Nat) : Tab := [some (cdict P k0 k1 k2 k3 k4 (A2+150) (A3+150) (A4+150) (A5+150) tm ti), some (instO (A0+150)), some (idct lM nM'), some (idct lS nS'), some (idct lH nH'), some (idct lQ nQ)]
def pE3_X (P : Params) (b : Bool) (prog : Program) (cur : Code) (p : Pos) (bl : List (Code × Pos)) (N t0 : Nat) (A0 A1 A2 A3 A4 A5 k0 k1 k2 k3 k4 ti : Nat) (tm : Int) (lM lS lH lQ : IL) (nM' nS' nH' nQ : Nat) (j1 j2 j3 j4 : Nat) (n v : Int) (c : Nat) : Out Fin := (run ⟨prog, swP P b, Mine.hz.ktop_302 P, N+150, t0, [A0+150, A1+150, A2+150, A3+150, A4+150, A5+150]⟩ 100000).t Fin (enterTree 101 (fdOf P 101) ⟨[(.ref (A1+150)), (.int n j2)], []⟩) cur p bl none 0 0 119304640 (pE3_S P b prog cur p bl N t0 A0 A1 A2 A3 A4 A5 k0 k1 k2 k3 k4 ti tm lM lS lH lQ nM' nS' nH' nQ j1 j2 j3 j4 n v c) (pE3_T P b prog cur p bl N t0 A0 A1 A2 A3 A4 A5 k0 k1 k2 k3 k4 ti tm lM lS lH lQ nM' nS' nH' nQ j1 j2 j3 j4 n v c) 0 0 []
def pE3_L (P : Params) (b : Bool) (prog : Program) (cur : Code) (p : Pos) (bl : List (Code × Pos)) (N t0 : Nat) (A0 A1 A2 A3 A4 A5 k0 k1 k2 k3 k4 ti : Nat) (tm : Int) (lM lS lH lQ : IL) (nM' nS' nH' nQ : Nat) (j1 j2 j3 j4 : Nat) (n v : Int) (c : Nat) := look [0, 1, 2, 3, 4, 5, 6] (pE3_X P b prog cur p bl N t0 A0 A1 A2 A3 A4 A5 k0 k1 k2 k3 k4 ti tm lM lS lH lQ nM' nS' nH' nQ j1 j2 j3 j4 n v c)
def pE3_R (P : Params) (b : Bool) (prog : Program) (cur : Code) (p : Pos) (bl : List (Code × Pos)) (N t0 : Nat) (A0 A1 A2 A3 A4 A5 k0 k1 k2 k3 k4 ti : Nat) (tm : Int) (lM lS lH lQ : IL) (nM' nS' nH' nQ : Nat) (j1 j2 j3 j4 : Nat) (n v : Int) (c : Nat) : Option (Except Value Fin × List (Option Obj) × Nat × Nat × List Ob) := some ((.ok (.again (bodyCode (fdOf P 101) (envO P 101 (N+150+0))))), [some (cdict P k0 k1 k2 k3 k4 (A2+150) (A3+150) (A4+150) (A5+150) tm ti), some (instO (A0+150)), some (idct lM nM'), some (idct lS nS'), some (idct lH nH'), some (idct lQ nQ), some (frmO P [(⟨#[115, 101, 108, 102]⟩, (t0+0), (.ref (A1+150))), (nM, (t0+1), (.int n j2))] 2)], 1, 2, obsOf (pE3_X P b prog cur p bl N t0 A0 A1 A2 A3 A4 A5 k0 k1 k2 k3 k4 ti tm lM lS lH lQ nM' nS' nH' nQ j1 j2 j3 j4 n v c))
theorem pE3_L0 : @pE3_L = pE3_L := rfl
theorem pE3_R0 : @pE3_R = pE3_R := rfl
lay_z Mine.pE3_L Mine.pE3_R
name_z pE3LZ for Mine.pE3_L by Mine.pE3_L0
name_z pE3RZ for Mine.pE3_R by Mine.pE3_R0
theorem pE3_ok (P : Params) (b : Bool) (prog : Program) (cur : Code) (p : Pos) (bl : List (Code × Pos)) (N t0 : Nat) (A0 A1 A2 A3 A4 A5 k0 k1 k2 k3 k4 ti : Nat) (tm : Int) (lM lS lH lQ : IL) (nM' nS' nH' nQ : Nat) (j1 j2 j3 j4 : Nat) (n v : Int) (c : Nat) : pE3_L P b prog cur p bl N t0 A0 A1 A2 A3 A4 A5 k0 k1 k2 k3 k4 ti tm lM lS lH lQ nM' nS' nH' nQ j1 j2 j3 j4 n v c = pE3_R P b prog cur p bl N t0 A0 A1 A2 A3 A4 A5 k0 k1 k2 k3 k4 ti tm lM lS lH lQ nM' nS' nH' nQ j1 j2 j3 j4 n v c := by
  rw [PySem.W.ZFast.pE3LZ_eq, PySem.W.ZFast.pE3RZ_eq]
  cases b <;> kernel_rfl!

def pB3_S (P : Params) (b : Bool) (prog : Program) (cur : Code) (p : Pos) (bl : List (Code × Pos)) (N t0 : Nat) (A0 A1 A2 A3 A4 A5 k0 k1 k2 k3 k4 ti : Nat) (tm : Int) (lM lS lH lQ : IL) (nM' nS' nH' nQ : Nat) (j1 j2 j3 j4 : Nat) (n v : Int) (c : Nat) : List Sm := [mkSm t0 (.hasI 2 (A2+150) lM nM' n j2 false), mkSm t0 (.fmt n j2 (t0+5) c), mkSm t0 (.collect 11 (N+150+5) (N+150) [(.str ⟨#[67, 97, 99, 104, 101, 32, 109, 105, 115, 115, 32, 102, 111, 114, 32, 109, 115, 103, 73, 100, 61, c]⟩ (t0+7))])]
def pB3_T (P : Params) (b : Bool) (prog : Program) (cur : Code) (p : Pos) (bl : List (Code × Pos)) (N t0 : Nat) (A0 A1 A2 A3 A4 A5 k0 k1 k2 k3 k4 ti : Nat) (tm : Int) (lM lS lH lQ : IL) (nM' nS' nH' nQ : Nat) (j1 j2 j3 j4 : Nat) (n v : Int) (c : Nat) : Tab := [some (cdict P k0 k1 k2 k3 k4 (A2+150) (A3+150) (A4+150) (A5+150) tm ti), some (instO (A0+150)), some (idct lM nM'), some (idct lS nS'), some (idct lH nH'), some (idct lQ nQ), some (frmO P [(⟨#[115, 101, 108, 102]⟩, (t0+0), (.ref (A1+150))), (nM, (t0+1), (.int n j2))] 2)]
def pB3_X (P : Params) (b : Bool) (prog : Program) (cur : Code) (p : Pos) (bl : List (Code × Pos)) (N t0 : Nat) (A0 A1 A2 A3 A4 A5 k0 k1 k2 k3 k4 ti : Nat) (tm : Int) (lM lS lH lQ : IL) (nM' nS' nH' nQ : Nat) (j1 j2 j3 j4 : Nat) (n v : Int) (c : Nat) : Out Flow := (run ⟨prog, swP P b, Mine.hz.ktop_302 P, N+150, t0, [A0+150, A1+150, A2+150, A3+150, A4+150, A5+150]⟩ 100000).t Flow (execs (bodyOf (fdOf P 101)) (envO P 101 (N+150+0))) cur p bl none 0 0 76093275610973736588826747293137955229037208677343110336391603106366554858632672639557700463702638450994493114966785746141627774923043656939537533905781798729062989121708128577073592309285581870578188435036781771689813785967681161494081574888948703809231429173976466727367 (pB3_S P b prog cur p bl N t0 A0 A1 A2 A3 A4 A5 k0 k1 k2 k3 k4 ti tm lM lS lH lQ nM' nS' nH' nQ j1 j2 j3 j4 n v c) (pB3_T P b prog cur p bl N t0 A0 A1 A2 A3 A4 A5 k0 k1 k2 k3 k4 ti tm lM lS lH lQ nM' nS' nH' nQ j1 j2 j3 j4 n v c) 1 2 []
def pB3_L (P : Params) (b : Bool) (prog : Program) (cur : Code) (p : Pos) (bl : List (Code × Pos)) (N t0 : Nat) (A0 A1 A2 A3 A4 A5 k0 k1 k2 k3 k4 ti : Nat) (tm : Int) (lM lS lH lQ : IL) (nM' nS' nH' nQ : Nat) (j1 j2 j3 j4 : Nat) (n v : Int) (c : Nat) := look [0, 1, 2, 3, 4, 5, 6, 8] (pB3_X P b prog cur p bl N t0 A0 A1 A2 A3 A4 A5 k0 k1 k2 k3 k4 ti tm lM lS lH lQ nM' nS' nH' nQ j1 j2 j3 j4 n v c)
def pB3_R (P : Params) (b : Bool) (prog : Program) (cur : Code) (p : Pos) (bl : List (Code × Pos)) (N t0 : Nat) (A0 A1 A2 A3 A4 A5 k0 k1 k2 k3 k4 ti : Nat) (tm : Int) (lM lS lH lQ : IL) (nM' nS' nH' nQ : Nat) (j1 j2 j3 j4 : Nat) (n v : Int) (c : Nat) : Option (Except Value Flow × List (Option Obj) × Nat × Nat × List Ob) := some ((.error (.ref (N+150+2))), [some (cdict P k0 k1 k2 k3 k4 (A2+150) (A3+150) (A4+150) (A5+150) tm ti), some (instO (A0+150)), some (idct lM nM'), some (idct lS nS'), some (idct lH nH'), some (idct lQ nQ), some (frmO P [(⟨#[115, 101, 108, 102]⟩, (t0+0), (.ref (A1+150))), (nM, (t0+1), (.int n j2))] 2), some ({ cls := (.ref 57), dict := none, data := .fields [(.ref (N+150+9)), .none, .none, .none, (.bool false), .none].toArray } : Obj)], 10, 21, obsOf (pB3_X P b prog cur p bl N t0 A0 A1 A2 A3 A4 A5 k0 k1 k2 k3 k4 ti tm lM lS lH lQ nM' nS' nH' nQ j1 j2 j3 j4 n v c))
theorem pB3_L0 : @pB3_L = pB3_L := rfl
theorem pB3_R0 : @pB3_R = pB3_R := rfl
lay_z Mine.pB3_L Mine.pB3_R
name_z pB3LZ for Mine.pB3_L by Mine.pB3_L0
name_z pB3RZ for Mine.pB3_R by Mine.pB3_R0
theorem pB3_ok (P : Params) (b : Bool) (prog : Program) (cur : Code) (p : Pos) (bl : List (Code × Pos)) (N t0 : Nat) (A0 A1 A2 A3 A4 A5 k0 k1 k2 k3 k4 ti : Nat) (tm : Int) (lM lS lH lQ : IL) (nM' nS' nH' nQ : Nat) (j1 j2 j3 j4 : Nat) (n v : Int) (c : Nat) : pB3_L P b prog cur p bl N t0 A0 A1 A2 A3 A4 A5 k0 k1 k2 k3 k4 ti tm lM lS lH lQ nM' nS' nH' nQ j1 j2 j3 j4 n v c = pB3_R P b prog cur p bl N t0 A0 A1 A2 A3 A4 A5 k0 k1 k2 k3 k4 ti tm lM lS lH lQ nM' nS' nH' nQ j1 j2 j3 j4 n v c := by
  rw [PySem.W.ZFast.pB3LZ_eq, PySem.W.ZFast.pB3RZ_eq]
  cases b <;> kernel_rfl!

end Mine

end
/-! HR0 -/
section
open PySem PySem.W PySem.W.X PyProof.Rows
namespace Mine
noncomputable def obA (P : Params) (a : Nat) : Obj := match (Mine.hz.ktop_302 P).get a with
  | some o => o
  | none => default
theorem kt_137 (P : Params) : (Mine.hz.ktop_302 P).get 137 = some (obA P 137) := by kernel_rfl
theorem kd_137 (P : Params) : (obA P 137).data = .func (fdOf P 137) := by kernel_rfl
theorem kg_137 (P : Params) : (fdOf P 137).scope.isGenerator = false := by kernel_rfl
theorem kc_137 (P : Params) : (fdOf P 137).scope.isCoroutine = false := by kernel_rfl
theorem kk_137 (P : Params) : (fdOf P 137).scope.kind = .function := by kernel_rfl
theorem kb_137 (P : Params) : (fdOf P 137).body = .stmts (bodyOf (fdOf P 137)) := by kernel_rfl
theorem kt_80 (P : Params) : (Mine.hz.ktop_302 P).get 80 = some (obA P 80) := by kernel_rfl
theorem kd_80 (P : Params) : (obA P 80).data = .func (fdOf P 80) := by kernel_rfl
theorem kg_80 (P : Params) : (fdOf P 80).scope.isGenerator = false := by kernel_rfl
theorem kc_80 (P : Params) : (fdOf P 80).scope.isCoroutine = false := by kernel_rfl
theorem kk_80 (P : Params) : (fdOf P 80).scope.kind = .function := by kernel_rfl
theorem kb_80 (P : Params) : (fdOf P 80).body = .stmts (bodyOf (fdOf P 80)) := by kernel_rfl
theorem kt_87 (P : Params) : (Mine.hz.ktop_302 P).get 87 = some (obA P 87) := by kernel_rfl
theorem kd_87 (P : Params) : (obA P 87).data = .func (fdOf P 87) := by kernel_rfl
theorem kg_87 (P : Params) : (fdOf P 87).scope.isGenerator = false := by kernel_rfl
theorem kc_87 (P : Params) : (fdOf P 87).scope.isCoroutine = false := by kernel_rfl
theorem kk_87 (P : Params) : (fdOf P 87).scope.kind = .function := by kernel_rfl
theorem kb_87 (P : Params) : (fdOf P 87).body = .stmts (bodyOf (fdOf P 87)) := by kernel_rfl
theorem kt_94 (P : Params) : (Mine.hz.ktop_302 P).get 94 = some (obA P 94) := by kernel_rfl
theorem kd_94 (P : Params) : (obA P 94).data = .func (fdOf P 94) := by kernel_rfl
theorem kg_94 (P : Params) : (fdOf P 94).scope.isGenerator = false := by kernel_rfl
theorem kc_94 (P : Params) : (fdOf P 94).scope.isCoroutine = false := by kernel_rfl
theorem kk_94 (P : Params) : (fdOf P 94).scope.kind = .function := by kernel_rfl
theorem kb_94 (P : Params) : (fdOf P 94).body = .stmts (bodyOf (fdOf P 94)) := by kernel_rfl
theorem kt_101 (P : Params) : (Mine.hz.ktop_302 P).get 101 = some (obA P 101) := by kernel_rfl
theorem kd_101 (P : Params) : (obA P 101).data = .func (fdOf P 101) := by kernel_rfl
theorem kg_101 (P : Params) : (fdOf P 101).scope.isGenerator = false := by kernel_rfl
theorem kc_101 (P : Params) : (fdOf P 101).scope.isCoroutine = false := by kernel_rfl
theorem kk_101 (P : Params) : (fdOf P 101).scope.kind = .function := by kernel_rfl
theorem kb_101 (P : Params) : (fdOf P 101).body = .stmts (bodyOf (fdOf P 101)) := by kernel_rfl
theorem bodyCode_of {fd : FuncData} {env : Env} (h : fd.body = .stmts (bodyOf fd)) : bodyCode fd env = .func (bodyOf fd) env := by
  unfold bodyCode
  rw [h]
theorem Rep.retab {C : Cx} {s₀ s : Shared} {T T' : Tab} {na tk : Nat} (R : Rep C s₀ T na tk s) (hl : Mine.len T' = C.ps.length + na) (h : ∀ i o, nth T' i = some o → s.heap.get? (adrOf C.ps C.N i) = some o) : Rep C s₀ T' na tk s :=
  ⟨R.size, hl, h, R.top, R.keep, R.toks, R.gens, R.drawn, R.os⟩
abbrev ps6 (g : Cch) : List Nat := [g.A0+150, g.A1+150, g.A2+150, g.A3+150, g.A4+150, g.A5+150]
/-- the six objects of a cache, at any time -/
theorem keeps6 {prog : Program} {w : World} {s s' : Shared} {T : Tab} {na tk : Nat} {g : Cch} {B : Nat} (O : Obs w.params s.heap g B) (R : Rep (cxOf prog w s (ps6 g)) s T na tk s')
    (f0 : s'.heap.get? (g.A0+150) = some (cdict w.params g.k0 g.k1 g.k2 g.k3 g.k4 (g.A2+150) (g.A3+150) (g.A4+150) (g.A5+150) g.tm g.ti)) (f1 : s'.heap.get? (g.A1+150) = some (instO (g.A0+150))) (f2 : s'.heap.get? (g.A2+150) = some (idct g.lM g.eM)) (f3 : s'.heap.get? (g.A3+150) = some (idct g.lS g.eS))
    (f4 : s'.heap.get? (g.A4+150) = some (idct g.lH g.eH)) (f5 : s'.heap.get? (g.A5+150) = some (idct g.lQ g.eQ)) : ∀ b o, s.heap.get? b = some o → s'.heap.get? b = some o := by
  intro b o hb
  by_cases hm : b ∈ ps6 g
  · simp only [ps6, List.mem_cons, List.mem_nil_iff, or_false] at hm
    rcases hm with rfl | rfl | rfl | rfl | rfl | rfl
    · rw [O.o0] at hb; rw [f0, hb]
    · rw [O.o1] at hb; rw [f1, hb]
    · rw [O.o2] at hb; rw [f2, hb]
    · rw [O.o3] at hb; rw [f3, hb]
    · rw [O.o4] at hb; rw [f4, hb]
    · rw [O.o5] at hb; rw [f5, hb]
  · exact R.keep b o hb hm
theorem fun_of_keeps {h h' base : Heap} {l : List Env} (k : ∀ b o, h.get? b = some o → h'.get? b = some o) (H : h.FunFrames base l) : h'.FunFrames base l := H.of_keeps fun b o e _ => ⟨o, k b o e, rfl⟩
theorem fresh_base {base : Heap} {s : Shared} (hb : base.StaysIn s.heap) {x : Nat} (h : s.heap.objs.size ≤ x) : base.get? x = none := by
  cases q : base.get? x with
  | none => rfl
  | some o => exact absurd (Heap.lt_size (hb x o q)) (Nat.not_lt.mpr h)
/-- what a raise leaves -/
structure Fly (base : Heap) (es : List Env) (e : Nat) (s s' : Shared) : Prop where
  fly : ∃ a0, Heap.FlyingW base es e (.ref 57) a0 s'.heap
  up : s.heap.UpToSlots s'.heap
  toks : s.toks ≤ s'.toks
  gens : s'.gens = s.gens
  drawn : s'.drawn = s.drawn
  os : s'.os = s.os
section
variable {prog : Program} {w : World} {A : Around} {s : Shared} {g : Cch} {a : Ab} {hd : Int → Bool} {B : Nat} {R0 : Result → Shared → Prop} {n v : Int} {j1 j2 j3 j4 : Nat} {fp : Nat → Prop} {base : Heap} {es : List Env}
theorem envs_fun {P : Params} {h : Heap} {L f : Nat} {o : Obj} {es : List Env} (hk : (fdOf P f).scope.kind = .function) (hb : base.get? L = none) (ho : h.get? L = some o) (hd : ∀ vs, o.data ≠ .fields vs) (hF : h.FunFrames base es) : h.FunFrames base (envO P f L :: es) :=
  ⟨by show (fdOf P f).scope.kind ≠ .module; rw [hk]; decide, ⟨L, o, rfl, hb, ho, hd⟩, hF⟩
theorem raiseP0 (hh : A.handled = none) (hdp : A.depth + 100 < recursionLimit) (TB : TopB w.params) (TI : TopIn w.params s.heap) (h150 : 150 ≤ s.heap.objs.size) (O : Obs w.params s.heap g B) (hn : 0 ≤ n ∧ n < 3) (h1 : (lk g.lS n).isSome = true)
    (hb : base.StaysIn s.heap) (hF : s.heap.FunFrames base es) (hfr : A.frames = some es) :
    codeAny (model prog w) A (.call (.ref 80) ⟨[(.ref (g.A1+150)), (.int n j2)], [(nW, (.int v j3))]⟩) (fun r s' => r = .error (.ref (topN s + 3)) ∧ Fly base es (topN s + 3) s s') s := by
  have hZn : [Role.o 0, .o 1, .o 2, .o 3, .o 4, .o 5].Nodup := by simp
  have W := wf_of (prog := prog) (w := w) (s := s) TB TI h150 O.lts (nodup_ps O.labs hZn)
  have hM : topN s = s.heap.objs.size := by show s.heap.objs.size - 150 + 150 = _; omega
  refine codeAny_enter (by omega) (TI _ _ (kt_80 w.params)) (kd_80 w.params) (kg_80 w.params) (kc_80 w.params) ?_
  refine tree_run (C := cxOf prog w s (ps6 g)) (s₀ := s) (X := fun _ => False) (D := A.depth + 1) (U := A.units + 4) W (cxP ..) (fun _ f => f.elim) (by omega) hh (Nat.le_succ _) (by show A.units + 1 ≤ _; omega)
    (T := pE0_T w.params true prog (.block [] default) default [] 0 0 g.A0 g.A1 g.A2 g.A3 g.A4 g.A5 g.k0 g.k1 g.k2 g.k3 g.k4 g.ti g.tm g.lM g.lS g.lH g.lQ g.eM g.eS g.eH g.eQ 0 j2 j3 0 n v (48 + n.toNat)) (sm := fun cur bl => pE0_S w.params true prog cur default bl (s.heap.objs.size - 150) s.toks g.A0 g.A1 g.A2 g.A3 g.A4 g.A5 g.k0 g.k1 g.k2 g.k3 g.k4 g.ti g.tm g.lM g.lS g.lH g.lQ g.eM g.eS g.eH g.eQ 0 j2 j3 0 n v (48 + n.toNat)) (Rep.start W rfl rfl (start_of _ _ _ (And.intro O.o0 (And.intro O.o1 (And.intro O.o2 (And.intro O.o3 (And.intro O.o4 (And.intro O.o5 trivial)))))))) rfl (fun Γ hΓ m hm => nomatch hm)
    (fun cur p bl => Done.of_lookX (pE0_ok w.params (w.params.followText "special-get-raises") prog cur p bl (s.heap.objs.size - 150) s.toks g.A0 g.A1 g.A2 g.A3 g.A4 g.A5 g.k0 g.k1 g.k2 g.k3 g.k4 g.ti g.tm g.lM g.lS g.lH g.lQ g.eM g.eS g.eH g.eQ 0 j2 j3 0 n v (48 + n.toNat)) (xeqT rfl rfl rfl rfl) fun s1 T1 p1 R1 hp => ?_)
  have F := allGet R1 hp
  obtain ⟨f0, f1, f2, f3, f4, f5, f6, ff, -⟩ := F
  refine ⟨top_nolim _ _ R1.top, _, rfl, ?_, ?_⟩
  · rw [bodyCode_of (kb_80 w.params)]; rfl
  rw [bodyCode_of (kb_80 w.params)]
  refine codeAny_func ?_
  have k1 := keeps6 O R1 f0 f1 f2 f3 f4 f5
  refine tree_run (C := cxOf prog w s (ps6 g)) (s₀ := s) (X := fun _ => False) (D := A.depth + 1) (U := A.units + 4) W (cxP ..) (fun _ f => f.elim) (by omega) hh (Nat.le_refl _) (by show A.units + 3 ≤ _; omega)
    (T := pB0_T w.params true prog (.block [] default) default [] (s.heap.objs.size - 150) s.toks g.A0 g.A1 g.A2 g.A3 g.A4 g.A5 g.k0 g.k1 g.k2 g.k3 g.k4 g.ti g.tm g.lM g.lS g.lH g.lQ g.eM g.eS g.eH g.eQ 0 j2 j3 0 n v (48 + n.toNat)) (sm := fun cur bl => pB0_S w.params true prog cur default bl (s.heap.objs.size - 150) s.toks g.A0 g.A1 g.A2 g.A3 g.A4 g.A5 g.k0 g.k1 g.k2 g.k3 g.k4 g.ti g.tm g.lM g.lS g.lH g.lQ g.eM g.eS g.eH g.eQ 0 j2 j3 0 n v (48 + n.toNat)) (na := 2) (tk := 4) (R1.retab rfl (start_of _ _ _ (And.intro f0 (And.intro f1 (And.intro f2 (And.intro f3 (And.intro f4 (And.intro f5 (And.intro f6 (And.intro ff trivial)))))))))) rfl (fun Γ hΓ => ?_)
    (fun cur p bl => Done.of_lookX (pB0_ok w.params (w.params.followText "special-get-raises") prog cur p bl (s.heap.objs.size - 150) s.toks g.A0 g.A1 g.A2 g.A3 g.A4 g.A5 g.k0 g.k1 g.k2 g.k3 g.k4 g.ti g.tm g.lM g.lS g.lH g.lQ g.eM g.eS g.eH g.eQ 0 j2 j3 0 n v (48 + n.toNat)) (xeqT rfl rfl rfl rfl) fun s3 T3 p3 R3 hp3 => ?_)
  · unfold pB0_S
    repeat' (first | exact all_nil | refine all_cons ?_ ?_)
    all_goals refine okx ?_ rfl
    all_goals first
      | (refine ok_hasI W ?_ ?_ ?_; rfl; omega; simp [h1])
      | (refine ok_fmt ?_ ?_ ?_; exact hn.1; exact hn.2; rfl)
      | (refine ok_collect W ?_ ?_ ?_; rfl; exact Nat.succ_pos _; (simp))
  · have F3 := allGet R3 hp3
    obtain ⟨e0, e1, e2, e3, e4, e5, eff, ee, -⟩ := F3
    have k3 := keeps6 O R3 e0 e1 e2 e3 e4 e5
    have hF3 := envs_fun (P := w.params) (f := 80) (L := topN s + 1) (kk_80 w.params) (fresh_base hb (by omega)) eff (fun vs h => by cases h) (fun_of_keeps k3 hF)
    refine wpAny_leaving_firstW (base := base) (outer := es) (L := topN s + 1) (e := topN s + 3) (by show A.frames.map _ = _; rw [hfr]; rfl) hF3 rfl ee (fun b o h => k3 b o (hb b o h)) (fresh_base hb (by omega)) rfl rfl rfl fun h' hL => ?_
    obtain ⟨l1, ⟨_, _, l2⟩, l3, l4⟩ := hL
    refine ⟨rfl, ⟨⟨_, l1, fresh_base hb (by omega), l2, l3⟩, (Heap.UpToSlots.of_keeps k3).trans l4, ?_, R3.gens, R3.drawn, R3.os⟩⟩
    show s.toks ≤ s3.toks
    rw [R3.toks]
    exact Nat.le_add_right _ _
theorem raiseP1 (hh : A.handled = none) (hdp : A.depth + 100 < recursionLimit) (TB : TopB w.params) (TI : TopIn w.params s.heap) (h150 : 150 ≤ s.heap.objs.size) (O : Obs w.params s.heap g B) (hn : 0 ≤ n ∧ n < 3) (h1 : lk g.lS n = none)
    (hb : base.StaysIn s.heap) (hF : s.heap.FunFrames base es) (hfr : A.frames = some es) :
    codeAny (model prog w) A (.call (.ref 87) ⟨[(.ref (g.A1+150)), (.int n j2)], []⟩) (fun r s' => r = .error (.ref (topN s + 2)) ∧ Fly base es (topN s + 2) s s') s := by
  have hZn : [Role.o 0, .o 1, .o 2, .o 3, .o 4, .o 5].Nodup := by simp
  have W := wf_of (prog := prog) (w := w) (s := s) TB TI h150 O.lts (nodup_ps O.labs hZn)
  have hM : topN s = s.heap.objs.size := by show s.heap.objs.size - 150 + 150 = _; omega
  refine codeAny_enter (by omega) (TI _ _ (kt_87 w.params)) (kd_87 w.params) (kg_87 w.params) (kc_87 w.params) ?_
  refine tree_run (C := cxOf prog w s (ps6 g)) (s₀ := s) (X := fun _ => False) (D := A.depth + 1) (U := A.units + 4) W (cxP ..) (fun _ f => f.elim) (by omega) hh (Nat.le_succ _) (by show A.units + 1 ≤ _; omega)
    (T := pE1_T w.params true prog (.block [] default) default [] 0 0 g.A0 g.A1 g.A2 g.A3 g.A4 g.A5 g.k0 g.k1 g.k2 g.k3 g.k4 g.ti g.tm g.lM g.lS g.lH g.lQ g.eM g.eS g.eH g.eQ 0 j2 0 0 n 0 (48 + n.toNat)) (sm := fun cur bl => pE1_S w.params true prog cur default bl (s.heap.objs.size - 150) s.toks g.A0 g.A1 g.A2 g.A3 g.A4 g.A5 g.k0 g.k1 g.k2 g.k3 g.k4 g.ti g.tm g.lM g.lS g.lH g.lQ g.eM g.eS g.eH g.eQ 0 j2 0 0 n 0 (48 + n.toNat)) (Rep.start W rfl rfl (start_of _ _ _ (And.intro O.o0 (And.intro O.o1 (And.intro O.o2 (And.intro O.o3 (And.intro O.o4 (And.intro O.o5 trivial)))))))) rfl (fun Γ hΓ m hm => nomatch hm)
    (fun cur p bl => Done.of_lookX (pE1_ok w.params (w.params.followText "special-get-raises") prog cur p bl (s.heap.objs.size - 150) s.toks g.A0 g.A1 g.A2 g.A3 g.A4 g.A5 g.k0 g.k1 g.k2 g.k3 g.k4 g.ti g.tm g.lM g.lS g.lH g.lQ g.eM g.eS g.eH g.eQ 0 j2 0 0 n 0 (48 + n.toNat)) (xeqT rfl rfl rfl rfl) fun s1 T1 p1 R1 hp => ?_)
  have F := allGet R1 hp
  obtain ⟨f0, f1, f2, f3, f4, f5, ff, -⟩ := F
  refine ⟨top_nolim _ _ R1.top, _, rfl, ?_, ?_⟩
  · rw [bodyCode_of (kb_87 w.params)]; rfl
  rw [bodyCode_of (kb_87 w.params)]
  refine codeAny_func ?_
  have k1 := keeps6 O R1 f0 f1 f2 f3 f4 f5
  refine tree_run (C := cxOf prog w s (ps6 g)) (s₀ := s) (X := fun _ => False) (D := A.depth + 1) (U := A.units + 4) W (cxP ..) (fun _ f => f.elim) (by omega) hh (Nat.le_refl _) (by show A.units + 3 ≤ _; omega)
    (T := pB1_T w.params true prog (.block [] default) default [] (s.heap.objs.size - 150) s.toks g.A0 g.A1 g.A2 g.A3 g.A4 g.A5 g.k0 g.k1 g.k2 g.k3 g.k4 g.ti g.tm g.lM g.lS g.lH g.lQ g.eM g.eS g.eH g.eQ 0 j2 0 0 n 0 (48 + n.toNat)) (sm := fun cur bl => pB1_S w.params true prog cur default bl (s.heap.objs.size - 150) s.toks g.A0 g.A1 g.A2 g.A3 g.A4 g.A5 g.k0 g.k1 g.k2 g.k3 g.k4 g.ti g.tm g.lM g.lS g.lH g.lQ g.eM g.eS g.eH g.eQ 0 j2 0 0 n 0 (48 + n.toNat)) (na := 1) (tk := 2) (R1.retab rfl (start_of _ _ _ (And.intro f0 (And.intro f1 (And.intro f2 (And.intro f3 (And.intro f4 (And.intro f5 (And.intro ff trivial))))))))) rfl (fun Γ hΓ => ?_)
    (fun cur p bl => Done.of_lookX (pB1_ok w.params (w.params.followText "special-get-raises") prog cur p bl (s.heap.objs.size - 150) s.toks g.A0 g.A1 g.A2 g.A3 g.A4 g.A5 g.k0 g.k1 g.k2 g.k3 g.k4 g.ti g.tm g.lM g.lS g.lH g.lQ g.eM g.eS g.eH g.eQ 0 j2 0 0 n 0 (48 + n.toNat)) (xeqT rfl rfl rfl rfl) fun s3 T3 p3 R3 hp3 => ?_)
  · unfold pB1_S
    repeat' (first | exact all_nil | refine all_cons ?_ ?_)
    all_goals refine okx ?_ rfl
    all_goals first
      | (refine ok_hasI W ?_ ?_ ?_; rfl; omega; simp [h1])
      | (refine ok_fmt ?_ ?_ ?_; exact hn.1; exact hn.2; rfl)
      | (refine ok_collect W ?_ ?_ ?_; rfl; exact Nat.succ_pos _; (simp))
  · have F3 := allGet R3 hp3
    obtain ⟨e0, e1, e2, e3, e4, e5, eff, ee, -⟩ := F3
    have k3 := keeps6 O R3 e0 e1 e2 e3 e4 e5
    have hF3 := envs_fun (P := w.params) (f := 87) (L := topN s + 0) (kk_87 w.params) (fresh_base hb (by omega)) eff (fun vs h => by cases h) (fun_of_keeps k3 hF)
    refine wpAny_leaving_firstW (base := base) (outer := es) (L := topN s + 0) (e := topN s + 2) (by show A.frames.map _ = _; rw [hfr]; rfl) hF3 rfl ee (fun b o h => k3 b o (hb b o h)) (fresh_base hb (by omega)) rfl rfl rfl fun h' hL => ?_
    obtain ⟨l1, ⟨_, _, l2⟩, l3, l4⟩ := hL
    refine ⟨rfl, ⟨⟨_, l1, fresh_base hb (by omega), l2, l3⟩, (Heap.UpToSlots.of_keeps k3).trans l4, ?_, R3.gens, R3.drawn, R3.os⟩⟩
    show s.toks ≤ s3.toks
    rw [R3.toks]
    exact Nat.le_add_right _ _
theorem raiseP2 (hh : A.handled = none) (hdp : A.depth + 100 < recursionLimit) (TB : TopB w.params) (TI : TopIn w.params s.heap) (h150 : 150 ≤ s.heap.objs.size) (O : Obs w.params s.heap g B) (hn : 0 ≤ n ∧ n < 3) (h1 : (lk g.lM n).isSome = true)
    (hb : base.StaysIn s.heap) (hF : s.heap.FunFrames base es) (hfr : A.frames = some es) :
    codeAny (model prog w) A (.call (.ref 94) ⟨[(.ref (g.A1+150)), (.int n j2)], [(nH, (.int (100+n) j4)), (nW, (.int v j3))]⟩) (fun r s' => r = .error (.ref (topN s + 3)) ∧ Fly base es (topN s + 3) s s') s := by
  have hZn : [Role.o 0, .o 1, .o 2, .o 3, .o 4, .o 5].Nodup := by simp
  have W := wf_of (prog := prog) (w := w) (s := s) TB TI h150 O.lts (nodup_ps O.labs hZn)
  have hM : topN s = s.heap.objs.size := by show s.heap.objs.size - 150 + 150 = _; omega
  refine codeAny_enter (by omega) (TI _ _ (kt_94 w.params)) (kd_94 w.params) (kg_94 w.params) (kc_94 w.params) ?_
  refine tree_run (C := cxOf prog w s (ps6 g)) (s₀ := s) (X := fun _ => False) (D := A.depth + 1) (U := A.units + 4) W (cxP ..) (fun _ f => f.elim) (by omega) hh (Nat.le_succ _) (by show A.units + 1 ≤ _; omega)
    (T := pE2_T w.params true prog (.block [] default) default [] 0 0 g.A0 g.A1 g.A2 g.A3 g.A4 g.A5 g.k0 g.k1 g.k2 g.k3 g.k4 g.ti g.tm g.lM g.lS g.lH g.lQ g.eM g.eS g.eH g.eQ 0 j2 j3 j4 n v (48 + n.toNat)) (sm := fun cur bl => pE2_S w.params true prog cur default bl (s.heap.objs.size - 150) s.toks g.A0 g.A1 g.A2 g.A3 g.A4 g.A5 g.k0 g.k1 g.k2 g.k3 g.k4 g.ti g.tm g.lM g.lS g.lH g.lQ g.eM g.eS g.eH g.eQ 0 j2 j3 j4 n v (48 + n.toNat)) (Rep.start W rfl rfl (start_of _ _ _ (And.intro O.o0 (And.intro O.o1 (And.intro O.o2 (And.intro O.o3 (And.intro O.o4 (And.intro O.o5 trivial)))))))) rfl (fun Γ hΓ m hm => nomatch hm)
    (fun cur p bl => Done.of_lookX (pE2_ok w.params (w.params.followText "special-get-raises") prog cur p bl (s.heap.objs.size - 150) s.toks g.A0 g.A1 g.A2 g.A3 g.A4 g.A5 g.k0 g.k1 g.k2 g.k3 g.k4 g.ti g.tm g.lM g.lS g.lH g.lQ g.eM g.eS g.eH g.eQ 0 j2 j3 j4 n v (48 + n.toNat)) (xeqT rfl rfl rfl rfl) fun s1 T1 p1 R1 hp => ?_)
  have F := allGet R1 hp
  obtain ⟨f0, f1, f2, f3, f4, f5, f6, ff, -⟩ := F
  refine ⟨top_nolim _ _ R1.top, _, rfl, ?_, ?_⟩
  · rw [bodyCode_of (kb_94 w.params)]; rfl
  rw [bodyCode_of (kb_94 w.params)]
  refine codeAny_func ?_
  have k1 := keeps6 O R1 f0 f1 f2 f3 f4 f5
  refine tree_run (C := cxOf prog w s (ps6 g)) (s₀ := s) (X := fun _ => False) (D := A.depth + 1) (U := A.units + 4) W (cxP ..) (fun _ f => f.elim) (by omega) hh (Nat.le_refl _) (by show A.units + 3 ≤ _; omega)
    (T := pB2_T w.params true prog (.block [] default) default [] (s.heap.objs.size - 150) s.toks g.A0 g.A1 g.A2 g.A3 g.A4 g.A5 g.k0 g.k1 g.k2 g.k3 g.k4 g.ti g.tm g.lM g.lS g.lH g.lQ g.eM g.eS g.eH g.eQ 0 j2 j3 j4 n v (48 + n.toNat)) (sm := fun cur bl => pB2_S w.params true prog cur default bl (s.heap.objs.size - 150) s.toks g.A0 g.A1 g.A2 g.A3 g.A4 g.A5 g.k0 g.k1 g.k2 g.k3 g.k4 g.ti g.tm g.lM g.lS g.lH g.lQ g.eM g.eS g.eH g.eQ 0 j2 j3 j4 n v (48 + n.toNat)) (na := 2) (tk := 5) (R1.retab rfl (start_of _ _ _ (And.intro f0 (And.intro f1 (And.intro f2 (And.intro f3 (And.intro f4 (And.intro f5 (And.intro f6 (And.intro ff trivial)))))))))) rfl (fun Γ hΓ => ?_)
    (fun cur p bl => Done.of_lookX (pB2_ok w.params (w.params.followText "special-get-raises") prog cur p bl (s.heap.objs.size - 150) s.toks g.A0 g.A1 g.A2 g.A3 g.A4 g.A5 g.k0 g.k1 g.k2 g.k3 g.k4 g.ti g.tm g.lM g.lS g.lH g.lQ g.eM g.eS g.eH g.eQ 0 j2 j3 j4 n v (48 + n.toNat)) (xeqT rfl rfl rfl rfl) fun s3 T3 p3 R3 hp3 => ?_)
  · unfold pB2_S
    repeat' (first | exact all_nil | refine all_cons ?_ ?_)
    all_goals refine okx ?_ rfl
    all_goals first
      | (refine ok_hasI W ?_ ?_ ?_; rfl; omega; simp [h1])
      | (refine ok_fmt ?_ ?_ ?_; exact hn.1; exact hn.2; rfl)
      | (refine ok_collect W ?_ ?_ ?_; rfl; exact Nat.succ_pos _; (simp))
  · have F3 := allGet R3 hp3
    obtain ⟨e0, e1, e2, e3, e4, e5, eff, ee, -⟩ := F3
    have k3 := keeps6 O R3 e0 e1 e2 e3 e4 e5
    have hF3 := envs_fun (P := w.params) (f := 94) (L := topN s + 1) (kk_94 w.params) (fresh_base hb (by omega)) eff (fun vs h => by cases h) (fun_of_keeps k3 hF)
    refine wpAny_leaving_firstW (base := base) (outer := es) (L := topN s + 1) (e := topN s + 3) (by show A.frames.map _ = _; rw [hfr]; rfl) hF3 rfl ee (fun b o h => k3 b o (hb b o h)) (fresh_base hb (by omega)) rfl rfl rfl fun h' hL => ?_
    obtain ⟨l1, ⟨_, _, l2⟩, l3, l4⟩ := hL
    refine ⟨rfl, ⟨⟨_, l1, fresh_base hb (by omega), l2, l3⟩, (Heap.UpToSlots.of_keeps k3).trans l4, ?_, R3.gens, R3.drawn, R3.os⟩⟩
    show s.toks ≤ s3.toks
    rw [R3.toks]
    exact Nat.le_add_right _ _
theorem raiseP3 (hh : A.handled = none) (hdp : A.depth + 100 < recursionLimit) (TB : TopB w.params) (TI : TopIn w.params s.heap) (h150 : 150 ≤ s.heap.objs.size) (O : Obs w.params s.heap g B) (hn : 0 ≤ n ∧ n < 3) (h1 : lk g.lM n = none)
    (hb : base.StaysIn s.heap) (hF : s.heap.FunFrames base es) (hfr : A.frames = some es) :
    codeAny (model prog w) A (.call (.ref 101) ⟨[(.ref (g.A1+150)), (.int n j2)], []⟩) (fun r s' => r = .error (.ref (topN s + 2)) ∧ Fly base es (topN s + 2) s s') s := by
  have hZn : [Role.o 0, .o 1, .o 2, .o 3, .o 4, .o 5].Nodup := by simp
  have W := wf_of (prog := prog) (w := w) (s := s) TB TI h150 O.lts (nodup_ps O.labs hZn)
  have hM : topN s = s.heap.objs.size := by show s.heap.objs.size - 150 + 150 = _; omega
  refine codeAny_enter (by omega) (TI _ _ (kt_101 w.params)) (kd_101 w.params) (kg_101 w.params) (kc_101 w.params) ?_
  refine tree_run (C := cxOf prog w s (ps6 g)) (s₀ := s) (X := fun _ => False) (D := A.depth + 1) (U := A.units + 4) W (cxP ..) (fun _ f => f.elim) (by omega) hh (Nat.le_succ _) (by show A.units + 1 ≤ _; omega)
    (T := pE3_T w.params true prog (.block [] default) default [] 0 0 g.A0 g.A1 g.A2 g.A3 g.A4 g.A5 g.k0 g.k1 g.k2 g.k3 g.k4 g.ti g.tm g.lM g.lS g.lH g.lQ g.eM g.eS g.eH g.eQ 0 j2 0 0 n 0 (48 + n.toNat)) (sm := fun cur bl => pE3_S w.params true prog cur default bl (s.heap.objs.size - 150) s.toks g.A0 g.A1 g.A2 g.A3 g.A4 g.A5 g.k0 g.k1 g.k2 g.k3 g.k4 g.ti g.tm g.lM g.lS g.lH g.lQ g.eM g.eS g.eH g.eQ 0 j2 0 0 n 0 (48 + n.toNat)) (Rep.start W rfl rfl (start_of _ _ _ (And.intro O.o0 (And.intro O.o1 (And.intro O.o2 (And.intro O.o3 (And.intro O.o4 (And.intro O.o5 trivial)))))))) rfl (fun Γ hΓ m hm => nomatch hm)
    (fun cur p bl => Done.of_lookX (pE3_ok w.params (w.params.followText "special-get-raises") prog cur p bl (s.heap.objs.size - 150) s.toks g.A0 g.A1 g.A2 g.A3 g.A4 g.A5 g.k0 g.k1 g.k2 g.k3 g.k4 g.ti g.tm g.lM g.lS g.lH g.lQ g.eM g.eS g.eH g.eQ 0 j2 0 0 n 0 (48 + n.toNat)) (xeqT rfl rfl rfl rfl) fun s1 T1 p1 R1 hp => ?_)
  have F := allGet R1 hp
  obtain ⟨f0, f1, f2, f3, f4, f5, ff, -⟩ := F
  refine ⟨top_nolim _ _ R1.top, _, rfl, ?_, ?_⟩
  · rw [bodyCode_of (kb_101 w.params)]; rfl
  rw [bodyCode_of (kb_101 w.params)]
  refine codeAny_func ?_
  have k1 := keeps6 O R1 f0 f1 f2 f3 f4 f5
  refine tree_run (C := cxOf prog w s (ps6 g)) (s₀ := s) (X := fun _ => False) (D := A.depth + 1) (U := A.units + 4) W (cxP ..) (fun _ f => f.elim) (by omega) hh (Nat.le_refl _) (by show A.units + 3 ≤ _; omega)
    (T := pB3_T w.params true prog (.block [] default) default [] (s.heap.objs.size - 150) s.toks g.A0 g.A1 g.A2 g.A3 g.A4 g.A5 g.k0 g.k1 g.k2 g.k3 g.k4 g.ti g.tm g.lM g.lS g.lH g.lQ g.eM g.eS g.eH g.eQ 0 j2 0 0 n 0 (48 + n.toNat)) (sm := fun cur bl => pB3_S w.params true prog cur default bl (s.heap.objs.size - 150) s.toks g.A0 g.A1 g.A2 g.A3 g.A4 g.A5 g.k0 g.k1 g.k2 g.k3 g.k4 g.ti g.tm g.lM g.lS g.lH g.lQ g.eM g.eS g.eH g.eQ 0 j2 0 0 n 0 (48 + n.toNat)) (na := 1) (tk := 2) (R1.retab rfl (start_of _ _ _ (And.intro f0 (And.intro f1 (And.intro f2 (And.intro f3 (And.intro f4 (And.intro f5 (And.intro ff trivial))))))))) rfl (fun Γ hΓ => ?_)
    (fun cur p bl => Done.of_lookX (pB3_ok w.params (w.params.followText "special-get-raises") prog cur p bl (s.heap.objs.size - 150) s.toks g.A0 g.A1 g.A2 g.A3 g.A4 g.A5 g.k0 g.k1 g.k2 g.k3 g.k4 g.ti g.tm g.lM g.lS g.lH g.lQ g.eM g.eS g.eH g.eQ 0 j2 0 0 n 0 (48 + n.toNat)) (xeqT rfl rfl rfl rfl) fun s3 T3 p3 R3 hp3 => ?_)
  · unfold pB3_S
    repeat' (first | exact all_nil | refine all_cons ?_ ?_)
    all_goals refine okx ?_ rfl
    all_goals first
      | (refine ok_hasI W ?_ ?_ ?_; rfl; omega; simp [h1])
      | (refine ok_fmt ?_ ?_ ?_; exact hn.1; exact hn.2; rfl)
      | (refine ok_collect W ?_ ?_ ?_; rfl; exact Nat.succ_pos _; (simp))
  · have F3 := allGet R3 hp3
    obtain ⟨e0, e1, e2, e3, e4, e5, eff, ee, -⟩ := F3
    have k3 := keeps6 O R3 e0 e1 e2 e3 e4 e5
    have hF3 := envs_fun (P := w.params) (f := 101) (L := topN s + 0) (kk_101 w.params) (fresh_base hb (by omega)) eff (fun vs h => by cases h) (fun_of_keeps k3 hF)
    refine wpAny_leaving_firstW (base := base) (outer := es) (L := topN s + 0) (e := topN s + 2) (by show A.frames.map _ = _; rw [hfr]; rfl) hF3 rfl ee (fun b o h => k3 b o (hb b o h)) (fresh_base hb (by omega)) rfl rfl rfl fun h' hL => ?_
    obtain ⟨l1, ⟨_, _, l2⟩, l3, l4⟩ := hL
    refine ⟨rfl, ⟨⟨_, l1, fresh_base hb (by omega), l2, l3⟩, (Heap.UpToSlots.of_keeps k3).trans l4, ?_, R3.gens, R3.drawn, R3.os⟩⟩
    show s.toks ≤ s3.toks
    rw [R3.toks]
    exact Nat.le_add_right _ _
end
end Mine

end
/-! Misc -/
noncomputable section
open PySem PySem.W PySem.W.X PyProof.Rows
namespace Mine
def mk_S (P : Params) (b : Bool) (prog : Program) (p : Pos) (bl : List (Code × Pos)) (N t0 : Nat) (Z : Nat) (o : Obj) : List Sm := []
def mk_T (P : Params) (b : Bool) (prog : Program) (p : Pos) (bl : List (Code × Pos)) (N t0 : Nat) (Z : Nat) (o : Obj) : Tab := [some o]
def mk_X (P : Params) (b : Bool) (prog : Program) (p : Pos) (bl : List (Code × Pos)) (N t0 : Nat) (Z : Nat) (o : Obj) : Out Flow := (run ⟨prog, swP P b, Mine.hz.ktop_302 P, N+150, t0, [Z+150]⟩ 100000).c (.call (.ref 118) ⟨[], []⟩) p bl none 0 0 56823010298087497619484937725308066573201051070992234466245160392125115242814604979365123018085787062037210611257746363429411532459643477399564214658050444757224496690779374632039002754140105202522595618009341769078786843846045655479064775616364544 (mk_S P b prog p bl N t0 Z o) (mk_T P b prog p bl N t0 Z o) 0 0 []
def mk_L (P : Params) (b : Bool) (prog : Program) (p : Pos) (bl : List (Code × Pos)) (N t0 : Nat) (Z : Nat) (o : Obj) := look [0, 1, 2, 4, 5, 6, 7] (mk_X P b prog p bl N t0 Z o)
def mk_R (P : Params) (b : Bool) (prog : Program) (p : Pos) (bl : List (Code × Pos)) (N t0 : Nat) (Z : Nat) (o : Obj) : Option (Except Value Flow × List (Option Obj) × Nat × Nat × List Ob) := some ((.ok (.ret (.ref (N+150+1)))), [some o, some (sdct P [(⟨#[95, 67, 97, 99, 104, 101, 95, 95, 109, 115, 103, 73, 100, 73, 110, 100, 101, 120]⟩, (t0+2), (.ref (N+150+3))), (⟨#[95, 67, 97, 99, 104, 101, 95, 95, 115, 116, 97, 116, 101, 82, 101, 102, 101, 114, 101, 110, 99, 101, 73, 110, 100, 101, 120]⟩, (t0+4), (.ref (N+150+4))), (⟨#[95, 67, 97, 99, 104, 101, 95, 95, 115, 101, 110, 100, 80, 100, 117, 72, 97, 110, 100, 108, 101, 73, 100, 120]⟩, (t0+6), (.ref (N+150+5))), (⟨#[95, 67, 97, 99, 104, 101, 95, 95, 101, 120, 112, 105, 114, 97, 116, 105, 111, 110, 81, 117, 101, 117, 101]⟩, (t0+8), (.ref (N+150+6))), (⟨#[95, 67, 97, 99, 104, 101, 95, 95, 101, 120, 112, 105, 114, 97, 116, 105, 111, 110, 84, 105, 109, 101, 114]⟩, (t0+11), (.int 0 (t0+9)))] 5), some ({ cls := (.ref 118), dict := some (N+150+0), data := .plain } : Obj), some (objOf [] 0), some (objOf [] 0), some (objOf [] 0), some (objOf [] 0)], 7, 12, obsOf (mk_X P b prog p bl N t0 Z o))
theorem mk_L0 : @mk_L = mk_L := rfl
theorem mk_R0 : @mk_R = mk_R := rfl
lay_z Mine.mk_L Mine.mk_R
name_z mkLZ for Mine.mk_L by Mine.mk_L0
name_z mkRZ for Mine.mk_R by Mine.mk_R0
theorem mk_ok (P : Params) (b : Bool) (prog : Program) (p : Pos) (bl : List (Code × Pos)) (N t0 : Nat) (Z : Nat) (o : Obj) : mk_L P b prog p bl N t0 Z o = mk_R P b prog p bl N t0 Z o := by
  rw [PySem.W.ZFast.mkLZ_eq, PySem.W.ZFast.mkRZ_eq]
  cases b <;> kernel_rfl!

def hand_S (P : Params) (b : Bool) (prog : Program) (cur : Code) (p : Pos) (bl : List (Code × Pos)) (N t0 : Nat) (Ex TB TF : Nat) (d td : ON) (tc v0 v1 v2 v3 : Value) (vr wr : VL) (sl tsl : SLO) : List Sm := []
def hand_T (P : Params) (b : Bool) (prog : Program) (cur : Code) (p : Pos) (bl : List (Code × Pos)) (N t0 : Nat) (Ex TB TF : Nat) (d td : ON) (tc v0 v1 v2 v3 : Value) (vr wr : VL) (sl tsl : SLO) : Tab := [some (excO (.ref 57) d (v0 :: .ref (TB) :: vr) sl), some (excO tc td (v1 :: v2 :: v3 :: .none :: wr) tsl)]
def hand_X (P : Params) (b : Bool) (prog : Program) (cur : Code) (p : Pos) (bl : List (Code × Pos)) (N t0 : Nat) (Ex TB TF : Nat) (d td : ON) (tc v0 v1 v2 v3 : Value) (vr wr : VL) (sl tsl : SLO) : Out Flow := (run ⟨prog, swP P b, Mine.hz.ktop_302 P, N+150, t0, [Ex+150, TB]⟩ 100000).t Flow (handleBy (.ref (Ex+150)) (envO P 137 (TF+150)) (tryH (bodyOf (fdOf P 137)))) cur p bl none 0 0 2342153282283110400 (hand_S P b prog cur p bl N t0 Ex TB TF d td tc v0 v1 v2 v3 vr wr sl tsl) (hand_T P b prog cur p bl N t0 Ex TB TF d td tc v0 v1 v2 v3 vr wr sl tsl) 0 0 []
def hand_L (P : Params) (b : Bool) (prog : Program) (cur : Code) (p : Pos) (bl : List (Code × Pos)) (N t0 : Nat) (Ex TB TF : Nat) (d td : ON) (tc v0 v1 v2 v3 : Value) (vr wr : VL) (sl tsl : SLO) := look [2] (hand_X P b prog cur p bl N t0 Ex TB TF d td tc v0 v1 v2 v3 vr wr sl tsl)
def hand_R (P : Params) (b : Bool) (prog : Program) (cur : Code) (p : Pos) (bl : List (Code × Pos)) (N t0 : Nat) (Ex TB TF : Nat) (d td : ON) (tc v0 v1 v2 v3 : Value) (vr wr : VL) (sl tsl : SLO) : Option (Except Value Flow × List (Option Obj) × Nat × Nat × List Ob) := some ((.ok (.ret (.ref (N+150+0)))), [some (lstO [])], 1, 0, obsOf (hand_X P b prog cur p bl N t0 Ex TB TF d td tc v0 v1 v2 v3 vr wr sl tsl))
theorem hand_L0 : @hand_L = hand_L := rfl
theorem hand_R0 : @hand_R = hand_R := rfl
lay_z Mine.hand_L Mine.hand_R
name_z handLZ for Mine.hand_L by Mine.hand_L0
name_z handRZ for Mine.hand_R by Mine.hand_R0
theorem hand_ok (P : Params) (b : Bool) (prog : Program) (cur : Code) (p : Pos) (bl : List (Code × Pos)) (N t0 : Nat) (Ex TB TF : Nat) (d td : ON) (tc v0 v1 v2 v3 : Value) (vr wr : VL) (sl tsl : SLO) : hand_L P b prog cur p bl N t0 Ex TB TF d td tc v0 v1 v2 v3 vr wr sl tsl = hand_R P b prog cur p bl N t0 Ex TB TF d td tc v0 v1 v2 v3 vr wr sl tsl := by
  rw [PySem.W.ZFast.handLZ_eq, PySem.W.ZFast.handRZ_eq]
  cases b <;> kernel_rfl!

end Mine

end
/-! HR1 -/
section
open PySem PySem.W PySem.W.X PyProof.Rows
namespace Mine
def tryH0 : List Stmt → ExceptHandler
  | [.Try _ (h :: _) _ _ _] => h
  | _ => .ExceptHandler none none [] default
def tryP : List Stmt → Pos
  | [.Try _ _ _ _ p] => p
  | _ => default
theorem try_form (P : Params) : bodyOf (fdOf P 137) = [.Try (tryB (bodyOf (fdOf P 137))) [tryH0 (bodyOf (fdOf P 137))] [] [] (tryP (bodyOf (fdOf P 137)))] := by kernel_rfl
theorem tryH_form (P : Params) : tryH (bodyOf (fdOf P 137)) = [tryH0 (bodyOf (fdOf P 137))] := by kernel_rfl
theorem okd {C : Cx} {w : World} {s₀ : Shared} {D U : Nat} {X : Shared → Prop} {m : Sm} (h : SmDead C w s₀ D U X m) (hd : m.dead = true) : SmOkX C w s₀ D U X m := by
  unfold SmOkX
  rw [hd]
  exact h
theorem arr2 {vs : Array Value} {a b : Value} (h0 : vs[0]? = some a) (h1 : vs[1]? = some b) : ∃ r : List Value, vs = (a :: b :: r).toArray := by
  obtain ⟨l⟩ := vs
  simp only [List.getElem?_toArray] at h0 h1
  match l, h0, h1 with
  | [], h0, _ => simp at h0
  | [_], _, h1 => simp at h1
  | x :: y :: r, h0, h1 =>
    simp only [List.getElem?_cons_zero, Option.some.injEq] at h0
    simp only [List.getElem?_cons_succ, List.getElem?_cons_zero, Option.some.injEq] at h1
    subst h0; subst h1
    exact ⟨r, rfl⟩
theorem arr4 {vs : Array Value} {b : Value} (h3 : vs[3]? = some b) : ∃ (x y z : Value) (r : List Value), vs = (x :: y :: z :: b :: r).toArray := by
  obtain ⟨l⟩ := vs
  simp only [List.getElem?_toArray] at h3
  match l, h3 with
  | [], h => simp at h
  | [_], h => simp at h
  | [_, _], h => simp at h
  | [_, _, _], h => simp at h
  | x :: y :: z :: u :: r, h3 =>
    simp only [List.getElem?_cons_succ, List.getElem?_cons_zero, Option.some.injEq] at h3
    subst h3
    exact ⟨x, y, z, r, rfl⟩
theorem wf_of2 {prog : Program} {w : World} {s : Shared} {ps : List Nat} (HT : TopIn w.params s.heap) (h150 : 150 ≤ s.heap.objs.size) (hb : ∀ p ∈ ps, p < s.heap.objs.size ∧ ∀ o, (Mine.hz.ktop_302 w.params).get p ≠ some o) (hn : ps.Nodup) : WF (cxOf prog w s ps) s := by
  refine ⟨?_, fun p hp => ?_, hn, HT, fun b o e hm => ?_, fun h H => top_nolim _ h H⟩
  · show _ = s.heap.objs.size - 150 + 150
    omega
  · show p < s.heap.objs.size - 150 + 150
    have := (hb p hp).1
    omega
  · exact (hb b hm).2 o e
theorem kt_149 (P : Params) : ((Mine.hz.ktop_302 P).get 149).isSome = true := by kernel_rfl
section
variable {prog : Program} {w : World} {A : Around} {s : Shared} {g : Cch} {a : Ab} {hd : Int → Bool} {B : Nat} {R0 : Result → Shared → Prop} {n v : Int} {j1 j2 j3 j4 : Nat} {fp : Nat → Prop} {base : Heap} {es : List Env}
/-- except ProtocolError: return [] -/
theorem handled_ok {E : Value → Shared → Prop} {Q : Flow → Shared → Prop} {e L : Nat} {cls0 : Unit} (hh : A.handled = none) (hdp : A.depth + 100 < recursionLimit) (TB : TopB w.params) (TI : TopIn w.params s.heap) (hs : 150 ≤ s.heap.objs.size) (HF : ∃ a0, Heap.FlyingW base es e (.ref 57) a0 s.heap) (hL : 150 ≤ L)
    (e150 : 150 ≤ e) (hTI : ∀ b o, (Mine.hz.ktop_302 w.params).get b = some o → base.get? b = some o)
    (k : ∀ s' l, TopIn w.params s'.heap → (∀ x o, base.get? x = some o → s'.heap.get? x = some o) → s.heap.UpToSlots s'.heap → s.toks ≤ s'.toks → s'.gens = s.gens → s'.drawn = s.drawn → s'.os = s.os → s'.heap.get? l = some (lstO []) → Q (.ret (.ref l)) s') :
    wpAny (model prog w) A (handleBy (.ref e) (envO w.params 137 L) [tryH0 (bodyOf (fdOf w.params 137))]) Q E s := by
  obtain ⟨a0, x1, x2, x3, oe, vs, T, oT, ts, he, ⟨hc, h0⟩, hdt, h1, hnT, hTe, hT, hdT, h3⟩ := HF
  obtain ⟨vr, rfl⟩ := arr2 h0 h1
  obtain ⟨v1, v2, v3, wr, rfl⟩ := arr4 h3
  obtain ⟨c, d, dt, sl⟩ := oe
  obtain ⟨c', d', dt', sl'⟩ := oT
  dsimp only at hc hdt hdT
  subst hc; subst hdt; subst hdT
  obtain ⟨e', rfl⟩ : ∃ e', e = e' + 150 := ⟨e - 150, (Nat.sub_add_cancel e150).symm⟩
  obtain ⟨L', rfl⟩ : ∃ L', L = L' + 150 := ⟨L - 150, by omega⟩
  have hlt : ∀ p ∈ [e'+150, T], p < s.heap.objs.size ∧ ∀ o, (Mine.hz.ktop_302 w.params).get p ≠ some o := fun p hp => by
    rcases List.mem_cons.mp hp with rfl | hp
    · exact ⟨Heap.lt_size he, fun o ho => by have := TB _ _ ho; omega⟩
    · rw [List.mem_singleton] at hp
      subst hp
      exact ⟨Heap.lt_size hT, fun o ho => by rw [hTI _ _ ho] at hnT; cases hnT⟩
  have W := wf_of2 (prog := prog) (w := w) (s := s) TI hs hlt (List.nodup_cons.mpr ⟨fun hm => hTe (List.mem_singleton.mp hm).symm, List.nodup_cons.mpr ⟨List.not_mem_nil, List.nodup_nil⟩⟩)
  rw [← tryH_form]
  refine tree_run (C := cxOf prog w s [e'+150, T]) (s₀ := s) (X := fun _ => False) (D := A.depth) (U := A.units) W (cxP ..) (fun _ f => f.elim) (by omega) hh (Nat.le_refl _) (Nat.le_refl _)
    (T := hand_T w.params true prog (.block [] default) default [] 0 0 e' T L' d d' c' a0 v1 v2 v3 vr wr sl sl') (sm := fun cur bl => hand_S w.params true prog cur default bl (s.heap.objs.size - 150) s.toks e' T L' d d' c' a0 v1 v2 v3 vr wr sl sl') (Rep.start W rfl rfl (start_of _ _ _ (And.intro he (And.intro hT trivial)))) rfl (fun Γ hΓ m hm => nomatch hm)
    (fun cur p bl => Done.of_lookX (hand_ok w.params (w.params.followText "special-get-raises") prog cur p bl (s.heap.objs.size - 150) s.toks e' T L' d d' c' a0 v1 v2 v3 vr wr sl sl') (xeqT rfl rfl rfl rfl) fun s1 T1 p1 R1 hp => ?_)
  have F := allGet R1 hp
  obtain ⟨fl, -⟩ := F
  have keep : ∀ x o, s.heap.get? x = some o → x ≠ e'+150 → x ≠ T → s1.heap.get? x = some o := fun x o hx n1 n2 => R1.keep x o hx (by show x ∉ [e'+150, T]; simp [n1, n2])
  refine k s1 _ R1.top (fun x o hx => ?_) (fun x o hx hn => ⟨o.slots, ?_⟩) (by rw [R1.toks]; exact Nat.le_add_right _ _) R1.gens R1.drawn R1.os fl
  · refine keep x o (x1 x o hx) (fun q => ?_) (fun q => ?_)
    · rw [q, x2] at hx; cases hx
    · rw [q, hnT] at hx; cases hx
  · refine keep x o hx (fun q => ?_) (fun q => ?_)
    · rw [q, he] at hx; cases hx; exact hn _ rfl
    · rw [q, hT] at hx; cases hx; exact hn _ rfl
theorem toldR0 (Y : Rdy w A s) (hdp : A.depth + 300 < recursionLimit) (R : Rp w.params s.heap g a hd B) (hn : 0 ≤ n ∧ n < 3) (h1 : (lk g.lS n).isSome = true)
    (hb : base.StaysIn s.heap) (hF : s.heap.FunFrames base es) (hfr : A.frames = some es) (hbase : ∀ x o, s.heap.get? x = some o → ¬ fp x → base.get? x = some o) (hfp : ∀ x, fp x → g.lab x = none ∧ 150 ≤ x)
    (k : ∀ s' l, Aft w.params s s' g g fp → Rp w.params s'.heap g a hd B → s'.heap.get? l = some (lstO []) → R0 (.ok (.ret (.ref l))) s') :
    codeAny (model prog w) A (.call (.ref 137) ⟨[.ref (g.A1+150), .int 0 j1, .int n j2, .int v j3], []⟩) R0 s := by
  have O := R.obs
  have hZn : [Role.o 0, .o 1, .o 2, .o 3, .o 4, .o 5].Nodup := by simp
  have W := wf_of (prog := prog) (w := w) (s := s) Y.tb Y.ti Y.sz O.lts (nodup_ps O.labs hZn)
  have h150 := Y.sz
  have hM : topN s = s.heap.objs.size := by show s.heap.objs.size - 150 + 150 = _; omega
  refine codeAny_enter (by omega) (Y.ti _ _ (kt_137 w.params)) (kd_137 w.params) (kg_137 w.params) (kc_137 w.params) ?_
  refine tree_run (C := cxOf prog w s (ps6 g)) (s₀ := s) (X := fun _ => False) (D := A.depth + 1) (U := A.units + 4) W (cxP ..) (fun _ f => f.elim) (by omega) Y.hh (Nat.le_succ _) (by show A.units + 1 ≤ _; omega)
    (T := tE0_T w.params true prog (.block [] default) default [] 0 0 g.A0 g.A1 g.A2 g.A3 g.A4 g.A5 g.k0 g.k1 g.k2 g.k3 g.k4 g.ti g.tm g.lM g.lS g.lH g.lQ g.eM g.eS g.eH g.eQ j1 j2 j3 0 n v 0) (sm := fun cur bl => tE0_S w.params true prog cur default bl (s.heap.objs.size - 150) s.toks g.A0 g.A1 g.A2 g.A3 g.A4 g.A5 g.k0 g.k1 g.k2 g.k3 g.k4 g.ti g.tm g.lM g.lS g.lH g.lQ g.eM g.eS g.eH g.eQ j1 j2 j3 0 n v 0) (Rep.start W rfl rfl (start_of _ _ _ (And.intro O.o0 (And.intro O.o1 (And.intro O.o2 (And.intro O.o3 (And.intro O.o4 (And.intro O.o5 trivial)))))))) rfl (fun Γ hΓ m hm => nomatch hm)
    (fun cur p bl => Done.of_lookX (tE0_ok w.params (w.params.followText "special-get-raises") prog cur p bl (s.heap.objs.size - 150) s.toks g.A0 g.A1 g.A2 g.A3 g.A4 g.A5 g.k0 g.k1 g.k2 g.k3 g.k4 g.ti g.tm g.lM g.lS g.lH g.lQ g.eM g.eS g.eH g.eQ j1 j2 j3 0 n v 0) (xeqT rfl rfl rfl rfl) fun s1 T1 p1 R1 hp => ?_)
  have F := allGet R1 hp
  obtain ⟨f0, f1, f2, f3, f4, f5, ff, -⟩ := F
  refine ⟨top_nolim _ _ R1.top, _, rfl, ?_, ?_⟩
  · rw [bodyCode_of (kb_137 w.params)]; rfl
  rw [bodyCode_of (kb_137 w.params)]
  refine codeAny_func ?_
  have k1 := keeps6 O R1 f0 f1 f2 f3 f4 f5
  have hfT : base.get? (topN s + 0) = none := fresh_base hb (by omega)
  rw [try_form]
  refine wpAny_execs_cons (wpAny_Try_except ?_)
  refine tree_run (C := cxOf prog w s (ps6 g)) (s₀ := s) (X := Fly base (envO w.params 137 (topN s + 0) :: es) (topN s + 4) s) (D := A.depth + 1) (U := A.units + 4) W (cxP ..) (fun s' H => ?_) (by omega) Y.hh (Nat.le_refl _) (by show A.units + 3 ≤ _; omega)
    (T := tB0_T w.params true prog (.block [] default) default [] (s.heap.objs.size - 150) s.toks g.A0 g.A1 g.A2 g.A3 g.A4 g.A5 g.k0 g.k1 g.k2 g.k3 g.k4 g.ti g.tm g.lM g.lS g.lH g.lQ g.eM g.eS g.eH g.eQ j1 j2 j3 0 n v 0) (sm := fun cur bl => tB0_S w.params true prog cur default bl (s.heap.objs.size - 150) s.toks g.A0 g.A1 g.A2 g.A3 g.A4 g.A5 g.k0 g.k1 g.k2 g.k3 g.k4 g.ti g.tm g.lM g.lS g.lH g.lQ g.eM g.eS g.eH g.eQ j1 j2 j3 0 n v 0) (na := 1) (tk := 4) (R1.retab rfl (start_of _ _ _ (And.intro f0 (And.intro f1 (And.intro f2 (And.intro f3 (And.intro f4 (And.intro f5 (And.intro ff trivial))))))))) rfl (fun Γ hΓ => ?_)
    (fun cur p bl => Done.of_lookDX (tB0_ok w.params (w.params.followText "special-get-raises") prog cur p bl (s.heap.objs.size - 150) s.toks g.A0 g.A1 g.A2 g.A3 g.A4 g.A5 g.k0 g.k1 g.k2 g.k3 g.k4 g.ti g.tm g.lM g.lS g.lH g.lQ g.eM g.eS g.eH g.eQ j1 j2 j3 0 n v 0) (xeqT rfl rfl rfl rfl) fun s3 p3 H3 => ?_)
  · refine top_nolim w.params _ fun b o e => ?_
    obtain ⟨a0, q1, _⟩ := H.fly
    refine q1 b o (hbase b o (Y.ti b o e) fun q => ?_)
    have := (hfp b q).2
    have := Y.tb b o e
    omega
  · unfold tB0_S
    refine all_cons ?_ all_nil
    refine okd ?_ rfl
    refine smDead_of (bl := (Γ.code, default) :: Γ.below) (es := envO w.params 137 (topN s + 0) :: es) (A := { handled := none, depth := A.depth + 1 + 80, frames := some (envO w.params 137 (topN s + 0) :: es), guards := none, units := A.units + 4 + 400 }) rfl ?_ rfl (Nat.le_refl _) (Nat.le_refl _) rfl rfl fun s2 T2 na2 tk2 hna R2 req => ?_
    · rw [envsOf_cons]
      exact hΓ.2.2.1 _ (by show (A.frames).map _ = _; rw [hfr]; rfl)
    · have hna' : na2 = 1 := hna
      subst hna'
      have g0 := R2.own 0 _ (req (0, _) (.head _))
      have g1 := R2.own 1 _ (req (1, _) (.tail _ (.head _)))
      have g2 := R2.own 2 _ (req (2, _) (.tail _ (.tail _ (.head _))))
      have g3 := R2.own 3 _ (req (3, _) (.tail _ (.tail _ (.tail _ (.head _)))))
      have g4 := R2.own 4 _ (req (4, _) (.tail _ (.tail _ (.tail _ (.tail _ (.head _))))))
      have g5 := R2.own 5 _ (req (5, _) (.tail _ (.tail _ (.tail _ (.tail _ (.tail _ (.head _)))))))
      have g6 := R2.own 6 _ (req (6, _) (.tail _ (.tail _ (.tail _ (.tail _ (.tail _ (.tail _ (.head _))))))))
      have k2 := keeps6 O R2 g0 g1 g2 g3 g4 g5
      have hsz : s2.heap.objs.size = topN s + 1 := R2.size
      have hT2 : topN s2 = topN s + 1 := by show s2.heap.objs.size - 150 + 150 = _; omega
      have O2 : Obs w.params s2.heap g B := ⟨g0, g1, g2, g3, g4, g5, O.labs, O.nd, O.ndH, O.ndQ, O.le, O.leH, O.leQ⟩
      have z := raiseP0 (prog := prog) (w := w) (A := { handled := none, depth := A.depth + 1 + 80, frames := some (envO w.params 137 (topN s + 0) :: es), guards := none, units := A.units + 4 + 400 }) (s := s2) (g := g) (B := B) (n := n) (j2 := j2) (v := v) (j3 := j3) (base := base) (es := envO w.params 137 (topN s + 0) :: es) rfl (by show A.depth + 1 + 80 + 100 < _; omega) Y.tb R2.top (by omega) O2 hn h1 (fun b o h => k2 b o (hb b o h)) (envs_fun (P := w.params) (f := 137) (L := topN s + 0) (kk_137 w.params) hfT g6 (fun vs h => by cases h) (fun_of_keeps k2 hF)) rfl
      refine codeAny_mono z fun r s' hr => ?_
      obtain ⟨hr, H⟩ := hr
      rw [hT2] at hr H
      exact ⟨hr, H.fly, (Heap.UpToSlots.of_keeps k2).trans H.up, Nat.le_trans (by rw [R2.toks]; exact Nat.le_add_right _ _) H.toks, H.gens.trans R2.gens, H.drawn.trans R2.drawn, H.os.trans R2.os⟩
  · obtain ⟨a0, fl⟩ := H3.fly
    refine wpAny_looks_onW (base := base) (outer := es) (L := topN s + 0) (by show A.frames.map _ = _; rw [hfr]; rfl) rfl fl fun h4 held u4 => ?_
    refine wpAny_landsW held fun h5 fl5 u5 => ?_
    have hb5 : base.StaysIn h5 := fl5.1
    have T5 : TopIn w.params h5 := fun b o e => hb5 b o (hbase b o (Y.ti b o e) fun q => by have := (hfp b q).2; have := Y.tb b o e; omega)
    have hTI : ∀ b o, (Mine.hz.ktop_302 w.params).get b = some o → base.get? b = some o := fun b o e => hbase b o (Y.ti b o e) fun q => by have := (hfp b q).2; have := Y.tb b o e; omega
    have hs5 : 150 ≤ h5.objs.size := by
      obtain ⟨o, ho⟩ := Option.isSome_iff_exists.mp (kt_149 w.params)
      exact Heap.lt_size (T5 _ _ ho)
    refine handled_ok (cls0 := ()) (s := { s3 with heap := h5 }) Y.hh (by show A.depth + 1 + 100 < _; omega) Y.tb T5 hs5 ⟨_, fl5⟩ (by omega) (by omega) hTI fun s6 l t6 k6 u6 c1 c2 c3 c4 hl => ?_
    · have UP : s.heap.UpToSlots s6.heap := H3.up.trans (u4.trans (u5.trans u6))
      have KE : ∀ x o, s.heap.get? x = some o → ¬ fp x → s6.heap.get? x = some o := fun x o hx q => k6 x o (hbase x o hx q)
      refine k s6 l ⟨t6, fun x o hx _ hq => KE x o hx hq, fun x o hx _ hnf => UP x o hx hnf, fun _ _ => rfl, rfl, Nat.le_trans H3.toks c1, c2.trans H3.gens, c3.trans H3.drawn, c4.trans H3.os⟩ ?_ hl
      have KL : ∀ x o r, g.lab x = some r → s.heap.get? x = some o → s6.heap.get? x = some o := fun x o r hl hx => KE x o hx fun q => by rw [(hfp x q).1] at hl; cases hl
      have O := R.obs
      have L0 := O.labs
      simp only [List.map_cons, List.map_nil, List.cons.injEq, and_true] at L0
      exact R.step (Z := []) (Nat.le_refl B) (fun x o r hl _ hx => ⟨KL x o r hl hx, hl⟩) ⟨KL _ _ _ L0.1 O.o0, KL _ _ _ L0.2.1 O.o1, KL _ _ _ L0.2.2.1 O.o2, KL _ _ _ L0.2.2.2.1 O.o3, KL _ _ _ L0.2.2.2.2.1 O.o4, KL _ _ _ L0.2.2.2.2.2 O.o5, O.labs, O.nd, O.ndH, O.ndQ, O.le, O.leH, O.leQ⟩ R.hds (fun b k => .inl ⟨rfl, rfl, by simp, by simp⟩) (fun e => .inl ⟨rfl, fun _ _ _ => Iff.rfl, by simp, by simp⟩)
theorem toldR1 (Y : Rdy w A s) (hdp : A.depth + 300 < recursionLimit) (R : Rp w.params s.heap g a hd B) (hn : 0 ≤ n ∧ n < 3) (h1 : lk g.lS n = none)
    (hb : base.StaysIn s.heap) (hF : s.heap.FunFrames base es) (hfr : A.frames = some es) (hbase : ∀ x o, s.heap.get? x = some o → ¬ fp x → base.get? x = some o) (hfp : ∀ x, fp x → g.lab x = none ∧ 150 ≤ x)
    (k : ∀ s' l, Aft w.params s s' g g fp → Rp w.params s'.heap g a hd B → s'.heap.get? l = some (lstO []) → R0 (.ok (.ret (.ref l))) s') :
    codeAny (model prog w) A (.call (.ref 137) ⟨[.ref (g.A1+150), .int 1 j1, .int n j2, .int v j3], []⟩) R0 s := by
  have O := R.obs
  have hZn : [Role.o 0, .o 1, .o 2, .o 3, .o 4, .o 5].Nodup := by simp
  have W := wf_of (prog := prog) (w := w) (s := s) Y.tb Y.ti Y.sz O.lts (nodup_ps O.labs hZn)
  have h150 := Y.sz
  have hM : topN s = s.heap.objs.size := by show s.heap.objs.size - 150 + 150 = _; omega
  refine codeAny_enter (by omega) (Y.ti _ _ (kt_137 w.params)) (kd_137 w.params) (kg_137 w.params) (kc_137 w.params) ?_
  refine tree_run (C := cxOf prog w s (ps6 g)) (s₀ := s) (X := fun _ => False) (D := A.depth + 1) (U := A.units + 4) W (cxP ..) (fun _ f => f.elim) (by omega) Y.hh (Nat.le_succ _) (by show A.units + 1 ≤ _; omega)
    (T := tE1_T w.params true prog (.block [] default) default [] 0 0 g.A0 g.A1 g.A2 g.A3 g.A4 g.A5 g.k0 g.k1 g.k2 g.k3 g.k4 g.ti g.tm g.lM g.lS g.lH g.lQ g.eM g.eS g.eH g.eQ j1 j2 j3 0 n v 0) (sm := fun cur bl => tE1_S w.params true prog cur default bl (s.heap.objs.size - 150) s.toks g.A0 g.A1 g.A2 g.A3 g.A4 g.A5 g.k0 g.k1 g.k2 g.k3 g.k4 g.ti g.tm g.lM g.lS g.lH g.lQ g.eM g.eS g.eH g.eQ j1 j2 j3 0 n v 0) (Rep.start W rfl rfl (start_of _ _ _ (And.intro O.o0 (And.intro O.o1 (And.intro O.o2 (And.intro O.o3 (And.intro O.o4 (And.intro O.o5 trivial)))))))) rfl (fun Γ hΓ m hm => nomatch hm)
    (fun cur p bl => Done.of_lookX (tE1_ok w.params (w.params.followText "special-get-raises") prog cur p bl (s.heap.objs.size - 150) s.toks g.A0 g.A1 g.A2 g.A3 g.A4 g.A5 g.k0 g.k1 g.k2 g.k3 g.k4 g.ti g.tm g.lM g.lS g.lH g.lQ g.eM g.eS g.eH g.eQ j1 j2 j3 0 n v 0) (xeqT rfl rfl rfl rfl) fun s1 T1 p1 R1 hp => ?_)
  have F := allGet R1 hp
  obtain ⟨f0, f1, f2, f3, f4, f5, ff, -⟩ := F
  refine ⟨top_nolim _ _ R1.top, _, rfl, ?_, ?_⟩
  · rw [bodyCode_of (kb_137 w.params)]; rfl
  rw [bodyCode_of (kb_137 w.params)]
  refine codeAny_func ?_
  have k1 := keeps6 O R1 f0 f1 f2 f3 f4 f5
  have hfT : base.get? (topN s + 0) = none := fresh_base hb (by omega)
  rw [try_form]
  refine wpAny_execs_cons (wpAny_Try_except ?_)
  refine tree_run (C := cxOf prog w s (ps6 g)) (s₀ := s) (X := Fly base (envO w.params 137 (topN s + 0) :: es) (topN s + 3) s) (D := A.depth + 1) (U := A.units + 4) W (cxP ..) (fun s' H => ?_) (by omega) Y.hh (Nat.le_refl _) (by show A.units + 3 ≤ _; omega)
    (T := tB1_T w.params true prog (.block [] default) default [] (s.heap.objs.size - 150) s.toks g.A0 g.A1 g.A2 g.A3 g.A4 g.A5 g.k0 g.k1 g.k2 g.k3 g.k4 g.ti g.tm g.lM g.lS g.lH g.lQ g.eM g.eS g.eH g.eQ j1 j2 j3 0 n v 0) (sm := fun cur bl => tB1_S w.params true prog cur default bl (s.heap.objs.size - 150) s.toks g.A0 g.A1 g.A2 g.A3 g.A4 g.A5 g.k0 g.k1 g.k2 g.k3 g.k4 g.ti g.tm g.lM g.lS g.lH g.lQ g.eM g.eS g.eH g.eQ j1 j2 j3 0 n v 0) (na := 1) (tk := 4) (R1.retab rfl (start_of _ _ _ (And.intro f0 (And.intro f1 (And.intro f2 (And.intro f3 (And.intro f4 (And.intro f5 (And.intro ff trivial))))))))) rfl (fun Γ hΓ => ?_)
    (fun cur p bl => Done.of_lookDX (tB1_ok w.params (w.params.followText "special-get-raises") prog cur p bl (s.heap.objs.size - 150) s.toks g.A0 g.A1 g.A2 g.A3 g.A4 g.A5 g.k0 g.k1 g.k2 g.k3 g.k4 g.ti g.tm g.lM g.lS g.lH g.lQ g.eM g.eS g.eH g.eQ j1 j2 j3 0 n v 0) (xeqT rfl rfl rfl rfl) fun s3 p3 H3 => ?_)
  · refine top_nolim w.params _ fun b o e => ?_
    obtain ⟨a0, q1, _⟩ := H.fly
    refine q1 b o (hbase b o (Y.ti b o e) fun q => ?_)
    have := (hfp b q).2
    have := Y.tb b o e
    omega
  · unfold tB1_S
    refine all_cons ?_ all_nil
    refine okd ?_ rfl
    refine smDead_of (bl := (Γ.code, default) :: Γ.below) (es := envO w.params 137 (topN s + 0) :: es) (A := { handled := none, depth := A.depth + 1 + 80, frames := some (envO w.params 137 (topN s + 0) :: es), guards := none, units := A.units + 4 + 400 }) rfl ?_ rfl (Nat.le_refl _) (Nat.le_refl _) rfl rfl fun s2 T2 na2 tk2 hna R2 req => ?_
    · rw [envsOf_cons]
      exact hΓ.2.2.1 _ (by show (A.frames).map _ = _; rw [hfr]; rfl)
    · have hna' : na2 = 1 := hna
      subst hna'
      have g0 := R2.own 0 _ (req (0, _) (.head _))
      have g1 := R2.own 1 _ (req (1, _) (.tail _ (.head _)))
      have g2 := R2.own 2 _ (req (2, _) (.tail _ (.tail _ (.head _))))
      have g3 := R2.own 3 _ (req (3, _) (.tail _ (.tail _ (.tail _ (.head _)))))
      have g4 := R2.own 4 _ (req (4, _) (.tail _ (.tail _ (.tail _ (.tail _ (.head _))))))
      have g5 := R2.own 5 _ (req (5, _) (.tail _ (.tail _ (.tail _ (.tail _ (.tail _ (.head _)))))))
      have g6 := R2.own 6 _ (req (6, _) (.tail _ (.tail _ (.tail _ (.tail _ (.tail _ (.tail _ (.head _))))))))
      have k2 := keeps6 O R2 g0 g1 g2 g3 g4 g5
      have hsz : s2.heap.objs.size = topN s + 1 := R2.size
      have hT2 : topN s2 = topN s + 1 := by show s2.heap.objs.size - 150 + 150 = _; omega
      have O2 : Obs w.params s2.heap g B := ⟨g0, g1, g2, g3, g4, g5, O.labs, O.nd, O.ndH, O.ndQ, O.le, O.leH, O.leQ⟩
      have z := raiseP1 (prog := prog) (w := w) (A := { handled := none, depth := A.depth + 1 + 80, frames := some (envO w.params 137 (topN s + 0) :: es), guards := none, units := A.units + 4 + 400 }) (s := s2) (g := g) (B := B) (n := n) (j2 := j2) (base := base) (es := envO w.params 137 (topN s + 0) :: es) rfl (by show A.depth + 1 + 80 + 100 < _; omega) Y.tb R2.top (by omega) O2 hn h1 (fun b o h => k2 b o (hb b o h)) (envs_fun (P := w.params) (f := 137) (L := topN s + 0) (kk_137 w.params) hfT g6 (fun vs h => by cases h) (fun_of_keeps k2 hF)) rfl
      refine codeAny_mono z fun r s' hr => ?_
      obtain ⟨hr, H⟩ := hr
      rw [hT2] at hr H
      exact ⟨hr, H.fly, (Heap.UpToSlots.of_keeps k2).trans H.up, Nat.le_trans (by rw [R2.toks]; exact Nat.le_add_right _ _) H.toks, H.gens.trans R2.gens, H.drawn.trans R2.drawn, H.os.trans R2.os⟩
  · obtain ⟨a0, fl⟩ := H3.fly
    refine wpAny_looks_onW (base := base) (outer := es) (L := topN s + 0) (by show A.frames.map _ = _; rw [hfr]; rfl) rfl fl fun h4 held u4 => ?_
    refine wpAny_landsW held fun h5 fl5 u5 => ?_
    have hb5 : base.StaysIn h5 := fl5.1
    have T5 : TopIn w.params h5 := fun b o e => hb5 b o (hbase b o (Y.ti b o e) fun q => by have := (hfp b q).2; have := Y.tb b o e; omega)
    have hTI : ∀ b o, (Mine.hz.ktop_302 w.params).get b = some o → base.get? b = some o := fun b o e => hbase b o (Y.ti b o e) fun q => by have := (hfp b q).2; have := Y.tb b o e; omega
    have hs5 : 150 ≤ h5.objs.size := by
      obtain ⟨o, ho⟩ := Option.isSome_iff_exists.mp (kt_149 w.params)
      exact Heap.lt_size (T5 _ _ ho)
    refine handled_ok (cls0 := ()) (s := { s3 with heap := h5 }) Y.hh (by show A.depth + 1 + 100 < _; omega) Y.tb T5 hs5 ⟨_, fl5⟩ (by omega) (by omega) hTI fun s6 l t6 k6 u6 c1 c2 c3 c4 hl => ?_
    · have UP : s.heap.UpToSlots s6.heap := H3.up.trans (u4.trans (u5.trans u6))
      have KE : ∀ x o, s.heap.get? x = some o → ¬ fp x → s6.heap.get? x = some o := fun x o hx q => k6 x o (hbase x o hx q)
      refine k s6 l ⟨t6, fun x o hx _ hq => KE x o hx hq, fun x o hx _ hnf => UP x o hx hnf, fun _ _ => rfl, rfl, Nat.le_trans H3.toks c1, c2.trans H3.gens, c3.trans H3.drawn, c4.trans H3.os⟩ ?_ hl
      have KL : ∀ x o r, g.lab x = some r → s.heap.get? x = some o → s6.heap.get? x = some o := fun x o r hl hx => KE x o hx fun q => by rw [(hfp x q).1] at hl; cases hl
      have O := R.obs
      have L0 := O.labs
      simp only [List.map_cons, List.map_nil, List.cons.injEq, and_true] at L0
      exact R.step (Z := []) (Nat.le_refl B) (fun x o r hl _ hx => ⟨KL x o r hl hx, hl⟩) ⟨KL _ _ _ L0.1 O.o0, KL _ _ _ L0.2.1 O.o1, KL _ _ _ L0.2.2.1 O.o2, KL _ _ _ L0.2.2.2.1 O.o3, KL _ _ _ L0.2.2.2.2.1 O.o4, KL _ _ _ L0.2.2.2.2.2 O.o5, O.labs, O.nd, O.ndH, O.ndQ, O.le, O.leH, O.leQ⟩ R.hds (fun b k => .inl ⟨rfl, rfl, by simp, by simp⟩) (fun e => .inl ⟨rfl, fun _ _ _ => Iff.rfl, by simp, by simp⟩)
theorem toldR2 (Y : Rdy w A s) (hdp : A.depth + 300 < recursionLimit) (R : Rp w.params s.heap g a hd B) (hn : 0 ≤ n ∧ n < 3) (h1 : (lk g.lM n).isSome = true)
    (hb : base.StaysIn s.heap) (hF : s.heap.FunFrames base es) (hfr : A.frames = some es) (hbase : ∀ x o, s.heap.get? x = some o → ¬ fp x → base.get? x = some o) (hfp : ∀ x, fp x → g.lab x = none ∧ 150 ≤ x)
    (k : ∀ s' l, Aft w.params s s' g g fp → Rp w.params s'.heap g a hd B → s'.heap.get? l = some (lstO []) → R0 (.ok (.ret (.ref l))) s') :
    codeAny (model prog w) A (.call (.ref 137) ⟨[.ref (g.A1+150), .int 2 j1, .int n j2, .int v j3], []⟩) R0 s := by
  have O := R.obs
  have hZn : [Role.o 0, .o 1, .o 2, .o 3, .o 4, .o 5].Nodup := by simp
  have W := wf_of (prog := prog) (w := w) (s := s) Y.tb Y.ti Y.sz O.lts (nodup_ps O.labs hZn)
  have h150 := Y.sz
  have hM : topN s = s.heap.objs.size := by show s.heap.objs.size - 150 + 150 = _; omega
  refine codeAny_enter (by omega) (Y.ti _ _ (kt_137 w.params)) (kd_137 w.params) (kg_137 w.params) (kc_137 w.params) ?_
  refine tree_run (C := cxOf prog w s (ps6 g)) (s₀ := s) (X := fun _ => False) (D := A.depth + 1) (U := A.units + 4) W (cxP ..) (fun _ f => f.elim) (by omega) Y.hh (Nat.le_succ _) (by show A.units + 1 ≤ _; omega)
    (T := tE2_T w.params true prog (.block [] default) default [] 0 0 g.A0 g.A1 g.A2 g.A3 g.A4 g.A5 g.k0 g.k1 g.k2 g.k3 g.k4 g.ti g.tm g.lM g.lS g.lH g.lQ g.eM g.eS g.eH g.eQ j1 j2 j3 0 n v 0) (sm := fun cur bl => tE2_S w.params true prog cur default bl (s.heap.objs.size - 150) s.toks g.A0 g.A1 g.A2 g.A3 g.A4 g.A5 g.k0 g.k1 g.k2 g.k3 g.k4 g.ti g.tm g.lM g.lS g.lH g.lQ g.eM g.eS g.eH g.eQ j1 j2 j3 0 n v 0) (Rep.start W rfl rfl (start_of _ _ _ (And.intro O.o0 (And.intro O.o1 (And.intro O.o2 (And.intro O.o3 (And.intro O.o4 (And.intro O.o5 trivial)))))))) rfl (fun Γ hΓ m hm => nomatch hm)
    (fun cur p bl => Done.of_lookX (tE2_ok w.params (w.params.followText "special-get-raises") prog cur p bl (s.heap.objs.size - 150) s.toks g.A0 g.A1 g.A2 g.A3 g.A4 g.A5 g.k0 g.k1 g.k2 g.k3 g.k4 g.ti g.tm g.lM g.lS g.lH g.lQ g.eM g.eS g.eH g.eQ j1 j2 j3 0 n v 0) (xeqT rfl rfl rfl rfl) fun s1 T1 p1 R1 hp => ?_)
  have F := allGet R1 hp
  obtain ⟨f0, f1, f2, f3, f4, f5, ff, -⟩ := F
  refine ⟨top_nolim _ _ R1.top, _, rfl, ?_, ?_⟩
  · rw [bodyCode_of (kb_137 w.params)]; rfl
  rw [bodyCode_of (kb_137 w.params)]
  refine codeAny_func ?_
  have k1 := keeps6 O R1 f0 f1 f2 f3 f4 f5
  have hfT : base.get? (topN s + 0) = none := fresh_base hb (by omega)
  rw [try_form]
  refine wpAny_execs_cons (wpAny_Try_except ?_)
  refine tree_run (C := cxOf prog w s (ps6 g)) (s₀ := s) (X := Fly base (envO w.params 137 (topN s + 0) :: es) (topN s + 4) s) (D := A.depth + 1) (U := A.units + 4) W (cxP ..) (fun s' H => ?_) (by omega) Y.hh (Nat.le_refl _) (by show A.units + 3 ≤ _; omega)
    (T := tB2_T w.params true prog (.block [] default) default [] (s.heap.objs.size - 150) s.toks g.A0 g.A1 g.A2 g.A3 g.A4 g.A5 g.k0 g.k1 g.k2 g.k3 g.k4 g.ti g.tm g.lM g.lS g.lH g.lQ g.eM g.eS g.eH g.eQ j1 j2 j3 0 n v 0) (sm := fun cur bl => tB2_S w.params true prog cur default bl (s.heap.objs.size - 150) s.toks g.A0 g.A1 g.A2 g.A3 g.A4 g.A5 g.k0 g.k1 g.k2 g.k3 g.k4 g.ti g.tm g.lM g.lS g.lH g.lQ g.eM g.eS g.eH g.eQ j1 j2 j3 0 n v 0) (na := 1) (tk := 4) (R1.retab rfl (start_of _ _ _ (And.intro f0 (And.intro f1 (And.intro f2 (And.intro f3 (And.intro f4 (And.intro f5 (And.intro ff trivial))))))))) rfl (fun Γ hΓ => ?_)
    (fun cur p bl => Done.of_lookDX (tB2_ok w.params (w.params.followText "special-get-raises") prog cur p bl (s.heap.objs.size - 150) s.toks g.A0 g.A1 g.A2 g.A3 g.A4 g.A5 g.k0 g.k1 g.k2 g.k3 g.k4 g.ti g.tm g.lM g.lS g.lH g.lQ g.eM g.eS g.eH g.eQ j1 j2 j3 0 n v 0) (xeqT rfl rfl rfl rfl) fun s3 p3 H3 => ?_)
  · refine top_nolim w.params _ fun b o e => ?_
    obtain ⟨a0, q1, _⟩ := H.fly
    refine q1 b o (hbase b o (Y.ti b o e) fun q => ?_)
    have := (hfp b q).2
    have := Y.tb b o e
    omega
  · unfold tB2_S
    refine all_cons ?_ all_nil
    refine okd ?_ rfl
    refine smDead_of (bl := (Γ.code, default) :: Γ.below) (es := envO w.params 137 (topN s + 0) :: es) (A := { handled := none, depth := A.depth + 1 + 80, frames := some (envO w.params 137 (topN s + 0) :: es), guards := none, units := A.units + 4 + 400 }) rfl ?_ rfl (Nat.le_refl _) (Nat.le_refl _) rfl rfl fun s2 T2 na2 tk2 hna R2 req => ?_
    · rw [envsOf_cons]
      exact hΓ.2.2.1 _ (by show (A.frames).map _ = _; rw [hfr]; rfl)
    · have hna' : na2 = 1 := hna
      subst hna'
      have g0 := R2.own 0 _ (req (0, _) (.head _))
      have g1 := R2.own 1 _ (req (1, _) (.tail _ (.head _)))
      have g2 := R2.own 2 _ (req (2, _) (.tail _ (.tail _ (.head _))))
      have g3 := R2.own 3 _ (req (3, _) (.tail _ (.tail _ (.tail _ (.head _)))))
      have g4 := R2.own 4 _ (req (4, _) (.tail _ (.tail _ (.tail _ (.tail _ (.head _))))))
      have g5 := R2.own 5 _ (req (5, _) (.tail _ (.tail _ (.tail _ (.tail _ (.tail _ (.head _)))))))
      have g6 := R2.own 6 _ (req (6, _) (.tail _ (.tail _ (.tail _ (.tail _ (.tail _ (.tail _ (.head _))))))))
      have k2 := keeps6 O R2 g0 g1 g2 g3 g4 g5
      have hsz : s2.heap.objs.size = topN s + 1 := R2.size
      have hT2 : topN s2 = topN s + 1 := by show s2.heap.objs.size - 150 + 150 = _; omega
      have O2 : Obs w.params s2.heap g B := ⟨g0, g1, g2, g3, g4, g5, O.labs, O.nd, O.ndH, O.ndQ, O.le, O.leH, O.leQ⟩
      have z := raiseP2 (prog := prog) (w := w) (A := { handled := none, depth := A.depth + 1 + 80, frames := some (envO w.params 137 (topN s + 0) :: es), guards := none, units := A.units + 4 + 400 }) (s := s2) (g := g) (B := B) (n := n) (j2 := j2) (v := v) (j3 := j3) (j4 := s.toks + 9) (base := base) (es := envO w.params 137 (topN s + 0) :: es) rfl (by show A.depth + 1 + 80 + 100 < _; omega) Y.tb R2.top (by omega) O2 hn h1 (fun b o h => k2 b o (hb b o h)) (envs_fun (P := w.params) (f := 137) (L := topN s + 0) (kk_137 w.params) hfT g6 (fun vs h => by cases h) (fun_of_keeps k2 hF)) rfl
      refine codeAny_mono z fun r s' hr => ?_
      obtain ⟨hr, H⟩ := hr
      rw [hT2] at hr H
      exact ⟨hr, H.fly, (Heap.UpToSlots.of_keeps k2).trans H.up, Nat.le_trans (by rw [R2.toks]; exact Nat.le_add_right _ _) H.toks, H.gens.trans R2.gens, H.drawn.trans R2.drawn, H.os.trans R2.os⟩
  · obtain ⟨a0, fl⟩ := H3.fly
    refine wpAny_looks_onW (base := base) (outer := es) (L := topN s + 0) (by show A.frames.map _ = _; rw [hfr]; rfl) rfl fl fun h4 held u4 => ?_
    refine wpAny_landsW held fun h5 fl5 u5 => ?_
    have hb5 : base.StaysIn h5 := fl5.1
    have T5 : TopIn w.params h5 := fun b o e => hb5 b o (hbase b o (Y.ti b o e) fun q => by have := (hfp b q).2; have := Y.tb b o e; omega)
    have hTI : ∀ b o, (Mine.hz.ktop_302 w.params).get b = some o → base.get? b = some o := fun b o e => hbase b o (Y.ti b o e) fun q => by have := (hfp b q).2; have := Y.tb b o e; omega
    have hs5 : 150 ≤ h5.objs.size := by
      obtain ⟨o, ho⟩ := Option.isSome_iff_exists.mp (kt_149 w.params)
      exact Heap.lt_size (T5 _ _ ho)
    refine handled_ok (cls0 := ()) (s := { s3 with heap := h5 }) Y.hh (by show A.depth + 1 + 100 < _; omega) Y.tb T5 hs5 ⟨_, fl5⟩ (by omega) (by omega) hTI fun s6 l t6 k6 u6 c1 c2 c3 c4 hl => ?_
    · have UP : s.heap.UpToSlots s6.heap := H3.up.trans (u4.trans (u5.trans u6))
      have KE : ∀ x o, s.heap.get? x = some o → ¬ fp x → s6.heap.get? x = some o := fun x o hx q => k6 x o (hbase x o hx q)
      refine k s6 l ⟨t6, fun x o hx _ hq => KE x o hx hq, fun x o hx _ hnf => UP x o hx hnf, fun _ _ => rfl, rfl, Nat.le_trans H3.toks c1, c2.trans H3.gens, c3.trans H3.drawn, c4.trans H3.os⟩ ?_ hl
      have KL : ∀ x o r, g.lab x = some r → s.heap.get? x = some o → s6.heap.get? x = some o := fun x o r hl hx => KE x o hx fun q => by rw [(hfp x q).1] at hl; cases hl
      have O := R.obs
      have L0 := O.labs
      simp only [List.map_cons, List.map_nil, List.cons.injEq, and_true] at L0
      exact R.step (Z := []) (Nat.le_refl B) (fun x o r hl _ hx => ⟨KL x o r hl hx, hl⟩) ⟨KL _ _ _ L0.1 O.o0, KL _ _ _ L0.2.1 O.o1, KL _ _ _ L0.2.2.1 O.o2, KL _ _ _ L0.2.2.2.1 O.o3, KL _ _ _ L0.2.2.2.2.1 O.o4, KL _ _ _ L0.2.2.2.2.2 O.o5, O.labs, O.nd, O.ndH, O.ndQ, O.le, O.leH, O.leQ⟩ R.hds (fun b k => .inl ⟨rfl, rfl, by simp, by simp⟩) (fun e => .inl ⟨rfl, fun _ _ _ => Iff.rfl, by simp, by simp⟩)
theorem toldR3 (Y : Rdy w A s) (hdp : A.depth + 300 < recursionLimit) (R : Rp w.params s.heap g a hd B) (hn : 0 ≤ n ∧ n < 3) (h1 : lk g.lM n = none)
    (hb : base.StaysIn s.heap) (hF : s.heap.FunFrames base es) (hfr : A.frames = some es) (hbase : ∀ x o, s.heap.get? x = some o → ¬ fp x → base.get? x = some o) (hfp : ∀ x, fp x → g.lab x = none ∧ 150 ≤ x)
    (k : ∀ s' l, Aft w.params s s' g g fp → Rp w.params s'.heap g a hd B → s'.heap.get? l = some (lstO []) → R0 (.ok (.ret (.ref l))) s') :
    codeAny (model prog w) A (.call (.ref 137) ⟨[.ref (g.A1+150), .int 3 j1, .int n j2, .int v j3], []⟩) R0 s := by
  have O := R.obs
  have hZn : [Role.o 0, .o 1, .o 2, .o 3, .o 4, .o 5].Nodup := by simp
  have W := wf_of (prog := prog) (w := w) (s := s) Y.tb Y.ti Y.sz O.lts (nodup_ps O.labs hZn)
  have h150 := Y.sz
  have hM : topN s = s.heap.objs.size := by show s.heap.objs.size - 150 + 150 = _; omega
  refine codeAny_enter (by omega) (Y.ti _ _ (kt_137 w.params)) (kd_137 w.params) (kg_137 w.params) (kc_137 w.params) ?_
  refine tree_run (C := cxOf prog w s (ps6 g)) (s₀ := s) (X := fun _ => False) (D := A.depth + 1) (U := A.units + 4) W (cxP ..) (fun _ f => f.elim) (by omega) Y.hh (Nat.le_succ _) (by show A.units + 1 ≤ _; omega)
    (T := tE3_T w.params true prog (.block [] default) default [] 0 0 g.A0 g.A1 g.A2 g.A3 g.A4 g.A5 g.k0 g.k1 g.k2 g.k3 g.k4 g.ti g.tm g.lM g.lS g.lH g.lQ g.eM g.eS g.eH g.eQ j1 j2 j3 0 n v 0) (sm := fun cur bl => tE3_S w.params true prog cur default bl (s.heap.objs.size - 150) s.toks g.A0 g.A1 g.A2 g.A3 g.A4 g.A5 g.k0 g.k1 g.k2 g.k3 g.k4 g.ti g.tm g.lM g.lS g.lH g.lQ g.eM g.eS g.eH g.eQ j1 j2 j3 0 n v 0) (Rep.start W rfl rfl (start_of _ _ _ (And.intro O.o0 (And.intro O.o1 (And.intro O.o2 (And.intro O.o3 (And.intro O.o4 (And.intro O.o5 trivial)))))))) rfl (fun Γ hΓ m hm => nomatch hm)
    (fun cur p bl => Done.of_lookX (tE3_ok w.params (w.params.followText "special-get-raises") prog cur p bl (s.heap.objs.size - 150) s.toks g.A0 g.A1 g.A2 g.A3 g.A4 g.A5 g.k0 g.k1 g.k2 g.k3 g.k4 g.ti g.tm g.lM g.lS g.lH g.lQ g.eM g.eS g.eH g.eQ j1 j2 j3 0 n v 0) (xeqT rfl rfl rfl rfl) fun s1 T1 p1 R1 hp => ?_)
  have F := allGet R1 hp
  obtain ⟨f0, f1, f2, f3, f4, f5, ff, -⟩ := F
  refine ⟨top_nolim _ _ R1.top, _, rfl, ?_, ?_⟩
  · rw [bodyCode_of (kb_137 w.params)]; rfl
  rw [bodyCode_of (kb_137 w.params)]
  refine codeAny_func ?_
  have k1 := keeps6 O R1 f0 f1 f2 f3 f4 f5
  have hfT : base.get? (topN s + 0) = none := fresh_base hb (by omega)
  rw [try_form]
  refine wpAny_execs_cons (wpAny_Try_except ?_)
  refine tree_run (C := cxOf prog w s (ps6 g)) (s₀ := s) (X := Fly base (envO w.params 137 (topN s + 0) :: es) (topN s + 3) s) (D := A.depth + 1) (U := A.units + 4) W (cxP ..) (fun s' H => ?_) (by omega) Y.hh (Nat.le_refl _) (by show A.units + 3 ≤ _; omega)
    (T := tB3_T w.params true prog (.block [] default) default [] (s.heap.objs.size - 150) s.toks g.A0 g.A1 g.A2 g.A3 g.A4 g.A5 g.k0 g.k1 g.k2 g.k3 g.k4 g.ti g.tm g.lM g.lS g.lH g.lQ g.eM g.eS g.eH g.eQ j1 j2 j3 0 n v 0) (sm := fun cur bl => tB3_S w.params true prog cur default bl (s.heap.objs.size - 150) s.toks g.A0 g.A1 g.A2 g.A3 g.A4 g.A5 g.k0 g.k1 g.k2 g.k3 g.k4 g.ti g.tm g.lM g.lS g.lH g.lQ g.eM g.eS g.eH g.eQ j1 j2 j3 0 n v 0) (na := 1) (tk := 4) (R1.retab rfl (start_of _ _ _ (And.intro f0 (And.intro f1 (And.intro f2 (And.intro f3 (And.intro f4 (And.intro f5 (And.intro ff trivial))))))))) rfl (fun Γ hΓ => ?_)
    (fun cur p bl => Done.of_lookDX (tB3_ok w.params (w.params.followText "special-get-raises") prog cur p bl (s.heap.objs.size - 150) s.toks g.A0 g.A1 g.A2 g.A3 g.A4 g.A5 g.k0 g.k1 g.k2 g.k3 g.k4 g.ti g.tm g.lM g.lS g.lH g.lQ g.eM g.eS g.eH g.eQ j1 j2 j3 0 n v 0) (xeqT rfl rfl rfl rfl) fun s3 p3 H3 => ?_)
  · refine top_nolim w.params _ fun b o e => ?_
    obtain ⟨a0, q1, _⟩ := H.fly
    refine q1 b o (hbase b o (Y.ti b o e) fun q => ?_)
    have := (hfp b q).2
    have := Y.tb b o e
    omega
  · unfold tB3_S
    refine all_cons ?_ all_nil
    refine okd ?_ rfl
    refine smDead_of (bl := (Γ.code, default) :: Γ.below) (es := envO w.params 137 (topN s + 0) :: es) (A := { handled := none, depth := A.depth + 1 + 80, frames := some (envO w.params 137 (topN s + 0) :: es), guards := none, units := A.units + 4 + 400 }) rfl ?_ rfl (Nat.le_refl _) (Nat.le_refl _) rfl rfl fun s2 T2 na2 tk2 hna R2 req => ?_
    · rw [envsOf_cons]
      exact hΓ.2.2.1 _ (by show (A.frames).map _ = _; rw [hfr]; rfl)
    · have hna' : na2 = 1 := hna
      subst hna'
      have g0 := R2.own 0 _ (req (0, _) (.head _))
      have g1 := R2.own 1 _ (req (1, _) (.tail _ (.head _)))
      have g2 := R2.own 2 _ (req (2, _) (.tail _ (.tail _ (.head _))))
      have g3 := R2.own 3 _ (req (3, _) (.tail _ (.tail _ (.tail _ (.head _)))))
      have g4 := R2.own 4 _ (req (4, _) (.tail _ (.tail _ (.tail _ (.tail _ (.head _))))))
      have g5 := R2.own 5 _ (req (5, _) (.tail _ (.tail _ (.tail _ (.tail _ (.tail _ (.head _)))))))
      have g6 := R2.own 6 _ (req (6, _) (.tail _ (.tail _ (.tail _ (.tail _ (.tail _ (.tail _ (.head _))))))))
      have k2 := keeps6 O R2 g0 g1 g2 g3 g4 g5
      have hsz : s2.heap.objs.size = topN s + 1 := R2.size
      have hT2 : topN s2 = topN s + 1 := by show s2.heap.objs.size - 150 + 150 = _; omega
      have O2 : Obs w.params s2.heap g B := ⟨g0, g1, g2, g3, g4, g5, O.labs, O.nd, O.ndH, O.ndQ, O.le, O.leH, O.leQ⟩
      have z := raiseP3 (prog := prog) (w := w) (A := { handled := none, depth := A.depth + 1 + 80, frames := some (envO w.params 137 (topN s + 0) :: es), guards := none, units := A.units + 4 + 400 }) (s := s2) (g := g) (B := B) (n := n) (j2 := j2) (base := base) (es := envO w.params 137 (topN s + 0) :: es) rfl (by show A.depth + 1 + 80 + 100 < _; omega) Y.tb R2.top (by omega) O2 hn h1 (fun b o h => k2 b o (hb b o h)) (envs_fun (P := w.params) (f := 137) (L := topN s + 0) (kk_137 w.params) hfT g6 (fun vs h => by cases h) (fun_of_keeps k2 hF)) rfl
      refine codeAny_mono z fun r s' hr => ?_
      obtain ⟨hr, H⟩ := hr
      rw [hT2] at hr H
      exact ⟨hr, H.fly, (Heap.UpToSlots.of_keeps k2).trans H.up, Nat.le_trans (by rw [R2.toks]; exact Nat.le_add_right _ _) H.toks, H.gens.trans R2.gens, H.drawn.trans R2.drawn, H.os.trans R2.os⟩
  · obtain ⟨a0, fl⟩ := H3.fly
    refine wpAny_looks_onW (base := base) (outer := es) (L := topN s + 0) (by show A.frames.map _ = _; rw [hfr]; rfl) rfl fl fun h4 held u4 => ?_
    refine wpAny_landsW held fun h5 fl5 u5 => ?_
    have hb5 : base.StaysIn h5 := fl5.1
    have T5 : TopIn w.params h5 := fun b o e => hb5 b o (hbase b o (Y.ti b o e) fun q => by have := (hfp b q).2; have := Y.tb b o e; omega)
    have hTI : ∀ b o, (Mine.hz.ktop_302 w.params).get b = some o → base.get? b = some o := fun b o e => hbase b o (Y.ti b o e) fun q => by have := (hfp b q).2; have := Y.tb b o e; omega
    have hs5 : 150 ≤ h5.objs.size := by
      obtain ⟨o, ho⟩ := Option.isSome_iff_exists.mp (kt_149 w.params)
      exact Heap.lt_size (T5 _ _ ho)
    refine handled_ok (cls0 := ()) (s := { s3 with heap := h5 }) Y.hh (by show A.depth + 1 + 100 < _; omega) Y.tb T5 hs5 ⟨_, fl5⟩ (by omega) (by omega) hTI fun s6 l t6 k6 u6 c1 c2 c3 c4 hl => ?_
    · have UP : s.heap.UpToSlots s6.heap := H3.up.trans (u4.trans (u5.trans u6))
      have KE : ∀ x o, s.heap.get? x = some o → ¬ fp x → s6.heap.get? x = some o := fun x o hx q => k6 x o (hbase x o hx q)
      refine k s6 l ⟨t6, fun x o hx _ hq => KE x o hx hq, fun x o hx _ hnf => UP x o hx hnf, fun _ _ => rfl, rfl, Nat.le_trans H3.toks c1, c2.trans H3.gens, c3.trans H3.drawn, c4.trans H3.os⟩ ?_ hl
      have KL : ∀ x o r, g.lab x = some r → s.heap.get? x = some o → s6.heap.get? x = some o := fun x o r hl hx => KE x o hx fun q => by rw [(hfp x q).1] at hl; cases hl
      have O := R.obs
      have L0 := O.labs
      simp only [List.map_cons, List.map_nil, List.cons.injEq, and_true] at L0
      exact R.step (Z := []) (Nat.le_refl B) (fun x o r hl _ hx => ⟨KL x o r hl hx, hl⟩) ⟨KL _ _ _ L0.1 O.o0, KL _ _ _ L0.2.1 O.o1, KL _ _ _ L0.2.2.1 O.o2, KL _ _ _ L0.2.2.2.1 O.o3, KL _ _ _ L0.2.2.2.2.1 O.o4, KL _ _ _ L0.2.2.2.2.2 O.o5, O.labs, O.nd, O.ndH, O.ndQ, O.le, O.leH, O.leQ⟩ R.hds (fun b k => .inl ⟨rfl, rfl, by simp, by simp⟩) (fun e => .inl ⟨rfl, fun _ _ _ => Iff.rfl, by simp, by simp⟩)
end
end Mine

end
/-! Want -/
noncomputable section
open PySem PySem.W PySem.W.X PyProof.Rows
namespace Mine
def w0a_S (P : Params) (b : Bool) (prog : Program) (p : Pos) (bl : List (Code × Pos)) (N t0 : Nat) (th : TH) (D : Nat) (lT : TL) (nT : Nat) (j1 j2 j3 j5 : Nat) (n v now : Int) : List Sm := [mkSm t0 (.fdiv 0 j1 2 (t0+5) 0), mkSm t0 (.hasT th 0 (D+150) lT nT [0, n] [(.int 0 (t0+6)), (.int n j2)] 7 (N+150+6) false), mkSm t0 (.tin 8 (N+150+7) [0, 2] [(.int 0 (t0+13)), (.int 2 (t0+14))] 0 j1 true), mkSm t0 (.setT th 0 (D+150) lT nT [0, n] [(.int 0 (t0+6)), (.int n j2)] 10 (N+150+9) (.ref (N+150+8)))]
def w0a_T (P : Params) (b : Bool) (prog : Program) (p : Pos) (bl : List (Code × Pos)) (N t0 : Nat) (th : TH) (D : Nat) (lT : TL) (nT : Nat) (j1 j2 j3 j5 : Nat) (n v now : Int) : Tab := [some (tdct th lT nT)]
def w0a_X (P : Params) (b : Bool) (prog : Program) (p : Pos) (bl : List (Code × Pos)) (N t0 : Nat) (th : TH) (D : Nat) (lT : TL) (nT : Nat) (j1 j2 j3 j5 : Nat) (n v now : Int) : Out Flow := (run ⟨prog, swP P b, Mine.hz.ktop_302 P, N+150, t0, [D+150]⟩ 100000).c (.call (.ref 144) ⟨[(.ref (D+150)), (.int now j5), (.int 0 j1), (.int n j2), (.int v j3)], []⟩) p bl none 0 0 29718082982933412966636586815228472059087641664313990409985647693673599858973763972289766284661934555885132089023024570580728008384824058824962328176261722061041836034 (w0a_S P b prog p bl N t0 th D lT nT j1 j2 j3 j5 n v now) (w0a_T P b prog p bl N t0 th D lT nT j1 j2 j3 j5 n v now) 0 0 []
def w0a_L (P : Params) (b : Bool) (prog : Program) (p : Pos) (bl : List (Code × Pos)) (N t0 : Nat) (th : TH) (D : Nat) (lT : TL) (nT : Nat) (j1 j2 j3 j5 : Nat) (n v now : Int) := look [0, 9, 10, 11] (w0a_X P b prog p bl N t0 th D lT nT j1 j2 j3 j5 n v now)
def w0a_R (P : Params) (b : Bool) (prog : Program) (p : Pos) (bl : List (Code × Pos)) (N t0 : Nat) (th : TH) (D : Nat) (lT : TL) (nT : Nat) (j1 j2 j3 j5 : Nat) (n v now : Int) : Option (Except Value Flow × List (Option Obj) × Nat × Nat × List Ob) := some ((.ok (.ret (.ref (N+150+10)))), [some (tdct th (setL lT [0, n] (N+150+9) (.ref (N+150+8))) (setN lT nT [0, n])), some (tupO [(.int v j3), (.int (now+600) (t0+16))]), some (tupO [(.int 0 (t0+6)), (.int n j2)]), some (lstO [(.int n j2)])], 11, 20, obsOf (w0a_X P b prog p bl N t0 th D lT nT j1 j2 j3 j5 n v now))
theorem w0a_L0 : @w0a_L = w0a_L := rfl
theorem w0a_R0 : @w0a_R = w0a_R := rfl
lay_z Mine.w0a_L Mine.w0a_R
name_z w0aLZ for Mine.w0a_L by Mine.w0a_L0
name_z w0aRZ for Mine.w0a_R by Mine.w0a_R0
theorem w0a_ok (P : Params) (b : Bool) (prog : Program) (p : Pos) (bl : List (Code × Pos)) (N t0 : Nat) (th : TH) (D : Nat) (lT : TL) (nT : Nat) (j1 j2 j3 j5 : Nat) (n v now : Int) : w0a_L P b prog p bl N t0 th D lT nT j1 j2 j3 j5 n v now = w0a_R P b prog p bl N t0 th D lT nT j1 j2 j3 j5 n v now := by
  rw [PySem.W.ZFast.w0aLZ_eq, PySem.W.ZFast.w0aRZ_eq]
  cases b <;> kernel_rfl!

def w0x_S (P : Params) (b : Bool) (prog : Program) (p : Pos) (bl : List (Code × Pos)) (N t0 : Nat) (th : TH) (D : Nat) (lT : TL) (nT : Nat) (j1 j2 j3 j5 : Nat) (n v now : Int) (V : Nat) (x e : Int) (j11 j12 : Nat) : List Sm := [mkSm t0 (.fdiv 0 j1 2 (t0+5) 0), mkSm t0 (.hasT th 0 (D+150) lT nT [0, n] [(.int 0 (t0+6)), (.int n j2)] 8 (N+150+6) true), mkSm t0 (.getT th 0 (D+150) lT nT [0, n] [(.int 0 (t0+6)), (.int n j2)] 9 (N+150+7) (.ref (V+150))), mkSm t0 (.ge e j12 now j5 false), mkSm t0 (.tin 10 (N+150+8) [0, 2] [(.int 0 (t0+17)), (.int 2 (t0+18))] 0 j1 true), mkSm t0 (.setT th 0 (D+150) lT nT [0, n] [(.int 0 (t0+6)), (.int n j2)] 12 (N+150+10) (.ref (N+150+9)))]
def w0x_T (P : Params) (b : Bool) (prog : Program) (p : Pos) (bl : List (Code × Pos)) (N t0 : Nat) (th : TH) (D : Nat) (lT : TL) (nT : Nat) (j1 j2 j3 j5 : Nat) (n v now : Int) (V : Nat) (x e : Int) (j11 j12 : Nat) : Tab := [some (tdct th lT nT), some (tupO [.int x j11, .int e j12])]
def w0x_X (P : Params) (b : Bool) (prog : Program) (p : Pos) (bl : List (Code × Pos)) (N t0 : Nat) (th : TH) (D : Nat) (lT : TL) (nT : Nat) (j1 j2 j3 j5 : Nat) (n v now : Int) (V : Nat) (x e : Int) (j11 j12 : Nat) : Out Flow := (run ⟨prog, swP P b, Mine.hz.ktop_302 P, N+150, t0, [D+150, V+150]⟩ 100000).c (.call (.ref 144) ⟨[(.ref (D+150)), (.int now j5), (.int 0 j1), (.int n j2), (.int v j3)], []⟩) p bl none 0 0 225439614529127039928140936981194836445375841967749227123230801254168961996978301891806913934909782081311557182158780341273234844267836214766547522367711579792408615812181099839489775779168383676418 (w0x_S P b prog p bl N t0 th D lT nT j1 j2 j3 j5 n v now V x e j11 j12) (w0x_T P b prog p bl N t0 th D lT nT j1 j2 j3 j5 n v now V x e j11 j12) 0 0 []
def w0x_L (P : Params) (b : Bool) (prog : Program) (p : Pos) (bl : List (Code × Pos)) (N t0 : Nat) (th : TH) (D : Nat) (lT : TL) (nT : Nat) (j1 j2 j3 j5 : Nat) (n v now : Int) (V : Nat) (x e : Int) (j11 j12 : Nat) := look [0, 1, 11, 13] (w0x_X P b prog p bl N t0 th D lT nT j1 j2 j3 j5 n v now V x e j11 j12)
def w0x_R (P : Params) (b : Bool) (prog : Program) (p : Pos) (bl : List (Code × Pos)) (N t0 : Nat) (th : TH) (D : Nat) (lT : TL) (nT : Nat) (j1 j2 j3 j5 : Nat) (n v now : Int) (V : Nat) (x e : Int) (j11 j12 : Nat) : Option (Except Value Flow × List (Option Obj) × Nat × Nat × List Ob) := some ((.ok (.ret (.ref (N+150+11)))), [some (tdct th (setL lT [0, n] (N+150+10) (.ref (N+150+9))) (setN lT nT [0, n])), some (tupO [.int x j11, .int e j12]), some (tupO [(.int v j3), (.int (now+600) (t0+20))]), some (lstO [(.int n j2)])], 12, 24, obsOf (w0x_X P b prog p bl N t0 th D lT nT j1 j2 j3 j5 n v now V x e j11 j12))
theorem w0x_L0 : @w0x_L = w0x_L := rfl
theorem w0x_R0 : @w0x_R = w0x_R := rfl
lay_z Mine.w0x_L Mine.w0x_R
name_z w0xLZ for Mine.w0x_L by Mine.w0x_L0
name_z w0xRZ for Mine.w0x_R by Mine.w0x_R0
theorem w0x_ok (P : Params) (b : Bool) (prog : Program) (p : Pos) (bl : List (Code × Pos)) (N t0 : Nat) (th : TH) (D : Nat) (lT : TL) (nT : Nat) (j1 j2 j3 j5 : Nat) (n v now : Int) (V : Nat) (x e : Int) (j11 j12 : Nat) : w0x_L P b prog p bl N t0 th D lT nT j1 j2 j3 j5 n v now V x e j11 j12 = w0x_R P b prog p bl N t0 th D lT nT j1 j2 j3 j5 n v now V x e j11 j12 := by
  rw [PySem.W.ZFast.w0xLZ_eq, PySem.W.ZFast.w0xRZ_eq]
  cases b <;> kernel_rfl!

def w0t_S (P : Params) (b : Bool) (prog : Program) (p : Pos) (bl : List (Code × Pos)) (N t0 : Nat) (th : TH) (D : Nat) (lT : TL) (nT : Nat) (j1 j2 j3 j5 : Nat) (n v now : Int) (V : Nat) (x e : Int) (j11 j12 : Nat) : List Sm := [mkSm t0 (.fdiv 0 j1 2 (t0+5) 0), mkSm t0 (.hasT th 0 (D+150) lT nT [0, n] [(.int 0 (t0+6)), (.int n j2)] 8 (N+150+6) true), mkSm t0 (.getT th 0 (D+150) lT nT [0, n] [(.int 0 (t0+6)), (.int n j2)] 9 (N+150+7) (.ref (V+150))), mkSm t0 (.ge e j12 now j5 true), mkSm t0 (.tin 10 (N+150+8) [0, 2] [(.int 0 (t0+17)), (.int 2 (t0+18))] 0 j1 true)]
def w0t_T (P : Params) (b : Bool) (prog : Program) (p : Pos) (bl : List (Code × Pos)) (N t0 : Nat) (th : TH) (D : Nat) (lT : TL) (nT : Nat) (j1 j2 j3 j5 : Nat) (n v now : Int) (V : Nat) (x e : Int) (j11 j12 : Nat) : Tab := [some (tdct th lT nT), some (tupO [.int x j11, .int e j12])]
def w0t_X (P : Params) (b : Bool) (prog : Program) (p : Pos) (bl : List (Code × Pos)) (N t0 : Nat) (th : TH) (D : Nat) (lT : TL) (nT : Nat) (j1 j2 j3 j5 : Nat) (n v now : Int) (V : Nat) (x e : Int) (j11 j12 : Nat) : Out Flow := (run ⟨prog, swP P b, Mine.hz.ktop_302 P, N+150, t0, [D+150, V+150]⟩ 100000).c (.call (.ref 144) ⟨[(.ref (D+150)), (.int now j5), (.int 0 j1), (.int n j2), (.int v j3)], []⟩) p bl none 0 0 3057788447349880020185007548318348982176075028864588241150875828530326269487234267125892141938327963216824066201971408632197523914582549622393824505237327734235751874836422209538 (w0t_S P b prog p bl N t0 th D lT nT j1 j2 j3 j5 n v now V x e j11 j12) (w0t_T P b prog p bl N t0 th D lT nT j1 j2 j3 j5 n v now V x e j11 j12) 0 0 []
def w0t_L (P : Params) (b : Bool) (prog : Program) (p : Pos) (bl : List (Code × Pos)) (N t0 : Nat) (th : TH) (D : Nat) (lT : TL) (nT : Nat) (j1 j2 j3 j5 : Nat) (n v now : Int) (V : Nat) (x e : Int) (j11 j12 : Nat) := look [0, 1, 11] (w0t_X P b prog p bl N t0 th D lT nT j1 j2 j3 j5 n v now V x e j11 j12)
def w0t_R (P : Params) (b : Bool) (prog : Program) (p : Pos) (bl : List (Code × Pos)) (N t0 : Nat) (th : TH) (D : Nat) (lT : TL) (nT : Nat) (j1 j2 j3 j5 : Nat) (n v now : Int) (V : Nat) (x e : Int) (j11 j12 : Nat) : Option (Except Value Flow × List (Option Obj) × Nat × Nat × List Ob) := some ((.ok (.ret (.ref (N+150+9)))), [some (tdct th lT nT), some (tupO [.int x j11, .int e j12]), some (lstO [])], 10, 19, obsOf (w0t_X P b prog p bl N t0 th D lT nT j1 j2 j3 j5 n v now V x e j11 j12))
theorem w0t_L0 : @w0t_L = w0t_L := rfl
theorem w0t_R0 : @w0t_R = w0t_R := rfl
lay_z Mine.w0t_L Mine.w0t_R
name_z w0tLZ for Mine.w0t_L by Mine.w0t_L0
name_z w0tRZ for Mine.w0t_R by Mine.w0t_R0
theorem w0t_ok (P : Params) (b : Bool) (prog : Program) (p : Pos) (bl : List (Code × Pos)) (N t0 : Nat) (th : TH) (D : Nat) (lT : TL) (nT : Nat) (j1 j2 j3 j5 : Nat) (n v now : Int) (V : Nat) (x e : Int) (j11 j12 : Nat) : w0t_L P b prog p bl N t0 th D lT nT j1 j2 j3 j5 n v now V x e j11 j12 = w0t_R P b prog p bl N t0 th D lT nT j1 j2 j3 j5 n v now V x e j11 j12 := by
  rw [PySem.W.ZFast.w0tLZ_eq, PySem.W.ZFast.w0tRZ_eq]
  cases b <;> kernel_rfl!

def w1a_S (P : Params) (b : Bool) (prog : Program) (p : Pos) (bl : List (Code × Pos)) (N t0 : Nat) (th : TH) (D : Nat) (lT : TL) (nT : Nat) (j1 j2 j3 j5 : Nat) (n v now : Int) : List Sm := [mkSm t0 (.fdiv 1 j1 2 (t0+5) 0), mkSm t0 (.hasT th 0 (D+150) lT nT [0, n] [(.int 0 (t0+6)), (.int n j2)] 7 (N+150+6) false), mkSm t0 (.tin 8 (N+150+7) [0, 2] [(.int 0 (t0+13)), (.int 2 (t0+14))] 1 j1 false)]
def w1a_T (P : Params) (b : Bool) (prog : Program) (p : Pos) (bl : List (Code × Pos)) (N t0 : Nat) (th : TH) (D : Nat) (lT : TL) (nT : Nat) (j1 j2 j3 j5 : Nat) (n v now : Int) : Tab := [some (tdct th lT nT)]
def w1a_X (P : Params) (b : Bool) (prog : Program) (p : Pos) (bl : List (Code × Pos)) (N t0 : Nat) (th : TH) (D : Nat) (lT : TL) (nT : Nat) (j1 j2 j3 j5 : Nat) (n v now : Int) : Out Flow := (run ⟨prog, swP P b, Mine.hz.ktop_302 P, N+150, t0, [D+150]⟩ 100000).c (.call (.ref 144) ⟨[(.ref (D+150)), (.int now j5), (.int 1 j1), (.int n j2), (.int v j3)], []⟩) p bl none 0 0 104748902604118926324712257316505220029828430954264965959589519982385122546548239289124722735613632558070685931601141961950528263264808717349046396133378 (w1a_S P b prog p bl N t0 th D lT nT j1 j2 j3 j5 n v now) (w1a_T P b prog p bl N t0 th D lT nT j1 j2 j3 j5 n v now) 0 0 []
def w1a_L (P : Params) (b : Bool) (prog : Program) (p : Pos) (bl : List (Code × Pos)) (N t0 : Nat) (th : TH) (D : Nat) (lT : TL) (nT : Nat) (j1 j2 j3 j5 : Nat) (n v now : Int) := look [0, 9] (w1a_X P b prog p bl N t0 th D lT nT j1 j2 j3 j5 n v now)
def w1a_R (P : Params) (b : Bool) (prog : Program) (p : Pos) (bl : List (Code × Pos)) (N t0 : Nat) (th : TH) (D : Nat) (lT : TL) (nT : Nat) (j1 j2 j3 j5 : Nat) (n v now : Int) : Option (Except Value Flow × List (Option Obj) × Nat × Nat × List Ob) := some ((.ok (.ret (.ref (N+150+8)))), [some (tdct th lT nT), some (lstO [])], 9, 16, obsOf (w1a_X P b prog p bl N t0 th D lT nT j1 j2 j3 j5 n v now))
theorem w1a_L0 : @w1a_L = w1a_L := rfl
theorem w1a_R0 : @w1a_R = w1a_R := rfl
lay_z Mine.w1a_L Mine.w1a_R
name_z w1aLZ for Mine.w1a_L by Mine.w1a_L0
name_z w1aRZ for Mine.w1a_R by Mine.w1a_R0
theorem w1a_ok (P : Params) (b : Bool) (prog : Program) (p : Pos) (bl : List (Code × Pos)) (N t0 : Nat) (th : TH) (D : Nat) (lT : TL) (nT : Nat) (j1 j2 j3 j5 : Nat) (n v now : Int) : w1a_L P b prog p bl N t0 th D lT nT j1 j2 j3 j5 n v now = w1a_R P b prog p bl N t0 th D lT nT j1 j2 j3 j5 n v now := by
  rw [PySem.W.ZFast.w1aLZ_eq, PySem.W.ZFast.w1aRZ_eq]
  cases b <;> kernel_rfl!

def w1x_S (P : Params) (b : Bool) (prog : Program) (p : Pos) (bl : List (Code × Pos)) (N t0 : Nat) (th : TH) (D : Nat) (lT : TL) (nT : Nat) (j1 j2 j3 j5 : Nat) (n v now : Int) (V : Nat) (x e : Int) (j11 j12 : Nat) : List Sm := [mkSm t0 (.fdiv 1 j1 2 (t0+5) 0), mkSm t0 (.hasT th 0 (D+150) lT nT [0, n] [(.int 0 (t0+6)), (.int n j2)] 8 (N+150+6) true), mkSm t0 (.getT th 0 (D+150) lT nT [0, n] [(.int 0 (t0+6)), (.int n j2)] 9 (N+150+7) (.ref (V+150))), mkSm t0 (.ge e j12 now j5 false), mkSm t0 (.tin 10 (N+150+8) [0, 2] [(.int 0 (t0+17)), (.int 2 (t0+18))] 1 j1 false)]
def w1x_T (P : Params) (b : Bool) (prog : Program) (p : Pos) (bl : List (Code × Pos)) (N t0 : Nat) (th : TH) (D : Nat) (lT : TL) (nT : Nat) (j1 j2 j3 j5 : Nat) (n v now : Int) (V : Nat) (x e : Int) (j11 j12 : Nat) : Tab := [some (tdct th lT nT), some (tupO [.int x j11, .int e j12])]
def w1x_X (P : Params) (b : Bool) (prog : Program) (p : Pos) (bl : List (Code × Pos)) (N t0 : Nat) (th : TH) (D : Nat) (lT : TL) (nT : Nat) (j1 j2 j3 j5 : Nat) (n v now : Int) (V : Nat) (x e : Int) (j11 j12 : Nat) : Out Flow := (run ⟨prog, swP P b, Mine.hz.ktop_302 P, N+150, t0, [D+150, V+150]⟩ 100000).c (.call (.ref 144) ⟨[(.ref (D+150)), (.int now j5), (.int 1 j1), (.int n j2), (.int v j3)], []⟩) p bl none 0 0 796710047013597997914402494836251259343371852665576749387407358176433870117547851343010879289985866831297211053435953494428501204002975441663902361974386265243481142004964664969801730 (w1x_S P b prog p bl N t0 th D lT nT j1 j2 j3 j5 n v now V x e j11 j12) (w1x_T P b prog p bl N t0 th D lT nT j1 j2 j3 j5 n v now V x e j11 j12) 0 0 []
def w1x_L (P : Params) (b : Bool) (prog : Program) (p : Pos) (bl : List (Code × Pos)) (N t0 : Nat) (th : TH) (D : Nat) (lT : TL) (nT : Nat) (j1 j2 j3 j5 : Nat) (n v now : Int) (V : Nat) (x e : Int) (j11 j12 : Nat) := look [0, 1, 11] (w1x_X P b prog p bl N t0 th D lT nT j1 j2 j3 j5 n v now V x e j11 j12)
def w1x_R (P : Params) (b : Bool) (prog : Program) (p : Pos) (bl : List (Code × Pos)) (N t0 : Nat) (th : TH) (D : Nat) (lT : TL) (nT : Nat) (j1 j2 j3 j5 : Nat) (n v now : Int) (V : Nat) (x e : Int) (j11 j12 : Nat) : Option (Except Value Flow × List (Option Obj) × Nat × Nat × List Ob) := some ((.ok (.ret (.ref (N+150+9)))), [some (tdct th lT nT), some (tupO [.int x j11, .int e j12]), some (lstO [])], 10, 20, obsOf (w1x_X P b prog p bl N t0 th D lT nT j1 j2 j3 j5 n v now V x e j11 j12))
theorem w1x_L0 : @w1x_L = w1x_L := rfl
theorem w1x_R0 : @w1x_R = w1x_R := rfl
lay_z Mine.w1x_L Mine.w1x_R
name_z w1xLZ for Mine.w1x_L by Mine.w1x_L0
name_z w1xRZ for Mine.w1x_R by Mine.w1x_R0
theorem w1x_ok (P : Params) (b : Bool) (prog : Program) (p : Pos) (bl : List (Code × Pos)) (N t0 : Nat) (th : TH) (D : Nat) (lT : TL) (nT : Nat) (j1 j2 j3 j5 : Nat) (n v now : Int) (V : Nat) (x e : Int) (j11 j12 : Nat) : w1x_L P b prog p bl N t0 th D lT nT j1 j2 j3 j5 n v now V x e j11 j12 = w1x_R P b prog p bl N t0 th D lT nT j1 j2 j3 j5 n v now V x e j11 j12 := by
  rw [PySem.W.ZFast.w1xLZ_eq, PySem.W.ZFast.w1xRZ_eq]
  cases b <;> kernel_rfl!

def w1t_S (P : Params) (b : Bool) (prog : Program) (p : Pos) (bl : List (Code × Pos)) (N t0 : Nat) (th : TH) (D : Nat) (lT : TL) (nT : Nat) (j1 j2 j3 j5 : Nat) (n v now : Int) (V : Nat) (x e : Int) (j11 j12 : Nat) : List Sm := [mkSm t0 (.fdiv 1 j1 2 (t0+5) 0), mkSm t0 (.hasT th 0 (D+150) lT nT [0, n] [(.int 0 (t0+6)), (.int n j2)] 8 (N+150+6) true), mkSm t0 (.getT th 0 (D+150) lT nT [0, n] [(.int 0 (t0+6)), (.int n j2)] 9 (N+150+7) (.ref (V+150))), mkSm t0 (.ge e j12 now j5 true), mkSm t0 (.tin 10 (N+150+8) [0, 2] [(.int 0 (t0+17)), (.int 2 (t0+18))] 1 j1 false), mkSm t0 (.popT th 0 (D+150) lT nT [0, n] [(.int 0 (t0+6)), (.int n j2)] 11 (N+150+9) (.ref (V+150)))]
def w1t_T (P : Params) (b : Bool) (prog : Program) (p : Pos) (bl : List (Code × Pos)) (N t0 : Nat) (th : TH) (D : Nat) (lT : TL) (nT : Nat) (j1 j2 j3 j5 : Nat) (n v now : Int) (V : Nat) (x e : Int) (j11 j12 : Nat) : Tab := [some (tdct th lT nT), some (tupO [.int x j11, .int e j12])]
def w1t_X (P : Params) (b : Bool) (prog : Program) (p : Pos) (bl : List (Code × Pos)) (N t0 : Nat) (th : TH) (D : Nat) (lT : TL) (nT : Nat) (j1 j2 j3 j5 : Nat) (n v now : Int) (V : Nat) (x e : Int) (j11 j12 : Nat) : Out Flow := (run ⟨prog, swP P b, Mine.hz.ktop_302 P, N+150, t0, [D+150, V+150]⟩ 100000).c (.call (.ref 144) ⟨[(.ref (D+150)), (.int now j5), (.int 1 j1), (.int n j2), (.int v j3)], []⟩) p bl none 0 0 657677554114943648779572235921745252536047588339352357917997914291325834056839725278746909628157042056156864222917038553082680793090308416487742547896412799586646685151468716942585016463139059717663249773899778 (w1t_S P b prog p bl N t0 th D lT nT j1 j2 j3 j5 n v now V x e j11 j12) (w1t_T P b prog p bl N t0 th D lT nT j1 j2 j3 j5 n v now V x e j11 j12) 0 0 []
def w1t_L (P : Params) (b : Bool) (prog : Program) (p : Pos) (bl : List (Code × Pos)) (N t0 : Nat) (th : TH) (D : Nat) (lT : TL) (nT : Nat) (j1 j2 j3 j5 : Nat) (n v now : Int) (V : Nat) (x e : Int) (j11 j12 : Nat) := look [0, 1, 12] (w1t_X P b prog p bl N t0 th D lT nT j1 j2 j3 j5 n v now V x e j11 j12)
def w1t_R (P : Params) (b : Bool) (prog : Program) (p : Pos) (bl : List (Code × Pos)) (N t0 : Nat) (th : TH) (D : Nat) (lT : TL) (nT : Nat) (j1 j2 j3 j5 : Nat) (n v now : Int) (V : Nat) (x e : Int) (j11 j12 : Nat) : Option (Except Value Flow × List (Option Obj) × Nat × Nat × List Ob) := some ((.ok (.ret (.ref (N+150+10)))), [some (tdct th (rem lT [0, n]) (nT + 1)), some (tupO [.int x j11, .int e j12]), some (lstO [(.int x j11)])], 11, 24, obsOf (w1t_X P b prog p bl N t0 th D lT nT j1 j2 j3 j5 n v now V x e j11 j12))
theorem w1t_L0 : @w1t_L = w1t_L := rfl
theorem w1t_R0 : @w1t_R = w1t_R := rfl
lay_z Mine.w1t_L Mine.w1t_R
name_z w1tLZ for Mine.w1t_L by Mine.w1t_L0
name_z w1tRZ for Mine.w1t_R by Mine.w1t_R0
theorem w1t_ok (P : Params) (b : Bool) (prog : Program) (p : Pos) (bl : List (Code × Pos)) (N t0 : Nat) (th : TH) (D : Nat) (lT : TL) (nT : Nat) (j1 j2 j3 j5 : Nat) (n v now : Int) (V : Nat) (x e : Int) (j11 j12 : Nat) : w1t_L P b prog p bl N t0 th D lT nT j1 j2 j3 j5 n v now V x e j11 j12 = w1t_R P b prog p bl N t0 th D lT nT j1 j2 j3 j5 n v now V x e j11 j12 := by
  rw [PySem.W.ZFast.w1tLZ_eq, PySem.W.ZFast.w1tRZ_eq]
  cases b <;> kernel_rfl!

def w2a_S (P : Params) (b : Bool) (prog : Program) (p : Pos) (bl : List (Code × Pos)) (N t0 : Nat) (th : TH) (D : Nat) (lT : TL) (nT : Nat) (j1 j2 j3 j5 : Nat) (n v now : Int) : List Sm := [mkSm t0 (.fdiv 2 j1 2 (t0+5) 1), mkSm t0 (.hasT th 0 (D+150) lT nT [1, n] [(.int 1 (t0+6)), (.int n j2)] 7 (N+150+6) false), mkSm t0 (.tin 8 (N+150+7) [0, 2] [(.int 0 (t0+13)), (.int 2 (t0+14))] 2 j1 true), mkSm t0 (.setT th 0 (D+150) lT nT [1, n] [(.int 1 (t0+6)), (.int n j2)] 10 (N+150+9) (.ref (N+150+8)))]
def w2a_T (P : Params) (b : Bool) (prog : Program) (p : Pos) (bl : List (Code × Pos)) (N t0 : Nat) (th : TH) (D : Nat) (lT : TL) (nT : Nat) (j1 j2 j3 j5 : Nat) (n v now : Int) : Tab := [some (tdct th lT nT)]
def w2a_X (P : Params) (b : Bool) (prog : Program) (p : Pos) (bl : List (Code × Pos)) (N t0 : Nat) (th : TH) (D : Nat) (lT : TL) (nT : Nat) (j1 j2 j3 j5 : Nat) (n v now : Int) : Out Flow := (run ⟨prog, swP P b, Mine.hz.ktop_302 P, N+150, t0, [D+150]⟩ 100000).c (.call (.ref 144) ⟨[(.ref (D+150)), (.int now j5), (.int 2 j1), (.int n j2), (.int v j3)], []⟩) p bl none 0 0 29718082982933412966636586815228472059087641664313990409985647693673599858973763972289766284661934555885132089023024570580728008384824058824962328176261722061041836034 (w2a_S P b prog p bl N t0 th D lT nT j1 j2 j3 j5 n v now) (w2a_T P b prog p bl N t0 th D lT nT j1 j2 j3 j5 n v now) 0 0 []
def w2a_L (P : Params) (b : Bool) (prog : Program) (p : Pos) (bl : List (Code × Pos)) (N t0 : Nat) (th : TH) (D : Nat) (lT : TL) (nT : Nat) (j1 j2 j3 j5 : Nat) (n v now : Int) := look [0, 9, 10, 11] (w2a_X P b prog p bl N t0 th D lT nT j1 j2 j3 j5 n v now)
def w2a_R (P : Params) (b : Bool) (prog : Program) (p : Pos) (bl : List (Code × Pos)) (N t0 : Nat) (th : TH) (D : Nat) (lT : TL) (nT : Nat) (j1 j2 j3 j5 : Nat) (n v now : Int) : Option (Except Value Flow × List (Option Obj) × Nat × Nat × List Ob) := some ((.ok (.ret (.ref (N+150+10)))), [some (tdct th (setL lT [1, n] (N+150+9) (.ref (N+150+8))) (setN lT nT [1, n])), some (tupO [(.int v j3), (.int (now+600) (t0+16))]), some (tupO [(.int 1 (t0+6)), (.int n j2)]), some (lstO [(.int n j2)])], 11, 20, obsOf (w2a_X P b prog p bl N t0 th D lT nT j1 j2 j3 j5 n v now))
theorem w2a_L0 : @w2a_L = w2a_L := rfl
theorem w2a_R0 : @w2a_R = w2a_R := rfl
lay_z Mine.w2a_L Mine.w2a_R
name_z w2aLZ for Mine.w2a_L by Mine.w2a_L0
name_z w2aRZ for Mine.w2a_R by Mine.w2a_R0
theorem w2a_ok (P : Params) (b : Bool) (prog : Program) (p : Pos) (bl : List (Code × Pos)) (N t0 : Nat) (th : TH) (D : Nat) (lT : TL) (nT : Nat) (j1 j2 j3 j5 : Nat) (n v now : Int) : w2a_L P b prog p bl N t0 th D lT nT j1 j2 j3 j5 n v now = w2a_R P b prog p bl N t0 th D lT nT j1 j2 j3 j5 n v now := by
  rw [PySem.W.ZFast.w2aLZ_eq, PySem.W.ZFast.w2aRZ_eq]
  cases b <;> kernel_rfl!

def w2x_S (P : Params) (b : Bool) (prog : Program) (p : Pos) (bl : List (Code × Pos)) (N t0 : Nat) (th : TH) (D : Nat) (lT : TL) (nT : Nat) (j1 j2 j3 j5 : Nat) (n v now : Int) (V : Nat) (x e : Int) (j11 j12 : Nat) : List Sm := [mkSm t0 (.fdiv 2 j1 2 (t0+5) 1), mkSm t0 (.hasT th 0 (D+150) lT nT [1, n] [(.int 1 (t0+6)), (.int n j2)] 8 (N+150+6) true), mkSm t0 (.getT th 0 (D+150) lT nT [1, n] [(.int 1 (t0+6)), (.int n j2)] 9 (N+150+7) (.ref (V+150))), mkSm t0 (.ge e j12 now j5 false), mkSm t0 (.tin 10 (N+150+8) [0, 2] [(.int 0 (t0+17)), (.int 2 (t0+18))] 2 j1 true), mkSm t0 (.setT th 0 (D+150) lT nT [1, n] [(.int 1 (t0+6)), (.int n j2)] 12 (N+150+10) (.ref (N+150+9)))]
def w2x_T (P : Params) (b : Bool) (prog : Program) (p : Pos) (bl : List (Code × Pos)) (N t0 : Nat) (th : TH) (D : Nat) (lT : TL) (nT : Nat) (j1 j2 j3 j5 : Nat) (n v now : Int) (V : Nat) (x e : Int) (j11 j12 : Nat) : Tab := [some (tdct th lT nT), some (tupO [.int x j11, .int e j12])]
def w2x_X (P : Params) (b : Bool) (prog : Program) (p : Pos) (bl : List (Code × Pos)) (N t0 : Nat) (th : TH) (D : Nat) (lT : TL) (nT : Nat) (j1 j2 j3 j5 : Nat) (n v now : Int) (V : Nat) (x e : Int) (j11 j12 : Nat) : Out Flow := (run ⟨prog, swP P b, Mine.hz.ktop_302 P, N+150, t0, [D+150, V+150]⟩ 100000).c (.call (.ref 144) ⟨[(.ref (D+150)), (.int now j5), (.int 2 j1), (.int n j2), (.int v j3)], []⟩) p bl none 0 0 225439614529127039928140936981194836445375841967749227123230801254168961996978301891806913934909782081311557182158780341273234844267836214766547522367711579792408615812181099839489775779168383676418 (w2x_S P b prog p bl N t0 th D lT nT j1 j2 j3 j5 n v now V x e j11 j12) (w2x_T P b prog p bl N t0 th D lT nT j1 j2 j3 j5 n v now V x e j11 j12) 0 0 []
def w2x_L (P : Params) (b : Bool) (prog : Program) (p : Pos) (bl : List (Code × Pos)) (N t0 : Nat) (th : TH) (D : Nat) (lT : TL) (nT : Nat) (j1 j2 j3 j5 : Nat) (n v now : Int) (V : Nat) (x e : Int) (j11 j12 : Nat) := look [0, 1, 11, 13] (w2x_X P b prog p bl N t0 th D lT nT j1 j2 j3 j5 n v now V x e j11 j12)
def w2x_R (P : Params) (b : Bool) (prog : Program) (p : Pos) (bl : List (Code × Pos)) (N t0 : Nat) (th : TH) (D : Nat) (lT : TL) (nT : Nat) (j1 j2 j3 j5 : Nat) (n v now : Int) (V : Nat) (x e : Int) (j11 j12 : Nat) : Option (Except Value Flow × List (Option Obj) × Nat × Nat × List Ob) := some ((.ok (.ret (.ref (N+150+11)))), [some (tdct th (setL lT [1, n] (N+150+10) (.ref (N+150+9))) (setN lT nT [1, n])), some (tupO [.int x j11, .int e j12]), some (tupO [(.int v j3), (.int (now+600) (t0+20))]), some (lstO [(.int n j2)])], 12, 24, obsOf (w2x_X P b prog p bl N t0 th D lT nT j1 j2 j3 j5 n v now V x e j11 j12))
theorem w2x_L0 : @w2x_L = w2x_L := rfl
theorem w2x_R0 : @w2x_R = w2x_R := rfl
lay_z Mine.w2x_L Mine.w2x_R
name_z w2xLZ for Mine.w2x_L by Mine.w2x_L0
name_z w2xRZ for Mine.w2x_R by Mine.w2x_R0
theorem w2x_ok (P : Params) (b : Bool) (prog : Program) (p : Pos) (bl : List (Code × Pos)) (N t0 : Nat) (th : TH) (D : Nat) (lT : TL) (nT : Nat) (j1 j2 j3 j5 : Nat) (n v now : Int) (V : Nat) (x e : Int) (j11 j12 : Nat) : w2x_L P b prog p bl N t0 th D lT nT j1 j2 j3 j5 n v now V x e j11 j12 = w2x_R P b prog p bl N t0 th D lT nT j1 j2 j3 j5 n v now V x e j11 j12 := by
  rw [PySem.W.ZFast.w2xLZ_eq, PySem.W.ZFast.w2xRZ_eq]
  cases b <;> kernel_rfl!

def w2t_S (P : Params) (b : Bool) (prog : Program) (p : Pos) (bl : List (Code × Pos)) (N t0 : Nat) (th : TH) (D : Nat) (lT : TL) (nT : Nat) (j1 j2 j3 j5 : Nat) (n v now : Int) (V : Nat) (x e : Int) (j11 j12 : Nat) : List Sm := [mkSm t0 (.fdiv 2 j1 2 (t0+5) 1), mkSm t0 (.hasT th 0 (D+150) lT nT [1, n] [(.int 1 (t0+6)), (.int n j2)] 8 (N+150+6) true), mkSm t0 (.getT th 0 (D+150) lT nT [1, n] [(.int 1 (t0+6)), (.int n j2)] 9 (N+150+7) (.ref (V+150))), mkSm t0 (.ge e j12 now j5 true), mkSm t0 (.tin 10 (N+150+8) [0, 2] [(.int 0 (t0+17)), (.int 2 (t0+18))] 2 j1 true)]
def w2t_T (P : Params) (b : Bool) (prog : Program) (p : Pos) (bl : List (Code × Pos)) (N t0 : Nat) (th : TH) (D : Nat) (lT : TL) (nT : Nat) (j1 j2 j3 j5 : Nat) (n v now : Int) (V : Nat) (x e : Int) (j11 j12 : Nat) : Tab := [some (tdct th lT nT), some (tupO [.int x j11, .int e j12])]
def w2t_X (P : Params) (b : Bool) (prog : Program) (p : Pos) (bl : List (Code × Pos)) (N t0 : Nat) (th : TH) (D : Nat) (lT : TL) (nT : Nat) (j1 j2 j3 j5 : Nat) (n v now : Int) (V : Nat) (x e : Int) (j11 j12 : Nat) : Out Flow := (run ⟨prog, swP P b, Mine.hz.ktop_302 P, N+150, t0, [D+150, V+150]⟩ 100000).c (.call (.ref 144) ⟨[(.ref (D+150)), (.int now j5), (.int 2 j1), (.int n j2), (.int v j3)], []⟩) p bl none 0 0 3057788447349880020185007548318348982176075028864588241150875828530326269487234267125892141938327963216824066201971408632197523914582549622393824505237327734235751874836422209538 (w2t_S P b prog p bl N t0 th D lT nT j1 j2 j3 j5 n v now V x e j11 j12) (w2t_T P b prog p bl N t0 th D lT nT j1 j2 j3 j5 n v now V x e j11 j12) 0 0 []
def w2t_L (P : Params) (b : Bool) (prog : Program) (p : Pos) (bl : List (Code × Pos)) (N t0 : Nat) (th : TH) (D : Nat) (lT : TL) (nT : Nat) (j1 j2 j3 j5 : Nat) (n v now : Int) (V : Nat) (x e : Int) (j11 j12 : Nat) := look [0, 1, 11] (w2t_X P b prog p bl N t0 th D lT nT j1 j2 j3 j5 n v now V x e j11 j12)
def w2t_R (P : Params) (b : Bool) (prog : Program) (p : Pos) (bl : List (Code × Pos)) (N t0 : Nat) (th : TH) (D : Nat) (lT : TL) (nT : Nat) (j1 j2 j3 j5 : Nat) (n v now : Int) (V : Nat) (x e : Int) (j11 j12 : Nat) : Option (Except Value Flow × List (Option Obj) × Nat × Nat × List Ob) := some ((.ok (.ret (.ref (N+150+9)))), [some (tdct th lT nT), some (tupO [.int x j11, .int e j12]), some (lstO [])], 10, 19, obsOf (w2t_X P b prog p bl N t0 th D lT nT j1 j2 j3 j5 n v now V x e j11 j12))
theorem w2t_L0 : @w2t_L = w2t_L := rfl
theorem w2t_R0 : @w2t_R = w2t_R := rfl
lay_z Mine.w2t_L Mine.w2t_R
name_z w2tLZ for Mine.w2t_L by Mine.w2t_L0
name_z w2tRZ for Mine.w2t_R by Mine.w2t_R0
theorem w2t_ok (P : Params) (b : Bool) (prog : Program) (p : Pos) (bl : List (Code × Pos)) (N t0 : Nat) (th : TH) (D : Nat) (lT : TL) (nT : Nat) (j1 j2 j3 j5 : Nat) (n v now : Int) (V : Nat) (x e : Int) (j11 j12 : Nat) : w2t_L P b prog p bl N t0 th D lT nT j1 j2 j3 j5 n v now V x e j11 j12 = w2t_R P b prog p bl N t0 th D lT nT j1 j2 j3 j5 n v now V x e j11 j12 := by
  rw [PySem.W.ZFast.w2tLZ_eq, PySem.W.ZFast.w2tRZ_eq]
  cases b <;> kernel_rfl!

def w3a_S (P : Params) (b : Bool) (prog : Program) (p : Pos) (bl : List (Code × Pos)) (N t0 : Nat) (th : TH) (D : Nat) (lT : TL) (nT : Nat) (j1 j2 j3 j5 : Nat) (n v now : Int) : List Sm := [mkSm t0 (.fdiv 3 j1 2 (t0+5) 1), mkSm t0 (.hasT th 0 (D+150) lT nT [1, n] [(.int 1 (t0+6)), (.int n j2)] 7 (N+150+6) false), mkSm t0 (.tin 8 (N+150+7) [0, 2] [(.int 0 (t0+13)), (.int 2 (t0+14))] 3 j1 false)]
def w3a_T (P : Params) (b : Bool) (prog : Program) (p : Pos) (bl : List (Code × Pos)) (N t0 : Nat) (th : TH) (D : Nat) (lT : TL) (nT : Nat) (j1 j2 j3 j5 : Nat) (n v now : Int) : Tab := [some (tdct th lT nT)]
def w3a_X (P : Params) (b : Bool) (prog : Program) (p : Pos) (bl : List (Code × Pos)) (N t0 : Nat) (th : TH) (D : Nat) (lT : TL) (nT : Nat) (j1 j2 j3 j5 : Nat) (n v now : Int) : Out Flow := (run ⟨prog, swP P b, Mine.hz.ktop_302 P, N+150, t0, [D+150]⟩ 100000).c (.call (.ref 144) ⟨[(.ref (D+150)), (.int now j5), (.int 3 j1), (.int n j2), (.int v j3)], []⟩) p bl none 0 0 104748902604118926324712257316505220029828430954264965959589519982385122546548239289124722735613632558070685931601141961950528263264808717349046396133378 (w3a_S P b prog p bl N t0 th D lT nT j1 j2 j3 j5 n v now) (w3a_T P b prog p bl N t0 th D lT nT j1 j2 j3 j5 n v now) 0 0 []
def w3a_L (P : Params) (b : Bool) (prog : Program) (p : Pos) (bl : List (Code × Pos)) (N t0 : Nat) (th : TH) (D : Nat) (lT : TL) (nT : Nat) (j1 j2 j3 j5 : Nat) (n v now : Int) := look [0, 9] (w3a_X P b prog p bl N t0 th D lT nT j1 j2 j3 j5 n v now)
def w3a_R (P : Params) (b : Bool) (prog : Program) (p : Pos) (bl : List (Code × Pos)) (N t0 : Nat) (th : TH) (D : Nat) (lT : TL) (nT : Nat) (j1 j2 j3 j5 : Nat) (n v now : Int) : Option (Except Value Flow × List (Option Obj) × Nat × Nat × List Ob) := some ((.ok (.ret (.ref (N+150+8)))), [some (tdct th lT nT), some (lstO [])], 9, 16, obsOf (w3a_X P b prog p bl N t0 th D lT nT j1 j2 j3 j5 n v now))
theorem w3a_L0 : @w3a_L = w3a_L := rfl
theorem w3a_R0 : @w3a_R = w3a_R := rfl
lay_z Mine.w3a_L Mine.w3a_R
name_z w3aLZ for Mine.w3a_L by Mine.w3a_L0
name_z w3aRZ for Mine.w3a_R by Mine.w3a_R0
theorem w3a_ok (P : Params) (b : Bool) (prog : Program) (p : Pos) (bl : List (Code × Pos)) (N t0 : Nat) (th : TH) (D : Nat) (lT : TL) (nT : Nat) (j1 j2 j3 j5 : Nat) (n v now : Int) : w3a_L P b prog p bl N t0 th D lT nT j1 j2 j3 j5 n v now = w3a_R P b prog p bl N t0 th D lT nT j1 j2 j3 j5 n v now := by
  rw [PySem.W.ZFast.w3aLZ_eq, PySem.W.ZFast.w3aRZ_eq]
  cases b <;> kernel_rfl!

def w3x_S (P : Params) (b : Bool) (prog : Program) (p : Pos) (bl : List (Code × Pos)) (N t0 : Nat) (th : TH) (D : Nat) (lT : TL) (nT : Nat) (j1 j2 j3 j5 : Nat) (n v now : Int) (V : Nat) (x e : Int) (j11 j12 : Nat) : List Sm := [mkSm t0 (.fdiv 3 j1 2 (t0+5) 1), mkSm t0 (.hasT th 0 (D+150) lT nT [1, n] [(.int 1 (t0+6)), (.int n j2)] 8 (N+150+6) true), mkSm t0 (.getT th 0 (D+150) lT nT [1, n] [(.int 1 (t0+6)), (.int n j2)] 9 (N+150+7) (.ref (V+150))), mkSm t0 (.ge e j12 now j5 false), mkSm t0 (.tin 10 (N+150+8) [0, 2] [(.int 0 (t0+17)), (.int 2 (t0+18))] 3 j1 false)]
def w3x_T (P : Params) (b : Bool) (prog : Program) (p : Pos) (bl : List (Code × Pos)) (N t0 : Nat) (th : TH) (D : Nat) (lT : TL) (nT : Nat) (j1 j2 j3 j5 : Nat) (n v now : Int) (V : Nat) (x e : Int) (j11 j12 : Nat) : Tab := [some (tdct th lT nT), some (tupO [.int x j11, .int e j12])]
def w3x_X (P : Params) (b : Bool) (prog : Program) (p : Pos) (bl : List (Code × Pos)) (N t0 : Nat) (th : TH) (D : Nat) (lT : TL) (nT : Nat) (j1 j2 j3 j5 : Nat) (n v now : Int) (V : Nat) (x e : Int) (j11 j12 : Nat) : Out Flow := (run ⟨prog, swP P b, Mine.hz.ktop_302 P, N+150, t0, [D+150, V+150]⟩ 100000).c (.call (.ref 144) ⟨[(.ref (D+150)), (.int now j5), (.int 3 j1), (.int n j2), (.int v j3)], []⟩) p bl none 0 0 796710047013597997914402494836251259343371852665576749387407358176433870117547851343010879289985866831297211053435953494428501204002975441663902361974386265243481142004964664969801730 (w3x_S P b prog p bl N t0 th D lT nT j1 j2 j3 j5 n v now V x e j11 j12) (w3x_T P b prog p bl N t0 th D lT nT j1 j2 j3 j5 n v now V x e j11 j12) 0 0 []
def w3x_L (P : Params) (b : Bool) (prog : Program) (p : Pos) (bl : List (Code × Pos)) (N t0 : Nat) (th : TH) (D : Nat) (lT : TL) (nT : Nat) (j1 j2 j3 j5 : Nat) (n v now : Int) (V : Nat) (x e : Int) (j11 j12 : Nat) := look [0, 1, 11] (w3x_X P b prog p bl N t0 th D lT nT j1 j2 j3 j5 n v now V x e j11 j12)
def w3x_R (P : Params) (b : Bool) (prog : Program) (p : Pos) (bl : List (Code × Pos)) (N t0 : Nat) (th : TH) (D : Nat) (lT : TL) (nT : Nat) (j1 j2 j3 j5 : Nat) (n v now : Int) (V : Nat) (x e : Int) (j11 j12 : Nat) : Option (Except Value Flow × List (Option Obj) × Nat × Nat × List Ob) := some ((.ok (.ret (.ref (N+150+9)))), [some (tdct th lT nT), some (tupO [.int x j11, .int e j12]), some (lstO [])], 10, 20, obsOf (w3x_X P b prog p bl N t0 th D lT nT j1 j2 j3 j5 n v now V x e j11 j12))
theorem w3x_L0 : @w3x_L = w3x_L := rfl
theorem w3x_R0 : @w3x_R = w3x_R := rfl
lay_z Mine.w3x_L Mine.w3x_R
name_z w3xLZ for Mine.w3x_L by Mine.w3x_L0
name_z w3xRZ for Mine.w3x_R by Mine.w3x_R0
theorem w3x_ok (P : Params) (b : Bool) (prog : Program) (p : Pos) (bl : List (Code × Pos)) (N t0 : Nat) (th : TH) (D : Nat) (lT : TL) (nT : Nat) (j1 j2 j3 j5 : Nat) (n v now : Int) (V : Nat) (x e : Int) (j11 j12 : Nat) : w3x_L P b prog p bl N t0 th D lT nT j1 j2 j3 j5 n v now V x e j11 j12 = w3x_R P b prog p bl N t0 th D lT nT j1 j2 j3 j5 n v now V x e j11 j12 := by
  rw [PySem.W.ZFast.w3xLZ_eq, PySem.W.ZFast.w3xRZ_eq]
  cases b <;> kernel_rfl!

def w3t_S (P : Params) (b : Bool) (prog : Program) (p : Pos) (bl : List (Code × Pos)) (N t0 : Nat) (th : TH) (D : Nat) (lT : TL) (nT : Nat) (j1 j2 j3 j5 : Nat) (n v now : Int) (V : Nat) (x e : Int) (j11 j12 : Nat) : List Sm := [mkSm t0 (.fdiv 3 j1 2 (t0+5) 1), mkSm t0 (.hasT th 0 (D+150) lT nT [1, n] [(.int 1 (t0+6)), (.int n j2)] 8 (N+150+6) true), mkSm t0 (.getT th 0 (D+150) lT nT [1, n] [(.int 1 (t0+6)), (.int n j2)] 9 (N+150+7) (.ref (V+150))), mkSm t0 (.ge e j12 now j5 true), mkSm t0 (.tin 10 (N+150+8) [0, 2] [(.int 0 (t0+17)), (.int 2 (t0+18))] 3 j1 false), mkSm t0 (.popT th 0 (D+150) lT nT [1, n] [(.int 1 (t0+6)), (.int n j2)] 11 (N+150+9) (.ref (V+150)))]
def w3t_T (P : Params) (b : Bool) (prog : Program) (p : Pos) (bl : List (Code × Pos)) (N t0 : Nat) (th : TH) (D : Nat) (lT : TL) (nT : Nat) (j1 j2 j3 j5 : Nat) (n v now : Int) (V : Nat) (x e : Int) (j11 j12 : Nat) : Tab := [some (tdct th lT nT), some (tupO [.int x j11, .int e j12])]
def w3t_X (P : Params) (b : Bool) (prog : Program) (p : Pos) (bl : List (Code × Pos)) (N t0 : Nat) (th : TH) (D : Nat) (lT : TL) (nT : Nat) (j1 j2 j3 j5 : Nat) (n v now : Int) (V : Nat) (x e : Int) (j11 j12 : Nat) : Out Flow := (run ⟨prog, swP P b, Mine.hz.ktop_302 P, N+150, t0, [D+150, V+150]⟩ 100000).c (.call (.ref 144) ⟨[(.ref (D+150)), (.int now j5), (.int 3 j1), (.int n j2), (.int v j3)], []⟩) p bl none 0 0 657677554114943648779572235921745252536047588339352357917997914291325834056839725278746909628157042056156864222917038553082680793090308416487742547896412799586646685151468716942585016463139059717663249773899778 (w3t_S P b prog p bl N t0 th D lT nT j1 j2 j3 j5 n v now V x e j11 j12) (w3t_T P b prog p bl N t0 th D lT nT j1 j2 j3 j5 n v now V x e j11 j12) 0 0 []
def w3t_L (P : Params) (b : Bool) (prog : Program) (p : Pos) (bl : List (Code × Pos)) (N t0 : Nat) (th : TH) (D : Nat) (lT : TL) (nT : Nat) (j1 j2 j3 j5 : Nat) (n v now : Int) (V : Nat) (x e : Int) (j11 j12 : Nat) := look [0, 1, 12] (w3t_X P b prog p bl N t0 th D lT nT j1 j2 j3 j5 n v now V x e j11 j12)
def w3t_R (P : Params) (b : Bool) (prog : Program) (p : Pos) (bl : List (Code × Pos)) (N t0 : Nat) (th : TH) (D : Nat) (lT : TL) (nT : Nat) (j1 j2 j3 j5 : Nat) (n v now : Int) (V : Nat) (x e : Int) (j11 j12 : Nat) : Option (Except Value Flow × List (Option Obj) × Nat × Nat × List Ob) := some ((.ok (.ret (.ref (N+150+10)))), [some (tdct th (rem lT [1, n]) (nT + 1)), some (tupO [.int x j11, .int e j12]), some (lstO [(.int x j11)])], 11, 24, obsOf (w3t_X P b prog p bl N t0 th D lT nT j1 j2 j3 j5 n v now V x e j11 j12))
theorem w3t_L0 : @w3t_L = w3t_L := rfl
theorem w3t_R0 : @w3t_R = w3t_R := rfl
lay_z Mine.w3t_L Mine.w3t_R
name_z w3tLZ for Mine.w3t_L by Mine.w3t_L0
name_z w3tRZ for Mine.w3t_R by Mine.w3t_R0
theorem w3t_ok (P : Params) (b : Bool) (prog : Program) (p : Pos) (bl : List (Code × Pos)) (N t0 : Nat) (th : TH) (D : Nat) (lT : TL) (nT : Nat) (j1 j2 j3 j5 : Nat) (n v now : Int) (V : Nat) (x e : Int) (j11 j12 : Nat) : w3t_L P b prog p bl N t0 th D lT nT j1 j2 j3 j5 n v now V x e j11 j12 = w3t_R P b prog p bl N t0 th D lT nT j1 j2 j3 j5 n v now V x e j11 j12 := by
  rw [PySem.W.ZFast.w3tLZ_eq, PySem.W.ZFast.w3tRZ_eq]
  cases b <;> kernel_rfl!

def w4a_S (P : Params) (b : Bool) (prog : Program) (p : Pos) (bl : List (Code × Pos)) (N t0 : Nat) (th : TH) (D : Nat) (lT : TL) (nT : Nat) (j1 j2 j3 j5 : Nat) (n v now : Int) : List Sm := [mkSm t0 (.fdiv 4 j1 2 (t0+5) 2), mkSm t0 (.hasT th 0 (D+150) lT nT [1, n] [(.int 1 (t0+7)), (.int n j2)] 7 (N+150+6) false), mkSm t0 (.tin 8 (N+150+7) [0, 2] [(.int 0 (t0+13)), (.int 2 (t0+14))] 4 j1 false)]
def w4a_T (P : Params) (b : Bool) (prog : Program) (p : Pos) (bl : List (Code × Pos)) (N t0 : Nat) (th : TH) (D : Nat) (lT : TL) (nT : Nat) (j1 j2 j3 j5 : Nat) (n v now : Int) : Tab := [some (tdct th lT nT)]
def w4a_X (P : Params) (b : Bool) (prog : Program) (p : Pos) (bl : List (Code × Pos)) (N t0 : Nat) (th : TH) (D : Nat) (lT : TL) (nT : Nat) (j1 j2 j3 j5 : Nat) (n v now : Int) : Out Flow := (run ⟨prog, swP P b, Mine.hz.ktop_302 P, N+150, t0, [D+150]⟩ 100000).c (.call (.ref 144) ⟨[(.ref (D+150)), (.int now j5), (.int 4 j1), (.int n j2), (.int v j3)], []⟩) p bl none 0 0 1784847497317690238857831974546814608020474781040761020041493454234524196153101404914797285544078094961926460060195835004998753039300335909877071674161962164226 (w4a_S P b prog p bl N t0 th D lT nT j1 j2 j3 j5 n v now) (w4a_T P b prog p bl N t0 th D lT nT j1 j2 j3 j5 n v now) 0 0 []
def w4a_L (P : Params) (b : Bool) (prog : Program) (p : Pos) (bl : List (Code × Pos)) (N t0 : Nat) (th : TH) (D : Nat) (lT : TL) (nT : Nat) (j1 j2 j3 j5 : Nat) (n v now : Int) := look [0, 9] (w4a_X P b prog p bl N t0 th D lT nT j1 j2 j3 j5 n v now)
def w4a_R (P : Params) (b : Bool) (prog : Program) (p : Pos) (bl : List (Code × Pos)) (N t0 : Nat) (th : TH) (D : Nat) (lT : TL) (nT : Nat) (j1 j2 j3 j5 : Nat) (n v now : Int) : Option (Except Value Flow × List (Option Obj) × Nat × Nat × List Ob) := some ((.ok (.ret (.ref (N+150+8)))), [some (tdct th lT nT), some (lstO [(.int n j2)])], 9, 16, obsOf (w4a_X P b prog p bl N t0 th D lT nT j1 j2 j3 j5 n v now))
theorem w4a_L0 : @w4a_L = w4a_L := rfl
theorem w4a_R0 : @w4a_R = w4a_R := rfl
lay_z Mine.w4a_L Mine.w4a_R
name_z w4aLZ for Mine.w4a_L by Mine.w4a_L0
name_z w4aRZ for Mine.w4a_R by Mine.w4a_R0
theorem w4a_ok (P : Params) (b : Bool) (prog : Program) (p : Pos) (bl : List (Code × Pos)) (N t0 : Nat) (th : TH) (D : Nat) (lT : TL) (nT : Nat) (j1 j2 j3 j5 : Nat) (n v now : Int) : w4a_L P b prog p bl N t0 th D lT nT j1 j2 j3 j5 n v now = w4a_R P b prog p bl N t0 th D lT nT j1 j2 j3 j5 n v now := by
  rw [PySem.W.ZFast.w4aLZ_eq, PySem.W.ZFast.w4aRZ_eq]
  cases b <;> kernel_rfl!

def w4x_S (P : Params) (b : Bool) (prog : Program) (p : Pos) (bl : List (Code × Pos)) (N t0 : Nat) (th : TH) (D : Nat) (lT : TL) (nT : Nat) (j1 j2 j3 j5 : Nat) (n v now : Int) (V : Nat) (x e : Int) (j11 j12 : Nat) : List Sm := [mkSm t0 (.fdiv 4 j1 2 (t0+5) 2), mkSm t0 (.hasT th 0 (D+150) lT nT [1, n] [(.int 1 (t0+7)), (.int n j2)] 8 (N+150+6) true), mkSm t0 (.getT th 0 (D+150) lT nT [1, n] [(.int 1 (t0+7)), (.int n j2)] 9 (N+150+7) (.ref (V+150))), mkSm t0 (.ge e j12 now j5 false), mkSm t0 (.tin 10 (N+150+8) [0, 2] [(.int 0 (t0+17)), (.int 2 (t0+18))] 4 j1 false)]
def w4x_T (P : Params) (b : Bool) (prog : Program) (p : Pos) (bl : List (Code × Pos)) (N t0 : Nat) (th : TH) (D : Nat) (lT : TL) (nT : Nat) (j1 j2 j3 j5 : Nat) (n v now : Int) (V : Nat) (x e : Int) (j11 j12 : Nat) : Tab := [some (tdct th lT nT), some (tupO [.int x j11, .int e j12])]
def w4x_X (P : Params) (b : Bool) (prog : Program) (p : Pos) (bl : List (Code × Pos)) (N t0 : Nat) (th : TH) (D : Nat) (lT : TL) (nT : Nat) (j1 j2 j3 j5 : Nat) (n v now : Int) (V : Nat) (x e : Int) (j11 j12 : Nat) : Out Flow := (run ⟨prog, swP P b, Mine.hz.ktop_302 P, N+150, t0, [D+150, V+150]⟩ 100000).c (.call (.ref 144) ⟨[(.ref (D+150)), (.int now j5), (.int 4 j1), (.int n j2), (.int v j3)], []⟩) p bl none 0 0 13575378005504357688178080566181426491027439263274930373010140594284835796879766494721503683555221997565637276177600206851492488166754391574276564136500169050201036882348739910341632977547266 (w4x_S P b prog p bl N t0 th D lT nT j1 j2 j3 j5 n v now V x e j11 j12) (w4x_T P b prog p bl N t0 th D lT nT j1 j2 j3 j5 n v now V x e j11 j12) 0 0 []
def w4x_L (P : Params) (b : Bool) (prog : Program) (p : Pos) (bl : List (Code × Pos)) (N t0 : Nat) (th : TH) (D : Nat) (lT : TL) (nT : Nat) (j1 j2 j3 j5 : Nat) (n v now : Int) (V : Nat) (x e : Int) (j11 j12 : Nat) := look [0, 1, 11] (w4x_X P b prog p bl N t0 th D lT nT j1 j2 j3 j5 n v now V x e j11 j12)
def w4x_R (P : Params) (b : Bool) (prog : Program) (p : Pos) (bl : List (Code × Pos)) (N t0 : Nat) (th : TH) (D : Nat) (lT : TL) (nT : Nat) (j1 j2 j3 j5 : Nat) (n v now : Int) (V : Nat) (x e : Int) (j11 j12 : Nat) : Option (Except Value Flow × List (Option Obj) × Nat × Nat × List Ob) := some ((.ok (.ret (.ref (N+150+9)))), [some (tdct th lT nT), some (tupO [.int x j11, .int e j12]), some (lstO [(.int n j2)])], 10, 20, obsOf (w4x_X P b prog p bl N t0 th D lT nT j1 j2 j3 j5 n v now V x e j11 j12))
theorem w4x_L0 : @w4x_L = w4x_L := rfl
theorem w4x_R0 : @w4x_R = w4x_R := rfl
lay_z Mine.w4x_L Mine.w4x_R
name_z w4xLZ for Mine.w4x_L by Mine.w4x_L0
name_z w4xRZ for Mine.w4x_R by Mine.w4x_R0
theorem w4x_ok (P : Params) (b : Bool) (prog : Program) (p : Pos) (bl : List (Code × Pos)) (N t0 : Nat) (th : TH) (D : Nat) (lT : TL) (nT : Nat) (j1 j2 j3 j5 : Nat) (n v now : Int) (V : Nat) (x e : Int) (j11 j12 : Nat) : w4x_L P b prog p bl N t0 th D lT nT j1 j2 j3 j5 n v now V x e j11 j12 = w4x_R P b prog p bl N t0 th D lT nT j1 j2 j3 j5 n v now V x e j11 j12 := by
  rw [PySem.W.ZFast.w4xLZ_eq, PySem.W.ZFast.w4xRZ_eq]
  cases b <;> kernel_rfl!

def w4t_S (P : Params) (b : Bool) (prog : Program) (p : Pos) (bl : List (Code × Pos)) (N t0 : Nat) (th : TH) (D : Nat) (lT : TL) (nT : Nat) (j1 j2 j3 j5 : Nat) (n v now : Int) (V : Nat) (x e : Int) (j11 j12 : Nat) : List Sm := [mkSm t0 (.fdiv 4 j1 2 (t0+5) 2), mkSm t0 (.hasT th 0 (D+150) lT nT [1, n] [(.int 1 (t0+7)), (.int n j2)] 8 (N+150+6) true), mkSm t0 (.getT th 0 (D+150) lT nT [1, n] [(.int 1 (t0+7)), (.int n j2)] 9 (N+150+7) (.ref (V+150))), mkSm t0 (.ge e j12 now j5 true), mkSm t0 (.tin 10 (N+150+8) [0, 2] [(.int 0 (t0+17)), (.int 2 (t0+18))] 4 j1 false), mkSm t0 (.popT th 0 (D+150) lT nT [1, n] [(.int 1 (t0+7)), (.int n j2)] 11 (N+150+9) (.ref (V+150)))]
def w4t_T (P : Params) (b : Bool) (prog : Program) (p : Pos) (bl : List (Code × Pos)) (N t0 : Nat) (th : TH) (D : Nat) (lT : TL) (nT : Nat) (j1 j2 j3 j5 : Nat) (n v now : Int) (V : Nat) (x e : Int) (j11 j12 : Nat) : Tab := [some (tdct th lT nT), some (tupO [.int x j11, .int e j12])]
def w4t_X (P : Params) (b : Bool) (prog : Program) (p : Pos) (bl : List (Code × Pos)) (N t0 : Nat) (th : TH) (D : Nat) (lT : TL) (nT : Nat) (j1 j2 j3 j5 : Nat) (n v now : Int) (V : Nat) (x e : Int) (j11 j12 : Nat) : Out Flow := (run ⟨prog, swP P b, Mine.hz.ktop_302 P, N+150, t0, [D+150, V+150]⟩ 100000).c (.call (.ref 144) ⟨[(.ref (D+150)), (.int now j5), (.int 4 j1), (.int n j2), (.int v j3)], []⟩) p bl none 0 0 240810440987427832641368806909527245520268273559902802569121437167019819910564600292166351117603225857021677155857886470038793625315226823810864573711149745571036922097718275308901437523551241801652123742210 (w4t_S P b prog p bl N t0 th D lT nT j1 j2 j3 j5 n v now V x e j11 j12) (w4t_T P b prog p bl N t0 th D lT nT j1 j2 j3 j5 n v now V x e j11 j12) 0 0 []
def w4t_L (P : Params) (b : Bool) (prog : Program) (p : Pos) (bl : List (Code × Pos)) (N t0 : Nat) (th : TH) (D : Nat) (lT : TL) (nT : Nat) (j1 j2 j3 j5 : Nat) (n v now : Int) (V : Nat) (x e : Int) (j11 j12 : Nat) := look [0, 1, 12] (w4t_X P b prog p bl N t0 th D lT nT j1 j2 j3 j5 n v now V x e j11 j12)
def w4t_R (P : Params) (b : Bool) (prog : Program) (p : Pos) (bl : List (Code × Pos)) (N t0 : Nat) (th : TH) (D : Nat) (lT : TL) (nT : Nat) (j1 j2 j3 j5 : Nat) (n v now : Int) (V : Nat) (x e : Int) (j11 j12 : Nat) : Option (Except Value Flow × List (Option Obj) × Nat × Nat × List Ob) := some ((.ok (.ret (.ref (N+150+10)))), [some (tdct th (rem lT [1, n]) (nT + 1)), some (tupO [.int x j11, .int e j12]), some (lstO [(.int n j2)])], 11, 23, obsOf (w4t_X P b prog p bl N t0 th D lT nT j1 j2 j3 j5 n v now V x e j11 j12))
theorem w4t_L0 : @w4t_L = w4t_L := rfl
theorem w4t_R0 : @w4t_R = w4t_R := rfl
lay_z Mine.w4t_L Mine.w4t_R
name_z w4tLZ for Mine.w4t_L by Mine.w4t_L0
name_z w4tRZ for Mine.w4t_R by Mine.w4t_R0
theorem w4t_ok (P : Params) (b : Bool) (prog : Program) (p : Pos) (bl : List (Code × Pos)) (N t0 : Nat) (th : TH) (D : Nat) (lT : TL) (nT : Nat) (j1 j2 j3 j5 : Nat) (n v now : Int) (V : Nat) (x e : Int) (j11 j12 : Nat) : w4t_L P b prog p bl N t0 th D lT nT j1 j2 j3 j5 n v now V x e j11 j12 = w4t_R P b prog p bl N t0 th D lT nT j1 j2 j3 j5 n v now V x e j11 j12 := by
  rw [PySem.W.ZFast.w4tLZ_eq, PySem.W.ZFast.w4tRZ_eq]
  cases b <;> kernel_rfl!

end Mine

end
/-! HW0 -/
section
open PySem PySem.W PySem.W.X PyProof.Rows
namespace Mine
abbrev Hf := Int → Int → Option (Int × Int)
def setF (f : Hf) (a n : Int) (r : Option (Int × Int)) : Hf := fun b k => if b = a ∧ k = n then r else f b k
theorem setF_self (f : Hf) (a n : Int) (r : Option (Int × Int)) : setF f a n r a n = r := if_pos ⟨rfl, rfl⟩
theorem setF_ne (f : Hf) {a n b k : Int} (r : Option (Int × Int)) (h : ¬ (b = a ∧ k = n)) : setF f a n r b k = f b k := if_neg h
def ValO (h : Heap) : Option Value → Option (Int × Int) → Prop
  | none, r => r = none
  | some v, r => ∃ (V : Nat) (x e : Int) (y y' : Tok), 150 ≤ V ∧ v = .ref V ∧ h.get? V = some (tupO [.int x y, .int e y']) ∧ r = some (x, e)
/-- the law's own book -/
structure Hp (prog : Program) (w : World) (h : Heap) (D : Nat) (lT : TL) (nT : Nat) (f : Hf) (B : Nat) (X : Nat → Prop) : Prop where
  o : h.get? (D+150) = some (tdct thI lT nT)
  nd : (lT.map (·.1)).Nodup
  le : lT.length ≤ B
  keys : ∀ x ∈ lT, ∃ kv, h.get? x.2.1 = some (tupO kv) ∧ ItemsAre (intKind prog w) x.1 kv
  sep : ∀ x ∈ lT, ∀ y ∈ lT, y.2.2 ≠ .ref x.2.1
  vals : ∀ x ∈ lT, ∃ V kv, x.2.2 = .ref V ∧ h.get? V = some (tupO kv)
  val : ∀ a n, ValO h (lk lT [a, n]) (f a n)
  far : ∀ x ∈ lT, ¬ X x.2.1 ∧ ∀ V, x.2.2 = .ref V → ¬ X V
structure AftW (P : Params) (s s' : Shared) (D : Nat) : Prop where
  top : TopIn P s'.heap
  size : s.heap.objs.size ≤ s'.heap.objs.size
  keep : ∀ x o, s.heap.get? x = some o → x ≠ D+150 → s'.heap.get? x = some o
  toks : s.toks ≤ s'.toks
  gens : s'.gens = s.gens
  drawn : s'.drawn = s.drawn
  os : s'.os = s.os
theorem mem_of_lk' {K : Type} [DecidableEq K] {l : List (K × Tok × Value)} {k : K} {v : Value} (h : lk l k = some v) : ∃ t, (k, t, v) ∈ l := by
  induction l with
  | nil => cases h
  | cons x r ih =>
    rw [lk_cons] at h
    by_cases e : x.1 = k
    · rw [if_pos e] at h
      injection h with h
      subst e; subst h
      exact ⟨x.2.1, .head _⟩
    · rw [if_neg e] at h
      obtain ⟨t, ht⟩ := ih h
      exact ⟨t, .tail _ ht⟩
theorem mem_upd {K : Type} [DecidableEq K] {l : List (K × Tok × Value)} {k : K} {v : Value} : ∀ x ∈ upd l k v, ∃ y ∈ l, y.1 = x.1 ∧ y.2.1 = x.2.1 ∧ (x.2.2 = v ∨ x.2.2 = y.2.2) := by
  induction l with
  | nil => intro x hx; cases hx
  | cons z r ih =>
    intro x hx
    unfold upd at hx
    by_cases e : z.1 = k
    · rw [if_pos e] at hx
      rcases List.mem_cons.mp hx with rfl | hx
      · exact ⟨z, .head _, rfl, rfl, .inl rfl⟩
      · exact ⟨x, .tail _ hx, rfl, rfl, .inr rfl⟩
    · rw [if_neg e] at hx
      rcases List.mem_cons.mp hx with rfl | hx
      · exact ⟨x, .head _, rfl, rfl, .inr rfl⟩
      · obtain ⟨y, hy, r⟩ := ih x hx
        exact ⟨y, .tail _ hy, r⟩
theorem mem_rem {K : Type} [DecidableEq K] {l : List (K × Tok × Value)} {k : K} : ∀ x ∈ rem l k, x ∈ l := by
  induction l with
  | nil => intro x hx; exact hx
  | cons z r ih =>
    intro x hx
    unfold rem at hx
    by_cases e : z.1 = k
    · rw [if_pos e] at hx
      exact .tail _ hx
    · rw [if_neg e] at hx
      rcases List.mem_cons.mp hx with rfl | hx
      · exact .head _
      · exact .tail _ (ih x hx)
theorem mem_setL {K : Type} [DecidableEq K] {l : List (K × Tok × Value)} {k : K} {t : Tok} {v : Value} : ∀ x ∈ setL l k t v, x = (k, t, v) ∨ ∃ y ∈ l, y.1 = x.1 ∧ y.2.1 = x.2.1 ∧ (x.2.2 = v ∨ x.2.2 = y.2.2) := by
  intro x hx
  unfold setL at hx
  by_cases h : (lk l k).isSome = true
  · rw [if_pos h] at hx
    exact .inr (mem_upd x hx)
  · rw [if_neg h] at hx
    rcases List.mem_append.mp hx with hx | hx
    · exact .inr ⟨x, hx, rfl, rfl, .inr rfl⟩
    · exact .inl (by simpa using hx)
section
variable {prog : Program} {w : World} {A : Around} {s : Shared} {R0 : Result → Shared → Prop} {n v now : Int} {j1 j2 j3 j5 : Nat} {D nT : Nat} {lT : TL} {f : Hf} {B : Nat} {X : Nat → Prop}
theorem tup_ne_dict {h : Heap} {V D : Nat} {xs : List Value} {lT : TL} {nT : Nat} (h1 : h.get? V = some (tupO xs)) (h2 : h.get? D = some (tdct thI lT nT)) : V ≠ D := by
  intro e
  rw [e, h2] at h1
  injection h1 with h1
  have := congrArg Obj.data h1
  cases this
theorem ValO.keep {s s' : Shared} {D : Nat} {lT : TL} {nT : Nat} (hD : s.heap.get? (D+150) = some (tdct thI lT nT)) (hk : ∀ x o, s.heap.get? x = some o → x ≠ D+150 → s'.heap.get? x = some o) : ∀ {v : Option Value} {r : Option (Int × Int)}, ValO s.heap v r → ValO s'.heap v r
  | none, _, x => x
  | some v, r, ⟨V, x, e, y, y', a1, a2, a3, a4⟩ => ⟨V, x, e, y, y', a1, a2, hk _ _ a3 (tup_ne_dict a3 hD), a4⟩
/-- nothing but the book has changed, and that not -/
theorem Hp.same (H : Hp prog w s.heap D lT nT f B X) {s' : Shared} (ho : s'.heap.get? (D+150) = some (tdct thI lT nT)) (hk : ∀ x o, s.heap.get? x = some o → x ≠ D+150 → s'.heap.get? x = some o) : Hp prog w s'.heap D lT nT f B X :=
  ⟨ho, H.nd, H.le, fun x hx => let ⟨kv, a, b⟩ := H.keys x hx; ⟨kv, hk _ _ a (tup_ne_dict a H.o), b⟩, H.sep, fun x hx => let ⟨V, kv, a, b⟩ := H.vals x hx; ⟨V, kv, a, hk _ _ b (tup_ne_dict b H.o)⟩, fun a n => (H.val a n).keep H.o hk, H.far⟩
theorem Hp.set (hX : ∀ x, s.heap.objs.size ≤ x → ¬ X x) (H : Hp prog w s.heap D lT nT f B X) {s' : Shared} {a n x e : Int} {K V : Nat} {nT' : Nat} {y y' : Tok} (hK0 : s.heap.objs.size ≤ K) (hV0 : s.heap.objs.size ≤ V) (h150 : 150 ≤ s.heap.objs.size) (hKV : K ≠ V) (ho : s'.heap.get? (D+150) = some (tdct thI (setL lT [a, n] K (.ref V)) nT'))
    (hk : ∀ x o, s.heap.get? x = some o → x ≠ D+150 → s'.heap.get? x = some o) (hV : s'.heap.get? V = some (tupO [.int x y, .int e y'])) (hK : lk lT [a, n] = none → ∃ kv, s'.heap.get? K = some (tupO kv) ∧ ItemsAre (intKind prog w) [a, n] kv) :
    Hp prog w s'.heap D (setL lT [a, n] K (.ref V)) nT' (setF f a n (some (x, e))) (B+1) X := by
  have old : ∀ y ∈ lT, y.2.1 < s.heap.objs.size := fun y hy => let ⟨_, h, _⟩ := H.keys y hy; Heap.lt_size h
  refine ⟨ho, nodup_setL H.nd, Nat.le_trans (length_setL ..) (by have := H.le; omega), fun x hx => ?_, fun x hx y hy => ?_, fun x hx => ?_, fun b m => ?_, fun x hx => ?_⟩
  · by_cases hs : (lk lT [a, n]).isSome = true
    · unfold setL at hx
      rw [if_pos hs] at hx
      obtain ⟨y, hy, h1, h2, _⟩ := mem_upd x hx
      obtain ⟨kv, a1, a2⟩ := H.keys y hy
      rw [← h1, ← h2]
      exact ⟨kv, hk _ _ a1 (tup_ne_dict a1 H.o), a2⟩
    · rcases mem_setL x hx with rfl | ⟨y, hy, h1, h2, _⟩
      · exact hK (by simpa using hs)
      · obtain ⟨kv, a1, a2⟩ := H.keys y hy
        rw [← h1, ← h2]
        exact ⟨kv, hk _ _ a1 (tup_ne_dict a1 H.o), a2⟩
  · have hx' : x.2.1 = K ∨ ∃ z ∈ lT, z.2.1 = x.2.1 := by
      rcases mem_setL x hx with rfl | ⟨z, hz, h1, h2, _⟩
      · exact .inl rfl
      · exact .inr ⟨z, hz, h2⟩
    have hy' : y.2.2 = .ref V ∨ ∃ z ∈ lT, z.2.2 = y.2.2 := by
      rcases mem_setL y hy with rfl | ⟨z, hz, h1, h2, h3⟩
      · exact .inl rfl
      · rcases h3 with h3 | h3
        · exact .inl h3
        · exact .inr ⟨z, hz, h3.symm⟩
    rcases hx' with hx' | ⟨z, hz, hx'⟩ <;> rcases hy' with hy' | ⟨u, hu, hy'⟩
    · rw [hx', hy']
      intro e; injection e with e
      exact hKV e.symm
    · rw [hx', ← hy']
      obtain ⟨q, kv, e1, e2⟩ := H.vals u hu
      rw [e1]
      intro e; injection e with e
      have := Heap.lt_size e2
      exact absurd (show @Eq Nat q K from e) (Nat.ne_of_lt (Nat.lt_of_lt_of_le (Heap.lt_size e2) hK0))
    · rw [← hx', hy']
      intro e; injection e with e
      have := old z hz
      exact absurd (show @Eq Nat V z.2.1 from e) (Nat.ne_of_gt (Nat.lt_of_lt_of_le (old z hz) hV0))
    · rw [← hx', ← hy']
      exact H.sep z hz u hu
  · rcases mem_setL x hx with rfl | ⟨z, hz, h1, h2, h3⟩
    · exact ⟨V, _, rfl, hV⟩
    · rcases h3 with h3 | h3
      · exact ⟨V, _, h3, hV⟩
      · obtain ⟨q, kv, e1, e2⟩ := H.vals z hz
        exact ⟨q, kv, h3.trans e1, hk _ _ e2 (tup_ne_dict e2 H.o)⟩
  · rw [lk_setL]
    by_cases h : b = a ∧ m = n
    · obtain ⟨rfl, rfl⟩ := h
      rw [if_pos rfl, setF_self]
      exact ⟨V, x, e, y, y', by omega, rfl, hV, rfl⟩
    · rw [if_neg (by simpa using h), setF_ne _ _ h]
      exact (H.val b m).keep H.o hk
  · rcases mem_setL x hx with rfl | ⟨z, hz, h1, h2, h3⟩
    · exact ⟨hX _ hK0, fun V' e => by injection e with e; exact e ▸ hX _ hV0⟩
    · refine ⟨h2 ▸ (H.far z hz).1, fun V' e => ?_⟩
      rcases h3 with h3 | h3
      · rw [h3] at e; injection e with e; exact e ▸ hX _ hV0
      · exact (H.far z hz).2 V' (h3.symm.trans e)
theorem Hp.del (H : Hp prog w s.heap D lT nT f B X) {s' : Shared} {a n : Int} (ho : s'.heap.get? (D+150) = some (tdct thI (rem lT [a, n]) (nT+1)))
    (hk : ∀ x o, s.heap.get? x = some o → x ≠ D+150 → s'.heap.get? x = some o) : Hp prog w s'.heap D (rem lT [a, n]) (nT+1) (setF f a n none) B X := by
  refine ⟨ho, nodup_rem H.nd, Nat.le_trans (length_rem ..) H.le, fun x hx => ?_, fun x hx y hy => H.sep x (mem_rem x hx) y (mem_rem y hy), fun x hx => let ⟨V, kv, a, b⟩ := H.vals x (mem_rem x hx); ⟨V, kv, a, hk _ _ b (tup_ne_dict b H.o)⟩, fun b m => ?_, fun x hx => H.far x (mem_rem x hx)⟩
  · obtain ⟨kv, a1, a2⟩ := H.keys x (mem_rem x hx)
    exact ⟨kv, hk _ _ a1 (tup_ne_dict a1 H.o), a2⟩
  · rw [lk_rem _ _ H.nd]
    by_cases h : b = a ∧ m = n
    · obtain ⟨rfl, rfl⟩ := h
      rw [if_pos rfl, setF_self]
      exact rfl
    · rw [if_neg (by simpa using h), setF_ne _ _ h]
      exact (H.val b m).keep H.o hk
theorem want_w0a (Y : Rdy w A s) (H : Hp prog w s.heap D lT nT f B X) (hX : ∀ x, s.heap.objs.size ≤ x → ¬ X x) (hB : B ≤ 100) (h1 : lk lT [0, n] = none)
    (k : ∀ s' lT' nT' l u, AftW w.params s s' D → Hp prog w s'.heap D lT' nT' (setF f 0 n (some (v, now+600))) (B+1) X → s'.heap.get? l = some (lstO [.int n u]) → s.heap.objs.size ≤ l → R0 (.ok (.ret (.ref l))) s') :
    codeAny (model prog w) A (.call (.ref 144) ⟨[.ref (D+150), .int now j5, .int 0 j1, .int n j2, .int v j3], []⟩) R0 s := by
  have hlt : ∀ p ∈ [D+150], 150 ≤ p ∧ p < s.heap.objs.size := (lt_cons H.o (by omega) lt_nil)
  have W := wf_of (prog := prog) (w := w) (s := s) Y.tb Y.ti Y.sz hlt (by simp)
  have hM : topN s = s.heap.objs.size := by have := Y.sz; show s.heap.objs.size - 150 + 150 = _; omega
  have h150 := Y.sz
  have hle0 := H.le
  have O' : ∀ (j b : Nat) (t : Tok), adrOf [D+150] (topN s) j = b → TOk (cxOf prog w s [D+150]) w s A.depth A.units 0 (D+150) lT [0, n] [.int 0 t, .int n j2] j b := fun j b t hb =>
    ⟨W, rfl, by omega, hb, Y.hu, H.nd, .cons (intKind_is ..) (.cons (intKind_is ..) .nil), rfl, by omega, fun x hx => by
      obtain ⟨kv, a1, a2⟩ := H.keys x hx
      refine ⟨kv, a1, a2, ?_⟩
      have q1 := tup_ne_dict a1 H.o
      show x.2.1 ∉ [D+150]
      simp [q1]⟩
  refine run_code W Y.hh (Nat.le_refl _) Y.hd (Nat.le_refl _) (T := w0a_T w.params true prog default [] 0 0 thI D lT nT j1 j2 j3 j5 n v now)
    (sm := w0a_S w.params true prog default [] (s.heap.objs.size - 150) s.toks thI D lT nT j1 j2 j3 j5 n v now) rfl ?_ rfl ?_
    (fun p bl => w0a_ok w.params (w.params.followText "special-get-raises") prog p bl (s.heap.objs.size - 150) s.toks thI D lT nT j1 j2 j3 j5 n v now) (fun p bl => xeq rfl rfl rfl) ?_
  · exact start_of _ _ _ (And.intro H.o trivial)
  · unfold w0a_S
    repeat' (first | exact all_nil | refine all_cons ?_ ?_)
    all_goals refine okx ?_ rfl
    all_goals first
      | (refine ok_fdiv ?_ ?_ ?_ <;> decide)
      | (refine ok_hasT (O' _ _ _ rfl) ?_; simp [h1])
      | (refine ok_getT (O' _ _ _ rfl) ?_; exact h1)
      | (refine ok_tin ?_ ?_ ?_; rfl; exact .cons _ _ (.cons _ _ .nil); decide)
      | exact ok_setT (O' _ _ _ rfl)
      | (refine ok_popT (O' _ _ _ rfl) ?_; exact h1)
  · intro s' T' R' hp
    have F := allGet R' hp
    obtain ⟨f0, fv, fk, fl, -⟩ := F
    have hk : ∀ x o, s.heap.get? x = some o → x ≠ D+150 → s'.heap.get? x = some o := by
      intro z o hz hzD
      exact R'.keep z o hz (by show z ∉ [D+150]; simp [hzD])
    have AW : AftW w.params s s' D := ⟨R'.top, by rw [R'.size]; show _ ≤ topN s + _; omega, hk, by rw [R'.toks]; exact Nat.le_add_right _ _, R'.gens, R'.drawn, R'.os⟩
    exact k s' _ _ _ _ AW (Hp.set hX H (K := topN s+9) (V := topN s+8) (by omega) (by omega) h150 (by omega) f0 hk fv (fun _ => ⟨_, fk, .cons (intKind_is ..) (.cons (intKind_is ..) .nil)⟩)) fl (by show _ ≤ topN s + _; omega)
theorem want_w0x (Y : Rdy w A s) (H : Hp prog w s.heap D lT nT f B X) (hX : ∀ x, s.heap.objs.size ≤ x → ¬ X x) (hB : B ≤ 100) {V : Nat} {x e : Int} {y y' : Tok} (h1 : lk lT [0, n] = some (.ref (V+150))) (hv : s.heap.get? (V+150) = some (tupO [.int x y, .int e y'])) (hle : e < now)
    (k : ∀ s' lT' nT' l u, AftW w.params s s' D → Hp prog w s'.heap D lT' nT' (setF f 0 n (some (v, now+600))) (B+1) X → s'.heap.get? l = some (lstO [.int n u]) → s.heap.objs.size ≤ l → R0 (.ok (.ret (.ref l))) s') :
    codeAny (model prog w) A (.call (.ref 144) ⟨[.ref (D+150), .int now j5, .int 0 j1, .int n j2, .int v j3], []⟩) R0 s := by
  have hlt : ∀ p ∈ [D+150, V+150], 150 ≤ p ∧ p < s.heap.objs.size := (lt_cons H.o (by omega) (lt_cons hv (by omega) lt_nil))
  have W := wf_of (prog := prog) (w := w) (s := s) Y.tb Y.ti Y.sz hlt (by have := tup_ne_dict hv H.o; simp; omega)
  have hM : topN s = s.heap.objs.size := by have := Y.sz; show s.heap.objs.size - 150 + 150 = _; omega
  have h150 := Y.sz
  have hle0 := H.le
  have O' : ∀ (j b : Nat) (t : Tok), adrOf [D+150, V+150] (topN s) j = b → TOk (cxOf prog w s [D+150, V+150]) w s A.depth A.units 0 (D+150) lT [0, n] [.int 0 t, .int n j2] j b := fun j b t hb =>
    ⟨W, rfl, by omega, hb, Y.hu, H.nd, .cons (intKind_is ..) (.cons (intKind_is ..) .nil), rfl, by omega, fun x hx => by
      obtain ⟨kv, a1, a2⟩ := H.keys x hx
      refine ⟨kv, a1, a2, ?_⟩
      have q1 := tup_ne_dict a1 H.o
      have q2 : x.2.1 ≠ V+150 := by
        obtain ⟨t, ht⟩ := mem_of_lk' h1
        have := H.sep x hx _ ht
        intro q; rw [q] at this; exact this rfl
      show x.2.1 ∉ [D+150, V+150]
      simp [q1, q2]⟩
  refine run_code W Y.hh (Nat.le_refl _) Y.hd (Nat.le_refl _) (T := w0x_T w.params true prog default [] 0 0 thI D lT nT j1 j2 j3 j5 n v now V x e y y')
    (sm := w0x_S w.params true prog default [] (s.heap.objs.size - 150) s.toks thI D lT nT j1 j2 j3 j5 n v now V x e y y') rfl ?_ rfl ?_
    (fun p bl => w0x_ok w.params (w.params.followText "special-get-raises") prog p bl (s.heap.objs.size - 150) s.toks thI D lT nT j1 j2 j3 j5 n v now V x e y y') (fun p bl => xeq rfl rfl rfl) ?_
  · exact start_of _ _ _ (And.intro H.o (And.intro hv trivial))
  · unfold w0x_S
    repeat' (first | exact all_nil | refine all_cons ?_ ?_)
    all_goals refine okx ?_ rfl
    all_goals first
      | (refine ok_fdiv ?_ ?_ ?_ <;> decide)
      | (refine ok_hasT (O' _ _ _ rfl) ?_; simp [h1])
      | (refine ok_getT (O' _ _ _ rfl) ?_; exact h1)
      | (refine ok_tin ?_ ?_ ?_; rfl; exact .cons _ _ (.cons _ _ .nil); decide)
      | exact ok_setT (O' _ _ _ rfl)
      | (refine ok_popT (O' _ _ _ rfl) ?_; exact h1)
      | exact ok_ge (decide_eq_false (by omega))
  · intro s' T' R' hp
    have F := allGet R' hp
    obtain ⟨f0, f1, fv, fl, -⟩ := F
    have hk : ∀ x o, s.heap.get? x = some o → x ≠ D+150 → s'.heap.get? x = some o := by
      intro z o hz hzD
      by_cases hzV : z = V+150
      · subst hzV; rw [hv] at hz; cases hz; exact f1
      · exact R'.keep z o hz (by show z ∉ [D+150, V+150]; simp [hzD, hzV])
    have AW : AftW w.params s s' D := ⟨R'.top, by rw [R'.size]; show _ ≤ topN s + _; omega, hk, by rw [R'.toks]; exact Nat.le_add_right _ _, R'.gens, R'.drawn, R'.os⟩
    exact k s' _ _ _ _ AW (Hp.set hX H (K := topN s+10) (V := topN s+9) (by omega) (by omega) h150 (by omega) f0 hk fv (fun h => by rw [h1] at h; cases h)) fl (by show _ ≤ topN s + _; omega)
theorem want_w0t (Y : Rdy w A s) (H : Hp prog w s.heap D lT nT f B X) (hX : ∀ x, s.heap.objs.size ≤ x → ¬ X x) (hB : B ≤ 100) {V : Nat} {x e : Int} {y y' : Tok} (h1 : lk lT [0, n] = some (.ref (V+150))) (hv : s.heap.get? (V+150) = some (tupO [.int x y, .int e y'])) (hle : now ≤ e)
    (k : ∀ s' lT' nT' l, AftW w.params s s' D → Hp prog w s'.heap D lT' nT' f B X → s'.heap.get? l = some (lstO []) → s.heap.objs.size ≤ l → R0 (.ok (.ret (.ref l))) s') :
    codeAny (model prog w) A (.call (.ref 144) ⟨[.ref (D+150), .int now j5, .int 0 j1, .int n j2, .int v j3], []⟩) R0 s := by
  have hlt : ∀ p ∈ [D+150, V+150], 150 ≤ p ∧ p < s.heap.objs.size := (lt_cons H.o (by omega) (lt_cons hv (by omega) lt_nil))
  have W := wf_of (prog := prog) (w := w) (s := s) Y.tb Y.ti Y.sz hlt (by have := tup_ne_dict hv H.o; simp; omega)
  have hM : topN s = s.heap.objs.size := by have := Y.sz; show s.heap.objs.size - 150 + 150 = _; omega
  have h150 := Y.sz
  have hle0 := H.le
  have O' : ∀ (j b : Nat) (t : Tok), adrOf [D+150, V+150] (topN s) j = b → TOk (cxOf prog w s [D+150, V+150]) w s A.depth A.units 0 (D+150) lT [0, n] [.int 0 t, .int n j2] j b := fun j b t hb =>
    ⟨W, rfl, by omega, hb, Y.hu, H.nd, .cons (intKind_is ..) (.cons (intKind_is ..) .nil), rfl, by omega, fun x hx => by
      obtain ⟨kv, a1, a2⟩ := H.keys x hx
      refine ⟨kv, a1, a2, ?_⟩
      have q1 := tup_ne_dict a1 H.o
      have q2 : x.2.1 ≠ V+150 := by
        obtain ⟨t, ht⟩ := mem_of_lk' h1
        have := H.sep x hx _ ht
        intro q; rw [q] at this; exact this rfl
      show x.2.1 ∉ [D+150, V+150]
      simp [q1, q2]⟩
  refine run_code W Y.hh (Nat.le_refl _) Y.hd (Nat.le_refl _) (T := w0t_T w.params true prog default [] 0 0 thI D lT nT j1 j2 j3 j5 n v now V x e y y')
    (sm := w0t_S w.params true prog default [] (s.heap.objs.size - 150) s.toks thI D lT nT j1 j2 j3 j5 n v now V x e y y') rfl ?_ rfl ?_
    (fun p bl => w0t_ok w.params (w.params.followText "special-get-raises") prog p bl (s.heap.objs.size - 150) s.toks thI D lT nT j1 j2 j3 j5 n v now V x e y y') (fun p bl => xeq rfl rfl rfl) ?_
  · exact start_of _ _ _ (And.intro H.o (And.intro hv trivial))
  · unfold w0t_S
    repeat' (first | exact all_nil | refine all_cons ?_ ?_)
    all_goals refine okx ?_ rfl
    all_goals first
      | (refine ok_fdiv ?_ ?_ ?_ <;> decide)
      | (refine ok_hasT (O' _ _ _ rfl) ?_; simp [h1])
      | (refine ok_getT (O' _ _ _ rfl) ?_; exact h1)
      | (refine ok_tin ?_ ?_ ?_; rfl; exact .cons _ _ (.cons _ _ .nil); decide)
      | exact ok_setT (O' _ _ _ rfl)
      | (refine ok_popT (O' _ _ _ rfl) ?_; exact h1)
      | exact ok_ge (decide_eq_true hle)
  · intro s' T' R' hp
    have F := allGet R' hp
    obtain ⟨f0, f1, fl, -⟩ := F
    have hk : ∀ x o, s.heap.get? x = some o → x ≠ D+150 → s'.heap.get? x = some o := by
      intro z o hz hzD
      by_cases hzV : z = V+150
      · subst hzV; rw [hv] at hz; cases hz; exact f1
      · exact R'.keep z o hz (by show z ∉ [D+150, V+150]; simp [hzD, hzV])
    have AW : AftW w.params s s' D := ⟨R'.top, by rw [R'.size]; show _ ≤ topN s + _; omega, hk, by rw [R'.toks]; exact Nat.le_add_right _ _, R'.gens, R'.drawn, R'.os⟩
    exact k s' _ _ _ AW (H.same f0 hk) fl (by show _ ≤ topN s + _; omega)
theorem want_w1a (Y : Rdy w A s) (H : Hp prog w s.heap D lT nT f B X) (hX : ∀ x, s.heap.objs.size ≤ x → ¬ X x) (hB : B ≤ 100) (h1 : lk lT [0, n] = none)
    (k : ∀ s' lT' nT' l, AftW w.params s s' D → Hp prog w s'.heap D lT' nT' f B X → s'.heap.get? l = some (lstO []) → s.heap.objs.size ≤ l → R0 (.ok (.ret (.ref l))) s') :
    codeAny (model prog w) A (.call (.ref 144) ⟨[.ref (D+150), .int now j5, .int 1 j1, .int n j2, .int v j3], []⟩) R0 s := by
  have hlt : ∀ p ∈ [D+150], 150 ≤ p ∧ p < s.heap.objs.size := (lt_cons H.o (by omega) lt_nil)
  have W := wf_of (prog := prog) (w := w) (s := s) Y.tb Y.ti Y.sz hlt (by simp)
  have hM : topN s = s.heap.objs.size := by have := Y.sz; show s.heap.objs.size - 150 + 150 = _; omega
  have h150 := Y.sz
  have hle0 := H.le
  have O' : ∀ (j b : Nat) (t : Tok), adrOf [D+150] (topN s) j = b → TOk (cxOf prog w s [D+150]) w s A.depth A.units 0 (D+150) lT [0, n] [.int 0 t, .int n j2] j b := fun j b t hb =>
    ⟨W, rfl, by omega, hb, Y.hu, H.nd, .cons (intKind_is ..) (.cons (intKind_is ..) .nil), rfl, by omega, fun x hx => by
      obtain ⟨kv, a1, a2⟩ := H.keys x hx
      refine ⟨kv, a1, a2, ?_⟩
      have q1 := tup_ne_dict a1 H.o
      show x.2.1 ∉ [D+150]
      simp [q1]⟩
  refine run_code W Y.hh (Nat.le_refl _) Y.hd (Nat.le_refl _) (T := w1a_T w.params true prog default [] 0 0 thI D lT nT j1 j2 j3 j5 n v now)
    (sm := w1a_S w.params true prog default [] (s.heap.objs.size - 150) s.toks thI D lT nT j1 j2 j3 j5 n v now) rfl ?_ rfl ?_
    (fun p bl => w1a_ok w.params (w.params.followText "special-get-raises") prog p bl (s.heap.objs.size - 150) s.toks thI D lT nT j1 j2 j3 j5 n v now) (fun p bl => xeq rfl rfl rfl) ?_
  · exact start_of _ _ _ (And.intro H.o trivial)
  · unfold w1a_S
    repeat' (first | exact all_nil | refine all_cons ?_ ?_)
    all_goals refine okx ?_ rfl
    all_goals first
      | (refine ok_fdiv ?_ ?_ ?_ <;> decide)
      | (refine ok_hasT (O' _ _ _ rfl) ?_; simp [h1])
      | (refine ok_getT (O' _ _ _ rfl) ?_; exact h1)
      | (refine ok_tin ?_ ?_ ?_; rfl; exact .cons _ _ (.cons _ _ .nil); decide)
      | exact ok_setT (O' _ _ _ rfl)
      | (refine ok_popT (O' _ _ _ rfl) ?_; exact h1)
  · intro s' T' R' hp
    have F := allGet R' hp
    obtain ⟨f0, fl, -⟩ := F
    have hk : ∀ x o, s.heap.get? x = some o → x ≠ D+150 → s'.heap.get? x = some o := by
      intro z o hz hzD
      exact R'.keep z o hz (by show z ∉ [D+150]; simp [hzD])
    have AW : AftW w.params s s' D := ⟨R'.top, by rw [R'.size]; show _ ≤ topN s + _; omega, hk, by rw [R'.toks]; exact Nat.le_add_right _ _, R'.gens, R'.drawn, R'.os⟩
    exact k s' _ _ _ AW (H.same f0 hk) fl (by show _ ≤ topN s + _; omega)
theorem want_w1x (Y : Rdy w A s) (H : Hp prog w s.heap D lT nT f B X) (hX : ∀ x, s.heap.objs.size ≤ x → ¬ X x) (hB : B ≤ 100) {V : Nat} {x e : Int} {y y' : Tok} (h1 : lk lT [0, n] = some (.ref (V+150))) (hv : s.heap.get? (V+150) = some (tupO [.int x y, .int e y'])) (hle : e < now)
    (k : ∀ s' lT' nT' l, AftW w.params s s' D → Hp prog w s'.heap D lT' nT' f B X → s'.heap.get? l = some (lstO []) → s.heap.objs.size ≤ l → R0 (.ok (.ret (.ref l))) s') :
    codeAny (model prog w) A (.call (.ref 144) ⟨[.ref (D+150), .int now j5, .int 1 j1, .int n j2, .int v j3], []⟩) R0 s := by
  have hlt : ∀ p ∈ [D+150, V+150], 150 ≤ p ∧ p < s.heap.objs.size := (lt_cons H.o (by omega) (lt_cons hv (by omega) lt_nil))
  have W := wf_of (prog := prog) (w := w) (s := s) Y.tb Y.ti Y.sz hlt (by have := tup_ne_dict hv H.o; simp; omega)
  have hM : topN s = s.heap.objs.size := by have := Y.sz; show s.heap.objs.size - 150 + 150 = _; omega
  have h150 := Y.sz
  have hle0 := H.le
  have O' : ∀ (j b : Nat) (t : Tok), adrOf [D+150, V+150] (topN s) j = b → TOk (cxOf prog w s [D+150, V+150]) w s A.depth A.units 0 (D+150) lT [0, n] [.int 0 t, .int n j2] j b := fun j b t hb =>
    ⟨W, rfl, by omega, hb, Y.hu, H.nd, .cons (intKind_is ..) (.cons (intKind_is ..) .nil), rfl, by omega, fun x hx => by
      obtain ⟨kv, a1, a2⟩ := H.keys x hx
      refine ⟨kv, a1, a2, ?_⟩
      have q1 := tup_ne_dict a1 H.o
      have q2 : x.2.1 ≠ V+150 := by
        obtain ⟨t, ht⟩ := mem_of_lk' h1
        have := H.sep x hx _ ht
        intro q; rw [q] at this; exact this rfl
      show x.2.1 ∉ [D+150, V+150]
      simp [q1, q2]⟩
  refine run_code W Y.hh (Nat.le_refl _) Y.hd (Nat.le_refl _) (T := w1x_T w.params true prog default [] 0 0 thI D lT nT j1 j2 j3 j5 n v now V x e y y')
    (sm := w1x_S w.params true prog default [] (s.heap.objs.size - 150) s.toks thI D lT nT j1 j2 j3 j5 n v now V x e y y') rfl ?_ rfl ?_
    (fun p bl => w1x_ok w.params (w.params.followText "special-get-raises") prog p bl (s.heap.objs.size - 150) s.toks thI D lT nT j1 j2 j3 j5 n v now V x e y y') (fun p bl => xeq rfl rfl rfl) ?_
  · exact start_of _ _ _ (And.intro H.o (And.intro hv trivial))
  · unfold w1x_S
    repeat' (first | exact all_nil | refine all_cons ?_ ?_)
    all_goals refine okx ?_ rfl
    all_goals first
      | (refine ok_fdiv ?_ ?_ ?_ <;> decide)
      | (refine ok_hasT (O' _ _ _ rfl) ?_; simp [h1])
      | (refine ok_getT (O' _ _ _ rfl) ?_; exact h1)
      | (refine ok_tin ?_ ?_ ?_; rfl; exact .cons _ _ (.cons _ _ .nil); decide)
      | exact ok_setT (O' _ _ _ rfl)
      | (refine ok_popT (O' _ _ _ rfl) ?_; exact h1)
      | exact ok_ge (decide_eq_false (by omega))
  · intro s' T' R' hp
    have F := allGet R' hp
    obtain ⟨f0, f1, fl, -⟩ := F
    have hk : ∀ x o, s.heap.get? x = some o → x ≠ D+150 → s'.heap.get? x = some o := by
      intro z o hz hzD
      by_cases hzV : z = V+150
      · subst hzV; rw [hv] at hz; cases hz; exact f1
      · exact R'.keep z o hz (by show z ∉ [D+150, V+150]; simp [hzD, hzV])
    have AW : AftW w.params s s' D := ⟨R'.top, by rw [R'.size]; show _ ≤ topN s + _; omega, hk, by rw [R'.toks]; exact Nat.le_add_right _ _, R'.gens, R'.drawn, R'.os⟩
    exact k s' _ _ _ AW (H.same f0 hk) fl (by show _ ≤ topN s + _; omega)
theorem want_w1t (Y : Rdy w A s) (H : Hp prog w s.heap D lT nT f B X) (hX : ∀ x, s.heap.objs.size ≤ x → ¬ X x) (hB : B ≤ 100) {V : Nat} {x e : Int} {y y' : Tok} (h1 : lk lT [0, n] = some (.ref (V+150))) (hv : s.heap.get? (V+150) = some (tupO [.int x y, .int e y'])) (hle : now ≤ e)
    (k : ∀ s' lT' nT' l u, AftW w.params s s' D → Hp prog w s'.heap D lT' nT' (setF f 0 n none) B X → s'.heap.get? l = some (lstO [.int x u]) → s.heap.objs.size ≤ l → R0 (.ok (.ret (.ref l))) s') :
    codeAny (model prog w) A (.call (.ref 144) ⟨[.ref (D+150), .int now j5, .int 1 j1, .int n j2, .int v j3], []⟩) R0 s := by
  have hlt : ∀ p ∈ [D+150, V+150], 150 ≤ p ∧ p < s.heap.objs.size := (lt_cons H.o (by omega) (lt_cons hv (by omega) lt_nil))
  have W := wf_of (prog := prog) (w := w) (s := s) Y.tb Y.ti Y.sz hlt (by have := tup_ne_dict hv H.o; simp; omega)
  have hM : topN s = s.heap.objs.size := by have := Y.sz; show s.heap.objs.size - 150 + 150 = _; omega
  have h150 := Y.sz
  have hle0 := H.le
  have O' : ∀ (j b : Nat) (t : Tok), adrOf [D+150, V+150] (topN s) j = b → TOk (cxOf prog w s [D+150, V+150]) w s A.depth A.units 0 (D+150) lT [0, n] [.int 0 t, .int n j2] j b := fun j b t hb =>
    ⟨W, rfl, by omega, hb, Y.hu, H.nd, .cons (intKind_is ..) (.cons (intKind_is ..) .nil), rfl, by omega, fun x hx => by
      obtain ⟨kv, a1, a2⟩ := H.keys x hx
      refine ⟨kv, a1, a2, ?_⟩
      have q1 := tup_ne_dict a1 H.o
      have q2 : x.2.1 ≠ V+150 := by
        obtain ⟨t, ht⟩ := mem_of_lk' h1
        have := H.sep x hx _ ht
        intro q; rw [q] at this; exact this rfl
      show x.2.1 ∉ [D+150, V+150]
      simp [q1, q2]⟩
  refine run_code W Y.hh (Nat.le_refl _) Y.hd (Nat.le_refl _) (T := w1t_T w.params true prog default [] 0 0 thI D lT nT j1 j2 j3 j5 n v now V x e y y')
    (sm := w1t_S w.params true prog default [] (s.heap.objs.size - 150) s.toks thI D lT nT j1 j2 j3 j5 n v now V x e y y') rfl ?_ rfl ?_
    (fun p bl => w1t_ok w.params (w.params.followText "special-get-raises") prog p bl (s.heap.objs.size - 150) s.toks thI D lT nT j1 j2 j3 j5 n v now V x e y y') (fun p bl => xeq rfl rfl rfl) ?_
  · exact start_of _ _ _ (And.intro H.o (And.intro hv trivial))
  · unfold w1t_S
    repeat' (first | exact all_nil | refine all_cons ?_ ?_)
    all_goals refine okx ?_ rfl
    all_goals first
      | (refine ok_fdiv ?_ ?_ ?_ <;> decide)
      | (refine ok_hasT (O' _ _ _ rfl) ?_; simp [h1])
      | (refine ok_getT (O' _ _ _ rfl) ?_; exact h1)
      | (refine ok_tin ?_ ?_ ?_; rfl; exact .cons _ _ (.cons _ _ .nil); decide)
      | exact ok_setT (O' _ _ _ rfl)
      | (refine ok_popT (O' _ _ _ rfl) ?_; exact h1)
      | exact ok_ge (decide_eq_true hle)
  · intro s' T' R' hp
    have F := allGet R' hp
    obtain ⟨f0, f1, fl, -⟩ := F
    have hk : ∀ x o, s.heap.get? x = some o → x ≠ D+150 → s'.heap.get? x = some o := by
      intro z o hz hzD
      by_cases hzV : z = V+150
      · subst hzV; rw [hv] at hz; cases hz; exact f1
      · exact R'.keep z o hz (by show z ∉ [D+150, V+150]; simp [hzD, hzV])
    have AW : AftW w.params s s' D := ⟨R'.top, by rw [R'.size]; show _ ≤ topN s + _; omega, hk, by rw [R'.toks]; exact Nat.le_add_right _ _, R'.gens, R'.drawn, R'.os⟩
    exact k s' _ _ _ _ AW (H.del f0 hk) fl (by show _ ≤ topN s + _; omega)
theorem want_w2a (Y : Rdy w A s) (H : Hp prog w s.heap D lT nT f B X) (hX : ∀ x, s.heap.objs.size ≤ x → ¬ X x) (hB : B ≤ 100) (h1 : lk lT [1, n] = none)
    (k : ∀ s' lT' nT' l u, AftW w.params s s' D → Hp prog w s'.heap D lT' nT' (setF f 1 n (some (v, now+600))) (B+1) X → s'.heap.get? l = some (lstO [.int n u]) → s.heap.objs.size ≤ l → R0 (.ok (.ret (.ref l))) s') :
    codeAny (model prog w) A (.call (.ref 144) ⟨[.ref (D+150), .int now j5, .int 2 j1, .int n j2, .int v j3], []⟩) R0 s := by
  have hlt : ∀ p ∈ [D+150], 150 ≤ p ∧ p < s.heap.objs.size := (lt_cons H.o (by omega) lt_nil)
  have W := wf_of (prog := prog) (w := w) (s := s) Y.tb Y.ti Y.sz hlt (by simp)
  have hM : topN s = s.heap.objs.size := by have := Y.sz; show s.heap.objs.size - 150 + 150 = _; omega
  have h150 := Y.sz
  have hle0 := H.le
  have O' : ∀ (j b : Nat) (t : Tok), adrOf [D+150] (topN s) j = b → TOk (cxOf prog w s [D+150]) w s A.depth A.units 0 (D+150) lT [1, n] [.int 1 t, .int n j2] j b := fun j b t hb =>
    ⟨W, rfl, by omega, hb, Y.hu, H.nd, .cons (intKind_is ..) (.cons (intKind_is ..) .nil), rfl, by omega, fun x hx => by
      obtain ⟨kv, a1, a2⟩ := H.keys x hx
      refine ⟨kv, a1, a2, ?_⟩
      have q1 := tup_ne_dict a1 H.o
      show x.2.1 ∉ [D+150]
      simp [q1]⟩
  refine run_code W Y.hh (Nat.le_refl _) Y.hd (Nat.le_refl _) (T := w2a_T w.params true prog default [] 0 0 thI D lT nT j1 j2 j3 j5 n v now)
    (sm := w2a_S w.params true prog default [] (s.heap.objs.size - 150) s.toks thI D lT nT j1 j2 j3 j5 n v now) rfl ?_ rfl ?_
    (fun p bl => w2a_ok w.params (w.params.followText "special-get-raises") prog p bl (s.heap.objs.size - 150) s.toks thI D lT nT j1 j2 j3 j5 n v now) (fun p bl => xeq rfl rfl rfl) ?_
  · exact start_of _ _ _ (And.intro H.o trivial)
  · unfold w2a_S
    repeat' (first | exact all_nil | refine all_cons ?_ ?_)
    all_goals refine okx ?_ rfl
    all_goals first
      | (refine ok_fdiv ?_ ?_ ?_ <;> decide)
      | (refine ok_hasT (O' _ _ _ rfl) ?_; simp [h1])
      | (refine ok_getT (O' _ _ _ rfl) ?_; exact h1)
      | (refine ok_tin ?_ ?_ ?_; rfl; exact .cons _ _ (.cons _ _ .nil); decide)
      | exact ok_setT (O' _ _ _ rfl)
      | (refine ok_popT (O' _ _ _ rfl) ?_; exact h1)
  · intro s' T' R' hp
    have F := allGet R' hp
    obtain ⟨f0, fv, fk, fl, -⟩ := F
    have hk : ∀ x o, s.heap.get? x = some o → x ≠ D+150 → s'.heap.get? x = some o := by
      intro z o hz hzD
      exact R'.keep z o hz (by show z ∉ [D+150]; simp [hzD])
    have AW : AftW w.params s s' D := ⟨R'.top, by rw [R'.size]; show _ ≤ topN s + _; omega, hk, by rw [R'.toks]; exact Nat.le_add_right _ _, R'.gens, R'.drawn, R'.os⟩
    exact k s' _ _ _ _ AW (Hp.set hX H (K := topN s+9) (V := topN s+8) (by omega) (by omega) h150 (by omega) f0 hk fv (fun _ => ⟨_, fk, .cons (intKind_is ..) (.cons (intKind_is ..) .nil)⟩)) fl (by show _ ≤ topN s + _; omega)
theorem want_w2x (Y : Rdy w A s) (H : Hp prog w s.heap D lT nT f B X) (hX : ∀ x, s.heap.objs.size ≤ x → ¬ X x) (hB : B ≤ 100) {V : Nat} {x e : Int} {y y' : Tok} (h1 : lk lT [1, n] = some (.ref (V+150))) (hv : s.heap.get? (V+150) = some (tupO [.int x y, .int e y'])) (hle : e < now)
    (k : ∀ s' lT' nT' l u, AftW w.params s s' D → Hp prog w s'.heap D lT' nT' (setF f 1 n (some (v, now+600))) (B+1) X → s'.heap.get? l = some (lstO [.int n u]) → s.heap.objs.size ≤ l → R0 (.ok (.ret (.ref l))) s') :
    codeAny (model prog w) A (.call (.ref 144) ⟨[.ref (D+150), .int now j5, .int 2 j1, .int n j2, .int v j3], []⟩) R0 s := by
  have hlt : ∀ p ∈ [D+150, V+150], 150 ≤ p ∧ p < s.heap.objs.size := (lt_cons H.o (by omega) (lt_cons hv (by omega) lt_nil))
  have W := wf_of (prog := prog) (w := w) (s := s) Y.tb Y.ti Y.sz hlt (by have := tup_ne_dict hv H.o; simp; omega)
  have hM : topN s = s.heap.objs.size := by have := Y.sz; show s.heap.objs.size - 150 + 150 = _; omega
  have h150 := Y.sz
  have hle0 := H.le
  have O' : ∀ (j b : Nat) (t : Tok), adrOf [D+150, V+150] (topN s) j = b → TOk (cxOf prog w s [D+150, V+150]) w s A.depth A.units 0 (D+150) lT [1, n] [.int 1 t, .int n j2] j b := fun j b t hb =>
    ⟨W, rfl, by omega, hb, Y.hu, H.nd, .cons (intKind_is ..) (.cons (intKind_is ..) .nil), rfl, by omega, fun x hx => by
      obtain ⟨kv, a1, a2⟩ := H.keys x hx
      refine ⟨kv, a1, a2, ?_⟩
      have q1 := tup_ne_dict a1 H.o
      have q2 : x.2.1 ≠ V+150 := by
        obtain ⟨t, ht⟩ := mem_of_lk' h1
        have := H.sep x hx _ ht
        intro q; rw [q] at this; exact this rfl
      show x.2.1 ∉ [D+150, V+150]
      simp [q1, q2]⟩
  refine run_code W Y.hh (Nat.le_refl _) Y.hd (Nat.le_refl _) (T := w2x_T w.params true prog default [] 0 0 thI D lT nT j1 j2 j3 j5 n v now V x e y y')
    (sm := w2x_S w.params true prog default [] (s.heap.objs.size - 150) s.toks thI D lT nT j1 j2 j3 j5 n v now V x e y y') rfl ?_ rfl ?_
    (fun p bl => w2x_ok w.params (w.params.followText "special-get-raises") prog p bl (s.heap.objs.size - 150) s.toks thI D lT nT j1 j2 j3 j5 n v now V x e y y') (fun p bl => xeq rfl rfl rfl) ?_
  · exact start_of _ _ _ (And.intro H.o (And.intro hv trivial))
  · unfold w2x_S
    repeat' (first | exact all_nil | refine all_cons ?_ ?_)
    all_goals refine okx ?_ rfl
    all_goals first
      | (refine ok_fdiv ?_ ?_ ?_ <;> decide)
      | (refine ok_hasT (O' _ _ _ rfl) ?_; simp [h1])
      | (refine ok_getT (O' _ _ _ rfl) ?_; exact h1)
      | (refine ok_tin ?_ ?_ ?_; rfl; exact .cons _ _ (.cons _ _ .nil); decide)
      | exact ok_setT (O' _ _ _ rfl)
      | (refine ok_popT (O' _ _ _ rfl) ?_; exact h1)
      | exact ok_ge (decide_eq_false (by omega))
  · intro s' T' R' hp
    have F := allGet R' hp
    obtain ⟨f0, f1, fv, fl, -⟩ := F
    have hk : ∀ x o, s.heap.get? x = some o → x ≠ D+150 → s'.heap.get? x = some o := by
      intro z o hz hzD
      by_cases hzV : z = V+150
      · subst hzV; rw [hv] at hz; cases hz; exact f1
      · exact R'.keep z o hz (by show z ∉ [D+150, V+150]; simp [hzD, hzV])
    have AW : AftW w.params s s' D := ⟨R'.top, by rw [R'.size]; show _ ≤ topN s + _; omega, hk, by rw [R'.toks]; exact Nat.le_add_right _ _, R'.gens, R'.drawn, R'.os⟩
    exact k s' _ _ _ _ AW (Hp.set hX H (K := topN s+10) (V := topN s+9) (by omega) (by omega) h150 (by omega) f0 hk fv (fun h => by rw [h1] at h; cases h)) fl (by show _ ≤ topN s + _; omega)
theorem want_w2t (Y : Rdy w A s) (H : Hp prog w s.heap D lT nT f B X) (hX : ∀ x, s.heap.objs.size ≤ x → ¬ X x) (hB : B ≤ 100) {V : Nat} {x e : Int} {y y' : Tok} (h1 : lk lT [1, n] = some (.ref (V+150))) (hv : s.heap.get? (V+150) = some (tupO [.int x y, .int e y'])) (hle : now ≤ e)
    (k : ∀ s' lT' nT' l, AftW w.params s s' D → Hp prog w s'.heap D lT' nT' f B X → s'.heap.get? l = some (lstO []) → s.heap.objs.size ≤ l → R0 (.ok (.ret (.ref l))) s') :
    codeAny (model prog w) A (.call (.ref 144) ⟨[.ref (D+150), .int now j5, .int 2 j1, .int n j2, .int v j3], []⟩) R0 s := by
  have hlt : ∀ p ∈ [D+150, V+150], 150 ≤ p ∧ p < s.heap.objs.size := (lt_cons H.o (by omega) (lt_cons hv (by omega) lt_nil))
  have W := wf_of (prog := prog) (w := w) (s := s) Y.tb Y.ti Y.sz hlt (by have := tup_ne_dict hv H.o; simp; omega)
  have hM : topN s = s.heap.objs.size := by have := Y.sz; show s.heap.objs.size - 150 + 150 = _; omega
  have h150 := Y.sz
  have hle0 := H.le
  have O' : ∀ (j b : Nat) (t : Tok), adrOf [D+150, V+150] (topN s) j = b → TOk (cxOf prog w s [D+150, V+150]) w s A.depth A.units 0 (D+150) lT [1, n] [.int 1 t, .int n j2] j b := fun j b t hb =>
    ⟨W, rfl, by omega, hb, Y.hu, H.nd, .cons (intKind_is ..) (.cons (intKind_is ..) .nil), rfl, by omega, fun x hx => by
      obtain ⟨kv, a1, a2⟩ := H.keys x hx
      refine ⟨kv, a1, a2, ?_⟩
      have q1 := tup_ne_dict a1 H.o
      have q2 : x.2.1 ≠ V+150 := by
        obtain ⟨t, ht⟩ := mem_of_lk' h1
        have := H.sep x hx _ ht
        intro q; rw [q] at this; exact this rfl
      show x.2.1 ∉ [D+150, V+150]
      simp [q1, q2]⟩
  refine run_code W Y.hh (Nat.le_refl _) Y.hd (Nat.le_refl _) (T := w2t_T w.params true prog default [] 0 0 thI D lT nT j1 j2 j3 j5 n v now V x e y y')
    (sm := w2t_S w.params true prog default [] (s.heap.objs.size - 150) s.toks thI D lT nT j1 j2 j3 j5 n v now V x e y y') rfl ?_ rfl ?_
    (fun p bl => w2t_ok w.params (w.params.followText "special-get-raises") prog p bl (s.heap.objs.size - 150) s.toks thI D lT nT j1 j2 j3 j5 n v now V x e y y') (fun p bl => xeq rfl rfl rfl) ?_
  · exact start_of _ _ _ (And.intro H.o (And.intro hv trivial))
  · unfold w2t_S
    repeat' (first | exact all_nil | refine all_cons ?_ ?_)
    all_goals refine okx ?_ rfl
    all_goals first
      | (refine ok_fdiv ?_ ?_ ?_ <;> decide)
      | (refine ok_hasT (O' _ _ _ rfl) ?_; simp [h1])
      | (refine ok_getT (O' _ _ _ rfl) ?_; exact h1)
      | (refine ok_tin ?_ ?_ ?_; rfl; exact .cons _ _ (.cons _ _ .nil); decide)
      | exact ok_setT (O' _ _ _ rfl)
      | (refine ok_popT (O' _ _ _ rfl) ?_; exact h1)
      | exact ok_ge (decide_eq_true hle)
  · intro s' T' R' hp
    have F := allGet R' hp
    obtain ⟨f0, f1, fl, -⟩ := F
    have hk : ∀ x o, s.heap.get? x = some o → x ≠ D+150 → s'.heap.get? x = some o := by
      intro z o hz hzD
      by_cases hzV : z = V+150
      · subst hzV; rw [hv] at hz; cases hz; exact f1
      · exact R'.keep z o hz (by show z ∉ [D+150, V+150]; simp [hzD, hzV])
    have AW : AftW w.params s s' D := ⟨R'.top, by rw [R'.size]; show _ ≤ topN s + _; omega, hk, by rw [R'.toks]; exact Nat.le_add_right _ _, R'.gens, R'.drawn, R'.os⟩
    exact k s' _ _ _ AW (H.same f0 hk) fl (by show _ ≤ topN s + _; omega)
theorem want_w3a (Y : Rdy w A s) (H : Hp prog w s.heap D lT nT f B X) (hX : ∀ x, s.heap.objs.size ≤ x → ¬ X x) (hB : B ≤ 100) (h1 : lk lT [1, n] = none)
    (k : ∀ s' lT' nT' l, AftW w.params s s' D → Hp prog w s'.heap D lT' nT' f B X → s'.heap.get? l = some (lstO []) → s.heap.objs.size ≤ l → R0 (.ok (.ret (.ref l))) s') :
    codeAny (model prog w) A (.call (.ref 144) ⟨[.ref (D+150), .int now j5, .int 3 j1, .int n j2, .int v j3], []⟩) R0 s := by
  have hlt : ∀ p ∈ [D+150], 150 ≤ p ∧ p < s.heap.objs.size := (lt_cons H.o (by omega) lt_nil)
  have W := wf_of (prog := prog) (w := w) (s := s) Y.tb Y.ti Y.sz hlt (by simp)
  have hM : topN s = s.heap.objs.size := by have := Y.sz; show s.heap.objs.size - 150 + 150 = _; omega
  have h150 := Y.sz
  have hle0 := H.le
  have O' : ∀ (j b : Nat) (t : Tok), adrOf [D+150] (topN s) j = b → TOk (cxOf prog w s [D+150]) w s A.depth A.units 0 (D+150) lT [1, n] [.int 1 t, .int n j2] j b := fun j b t hb =>
    ⟨W, rfl, by omega, hb, Y.hu, H.nd, .cons (intKind_is ..) (.cons (intKind_is ..) .nil), rfl, by omega, fun x hx => by
      obtain ⟨kv, a1, a2⟩ := H.keys x hx
      refine ⟨kv, a1, a2, ?_⟩
      have q1 := tup_ne_dict a1 H.o
      show x.2.1 ∉ [D+150]
      simp [q1]⟩
  refine run_code W Y.hh (Nat.le_refl _) Y.hd (Nat.le_refl _) (T := w3a_T w.params true prog default [] 0 0 thI D lT nT j1 j2 j3 j5 n v now)
    (sm := w3a_S w.params true prog default [] (s.heap.objs.size - 150) s.toks thI D lT nT j1 j2 j3 j5 n v now) rfl ?_ rfl ?_
    (fun p bl => w3a_ok w.params (w.params.followText "special-get-raises") prog p bl (s.heap.objs.size - 150) s.toks thI D lT nT j1 j2 j3 j5 n v now) (fun p bl => xeq rfl rfl rfl) ?_
  · exact start_of _ _ _ (And.intro H.o trivial)
  · unfold w3a_S
    repeat' (first | exact all_nil | refine all_cons ?_ ?_)
    all_goals refine okx ?_ rfl
    all_goals first
      | (refine ok_fdiv ?_ ?_ ?_ <;> decide)
      | (refine ok_hasT (O' _ _ _ rfl) ?_; simp [h1])
      | (refine ok_getT (O' _ _ _ rfl) ?_; exact h1)
      | (refine ok_tin ?_ ?_ ?_; rfl; exact .cons _ _ (.cons _ _ .nil); decide)
      | exact ok_setT (O' _ _ _ rfl)
      | (refine ok_popT (O' _ _ _ rfl) ?_; exact h1)
  · intro s' T' R' hp
    have F := allGet R' hp
    obtain ⟨f0, fl, -⟩ := F
    have hk : ∀ x o, s.heap.get? x = some o → x ≠ D+150 → s'.heap.get? x = some o := by
      intro z o hz hzD
      exact R'.keep z o hz (by show z ∉ [D+150]; simp [hzD])
    have AW : AftW w.params s s' D := ⟨R'.top, by rw [R'.size]; show _ ≤ topN s + _; omega, hk, by rw [R'.toks]; exact Nat.le_add_right _ _, R'.gens, R'.drawn, R'.os⟩
    exact k s' _ _ _ AW (H.same f0 hk) fl (by show _ ≤ topN s + _; omega)
theorem want_w3x (Y : Rdy w A s) (H : Hp prog w s.heap D lT nT f B X) (hX : ∀ x, s.heap.objs.size ≤ x → ¬ X x) (hB : B ≤ 100) {V : Nat} {x e : Int} {y y' : Tok} (h1 : lk lT [1, n] = some (.ref (V+150))) (hv : s.heap.get? (V+150) = some (tupO [.int x y, .int e y'])) (hle : e < now)
    (k : ∀ s' lT' nT' l, AftW w.params s s' D → Hp prog w s'.heap D lT' nT' f B X → s'.heap.get? l = some (lstO []) → s.heap.objs.size ≤ l → R0 (.ok (.ret (.ref l))) s') :
    codeAny (model prog w) A (.call (.ref 144) ⟨[.ref (D+150), .int now j5, .int 3 j1, .int n j2, .int v j3], []⟩) R0 s := by
  have hlt : ∀ p ∈ [D+150, V+150], 150 ≤ p ∧ p < s.heap.objs.size := (lt_cons H.o (by omega) (lt_cons hv (by omega) lt_nil))
  have W := wf_of (prog := prog) (w := w) (s := s) Y.tb Y.ti Y.sz hlt (by have := tup_ne_dict hv H.o; simp; omega)
  have hM : topN s = s.heap.objs.size := by have := Y.sz; show s.heap.objs.size - 150 + 150 = _; omega
  have h150 := Y.sz
  have hle0 := H.le
  have O' : ∀ (j b : Nat) (t : Tok), adrOf [D+150, V+150] (topN s) j = b → TOk (cxOf prog w s [D+150, V+150]) w s A.depth A.units 0 (D+150) lT [1, n] [.int 1 t, .int n j2] j b := fun j b t hb =>
    ⟨W, rfl, by omega, hb, Y.hu, H.nd, .cons (intKind_is ..) (.cons (intKind_is ..) .nil), rfl, by omega, fun x hx => by
      obtain ⟨kv, a1, a2⟩ := H.keys x hx
      refine ⟨kv, a1, a2, ?_⟩
      have q1 := tup_ne_dict a1 H.o
      have q2 : x.2.1 ≠ V+150 := by
        obtain ⟨t, ht⟩ := mem_of_lk' h1
        have := H.sep x hx _ ht
        intro q; rw [q] at this; exact this rfl
      show x.2.1 ∉ [D+150, V+150]
      simp [q1, q2]⟩
  refine run_code W Y.hh (Nat.le_refl _) Y.hd (Nat.le_refl _) (T := w3x_T w.params true prog default [] 0 0 thI D lT nT j1 j2 j3 j5 n v now V x e y y')
    (sm := w3x_S w.params true prog default [] (s.heap.objs.size - 150) s.toks thI D lT nT j1 j2 j3 j5 n v now V x e y y') rfl ?_ rfl ?_
    (fun p bl => w3x_ok w.params (w.params.followText "special-get-raises") prog p bl (s.heap.objs.size - 150) s.toks thI D lT nT j1 j2 j3 j5 n v now V x e y y') (fun p bl => xeq rfl rfl rfl) ?_
  · exact start_of _ _ _ (And.intro H.o (And.intro hv trivial))
  · unfold w3x_S
    repeat' (first | exact all_nil | refine all_cons ?_ ?_)
    all_goals refine okx ?_ rfl
    all_goals first
      | (refine ok_fdiv ?_ ?_ ?_ <;> decide)
      | (refine ok_hasT (O' _ _ _ rfl) ?_; simp [h1])
      | (refine ok_getT (O' _ _ _ rfl) ?_; exact h1)
      | (refine ok_tin ?_ ?_ ?_; rfl; exact .cons _ _ (.cons _ _ .nil); decide)
      | exact ok_setT (O' _ _ _ rfl)
      | (refine ok_popT (O' _ _ _ rfl) ?_; exact h1)
      | exact ok_ge (decide_eq_false (by omega))
  · intro s' T' R' hp
    have F := allGet R' hp
    obtain ⟨f0, f1, fl, -⟩ := F
    have hk : ∀ x o, s.heap.get? x = some o → x ≠ D+150 → s'.heap.get? x = some o := by
      intro z o hz hzD
      by_cases hzV : z = V+150
      · subst hzV; rw [hv] at hz; cases hz; exact f1
      · exact R'.keep z o hz (by show z ∉ [D+150, V+150]; simp [hzD, hzV])
    have AW : AftW w.params s s' D := ⟨R'.top, by rw [R'.size]; show _ ≤ topN s + _; omega, hk, by rw [R'.toks]; exact Nat.le_add_right _ _, R'.gens, R'.drawn, R'.os⟩
    exact k s' _ _ _ AW (H.same f0 hk) fl (by show _ ≤ topN s + _; omega)
theorem want_w3t (Y : Rdy w A s) (H : Hp prog w s.heap D lT nT f B X) (hX : ∀ x, s.heap.objs.size ≤ x → ¬ X x) (hB : B ≤ 100) {V : Nat} {x e : Int} {y y' : Tok} (h1 : lk lT [1, n] = some (.ref (V+150))) (hv : s.heap.get? (V+150) = some (tupO [.int x y, .int e y'])) (hle : now ≤ e)
    (k : ∀ s' lT' nT' l u, AftW w.params s s' D → Hp prog w s'.heap D lT' nT' (setF f 1 n none) B X → s'.heap.get? l = some (lstO [.int x u]) → s.heap.objs.size ≤ l → R0 (.ok (.ret (.ref l))) s') :
    codeAny (model prog w) A (.call (.ref 144) ⟨[.ref (D+150), .int now j5, .int 3 j1, .int n j2, .int v j3], []⟩) R0 s := by
  have hlt : ∀ p ∈ [D+150, V+150], 150 ≤ p ∧ p < s.heap.objs.size := (lt_cons H.o (by omega) (lt_cons hv (by omega) lt_nil))
  have W := wf_of (prog := prog) (w := w) (s := s) Y.tb Y.ti Y.sz hlt (by have := tup_ne_dict hv H.o; simp; omega)
  have hM : topN s = s.heap.objs.size := by have := Y.sz; show s.heap.objs.size - 150 + 150 = _; omega
  have h150 := Y.sz
  have hle0 := H.le
  have O' : ∀ (j b : Nat) (t : Tok), adrOf [D+150, V+150] (topN s) j = b → TOk (cxOf prog w s [D+150, V+150]) w s A.depth A.units 0 (D+150) lT [1, n] [.int 1 t, .int n j2] j b := fun j b t hb =>
    ⟨W, rfl, by omega, hb, Y.hu, H.nd, .cons (intKind_is ..) (.cons (intKind_is ..) .nil), rfl, by omega, fun x hx => by
      obtain ⟨kv, a1, a2⟩ := H.keys x hx
      refine ⟨kv, a1, a2, ?_⟩
      have q1 := tup_ne_dict a1 H.o
      have q2 : x.2.1 ≠ V+150 := by
        obtain ⟨t, ht⟩ := mem_of_lk' h1
        have := H.sep x hx _ ht
        intro q; rw [q] at this; exact this rfl
      show x.2.1 ∉ [D+150, V+150]
      simp [q1, q2]⟩
  refine run_code W Y.hh (Nat.le_refl _) Y.hd (Nat.le_refl _) (T := w3t_T w.params true prog default [] 0 0 thI D lT nT j1 j2 j3 j5 n v now V x e y y')
    (sm := w3t_S w.params true prog default [] (s.heap.objs.size - 150) s.toks thI D lT nT j1 j2 j3 j5 n v now V x e y y') rfl ?_ rfl ?_
    (fun p bl => w3t_ok w.params (w.params.followText "special-get-raises") prog p bl (s.heap.objs.size - 150) s.toks thI D lT nT j1 j2 j3 j5 n v now V x e y y') (fun p bl => xeq rfl rfl rfl) ?_
  · exact start_of _ _ _ (And.intro H.o (And.intro hv trivial))
  · unfold w3t_S
    repeat' (first | exact all_nil | refine all_cons ?_ ?_)
    all_goals refine okx ?_ rfl
    all_goals first
      | (refine ok_fdiv ?_ ?_ ?_ <;> decide)
      | (refine ok_hasT (O' _ _ _ rfl) ?_; simp [h1])
      | (refine ok_getT (O' _ _ _ rfl) ?_; exact h1)
      | (refine ok_tin ?_ ?_ ?_; rfl; exact .cons _ _ (.cons _ _ .nil); decide)
      | exact ok_setT (O' _ _ _ rfl)
      | (refine ok_popT (O' _ _ _ rfl) ?_; exact h1)
      | exact ok_ge (decide_eq_true hle)
  · intro s' T' R' hp
    have F := allGet R' hp
    obtain ⟨f0, f1, fl, -⟩ := F
    have hk : ∀ x o, s.heap.get? x = some o → x ≠ D+150 → s'.heap.get? x = some o := by
      intro z o hz hzD
      by_cases hzV : z = V+150
      · subst hzV; rw [hv] at hz; cases hz; exact f1
      · exact R'.keep z o hz (by show z ∉ [D+150, V+150]; simp [hzD, hzV])
    have AW : AftW w.params s s' D := ⟨R'.top, by rw [R'.size]; show _ ≤ topN s + _; omega, hk, by rw [R'.toks]; exact Nat.le_add_right _ _, R'.gens, R'.drawn, R'.os⟩
    exact k s' _ _ _ _ AW (H.del f0 hk) fl (by show _ ≤ topN s + _; omega)
theorem want_w4a (Y : Rdy w A s) (H : Hp prog w s.heap D lT nT f B X) (hX : ∀ x, s.heap.objs.size ≤ x → ¬ X x) (hB : B ≤ 100) (h1 : lk lT [1, n] = none)
    (k : ∀ s' lT' nT' l u, AftW w.params s s' D → Hp prog w s'.heap D lT' nT' f B X → s'.heap.get? l = some (lstO [.int n u]) → s.heap.objs.size ≤ l → R0 (.ok (.ret (.ref l))) s') :
    codeAny (model prog w) A (.call (.ref 144) ⟨[.ref (D+150), .int now j5, .int 4 j1, .int n j2, .int v j3], []⟩) R0 s := by
  have hlt : ∀ p ∈ [D+150], 150 ≤ p ∧ p < s.heap.objs.size := (lt_cons H.o (by omega) lt_nil)
  have W := wf_of (prog := prog) (w := w) (s := s) Y.tb Y.ti Y.sz hlt (by simp)
  have hM : topN s = s.heap.objs.size := by have := Y.sz; show s.heap.objs.size - 150 + 150 = _; omega
  have h150 := Y.sz
  have hle0 := H.le
  have O' : ∀ (j b : Nat) (t : Tok), adrOf [D+150] (topN s) j = b → TOk (cxOf prog w s [D+150]) w s A.depth A.units 0 (D+150) lT [1, n] [.int 1 t, .int n j2] j b := fun j b t hb =>
    ⟨W, rfl, by omega, hb, Y.hu, H.nd, .cons (intKind_is ..) (.cons (intKind_is ..) .nil), rfl, by omega, fun x hx => by
      obtain ⟨kv, a1, a2⟩ := H.keys x hx
      refine ⟨kv, a1, a2, ?_⟩
      have q1 := tup_ne_dict a1 H.o
      show x.2.1 ∉ [D+150]
      simp [q1]⟩
  refine run_code W Y.hh (Nat.le_refl _) Y.hd (Nat.le_refl _) (T := w4a_T w.params true prog default [] 0 0 thI D lT nT j1 j2 j3 j5 n v now)
    (sm := w4a_S w.params true prog default [] (s.heap.objs.size - 150) s.toks thI D lT nT j1 j2 j3 j5 n v now) rfl ?_ rfl ?_
    (fun p bl => w4a_ok w.params (w.params.followText "special-get-raises") prog p bl (s.heap.objs.size - 150) s.toks thI D lT nT j1 j2 j3 j5 n v now) (fun p bl => xeq rfl rfl rfl) ?_
  · exact start_of _ _ _ (And.intro H.o trivial)
  · unfold w4a_S
    repeat' (first | exact all_nil | refine all_cons ?_ ?_)
    all_goals refine okx ?_ rfl
    all_goals first
      | (refine ok_fdiv ?_ ?_ ?_ <;> decide)
      | (refine ok_hasT (O' _ _ _ rfl) ?_; simp [h1])
      | (refine ok_getT (O' _ _ _ rfl) ?_; exact h1)
      | (refine ok_tin ?_ ?_ ?_; rfl; exact .cons _ _ (.cons _ _ .nil); decide)
      | exact ok_setT (O' _ _ _ rfl)
      | (refine ok_popT (O' _ _ _ rfl) ?_; exact h1)
  · intro s' T' R' hp
    have F := allGet R' hp
    obtain ⟨f0, fl, -⟩ := F
    have hk : ∀ x o, s.heap.get? x = some o → x ≠ D+150 → s'.heap.get? x = some o := by
      intro z o hz hzD
      exact R'.keep z o hz (by show z ∉ [D+150]; simp [hzD])
    have AW : AftW w.params s s' D := ⟨R'.top, by rw [R'.size]; show _ ≤ topN s + _; omega, hk, by rw [R'.toks]; exact Nat.le_add_right _ _, R'.gens, R'.drawn, R'.os⟩
    exact k s' _ _ _ _ AW (H.same f0 hk) fl (by show _ ≤ topN s + _; omega)
theorem want_w4x (Y : Rdy w A s) (H : Hp prog w s.heap D lT nT f B X) (hX : ∀ x, s.heap.objs.size ≤ x → ¬ X x) (hB : B ≤ 100) {V : Nat} {x e : Int} {y y' : Tok} (h1 : lk lT [1, n] = some (.ref (V+150))) (hv : s.heap.get? (V+150) = some (tupO [.int x y, .int e y'])) (hle : e < now)
    (k : ∀ s' lT' nT' l u, AftW w.params s s' D → Hp prog w s'.heap D lT' nT' f B X → s'.heap.get? l = some (lstO [.int n u]) → s.heap.objs.size ≤ l → R0 (.ok (.ret (.ref l))) s') :
    codeAny (model prog w) A (.call (.ref 144) ⟨[.ref (D+150), .int now j5, .int 4 j1, .int n j2, .int v j3], []⟩) R0 s := by
  have hlt : ∀ p ∈ [D+150, V+150], 150 ≤ p ∧ p < s.heap.objs.size := (lt_cons H.o (by omega) (lt_cons hv (by omega) lt_nil))
  have W := wf_of (prog := prog) (w := w) (s := s) Y.tb Y.ti Y.sz hlt (by have := tup_ne_dict hv H.o; simp; omega)
  have hM : topN s = s.heap.objs.size := by have := Y.sz; show s.heap.objs.size - 150 + 150 = _; omega
  have h150 := Y.sz
  have hle0 := H.le
  have O' : ∀ (j b : Nat) (t : Tok), adrOf [D+150, V+150] (topN s) j = b → TOk (cxOf prog w s [D+150, V+150]) w s A.depth A.units 0 (D+150) lT [1, n] [.int 1 t, .int n j2] j b := fun j b t hb =>
    ⟨W, rfl, by omega, hb, Y.hu, H.nd, .cons (intKind_is ..) (.cons (intKind_is ..) .nil), rfl, by omega, fun x hx => by
      obtain ⟨kv, a1, a2⟩ := H.keys x hx
      refine ⟨kv, a1, a2, ?_⟩
      have q1 := tup_ne_dict a1 H.o
      have q2 : x.2.1 ≠ V+150 := by
        obtain ⟨t, ht⟩ := mem_of_lk' h1
        have := H.sep x hx _ ht
        intro q; rw [q] at this; exact this rfl
      show x.2.1 ∉ [D+150, V+150]
      simp [q1, q2]⟩
  refine run_code W Y.hh (Nat.le_refl _) Y.hd (Nat.le_refl _) (T := w4x_T w.params true prog default [] 0 0 thI D lT nT j1 j2 j3 j5 n v now V x e y y')
    (sm := w4x_S w.params true prog default [] (s.heap.objs.size - 150) s.toks thI D lT nT j1 j2 j3 j5 n v now V x e y y') rfl ?_ rfl ?_
    (fun p bl => w4x_ok w.params (w.params.followText "special-get-raises") prog p bl (s.heap.objs.size - 150) s.toks thI D lT nT j1 j2 j3 j5 n v now V x e y y') (fun p bl => xeq rfl rfl rfl) ?_
  · exact start_of _ _ _ (And.intro H.o (And.intro hv trivial))
  · unfold w4x_S
    repeat' (first | exact all_nil | refine all_cons ?_ ?_)
    all_goals refine okx ?_ rfl
    all_goals first
      | (refine ok_fdiv ?_ ?_ ?_ <;> decide)
      | (refine ok_hasT (O' _ _ _ rfl) ?_; simp [h1])
      | (refine ok_getT (O' _ _ _ rfl) ?_; exact h1)
      | (refine ok_tin ?_ ?_ ?_; rfl; exact .cons _ _ (.cons _ _ .nil); decide)
      | exact ok_setT (O' _ _ _ rfl)
      | (refine ok_popT (O' _ _ _ rfl) ?_; exact h1)
      | exact ok_ge (decide_eq_false (by omega))
  · intro s' T' R' hp
    have F := allGet R' hp
    obtain ⟨f0, f1, fl, -⟩ := F
    have hk : ∀ x o, s.heap.get? x = some o → x ≠ D+150 → s'.heap.get? x = some o := by
      intro z o hz hzD
      by_cases hzV : z = V+150
      · subst hzV; rw [hv] at hz; cases hz; exact f1
      · exact R'.keep z o hz (by show z ∉ [D+150, V+150]; simp [hzD, hzV])
    have AW : AftW w.params s s' D := ⟨R'.top, by rw [R'.size]; show _ ≤ topN s + _; omega, hk, by rw [R'.toks]; exact Nat.le_add_right _ _, R'.gens, R'.drawn, R'.os⟩
    exact k s' _ _ _ _ AW (H.same f0 hk) fl (by show _ ≤ topN s + _; omega)
theorem want_w4t (Y : Rdy w A s) (H : Hp prog w s.heap D lT nT f B X) (hX : ∀ x, s.heap.objs.size ≤ x → ¬ X x) (hB : B ≤ 100) {V : Nat} {x e : Int} {y y' : Tok} (h1 : lk lT [1, n] = some (.ref (V+150))) (hv : s.heap.get? (V+150) = some (tupO [.int x y, .int e y'])) (hle : now ≤ e)
    (k : ∀ s' lT' nT' l u, AftW w.params s s' D → Hp prog w s'.heap D lT' nT' (setF f 1 n none) B X → s'.heap.get? l = some (lstO [.int n u]) → s.heap.objs.size ≤ l → R0 (.ok (.ret (.ref l))) s') :
    codeAny (model prog w) A (.call (.ref 144) ⟨[.ref (D+150), .int now j5, .int 4 j1, .int n j2, .int v j3], []⟩) R0 s := by
  have hlt : ∀ p ∈ [D+150, V+150], 150 ≤ p ∧ p < s.heap.objs.size := (lt_cons H.o (by omega) (lt_cons hv (by omega) lt_nil))
  have W := wf_of (prog := prog) (w := w) (s := s) Y.tb Y.ti Y.sz hlt (by have := tup_ne_dict hv H.o; simp; omega)
  have hM : topN s = s.heap.objs.size := by have := Y.sz; show s.heap.objs.size - 150 + 150 = _; omega
  have h150 := Y.sz
  have hle0 := H.le
  have O' : ∀ (j b : Nat) (t : Tok), adrOf [D+150, V+150] (topN s) j = b → TOk (cxOf prog w s [D+150, V+150]) w s A.depth A.units 0 (D+150) lT [1, n] [.int 1 t, .int n j2] j b := fun j b t hb =>
    ⟨W, rfl, by omega, hb, Y.hu, H.nd, .cons (intKind_is ..) (.cons (intKind_is ..) .nil), rfl, by omega, fun x hx => by
      obtain ⟨kv, a1, a2⟩ := H.keys x hx
      refine ⟨kv, a1, a2, ?_⟩
      have q1 := tup_ne_dict a1 H.o
      have q2 : x.2.1 ≠ V+150 := by
        obtain ⟨t, ht⟩ := mem_of_lk' h1
        have := H.sep x hx _ ht
        intro q; rw [q] at this; exact this rfl
      show x.2.1 ∉ [D+150, V+150]
      simp [q1, q2]⟩
  refine run_code W Y.hh (Nat.le_refl _) Y.hd (Nat.le_refl _) (T := w4t_T w.params true prog default [] 0 0 thI D lT nT j1 j2 j3 j5 n v now V x e y y')
    (sm := w4t_S w.params true prog default [] (s.heap.objs.size - 150) s.toks thI D lT nT j1 j2 j3 j5 n v now V x e y y') rfl ?_ rfl ?_
    (fun p bl => w4t_ok w.params (w.params.followText "special-get-raises") prog p bl (s.heap.objs.size - 150) s.toks thI D lT nT j1 j2 j3 j5 n v now V x e y y') (fun p bl => xeq rfl rfl rfl) ?_
  · exact start_of _ _ _ (And.intro H.o (And.intro hv trivial))
  · unfold w4t_S
    repeat' (first | exact all_nil | refine all_cons ?_ ?_)
    all_goals refine okx ?_ rfl
    all_goals first
      | (refine ok_fdiv ?_ ?_ ?_ <;> decide)
      | (refine ok_hasT (O' _ _ _ rfl) ?_; simp [h1])
      | (refine ok_getT (O' _ _ _ rfl) ?_; exact h1)
      | (refine ok_tin ?_ ?_ ?_; rfl; exact .cons _ _ (.cons _ _ .nil); decide)
      | exact ok_setT (O' _ _ _ rfl)
      | (refine ok_popT (O' _ _ _ rfl) ?_; exact h1)
      | exact ok_ge (decide_eq_true hle)
  · intro s' T' R' hp
    have F := allGet R' hp
    obtain ⟨f0, f1, fl, -⟩ := F
    have hk : ∀ x o, s.heap.get? x = some o → x ≠ D+150 → s'.heap.get? x = some o := by
      intro z o hz hzD
      by_cases hzV : z = V+150
      · subst hzV; rw [hv] at hz; cases hz; exact f1
      · exact R'.keep z o hz (by show z ∉ [D+150, V+150]; simp [hzD, hzV])
    have AW : AftW w.params s s' D := ⟨R'.top, by rw [R'.size]; show _ ≤ topN s + _; omega, hk, by rw [R'.toks]; exact Nat.le_add_right _ _, R'.gens, R'.drawn, R'.os⟩
    exact k s' _ _ _ _ AW (H.del f0 hk) fl (by show _ ≤ topN s + _; omega)
end
end Mine

end
/-! Expi -/
noncomputable section
open PySem PySem.W PySem.W.X PyProof.Rows
namespace Mine
def ex_S (P : Params) (b : Bool) (prog : Program) (p : Pos) (bl : List (Code × Pos)) (N t0 : Nat) (A0 A1 A2 A3 A4 A5 k0 k1 k2 k3 k4 ti : Nat) (tm : Int) (lM lS lH lQ : IL) (nM' nS' nH' nQ : Nat) : List Sm := [mkSm t0 (.hasI 5 (A5+150) lQ nQ tm ti false)]
def ex_T (P : Params) (b : Bool) (prog : Program) (p : Pos) (bl : List (Code × Pos)) (N t0 : Nat) (A0 A1 A2 A3 A4 A5 k0 k1 k2 k3 k4 ti : Nat) (tm : Int) (lM lS lH lQ : IL) (nM' nS' nH' nQ : Nat) : Tab := [some (cdict P k0 k1 k2 k3 k4 (A2+150) (A3+150) (A4+150) (A5+150) tm ti), some (instO (A0+150)), some (idct lM nM'), some (idct lS nS'), some (idct lH nH'), some (idct lQ nQ)]
def ex_X (P : Params) (b : Bool) (prog : Program) (p : Pos) (bl : List (Code × Pos)) (N t0 : Nat) (A0 A1 A2 A3 A4 A5 k0 k1 k2 k3 k4 ti : Nat) (tm : Int) (lM lS lH lQ : IL) (nM' nS' nH' nQ : Nat) : Out Flow := (run ⟨prog, swP P b, Mine.hz.ktop_302 P, N+150, t0, [A0+150, A1+150, A2+150, A3+150, A4+150, A5+150]⟩ 100000).c (.call (.ref 115) ⟨[(.ref (A1+150))], []⟩) p bl none 0 0 2750654208917478425060434470461680233370733331818453985258287486527495824584775627335309304957201086107569607341194699742146562 (ex_S P b prog p bl N t0 A0 A1 A2 A3 A4 A5 k0 k1 k2 k3 k4 ti tm lM lS lH lQ nM' nS' nH' nQ) (ex_T P b prog p bl N t0 A0 A1 A2 A3 A4 A5 k0 k1 k2 k3 k4 ti tm lM lS lH lQ nM' nS' nH' nQ) 0 0 []
def ex_L (P : Params) (b : Bool) (prog : Program) (p : Pos) (bl : List (Code × Pos)) (N t0 : Nat) (A0 A1 A2 A3 A4 A5 k0 k1 k2 k3 k4 ti : Nat) (tm : Int) (lM lS lH lQ : IL) (nM' nS' nH' nQ : Nat) := look [0, 1, 2, 3, 4, 5] (ex_X P b prog p bl N t0 A0 A1 A2 A3 A4 A5 k0 k1 k2 k3 k4 ti tm lM lS lH lQ nM' nS' nH' nQ)
def ex_R (P : Params) (b : Bool) (prog : Program) (p : Pos) (bl : List (Code × Pos)) (N t0 : Nat) (A0 A1 A2 A3 A4 A5 k0 k1 k2 k3 k4 ti : Nat) (tm : Int) (lM lS lH lQ : IL) (nM' nS' nH' nQ : Nat) : Option (Except Value Flow × List (Option Obj) × Nat × Nat × List Ob) := some ((.ok (.ret .none)), [some (cdict P k0 k1 k2 k3 k4 (A2+150) (A3+150) (A4+150) (A5+150) (tm+1) (t0+6)), some (instO (A0+150)), some (idct lM nM'), some (idct lS nS'), some (idct lH nH'), some (idct lQ nQ)], 1, 9, obsOf (ex_X P b prog p bl N t0 A0 A1 A2 A3 A4 A5 k0 k1 k2 k3 k4 ti tm lM lS lH lQ nM' nS' nH' nQ))
theorem ex_L0 : @ex_L = ex_L := rfl
theorem ex_R0 : @ex_R = ex_R := rfl
lay_z Mine.ex_L Mine.ex_R
name_z exLZ for Mine.ex_L by Mine.ex_L0
name_z exRZ for Mine.ex_R by Mine.ex_R0
theorem ex_ok (P : Params) (b : Bool) (prog : Program) (p : Pos) (bl : List (Code × Pos)) (N t0 : Nat) (A0 A1 A2 A3 A4 A5 k0 k1 k2 k3 k4 ti : Nat) (tm : Int) (lM lS lH lQ : IL) (nM' nS' nH' nQ : Nat) : ex_L P b prog p bl N t0 A0 A1 A2 A3 A4 A5 k0 k1 k2 k3 k4 ti tm lM lS lH lQ nM' nS' nH' nQ = ex_R P b prog p bl N t0 A0 A1 A2 A3 A4 A5 k0 k1 k2 k3 k4 ti tm lM lS lH lQ nM' nS' nH' nQ := by
  rw [PySem.W.ZFast.exLZ_eq, PySem.W.ZFast.exRZ_eq]
  cases b <;> kernel_rfl!

def enn_S (P : Params) (b : Bool) (prog : Program) (p : Pos) (bl : List (Code × Pos)) (N t0 : Nat) (A0 A1 A2 A3 A4 A5 k0 k1 k2 k3 k4 ti : Nat) (tm : Int) (lM lS lH lQ : IL) (nM' nS' nH' nQ : Nat) (B0 B1 B2 : Nat) (lq : SL) (nq nr nr' : Nat) : List Sm := [mkSm t0 (.hasI 5 (A5+150) lQ nQ tm ti true), mkSm t0 (.getI 5 (A5+150) lQ nQ tm ti (.ref (B0+150))), mkSm t0 (.hasS P 6 (B0+150) lq nq nS (t0+8) false), mkSm t0 (.hasS P 6 (B0+150) lq nq nM (t0+10) false), mkSm t0 (.delI 5 (A5+150) lQ nQ tm ti)]
def enn_T (P : Params) (b : Bool) (prog : Program) (p : Pos) (bl : List (Code × Pos)) (N t0 : Nat) (A0 A1 A2 A3 A4 A5 k0 k1 k2 k3 k4 ti : Nat) (tm : Int) (lM lS lH lQ : IL) (nM' nS' nH' nQ : Nat) (B0 B1 B2 : Nat) (lq : SL) (nq nr nr' : Nat) : Tab := [some (cdict P k0 k1 k2 k3 k4 (A2+150) (A3+150) (A4+150) (A5+150) tm ti), some (instO (A0+150)), some (idct lM nM'), some (idct lS nS'), some (idct lH nH'), some (idct lQ nQ), some (sdct P lq nq)]
def enn_X (P : Params) (b : Bool) (prog : Program) (p : Pos) (bl : List (Code × Pos)) (N t0 : Nat) (A0 A1 A2 A3 A4 A5 k0 k1 k2 k3 k4 ti : Nat) (tm : Int) (lM lS lH lQ : IL) (nM' nS' nH' nQ : Nat) (B0 B1 B2 : Nat) (lq : SL) (nq nr nr' : Nat) : Out Flow := (run ⟨prog, swP P b, Mine.hz.ktop_302 P, N+150, t0, [A0+150, A1+150, A2+150, A3+150, A4+150, A5+150, B0+150]⟩ 100000).c (.call (.ref 115) ⟨[(.ref (A1+150))], []⟩) p bl none 0 0 124955124761745111090185107593494528427086964419696885757191805515653456030910364071177323197113465396544499716773098449464620701110629681685262935179845585456712956145052812013701055583495549066352683973963187626608088758882328088095350564645689649549788872706 (enn_S P b prog p bl N t0 A0 A1 A2 A3 A4 A5 k0 k1 k2 k3 k4 ti tm lM lS lH lQ nM' nS' nH' nQ B0 B1 B2 lq nq nr nr') (enn_T P b prog p bl N t0 A0 A1 A2 A3 A4 A5 k0 k1 k2 k3 k4 ti tm lM lS lH lQ nM' nS' nH' nQ B0 B1 B2 lq nq nr nr') 0 0 []
def enn_L (P : Params) (b : Bool) (prog : Program) (p : Pos) (bl : List (Code × Pos)) (N t0 : Nat) (A0 A1 A2 A3 A4 A5 k0 k1 k2 k3 k4 ti : Nat) (tm : Int) (lM lS lH lQ : IL) (nM' nS' nH' nQ : Nat) (B0 B1 B2 : Nat) (lq : SL) (nq nr nr' : Nat) := look [0, 1, 2, 3, 4, 5, 6] (enn_X P b prog p bl N t0 A0 A1 A2 A3 A4 A5 k0 k1 k2 k3 k4 ti tm lM lS lH lQ nM' nS' nH' nQ B0 B1 B2 lq nq nr nr')
def enn_R (P : Params) (b : Bool) (prog : Program) (p : Pos) (bl : List (Code × Pos)) (N t0 : Nat) (A0 A1 A2 A3 A4 A5 k0 k1 k2 k3 k4 ti : Nat) (tm : Int) (lM lS lH lQ : IL) (nM' nS' nH' nQ : Nat) (B0 B1 B2 : Nat) (lq : SL) (nq nr nr' : Nat) : Option (Except Value Flow × List (Option Obj) × Nat × Nat × List Ob) := some ((.ok (.ret .none)), [some (cdict P k0 k1 k2 k3 k4 (A2+150) (A3+150) (A4+150) (A5+150) (tm+1) (t0+17)), some (instO (A0+150)), some (idct lM nM'), some (idct lS nS'), some (idct lH nH'), some (idct (rem lQ tm) (nQ + 1)), some (sdct P lq nq)], 1, 20, obsOf (enn_X P b prog p bl N t0 A0 A1 A2 A3 A4 A5 k0 k1 k2 k3 k4 ti tm lM lS lH lQ nM' nS' nH' nQ B0 B1 B2 lq nq nr nr'))
theorem enn_L0 : @enn_L = enn_L := rfl
theorem enn_R0 : @enn_R = enn_R := rfl
lay_z Mine.enn_L Mine.enn_R
name_z ennLZ for Mine.enn_L by Mine.enn_L0
name_z ennRZ for Mine.enn_R by Mine.enn_R0
theorem enn_ok (P : Params) (b : Bool) (prog : Program) (p : Pos) (bl : List (Code × Pos)) (N t0 : Nat) (A0 A1 A2 A3 A4 A5 k0 k1 k2 k3 k4 ti : Nat) (tm : Int) (lM lS lH lQ : IL) (nM' nS' nH' nQ : Nat) (B0 B1 B2 : Nat) (lq : SL) (nq nr nr' : Nat) : enn_L P b prog p bl N t0 A0 A1 A2 A3 A4 A5 k0 k1 k2 k3 k4 ti tm lM lS lH lQ nM' nS' nH' nQ B0 B1 B2 lq nq nr nr' = enn_R P b prog p bl N t0 A0 A1 A2 A3 A4 A5 k0 k1 k2 k3 k4 ti tm lM lS lH lQ nM' nS' nH' nQ B0 B1 B2 lq nq nr nr' := by
  rw [PySem.W.ZFast.ennLZ_eq, PySem.W.ZFast.ennRZ_eq]
  cases b <;> kernel_rfl!

def en0_S (P : Params) (b : Bool) (prog : Program) (p : Pos) (bl : List (Code × Pos)) (N t0 : Nat) (A0 A1 A2 A3 A4 A5 k0 k1 k2 k3 k4 ti : Nat) (tm : Int) (lM lS lH lQ : IL) (nM' nS' nH' nQ : Nat) (B0 B1 B2 : Nat) (lq : SL) (nq nr nr' : Nat) : List Sm := [mkSm t0 (.hasI 5 (A5+150) lQ nQ tm ti true), mkSm t0 (.getI 5 (A5+150) lQ nQ tm ti (.ref (B0+150))), mkSm t0 (.hasS P 6 (B0+150) lq nq nS (t0+8) false), mkSm t0 (.hasS P 6 (B0+150) lq nq nM (t0+10) true), mkSm t0 (.getS P 6 (B0+150) lq nq nM (t0+12) (.ref (B2+150))), mkSm t0 (.kend 9 (N+150+1) 7 (B2+150) (N+150) [] nr'), mkSm t0 (.delI 5 (A5+150) lQ nQ tm ti)]
def en0_T (P : Params) (b : Bool) (prog : Program) (p : Pos) (bl : List (Code × Pos)) (N t0 : Nat) (A0 A1 A2 A3 A4 A5 k0 k1 k2 k3 k4 ti : Nat) (tm : Int) (lM lS lH lQ : IL) (nM' nS' nH' nQ : Nat) (B0 B1 B2 : Nat) (lq : SL) (nq nr nr' : Nat) : Tab := [some (cdict P k0 k1 k2 k3 k4 (A2+150) (A3+150) (A4+150) (A5+150) tm ti), some (instO (A0+150)), some (idct lM nM'), some (idct lS nS'), some (idct lH nH'), some (idct lQ nQ), some (sdct P lq nq), some (idct [] nr')]
def en0_X (P : Params) (b : Bool) (prog : Program) (p : Pos) (bl : List (Code × Pos)) (N t0 : Nat) (A0 A1 A2 A3 A4 A5 k0 k1 k2 k3 k4 ti : Nat) (tm : Int) (lM lS lH lQ : IL) (nM' nS' nH' nQ : Nat) (B0 B1 B2 : Nat) (lq : SL) (nq nr nr' : Nat) : Out Flow := (run ⟨prog, swP P b, Mine.hz.ktop_302 P, N+150, t0, [A0+150, A1+150, A2+150, A3+150, A4+150, A5+150, B0+150, B2+150]⟩ 100000).c (.call (.ref 115) ⟨[(.ref (A1+150))], []⟩) p bl none 0 0 2595216407032946367837942106817594722295640935192446713651249679712643237481177981326588007145203364512388918161182131798488841760032836143641279992708599955443322814433221697904134358587436214924589697916493406965577278496226545567980837442649479487230698726555539554698982125543104231332155394 (en0_S P b prog p bl N t0 A0 A1 A2 A3 A4 A5 k0 k1 k2 k3 k4 ti tm lM lS lH lQ nM' nS' nH' nQ B0 B1 B2 lq nq nr nr') (en0_T P b prog p bl N t0 A0 A1 A2 A3 A4 A5 k0 k1 k2 k3 k4 ti tm lM lS lH lQ nM' nS' nH' nQ B0 B1 B2 lq nq nr nr') 0 0 []
def en0_L (P : Params) (b : Bool) (prog : Program) (p : Pos) (bl : List (Code × Pos)) (N t0 : Nat) (A0 A1 A2 A3 A4 A5 k0 k1 k2 k3 k4 ti : Nat) (tm : Int) (lM lS lH lQ : IL) (nM' nS' nH' nQ : Nat) (B0 B1 B2 : Nat) (lq : SL) (nq nr nr' : Nat) := look [0, 1, 2, 3, 4, 5, 6, 7] (en0_X P b prog p bl N t0 A0 A1 A2 A3 A4 A5 k0 k1 k2 k3 k4 ti tm lM lS lH lQ nM' nS' nH' nQ B0 B1 B2 lq nq nr nr')
def en0_R (P : Params) (b : Bool) (prog : Program) (p : Pos) (bl : List (Code × Pos)) (N t0 : Nat) (A0 A1 A2 A3 A4 A5 k0 k1 k2 k3 k4 ti : Nat) (tm : Int) (lM lS lH lQ : IL) (nM' nS' nH' nQ : Nat) (B0 B1 B2 : Nat) (lq : SL) (nq nr nr' : Nat) : Option (Except Value Flow × List (Option Obj) × Nat × Nat × List Ob) := some ((.ok (.ret .none)), [some (cdict P k0 k1 k2 k3 k4 (A2+150) (A3+150) (A4+150) (A5+150) (tm+1) (t0+19)), some (instO (A0+150)), some (idct lM nM'), some (idct lS nS'), some (idct lH nH'), some (idct (rem lQ tm) (nQ + 1)), some (sdct P lq nq), some (idct [] nr')], 4, 22, obsOf (en0_X P b prog p bl N t0 A0 A1 A2 A3 A4 A5 k0 k1 k2 k3 k4 ti tm lM lS lH lQ nM' nS' nH' nQ B0 B1 B2 lq nq nr nr'))
theorem en0_L0 : @en0_L = en0_L := rfl
theorem en0_R0 : @en0_R = en0_R := rfl
lay_z Mine.en0_L Mine.en0_R
name_z en0LZ for Mine.en0_L by Mine.en0_L0
name_z en0RZ for Mine.en0_R by Mine.en0_R0
theorem en0_ok (P : Params) (b : Bool) (prog : Program) (p : Pos) (bl : List (Code × Pos)) (N t0 : Nat) (A0 A1 A2 A3 A4 A5 k0 k1 k2 k3 k4 ti : Nat) (tm : Int) (lM lS lH lQ : IL) (nM' nS' nH' nQ : Nat) (B0 B1 B2 : Nat) (lq : SL) (nq nr nr' : Nat) : en0_L P b prog p bl N t0 A0 A1 A2 A3 A4 A5 k0 k1 k2 k3 k4 ti tm lM lS lH lQ nM' nS' nH' nQ B0 B1 B2 lq nq nr nr' = en0_R P b prog p bl N t0 A0 A1 A2 A3 A4 A5 k0 k1 k2 k3 k4 ti tm lM lS lH lQ nM' nS' nH' nQ B0 B1 B2 lq nq nr nr' := by
  rw [PySem.W.ZFast.en0LZ_eq, PySem.W.ZFast.en0RZ_eq]
  cases b <;> kernel_rfl!

def en1_S (P : Params) (b : Bool) (prog : Program) (p : Pos) (bl : List (Code × Pos)) (N t0 : Nat) (A0 A1 A2 A3 A4 A5 k0 k1 k2 k3 k4 ti : Nat) (tm : Int) (lM lS lH lQ : IL) (nM' nS' nH' nQ : Nat) (B0 B1 B2 : Nat) (lq : SL) (nq nr nr' : Nat) (b1 : Int) (bt1 : Nat) (bu1 : Value) : List Sm := [mkSm t0 (.hasI 5 (A5+150) lQ nQ tm ti true), mkSm t0 (.getI 5 (A5+150) lQ nQ tm ti (.ref (B0+150))), mkSm t0 (.hasS P 6 (B0+150) lq nq nS (t0+8) false), mkSm t0 (.hasS P 6 (B0+150) lq nq nM (t0+10) true), mkSm t0 (.getS P 6 (B0+150) lq nq nM (t0+12) (.ref (B2+150))), mkSm t0 (.knext 9 (N+150+1) 7 (B2+150) [(b1, bt1, bu1)] nr' 0 b1 bt1), mkSm t0 (.delI 2 (A2+150) lM nM' b1 bt1), mkSm t0 (.kend 9 (N+150+1) 7 (B2+150) (N+150) [(b1, bt1, bu1)] nr'), mkSm t0 (.delI 5 (A5+150) lQ nQ tm ti)]
def en1_T (P : Params) (b : Bool) (prog : Program) (p : Pos) (bl : List (Code × Pos)) (N t0 : Nat) (A0 A1 A2 A3 A4 A5 k0 k1 k2 k3 k4 ti : Nat) (tm : Int) (lM lS lH lQ : IL) (nM' nS' nH' nQ : Nat) (B0 B1 B2 : Nat) (lq : SL) (nq nr nr' : Nat) (b1 : Int) (bt1 : Nat) (bu1 : Value) : Tab := [some (cdict P k0 k1 k2 k3 k4 (A2+150) (A3+150) (A4+150) (A5+150) tm ti), some (instO (A0+150)), some (idct lM nM'), some (idct lS nS'), some (idct lH nH'), some (idct lQ nQ), some (sdct P lq nq), some (idct [(b1, bt1, bu1)] nr')]
def en1_X (P : Params) (b : Bool) (prog : Program) (p : Pos) (bl : List (Code × Pos)) (N t0 : Nat) (A0 A1 A2 A3 A4 A5 k0 k1 k2 k3 k4 ti : Nat) (tm : Int) (lM lS lH lQ : IL) (nM' nS' nH' nQ : Nat) (B0 B1 B2 : Nat) (lq : SL) (nq nr nr' : Nat) (b1 : Int) (bt1 : Nat) (bu1 : Value) : Out Flow := (run ⟨prog, swP P b, Mine.hz.ktop_302 P, N+150, t0, [A0+150, A1+150, A2+150, A3+150, A4+150, A5+150, B0+150, B2+150]⟩ 100000).c (.call (.ref 115) ⟨[(.ref (A1+150))], []⟩) p bl none 0 0 904300934816998031612787350370711966845252372648256048897544559599728432524912997228218587114306255292104169107196816327654649593571237516984650537097064890599453832326329487641316523115987068948890191681922124494024527698990517094835986970860762294091461029070797528650610617320904923278683320258753038929696000389902830846245746282498 (en1_S P b prog p bl N t0 A0 A1 A2 A3 A4 A5 k0 k1 k2 k3 k4 ti tm lM lS lH lQ nM' nS' nH' nQ B0 B1 B2 lq nq nr nr' b1 bt1 bu1) (en1_T P b prog p bl N t0 A0 A1 A2 A3 A4 A5 k0 k1 k2 k3 k4 ti tm lM lS lH lQ nM' nS' nH' nQ B0 B1 B2 lq nq nr nr' b1 bt1 bu1) 0 0 []
def en1_L (P : Params) (b : Bool) (prog : Program) (p : Pos) (bl : List (Code × Pos)) (N t0 : Nat) (A0 A1 A2 A3 A4 A5 k0 k1 k2 k3 k4 ti : Nat) (tm : Int) (lM lS lH lQ : IL) (nM' nS' nH' nQ : Nat) (B0 B1 B2 : Nat) (lq : SL) (nq nr nr' : Nat) (b1 : Int) (bt1 : Nat) (bu1 : Value) := look [0, 1, 2, 3, 4, 5, 6, 7] (en1_X P b prog p bl N t0 A0 A1 A2 A3 A4 A5 k0 k1 k2 k3 k4 ti tm lM lS lH lQ nM' nS' nH' nQ B0 B1 B2 lq nq nr nr' b1 bt1 bu1)
def en1_R (P : Params) (b : Bool) (prog : Program) (p : Pos) (bl : List (Code × Pos)) (N t0 : Nat) (A0 A1 A2 A3 A4 A5 k0 k1 k2 k3 k4 ti : Nat) (tm : Int) (lM lS lH lQ : IL) (nM' nS' nH' nQ : Nat) (B0 B1 B2 : Nat) (lq : SL) (nq nr nr' : Nat) (b1 : Int) (bt1 : Nat) (bu1 : Value) : Option (Except Value Flow × List (Option Obj) × Nat × Nat × List Ob) := some ((.ok (.ret .none)), [some (cdict P k0 k1 k2 k3 k4 (A2+150) (A3+150) (A4+150) (A5+150) (tm+1) (t0+22)), some (instO (A0+150)), some (idct (rem lM b1) (nM' + 1)), some (idct lS nS'), some (idct lH nH'), some (idct (rem lQ tm) (nQ + 1)), some (sdct P lq nq), some (idct [(b1, bt1, bu1)] nr')], 4, 25, obsOf (en1_X P b prog p bl N t0 A0 A1 A2 A3 A4 A5 k0 k1 k2 k3 k4 ti tm lM lS lH lQ nM' nS' nH' nQ B0 B1 B2 lq nq nr nr' b1 bt1 bu1))
theorem en1_L0 : @en1_L = en1_L := rfl
theorem en1_R0 : @en1_R = en1_R := rfl
lay_z Mine.en1_L Mine.en1_R
name_z en1LZ for Mine.en1_L by Mine.en1_L0
name_z en1RZ for Mine.en1_R by Mine.en1_R0
theorem en1_ok (P : Params) (b : Bool) (prog : Program) (p : Pos) (bl : List (Code × Pos)) (N t0 : Nat) (A0 A1 A2 A3 A4 A5 k0 k1 k2 k3 k4 ti : Nat) (tm : Int) (lM lS lH lQ : IL) (nM' nS' nH' nQ : Nat) (B0 B1 B2 : Nat) (lq : SL) (nq nr nr' : Nat) (b1 : Int) (bt1 : Nat) (bu1 : Value) : en1_L P b prog p bl N t0 A0 A1 A2 A3 A4 A5 k0 k1 k2 k3 k4 ti tm lM lS lH lQ nM' nS' nH' nQ B0 B1 B2 lq nq nr nr' b1 bt1 bu1 = en1_R P b prog p bl N t0 A0 A1 A2 A3 A4 A5 k0 k1 k2 k3 k4 ti tm lM lS lH lQ nM' nS' nH' nQ B0 B1 B2 lq nq nr nr' b1 bt1 bu1 := by
  rw [PySem.W.ZFast.en1LZ_eq, PySem.W.ZFast.en1RZ_eq]
  cases b <;> kernel_rfl!

def en2_S (P : Params) (b : Bool) (prog : Program) (p : Pos) (bl : List (Code × Pos)) (N t0 : Nat) (A0 A1 A2 A3 A4 A5 k0 k1 k2 k3 k4 ti : Nat) (tm : Int) (lM lS lH lQ : IL) (nM' nS' nH' nQ : Nat) (B0 B1 B2 : Nat) (lq : SL) (nq nr nr' : Nat) (b1 b2 : Int) (bt1 bt2 : Nat) (bu1 bu2 : Value) : List Sm := [mkSm t0 (.hasI 5 (A5+150) lQ nQ tm ti true), mkSm t0 (.getI 5 (A5+150) lQ nQ tm ti (.ref (B0+150))), mkSm t0 (.hasS P 6 (B0+150) lq nq nS (t0+8) false), mkSm t0 (.hasS P 6 (B0+150) lq nq nM (t0+10) true), mkSm t0 (.getS P 6 (B0+150) lq nq nM (t0+12) (.ref (B2+150))), mkSm t0 (.knext 9 (N+150+1) 7 (B2+150) [(b1, bt1, bu1), (b2, bt2, bu2)] nr' 0 b1 bt1), mkSm t0 (.delI 2 (A2+150) lM nM' b1 bt1), mkSm t0 (.knext 9 (N+150+1) 7 (B2+150) [(b1, bt1, bu1), (b2, bt2, bu2)] nr' 1 b2 bt2), mkSm t0 (.delI 2 (A2+150) (rem lM b1) (nM' + 1) b2 bt2), mkSm t0 (.kend 9 (N+150+1) 7 (B2+150) (N+150) [(b1, bt1, bu1), (b2, bt2, bu2)] nr'), mkSm t0 (.delI 5 (A5+150) lQ nQ tm ti)]
def en2_T (P : Params) (b : Bool) (prog : Program) (p : Pos) (bl : List (Code × Pos)) (N t0 : Nat) (A0 A1 A2 A3 A4 A5 k0 k1 k2 k3 k4 ti : Nat) (tm : Int) (lM lS lH lQ : IL) (nM' nS' nH' nQ : Nat) (B0 B1 B2 : Nat) (lq : SL) (nq nr nr' : Nat) (b1 b2 : Int) (bt1 bt2 : Nat) (bu1 bu2 : Value) : Tab := [some (cdict P k0 k1 k2 k3 k4 (A2+150) (A3+150) (A4+150) (A5+150) tm ti), some (instO (A0+150)), some (idct lM nM'), some (idct lS nS'), some (idct lH nH'), some (idct lQ nQ), some (sdct P lq nq), some (idct [(b1, bt1, bu1), (b2, bt2, bu2)] nr')]
def en2_X (P : Params) (b : Bool) (prog : Program) (p : Pos) (bl : List (Code × Pos)) (N t0 : Nat) (A0 A1 A2 A3 A4 A5 k0 k1 k2 k3 k4 ti : Nat) (tm : Int) (lM lS lH lQ : IL) (nM' nS' nH' nQ : Nat) (B0 B1 B2 : Nat) (lq : SL) (nq nr nr' : Nat) (b1 b2 : Int) (bt1 bt2 : Nat) (bu1 bu2 : Value) : Out Flow := (run ⟨prog, swP P b, Mine.hz.ktop_302 P, N+150, t0, [A0+150, A1+150, A2+150, A3+150, A4+150, A5+150, B0+150, B2+150]⟩ 100000).c (.call (.ref 115) ⟨[(.ref (A1+150))], []⟩) p bl none 0 0 315102886408545669768603156088350838621322225278117515634683588725754796774794207751578196460449432800141287354040545030241744181963319352389700035644322314291279397503354517659004887278123180819118831616052091049285707926583448808394666090754297913065172503055331833707717180255972604994044473851785328855557996573126925846413655350831265515083044017799865494366865223439388674 (en2_S P b prog p bl N t0 A0 A1 A2 A3 A4 A5 k0 k1 k2 k3 k4 ti tm lM lS lH lQ nM' nS' nH' nQ B0 B1 B2 lq nq nr nr' b1 b2 bt1 bt2 bu1 bu2) (en2_T P b prog p bl N t0 A0 A1 A2 A3 A4 A5 k0 k1 k2 k3 k4 ti tm lM lS lH lQ nM' nS' nH' nQ B0 B1 B2 lq nq nr nr' b1 b2 bt1 bt2 bu1 bu2) 0 0 []
def en2_L (P : Params) (b : Bool) (prog : Program) (p : Pos) (bl : List (Code × Pos)) (N t0 : Nat) (A0 A1 A2 A3 A4 A5 k0 k1 k2 k3 k4 ti : Nat) (tm : Int) (lM lS lH lQ : IL) (nM' nS' nH' nQ : Nat) (B0 B1 B2 : Nat) (lq : SL) (nq nr nr' : Nat) (b1 b2 : Int) (bt1 bt2 : Nat) (bu1 bu2 : Value) := look [0, 1, 2, 3, 4, 5, 6, 7] (en2_X P b prog p bl N t0 A0 A1 A2 A3 A4 A5 k0 k1 k2 k3 k4 ti tm lM lS lH lQ nM' nS' nH' nQ B0 B1 B2 lq nq nr nr' b1 b2 bt1 bt2 bu1 bu2)
def en2_R (P : Params) (b : Bool) (prog : Program) (p : Pos) (bl : List (Code × Pos)) (N t0 : Nat) (A0 A1 A2 A3 A4 A5 k0 k1 k2 k3 k4 ti : Nat) (tm : Int) (lM lS lH lQ : IL) (nM' nS' nH' nQ : Nat) (B0 B1 B2 : Nat) (lq : SL) (nq nr nr' : Nat) (b1 b2 : Int) (bt1 bt2 : Nat) (bu1 bu2 : Value) : Option (Except Value Flow × List (Option Obj) × Nat × Nat × List Ob) := some ((.ok (.ret .none)), [some (cdict P k0 k1 k2 k3 k4 (A2+150) (A3+150) (A4+150) (A5+150) (tm+1) (t0+25)), some (instO (A0+150)), some (idct (rem (rem lM b1) b2) ((nM' + 1) + 1)), some (idct lS nS'), some (idct lH nH'), some (idct (rem lQ tm) (nQ + 1)), some (sdct P lq nq), some (idct [(b1, bt1, bu1), (b2, bt2, bu2)] nr')], 4, 28, obsOf (en2_X P b prog p bl N t0 A0 A1 A2 A3 A4 A5 k0 k1 k2 k3 k4 ti tm lM lS lH lQ nM' nS' nH' nQ B0 B1 B2 lq nq nr nr' b1 b2 bt1 bt2 bu1 bu2))
theorem en2_L0 : @en2_L = en2_L := rfl
theorem en2_R0 : @en2_R = en2_R := rfl
lay_z Mine.en2_L Mine.en2_R
name_z en2LZ for Mine.en2_L by Mine.en2_L0
name_z en2RZ for Mine.en2_R by Mine.en2_R0
theorem en2_ok (P : Params) (b : Bool) (prog : Program) (p : Pos) (bl : List (Code × Pos)) (N t0 : Nat) (A0 A1 A2 A3 A4 A5 k0 k1 k2 k3 k4 ti : Nat) (tm : Int) (lM lS lH lQ : IL) (nM' nS' nH' nQ : Nat) (B0 B1 B2 : Nat) (lq : SL) (nq nr nr' : Nat) (b1 b2 : Int) (bt1 bt2 : Nat) (bu1 bu2 : Value) : en2_L P b prog p bl N t0 A0 A1 A2 A3 A4 A5 k0 k1 k2 k3 k4 ti tm lM lS lH lQ nM' nS' nH' nQ B0 B1 B2 lq nq nr nr' b1 b2 bt1 bt2 bu1 bu2 = en2_R P b prog p bl N t0 A0 A1 A2 A3 A4 A5 k0 k1 k2 k3 k4 ti tm lM lS lH lQ nM' nS' nH' nQ B0 B1 B2 lq nq nr nr' b1 b2 bt1 bt2 bu1 bu2 := by
  rw [PySem.W.ZFast.en2LZ_eq, PySem.W.ZFast.en2RZ_eq]
  cases b <;> kernel_rfl!

def en3_S (P : Params) (b : Bool) (prog : Program) (p : Pos) (bl : List (Code × Pos)) (N t0 : Nat) (A0 A1 A2 A3 A4 A5 k0 k1 k2 k3 k4 ti : Nat) (tm : Int) (lM lS lH lQ : IL) (nM' nS' nH' nQ : Nat) (B0 B1 B2 : Nat) (lq : SL) (nq nr nr' : Nat) (b1 b2 b3 : Int) (bt1 bt2 bt3 : Nat) (bu1 bu2 bu3 : Value) : List Sm := [mkSm t0 (.hasI 5 (A5+150) lQ nQ tm ti true), mkSm t0 (.getI 5 (A5+150) lQ nQ tm ti (.ref (B0+150))), mkSm t0 (.hasS P 6 (B0+150) lq nq nS (t0+8) false), mkSm t0 (.hasS P 6 (B0+150) lq nq nM (t0+10) true), mkSm t0 (.getS P 6 (B0+150) lq nq nM (t0+12) (.ref (B2+150))), mkSm t0 (.knext 9 (N+150+1) 7 (B2+150) [(b1, bt1, bu1), (b2, bt2, bu2), (b3, bt3, bu3)] nr' 0 b1 bt1), mkSm t0 (.delI 2 (A2+150) lM nM' b1 bt1), mkSm t0 (.knext 9 (N+150+1) 7 (B2+150) [(b1, bt1, bu1), (b2, bt2, bu2), (b3, bt3, bu3)] nr' 1 b2 bt2), mkSm t0 (.delI 2 (A2+150) (rem lM b1) (nM' + 1) b2 bt2), mkSm t0 (.knext 9 (N+150+1) 7 (B2+150) [(b1, bt1, bu1), (b2, bt2, bu2), (b3, bt3, bu3)] nr' 2 b3 bt3), mkSm t0 (.delI 2 (A2+150) (rem (rem lM b1) b2) ((nM' + 1) + 1) b3 bt3), mkSm t0 (.kend 9 (N+150+1) 7 (B2+150) (N+150) [(b1, bt1, bu1), (b2, bt2, bu2), (b3, bt3, bu3)] nr'), mkSm t0 (.delI 5 (A5+150) lQ nQ tm ti)]
def en3_T (P : Params) (b : Bool) (prog : Program) (p : Pos) (bl : List (Code × Pos)) (N t0 : Nat) (A0 A1 A2 A3 A4 A5 k0 k1 k2 k3 k4 ti : Nat) (tm : Int) (lM lS lH lQ : IL) (nM' nS' nH' nQ : Nat) (B0 B1 B2 : Nat) (lq : SL) (nq nr nr' : Nat) (b1 b2 b3 : Int) (bt1 bt2 bt3 : Nat) (bu1 bu2 bu3 : Value) : Tab := [some (cdict P k0 k1 k2 k3 k4 (A2+150) (A3+150) (A4+150) (A5+150) tm ti), some (instO (A0+150)), some (idct lM nM'), some (idct lS nS'), some (idct lH nH'), some (idct lQ nQ), some (sdct P lq nq), some (idct [(b1, bt1, bu1), (b2, bt2, bu2), (b3, bt3, bu3)] nr')]
def en3_X (P : Params) (b : Bool) (prog : Program) (p : Pos) (bl : List (Code × Pos)) (N t0 : Nat) (A0 A1 A2 A3 A4 A5 k0 k1 k2 k3 k4 ti : Nat) (tm : Int) (lM lS lH lQ : IL) (nM' nS' nH' nQ : Nat) (B0 B1 B2 : Nat) (lq : SL) (nq nr nr' : Nat) (b1 b2 b3 : Int) (bt1 bt2 bt3 : Nat) (bu1 bu2 bu3 : Value) : Out Flow := (run ⟨prog, swP P b, Mine.hz.ktop_302 P, N+150, t0, [A0+150, A1+150, A2+150, A3+150, A4+150, A5+150, B0+150, B2+150]⟩ 100000).c (.call (.ref 115) ⟨[(.ref (A1+150))], []⟩) p bl none 0 0 109797330954976799917952276419574973940655904698559474312766527776495510175774175875869299990625727179794407470386847432380885663987308749036292748138451936784617010782552656812688260744809952755608771818702769931553094866167300643398430643000701290044621381292730583858466811411271799804609037173644910105262699775601355728488848242238599683370821185607961236611542434948530817434410807783158259092936385653194052898818 (en3_S P b prog p bl N t0 A0 A1 A2 A3 A4 A5 k0 k1 k2 k3 k4 ti tm lM lS lH lQ nM' nS' nH' nQ B0 B1 B2 lq nq nr nr' b1 b2 b3 bt1 bt2 bt3 bu1 bu2 bu3) (en3_T P b prog p bl N t0 A0 A1 A2 A3 A4 A5 k0 k1 k2 k3 k4 ti tm lM lS lH lQ nM' nS' nH' nQ B0 B1 B2 lq nq nr nr' b1 b2 b3 bt1 bt2 bt3 bu1 bu2 bu3) 0 0 []
def en3_L (P : Params) (b : Bool) (prog : Program) (p : Pos) (bl : List (Code × Pos)) (N t0 : Nat) (A0 A1 A2 A3 A4 A5 k0 k1 k2 k3 k4 ti : Nat) (tm : Int) (lM lS lH lQ : IL) (nM' nS' nH' nQ : Nat) (B0 B1 B2 : Nat) (lq : SL) (nq nr nr' : Nat) (b1 b2 b3 : Int) (bt1 bt2 bt3 : Nat) (bu1 bu2 bu3 : Value) := look [0, 1, 2, 3, 4, 5, 6, 7] (en3_X P b prog p bl N t0 A0 A1 A2 A3 A4 A5 k0 k1 k2 k3 k4 ti tm lM lS lH lQ nM' nS' nH' nQ B0 B1 B2 lq nq nr nr' b1 b2 b3 bt1 bt2 bt3 bu1 bu2 bu3)
def en3_R (P : Params) (b : Bool) (prog : Program) (p : Pos) (bl : List (Code × Pos)) (N t0 : Nat) (A0 A1 A2 A3 A4 A5 k0 k1 k2 k3 k4 ti : Nat) (tm : Int) (lM lS lH lQ : IL) (nM' nS' nH' nQ : Nat) (B0 B1 B2 : Nat) (lq : SL) (nq nr nr' : Nat) (b1 b2 b3 : Int) (bt1 bt2 bt3 : Nat) (bu1 bu2 bu3 : Value) : Option (Except Value Flow × List (Option Obj) × Nat × Nat × List Ob) := some ((.ok (.ret .none)), [some (cdict P k0 k1 k2 k3 k4 (A2+150) (A3+150) (A4+150) (A5+150) (tm+1) (t0+28)), some (instO (A0+150)), some (idct (rem (rem (rem lM b1) b2) b3) (((nM' + 1) + 1) + 1)), some (idct lS nS'), some (idct lH nH'), some (idct (rem lQ tm) (nQ + 1)), some (sdct P lq nq), some (idct [(b1, bt1, bu1), (b2, bt2, bu2), (b3, bt3, bu3)] nr')], 4, 31, obsOf (en3_X P b prog p bl N t0 A0 A1 A2 A3 A4 A5 k0 k1 k2 k3 k4 ti tm lM lS lH lQ nM' nS' nH' nQ B0 B1 B2 lq nq nr nr' b1 b2 b3 bt1 bt2 bt3 bu1 bu2 bu3))
theorem en3_L0 : @en3_L = en3_L := rfl
theorem en3_R0 : @en3_R = en3_R := rfl
lay_z Mine.en3_L Mine.en3_R
name_z en3LZ for Mine.en3_L by Mine.en3_L0
name_z en3RZ for Mine.en3_R by Mine.en3_R0
theorem en3_ok (P : Params) (b : Bool) (prog : Program) (p : Pos) (bl : List (Code × Pos)) (N t0 : Nat) (A0 A1 A2 A3 A4 A5 k0 k1 k2 k3 k4 ti : Nat) (tm : Int) (lM lS lH lQ : IL) (nM' nS' nH' nQ : Nat) (B0 B1 B2 : Nat) (lq : SL) (nq nr nr' : Nat) (b1 b2 b3 : Int) (bt1 bt2 bt3 : Nat) (bu1 bu2 bu3 : Value) : en3_L P b prog p bl N t0 A0 A1 A2 A3 A4 A5 k0 k1 k2 k3 k4 ti tm lM lS lH lQ nM' nS' nH' nQ B0 B1 B2 lq nq nr nr' b1 b2 b3 bt1 bt2 bt3 bu1 bu2 bu3 = en3_R P b prog p bl N t0 A0 A1 A2 A3 A4 A5 k0 k1 k2 k3 k4 ti tm lM lS lH lQ nM' nS' nH' nQ B0 B1 B2 lq nq nr nr' b1 b2 b3 bt1 bt2 bt3 bu1 bu2 bu3 := by
  rw [PySem.W.ZFast.en3LZ_eq, PySem.W.ZFast.en3RZ_eq]
  cases b <;> kernel_rfl!

def e0n_S (P : Params) (b : Bool) (prog : Program) (p : Pos) (bl : List (Code × Pos)) (N t0 : Nat) (A0 A1 A2 A3 A4 A5 k0 k1 k2 k3 k4 ti : Nat) (tm : Int) (lM lS lH lQ : IL) (nM' nS' nH' nQ : Nat) (B0 B1 B2 : Nat) (lq : SL) (nq nr nr' : Nat) : List Sm := [mkSm t0 (.hasI 5 (A5+150) lQ nQ tm ti true), mkSm t0 (.getI 5 (A5+150) lQ nQ tm ti (.ref (B0+150))), mkSm t0 (.hasS P 6 (B0+150) lq nq nS (t0+8) true), mkSm t0 (.getS P 6 (B0+150) lq nq nS (t0+10) (.ref (B1+150))), mkSm t0 (.kend 9 (N+150+1) 7 (B1+150) (N+150) [] nr), mkSm t0 (.hasS P 6 (B0+150) lq nq nM (t0+12) false), mkSm t0 (.delI 5 (A5+150) lQ nQ tm ti)]
def e0n_T (P : Params) (b : Bool) (prog : Program) (p : Pos) (bl : List (Code × Pos)) (N t0 : Nat) (A0 A1 A2 A3 A4 A5 k0 k1 k2 k3 k4 ti : Nat) (tm : Int) (lM lS lH lQ : IL) (nM' nS' nH' nQ : Nat) (B0 B1 B2 : Nat) (lq : SL) (nq nr nr' : Nat) : Tab := [some (cdict P k0 k1 k2 k3 k4 (A2+150) (A3+150) (A4+150) (A5+150) tm ti), some (instO (A0+150)), some (idct lM nM'), some (idct lS nS'), some (idct lH nH'), some (idct lQ nQ), some (sdct P lq nq), some (idct [] nr)]
def e0n_X (P : Params) (b : Bool) (prog : Program) (p : Pos) (bl : List (Code × Pos)) (N t0 : Nat) (A0 A1 A2 A3 A4 A5 k0 k1 k2 k3 k4 ti : Nat) (tm : Int) (lM lS lH lQ : IL) (nM' nS' nH' nQ : Nat) (B0 B1 B2 : Nat) (lq : SL) (nq nr nr' : Nat) : Out Flow := (run ⟨prog, swP P b, Mine.hz.ktop_302 P, N+150, t0, [A0+150, A1+150, A2+150, A3+150, A4+150, A5+150, B0+150, B1+150]⟩ 100000).c (.call (.ref 115) ⟨[(.ref (A1+150))], []⟩) p bl none 0 0 2595216407032946367837942106817594722295640935192446713651249679712643237481177981326588007145203364512388918161182131813104462316563737957920081032046738542940217688035196793101740943515257222651451952403765875834409757478135167666007720016872504909926390772696546891317433381783020281969020930 (e0n_S P b prog p bl N t0 A0 A1 A2 A3 A4 A5 k0 k1 k2 k3 k4 ti tm lM lS lH lQ nM' nS' nH' nQ B0 B1 B2 lq nq nr nr') (e0n_T P b prog p bl N t0 A0 A1 A2 A3 A4 A5 k0 k1 k2 k3 k4 ti tm lM lS lH lQ nM' nS' nH' nQ B0 B1 B2 lq nq nr nr') 0 0 []
def e0n_L (P : Params) (b : Bool) (prog : Program) (p : Pos) (bl : List (Code × Pos)) (N t0 : Nat) (A0 A1 A2 A3 A4 A5 k0 k1 k2 k3 k4 ti : Nat) (tm : Int) (lM lS lH lQ : IL) (nM' nS' nH' nQ : Nat) (B0 B1 B2 : Nat) (lq : SL) (nq nr nr' : Nat) := look [0, 1, 2, 3, 4, 5, 6, 7] (e0n_X P b prog p bl N t0 A0 A1 A2 A3 A4 A5 k0 k1 k2 k3 k4 ti tm lM lS lH lQ nM' nS' nH' nQ B0 B1 B2 lq nq nr nr')
def e0n_R (P : Params) (b : Bool) (prog : Program) (p : Pos) (bl : List (Code × Pos)) (N t0 : Nat) (A0 A1 A2 A3 A4 A5 k0 k1 k2 k3 k4 ti : Nat) (tm : Int) (lM lS lH lQ : IL) (nM' nS' nH' nQ : Nat) (B0 B1 B2 : Nat) (lq : SL) (nq nr nr' : Nat) : Option (Except Value Flow × List (Option Obj) × Nat × Nat × List Ob) := some ((.ok (.ret .none)), [some (cdict P k0 k1 k2 k3 k4 (A2+150) (A3+150) (A4+150) (A5+150) (tm+1) (t0+19)), some (instO (A0+150)), some (idct lM nM'), some (idct lS nS'), some (idct lH nH'), some (idct (rem lQ tm) (nQ + 1)), some (sdct P lq nq), some (idct [] nr)], 4, 22, obsOf (e0n_X P b prog p bl N t0 A0 A1 A2 A3 A4 A5 k0 k1 k2 k3 k4 ti tm lM lS lH lQ nM' nS' nH' nQ B0 B1 B2 lq nq nr nr'))
theorem e0n_L0 : @e0n_L = e0n_L := rfl
theorem e0n_R0 : @e0n_R = e0n_R := rfl
lay_z Mine.e0n_L Mine.e0n_R
name_z e0nLZ for Mine.e0n_L by Mine.e0n_L0
name_z e0nRZ for Mine.e0n_R by Mine.e0n_R0
theorem e0n_ok (P : Params) (b : Bool) (prog : Program) (p : Pos) (bl : List (Code × Pos)) (N t0 : Nat) (A0 A1 A2 A3 A4 A5 k0 k1 k2 k3 k4 ti : Nat) (tm : Int) (lM lS lH lQ : IL) (nM' nS' nH' nQ : Nat) (B0 B1 B2 : Nat) (lq : SL) (nq nr nr' : Nat) : e0n_L P b prog p bl N t0 A0 A1 A2 A3 A4 A5 k0 k1 k2 k3 k4 ti tm lM lS lH lQ nM' nS' nH' nQ B0 B1 B2 lq nq nr nr' = e0n_R P b prog p bl N t0 A0 A1 A2 A3 A4 A5 k0 k1 k2 k3 k4 ti tm lM lS lH lQ nM' nS' nH' nQ B0 B1 B2 lq nq nr nr' := by
  rw [PySem.W.ZFast.e0nLZ_eq, PySem.W.ZFast.e0nRZ_eq]
  cases b <;> kernel_rfl!

def e00_S (P : Params) (b : Bool) (prog : Program) (p : Pos) (bl : List (Code × Pos)) (N t0 : Nat) (A0 A1 A2 A3 A4 A5 k0 k1 k2 k3 k4 ti : Nat) (tm : Int) (lM lS lH lQ : IL) (nM' nS' nH' nQ : Nat) (B0 B1 B2 : Nat) (lq : SL) (nq nr nr' : Nat) : List Sm := [mkSm t0 (.hasI 5 (A5+150) lQ nQ tm ti true), mkSm t0 (.getI 5 (A5+150) lQ nQ tm ti (.ref (B0+150))), mkSm t0 (.hasS P 6 (B0+150) lq nq nS (t0+8) true), mkSm t0 (.getS P 6 (B0+150) lq nq nS (t0+10) (.ref (B1+150))), mkSm t0 (.kend 10 (N+150+1) 7 (B1+150) (N+150) [] nr), mkSm t0 (.hasS P 6 (B0+150) lq nq nM (t0+12) true), mkSm t0 (.getS P 6 (B0+150) lq nq nM (t0+14) (.ref (B2+150))), mkSm t0 (.kend 13 (N+150+4) 8 (B2+150) (N+150) [] nr'), mkSm t0 (.delI 5 (A5+150) lQ nQ tm ti)]
def e00_T (P : Params) (b : Bool) (prog : Program) (p : Pos) (bl : List (Code × Pos)) (N t0 : Nat) (A0 A1 A2 A3 A4 A5 k0 k1 k2 k3 k4 ti : Nat) (tm : Int) (lM lS lH lQ : IL) (nM' nS' nH' nQ : Nat) (B0 B1 B2 : Nat) (lq : SL) (nq nr nr' : Nat) : Tab := [some (cdict P k0 k1 k2 k3 k4 (A2+150) (A3+150) (A4+150) (A5+150) tm ti), some (instO (A0+150)), some (idct lM nM'), some (idct lS nS'), some (idct lH nH'), some (idct lQ nQ), some (sdct P lq nq), some (idct [] nr), some (idct [] nr')]
def e00_X (P : Params) (b : Bool) (prog : Program) (p : Pos) (bl : List (Code × Pos)) (N t0 : Nat) (A0 A1 A2 A3 A4 A5 k0 k1 k2 k3 k4 ti : Nat) (tm : Int) (lM lS lH lQ : IL) (nM' nS' nH' nQ : Nat) (B0 B1 B2 : Nat) (lq : SL) (nq nr nr' : Nat) : Out Flow := (run ⟨prog, swP P b, Mine.hz.ktop_302 P, N+150, t0, [A0+150, A1+150, A2+150, A3+150, A4+150, A5+150, B0+150, B1+150, B2+150]⟩ 100000).c (.call (.ref 115) ⟨[(.ref (A1+150))], []⟩) p bl none 0 0 53900535989820839858817300222558496406391404428974154525848900927426744999401008020350857461092867069873303114599863236709404092095017874505453428546282238084645480994529931350272601540339143069657352818833214747779166005157346473555011751031133441433004149488797768112888866039478457429118740393617677539740411817186915292585986 (e00_S P b prog p bl N t0 A0 A1 A2 A3 A4 A5 k0 k1 k2 k3 k4 ti tm lM lS lH lQ nM' nS' nH' nQ B0 B1 B2 lq nq nr nr') (e00_T P b prog p bl N t0 A0 A1 A2 A3 A4 A5 k0 k1 k2 k3 k4 ti tm lM lS lH lQ nM' nS' nH' nQ B0 B1 B2 lq nq nr nr') 0 0 []
def e00_L (P : Params) (b : Bool) (prog : Program) (p : Pos) (bl : List (Code × Pos)) (N t0 : Nat) (A0 A1 A2 A3 A4 A5 k0 k1 k2 k3 k4 ti : Nat) (tm : Int) (lM lS lH lQ : IL) (nM' nS' nH' nQ : Nat) (B0 B1 B2 : Nat) (lq : SL) (nq nr nr' : Nat) := look [0, 1, 2, 3, 4, 5, 6, 7, 8] (e00_X P b prog p bl N t0 A0 A1 A2 A3 A4 A5 k0 k1 k2 k3 k4 ti tm lM lS lH lQ nM' nS' nH' nQ B0 B1 B2 lq nq nr nr')
def e00_R (P : Params) (b : Bool) (prog : Program) (p : Pos) (bl : List (Code × Pos)) (N t0 : Nat) (A0 A1 A2 A3 A4 A5 k0 k1 k2 k3 k4 ti : Nat) (tm : Int) (lM lS lH lQ : IL) (nM' nS' nH' nQ : Nat) (B0 B1 B2 : Nat) (lq : SL) (nq nr nr' : Nat) : Option (Except Value Flow × List (Option Obj) × Nat × Nat × List Ob) := some ((.ok (.ret .none)), [some (cdict P k0 k1 k2 k3 k4 (A2+150) (A3+150) (A4+150) (A5+150) (tm+1) (t0+21)), some (instO (A0+150)), some (idct lM nM'), some (idct lS nS'), some (idct lH nH'), some (idct (rem lQ tm) (nQ + 1)), some (sdct P lq nq), some (idct [] nr), some (idct [] nr')], 7, 24, obsOf (e00_X P b prog p bl N t0 A0 A1 A2 A3 A4 A5 k0 k1 k2 k3 k4 ti tm lM lS lH lQ nM' nS' nH' nQ B0 B1 B2 lq nq nr nr'))
theorem e00_L0 : @e00_L = e00_L := rfl
theorem e00_R0 : @e00_R = e00_R := rfl
lay_z Mine.e00_L Mine.e00_R
name_z e00LZ for Mine.e00_L by Mine.e00_L0
name_z e00RZ for Mine.e00_R by Mine.e00_R0
theorem e00_ok (P : Params) (b : Bool) (prog : Program) (p : Pos) (bl : List (Code × Pos)) (N t0 : Nat) (A0 A1 A2 A3 A4 A5 k0 k1 k2 k3 k4 ti : Nat) (tm : Int) (lM lS lH lQ : IL) (nM' nS' nH' nQ : Nat) (B0 B1 B2 : Nat) (lq : SL) (nq nr nr' : Nat) : e00_L P b prog p bl N t0 A0 A1 A2 A3 A4 A5 k0 k1 k2 k3 k4 ti tm lM lS lH lQ nM' nS' nH' nQ B0 B1 B2 lq nq nr nr' = e00_R P b prog p bl N t0 A0 A1 A2 A3 A4 A5 k0 k1 k2 k3 k4 ti tm lM lS lH lQ nM' nS' nH' nQ B0 B1 B2 lq nq nr nr' := by
  rw [PySem.W.ZFast.e00LZ_eq, PySem.W.ZFast.e00RZ_eq]
  cases b <;> kernel_rfl!

def e01_S (P : Params) (b : Bool) (prog : Program) (p : Pos) (bl : List (Code × Pos)) (N t0 : Nat) (A0 A1 A2 A3 A4 A5 k0 k1 k2 k3 k4 ti : Nat) (tm : Int) (lM lS lH lQ : IL) (nM' nS' nH' nQ : Nat) (B0 B1 B2 : Nat) (lq : SL) (nq nr nr' : Nat) (b1 : Int) (bt1 : Nat) (bu1 : Value) : List Sm := [mkSm t0 (.hasI 5 (A5+150) lQ nQ tm ti true), mkSm t0 (.getI 5 (A5+150) lQ nQ tm ti (.ref (B0+150))), mkSm t0 (.hasS P 6 (B0+150) lq nq nS (t0+8) true), mkSm t0 (.getS P 6 (B0+150) lq nq nS (t0+10) (.ref (B1+150))), mkSm t0 (.kend 10 (N+150+1) 7 (B1+150) (N+150) [] nr), mkSm t0 (.hasS P 6 (B0+150) lq nq nM (t0+12) true), mkSm t0 (.getS P 6 (B0+150) lq nq nM (t0+14) (.ref (B2+150))), mkSm t0 (.knext 13 (N+150+4) 8 (B2+150) [(b1, bt1, bu1)] nr' 0 b1 bt1), mkSm t0 (.delI 2 (A2+150) lM nM' b1 bt1), mkSm t0 (.kend 13 (N+150+4) 8 (B2+150) (N+150) [(b1, bt1, bu1)] nr'), mkSm t0 (.delI 5 (A5+150) lQ nQ tm ti)]
def e01_T (P : Params) (b : Bool) (prog : Program) (p : Pos) (bl : List (Code × Pos)) (N t0 : Nat) (A0 A1 A2 A3 A4 A5 k0 k1 k2 k3 k4 ti : Nat) (tm : Int) (lM lS lH lQ : IL) (nM' nS' nH' nQ : Nat) (B0 B1 B2 : Nat) (lq : SL) (nq nr nr' : Nat) (b1 : Int) (bt1 : Nat) (bu1 : Value) : Tab := [some (cdict P k0 k1 k2 k3 k4 (A2+150) (A3+150) (A4+150) (A5+150) tm ti), some (instO (A0+150)), some (idct lM nM'), some (idct lS nS'), some (idct lH nH'), some (idct lQ nQ), some (sdct P lq nq), some (idct [] nr), some (idct [(b1, bt1, bu1)] nr')]
def e01_X (P : Params) (b : Bool) (prog : Program) (p : Pos) (bl : List (Code × Pos)) (N t0 : Nat) (A0 A1 A2 A3 A4 A5 k0 k1 k2 k3 k4 ti : Nat) (tm : Int) (lM lS lH lQ : IL) (nM' nS' nH' nQ : Nat) (B0 B1 B2 : Nat) (lq : SL) (nq nr nr' : Nat) (b1 : Int) (bt1 : Nat) (bu1 : Value) : Out Flow := (run ⟨prog, swP P b, Mine.hz.ktop_302 P, N+150, t0, [A0+150, A1+150, A2+150, A3+150, A4+150, A5+150, B0+150, B1+150, B2+150]⟩ 100000).c (.call (.ref 115) ⟨[(.ref (A1+150))], []⟩) p bl none 0 0 18781595612081627235925385718843390859444274024851174094360089349142861777286285485972600148814917442453518137426913305737675447467132078435025019183042695048113822991550195656553668458108663439270096253765459546080844548062901431340675699281248283408737225167891168994371971937586690620473405234495203283463032847493074392166029257331714142296619096864880304837943140354 (e01_S P b prog p bl N t0 A0 A1 A2 A3 A4 A5 k0 k1 k2 k3 k4 ti tm lM lS lH lQ nM' nS' nH' nQ B0 B1 B2 lq nq nr nr' b1 bt1 bu1) (e01_T P b prog p bl N t0 A0 A1 A2 A3 A4 A5 k0 k1 k2 k3 k4 ti tm lM lS lH lQ nM' nS' nH' nQ B0 B1 B2 lq nq nr nr' b1 bt1 bu1) 0 0 []
def e01_L (P : Params) (b : Bool) (prog : Program) (p : Pos) (bl : List (Code × Pos)) (N t0 : Nat) (A0 A1 A2 A3 A4 A5 k0 k1 k2 k3 k4 ti : Nat) (tm : Int) (lM lS lH lQ : IL) (nM' nS' nH' nQ : Nat) (B0 B1 B2 : Nat) (lq : SL) (nq nr nr' : Nat) (b1 : Int) (bt1 : Nat) (bu1 : Value) := look [0, 1, 2, 3, 4, 5, 6, 7, 8] (e01_X P b prog p bl N t0 A0 A1 A2 A3 A4 A5 k0 k1 k2 k3 k4 ti tm lM lS lH lQ nM' nS' nH' nQ B0 B1 B2 lq nq nr nr' b1 bt1 bu1)
def e01_R (P : Params) (b : Bool) (prog : Program) (p : Pos) (bl : List (Code × Pos)) (N t0 : Nat) (A0 A1 A2 A3 A4 A5 k0 k1 k2 k3 k4 ti : Nat) (tm : Int) (lM lS lH lQ : IL) (nM' nS' nH' nQ : Nat) (B0 B1 B2 : Nat) (lq : SL) (nq nr nr' : Nat) (b1 : Int) (bt1 : Nat) (bu1 : Value) : Option (Except Value Flow × List (Option Obj) × Nat × Nat × List Ob) := some ((.ok (.ret .none)), [some (cdict P k0 k1 k2 k3 k4 (A2+150) (A3+150) (A4+150) (A5+150) (tm+1) (t0+24)), some (instO (A0+150)), some (idct (rem lM b1) (nM' + 1)), some (idct lS nS'), some (idct lH nH'), some (idct (rem lQ tm) (nQ + 1)), some (sdct P lq nq), some (idct [] nr), some (idct [(b1, bt1, bu1)] nr')], 7, 27, obsOf (e01_X P b prog p bl N t0 A0 A1 A2 A3 A4 A5 k0 k1 k2 k3 k4 ti tm lM lS lH lQ nM' nS' nH' nQ B0 B1 B2 lq nq nr nr' b1 bt1 bu1))
theorem e01_L0 : @e01_L = e01_L := rfl
theorem e01_R0 : @e01_R = e01_R := rfl
lay_z Mine.e01_L Mine.e01_R
name_z e01LZ for Mine.e01_L by Mine.e01_L0
name_z e01RZ for Mine.e01_R by Mine.e01_R0
theorem e01_ok (P : Params) (b : Bool) (prog : Program) (p : Pos) (bl : List (Code × Pos)) (N t0 : Nat) (A0 A1 A2 A3 A4 A5 k0 k1 k2 k3 k4 ti : Nat) (tm : Int) (lM lS lH lQ : IL) (nM' nS' nH' nQ : Nat) (B0 B1 B2 : Nat) (lq : SL) (nq nr nr' : Nat) (b1 : Int) (bt1 : Nat) (bu1 : Value) : e01_L P b prog p bl N t0 A0 A1 A2 A3 A4 A5 k0 k1 k2 k3 k4 ti tm lM lS lH lQ nM' nS' nH' nQ B0 B1 B2 lq nq nr nr' b1 bt1 bu1 = e01_R P b prog p bl N t0 A0 A1 A2 A3 A4 A5 k0 k1 k2 k3 k4 ti tm lM lS lH lQ nM' nS' nH' nQ B0 B1 B2 lq nq nr nr' b1 bt1 bu1 := by
  rw [PySem.W.ZFast.e01LZ_eq, PySem.W.ZFast.e01RZ_eq]
  cases b <;> kernel_rfl!

def e02_S (P : Params) (b : Bool) (prog : Program) (p : Pos) (bl : List (Code × Pos)) (N t0 : Nat) (A0 A1 A2 A3 A4 A5 k0 k1 k2 k3 k4 ti : Nat) (tm : Int) (lM lS lH lQ : IL) (nM' nS' nH' nQ : Nat) (B0 B1 B2 : Nat) (lq : SL) (nq nr nr' : Nat) (b1 b2 : Int) (bt1 bt2 : Nat) (bu1 bu2 : Value) : List Sm := [mkSm t0 (.hasI 5 (A5+150) lQ nQ tm ti true), mkSm t0 (.getI 5 (A5+150) lQ nQ tm ti (.ref (B0+150))), mkSm t0 (.hasS P 6 (B0+150) lq nq nS (t0+8) true), mkSm t0 (.getS P 6 (B0+150) lq nq nS (t0+10) (.ref (B1+150))), mkSm t0 (.kend 10 (N+150+1) 7 (B1+150) (N+150) [] nr), mkSm t0 (.hasS P 6 (B0+150) lq nq nM (t0+12) true), mkSm t0 (.getS P 6 (B0+150) lq nq nM (t0+14) (.ref (B2+150))), mkSm t0 (.knext 13 (N+150+4) 8 (B2+150) [(b1, bt1, bu1), (b2, bt2, bu2)] nr' 0 b1 bt1), mkSm t0 (.delI 2 (A2+150) lM nM' b1 bt1), mkSm t0 (.knext 13 (N+150+4) 8 (B2+150) [(b1, bt1, bu1), (b2, bt2, bu2)] nr' 1 b2 bt2), mkSm t0 (.delI 2 (A2+150) (rem lM b1) (nM' + 1) b2 bt2), mkSm t0 (.kend 13 (N+150+4) 8 (B2+150) (N+150) [(b1, bt1, bu1), (b2, bt2, bu2)] nr'), mkSm t0 (.delI 5 (A5+150) lQ nQ tm ti)]
def e02_T (P : Params) (b : Bool) (prog : Program) (p : Pos) (bl : List (Code × Pos)) (N t0 : Nat) (A0 A1 A2 A3 A4 A5 k0 k1 k2 k3 k4 ti : Nat) (tm : Int) (lM lS lH lQ : IL) (nM' nS' nH' nQ : Nat) (B0 B1 B2 : Nat) (lq : SL) (nq nr nr' : Nat) (b1 b2 : Int) (bt1 bt2 : Nat) (bu1 bu2 : Value) : Tab := [some (cdict P k0 k1 k2 k3 k4 (A2+150) (A3+150) (A4+150) (A5+150) tm ti), some (instO (A0+150)), some (idct lM nM'), some (idct lS nS'), some (idct lH nH'), some (idct lQ nQ), some (sdct P lq nq), some (idct [] nr), some (idct [(b1, bt1, bu1), (b2, bt2, bu2)] nr')]
def e02_X (P : Params) (b : Bool) (prog : Program) (p : Pos) (bl : List (Code × Pos)) (N t0 : Nat) (A0 A1 A2 A3 A4 A5 k0 k1 k2 k3 k4 ti : Nat) (tm : Int) (lM lS lH lQ : IL) (nM' nS' nH' nQ : Nat) (B0 B1 B2 : Nat) (lq : SL) (nq nr nr' : Nat) (b1 b2 : Int) (bt1 bt2 : Nat) (bu1 bu2 : Value) : Out Flow := (run ⟨prog, swP P b, Mine.hz.ktop_302 P, N+150, t0, [A0+150, A1+150, A2+150, A3+150, A4+150, A5+150, B0+150, B1+150, B2+150]⟩ 100000).c (.call (.ref 115) ⟨[(.ref (A1+150))], []⟩) p bl none 0 0 6544430908857393259880082393859325286189073604259459633396061180843463314023707679806660581636740366680694614050849159872371011607090783793691369092612756288283143082578656606039478809680994828656071040207565320098467902877480774201348128211421013358364841101159698720185483989620691551204960238226342131893092418301114291033755155675036322750514864032765622464387709408695693064734058898260545019935684345503746 (e02_S P b prog p bl N t0 A0 A1 A2 A3 A4 A5 k0 k1 k2 k3 k4 ti tm lM lS lH lQ nM' nS' nH' nQ B0 B1 B2 lq nq nr nr' b1 b2 bt1 bt2 bu1 bu2) (e02_T P b prog p bl N t0 A0 A1 A2 A3 A4 A5 k0 k1 k2 k3 k4 ti tm lM lS lH lQ nM' nS' nH' nQ B0 B1 B2 lq nq nr nr' b1 b2 bt1 bt2 bu1 bu2) 0 0 []
def e02_L (P : Params) (b : Bool) (prog : Program) (p : Pos) (bl : List (Code × Pos)) (N t0 : Nat) (A0 A1 A2 A3 A4 A5 k0 k1 k2 k3 k4 ti : Nat) (tm : Int) (lM lS lH lQ : IL) (nM' nS' nH' nQ : Nat) (B0 B1 B2 : Nat) (lq : SL) (nq nr nr' : Nat) (b1 b2 : Int) (bt1 bt2 : Nat) (bu1 bu2 : Value) := look [0, 1, 2, 3, 4, 5, 6, 7, 8] (e02_X P b prog p bl N t0 A0 A1 A2 A3 A4 A5 k0 k1 k2 k3 k4 ti tm lM lS lH lQ nM' nS' nH' nQ B0 B1 B2 lq nq nr nr' b1 b2 bt1 bt2 bu1 bu2)
def e02_R (P : Params) (b : Bool) (prog : Program) (p : Pos) (bl : List (Code × Pos)) (N t0 : Nat) (A0 A1 A2 A3 A4 A5 k0 k1 k2 k3 k4 ti : Nat) (tm : Int) (lM lS lH lQ : IL) (nM' nS' nH' nQ : Nat) (B0 B1 B2 : Nat) (lq : SL) (nq nr nr' : Nat) (b1 b2 : Int) (bt1 bt2 : Nat) (bu1 bu2 : Value) : Option (Except Value Flow × List (Option Obj) × Nat × Nat × List Ob) := some ((.ok (.ret .none)), [some (cdict P k0 k1 k2 k3 k4 (A2+150) (A3+150) (A4+150) (A5+150) (tm+1) (t0+27)), some (instO (A0+150)), some (idct (rem (rem lM b1) b2) ((nM' + 1) + 1)), some (idct lS nS'), some (idct lH nH'), some (idct (rem lQ tm) (nQ + 1)), some (sdct P lq nq), some (idct [] nr), some (idct [(b1, bt1, bu1), (b2, bt2, bu2)] nr')], 7, 30, obsOf (e02_X P b prog p bl N t0 A0 A1 A2 A3 A4 A5 k0 k1 k2 k3 k4 ti tm lM lS lH lQ nM' nS' nH' nQ B0 B1 B2 lq nq nr nr' b1 b2 bt1 bt2 bu1 bu2))
theorem e02_L0 : @e02_L = e02_L := rfl
theorem e02_R0 : @e02_R = e02_R := rfl
lay_z Mine.e02_L Mine.e02_R
name_z e02LZ for Mine.e02_L by Mine.e02_L0
name_z e02RZ for Mine.e02_R by Mine.e02_R0
theorem e02_ok (P : Params) (b : Bool) (prog : Program) (p : Pos) (bl : List (Code × Pos)) (N t0 : Nat) (A0 A1 A2 A3 A4 A5 k0 k1 k2 k3 k4 ti : Nat) (tm : Int) (lM lS lH lQ : IL) (nM' nS' nH' nQ : Nat) (B0 B1 B2 : Nat) (lq : SL) (nq nr nr' : Nat) (b1 b2 : Int) (bt1 bt2 : Nat) (bu1 bu2 : Value) : e02_L P b prog p bl N t0 A0 A1 A2 A3 A4 A5 k0 k1 k2 k3 k4 ti tm lM lS lH lQ nM' nS' nH' nQ B0 B1 B2 lq nq nr nr' b1 b2 bt1 bt2 bu1 bu2 = e02_R P b prog p bl N t0 A0 A1 A2 A3 A4 A5 k0 k1 k2 k3 k4 ti tm lM lS lH lQ nM' nS' nH' nQ B0 B1 B2 lq nq nr nr' b1 b2 bt1 bt2 bu1 bu2 := by
  rw [PySem.W.ZFast.e02LZ_eq, PySem.W.ZFast.e02RZ_eq]
  cases b <;> kernel_rfl!

def e03_S (P : Params) (b : Bool) (prog : Program) (p : Pos) (bl : List (Code × Pos)) (N t0 : Nat) (A0 A1 A2 A3 A4 A5 k0 k1 k2 k3 k4 ti : Nat) (tm : Int) (lM lS lH lQ : IL) (nM' nS' nH' nQ : Nat) (B0 B1 B2 : Nat) (lq : SL) (nq nr nr' : Nat) (b1 b2 b3 : Int) (bt1 bt2 bt3 : Nat) (bu1 bu2 bu3 : Value) : List Sm := [mkSm t0 (.hasI 5 (A5+150) lQ nQ tm ti true), mkSm t0 (.getI 5 (A5+150) lQ nQ tm ti (.ref (B0+150))), mkSm t0 (.hasS P 6 (B0+150) lq nq nS (t0+8) true), mkSm t0 (.getS P 6 (B0+150) lq nq nS (t0+10) (.ref (B1+150))), mkSm t0 (.kend 10 (N+150+1) 7 (B1+150) (N+150) [] nr), mkSm t0 (.hasS P 6 (B0+150) lq nq nM (t0+12) true), mkSm t0 (.getS P 6 (B0+150) lq nq nM (t0+14) (.ref (B2+150))), mkSm t0 (.knext 13 (N+150+4) 8 (B2+150) [(b1, bt1, bu1), (b2, bt2, bu2), (b3, bt3, bu3)] nr' 0 b1 bt1), mkSm t0 (.delI 2 (A2+150) lM nM' b1 bt1), mkSm t0 (.knext 13 (N+150+4) 8 (B2+150) [(b1, bt1, bu1), (b2, bt2, bu2), (b3, bt3, bu3)] nr' 1 b2 bt2), mkSm t0 (.delI 2 (A2+150) (rem lM b1) (nM' + 1) b2 bt2), mkSm t0 (.knext 13 (N+150+4) 8 (B2+150) [(b1, bt1, bu1), (b2, bt2, bu2), (b3, bt3, bu3)] nr' 2 b3 bt3), mkSm t0 (.delI 2 (A2+150) (rem (rem lM b1) b2) ((nM' + 1) + 1) b3 bt3), mkSm t0 (.kend 13 (N+150+4) 8 (B2+150) (N+150) [(b1, bt1, bu1), (b2, bt2, bu2), (b3, bt3, bu3)] nr'), mkSm t0 (.delI 5 (A5+150) lQ nQ tm ti)]
def e03_T (P : Params) (b : Bool) (prog : Program) (p : Pos) (bl : List (Code × Pos)) (N t0 : Nat) (A0 A1 A2 A3 A4 A5 k0 k1 k2 k3 k4 ti : Nat) (tm : Int) (lM lS lH lQ : IL) (nM' nS' nH' nQ : Nat) (B0 B1 B2 : Nat) (lq : SL) (nq nr nr' : Nat) (b1 b2 b3 : Int) (bt1 bt2 bt3 : Nat) (bu1 bu2 bu3 : Value) : Tab := [some (cdict P k0 k1 k2 k3 k4 (A2+150) (A3+150) (A4+150) (A5+150) tm ti), some (instO (A0+150)), some (idct lM nM'), some (idct lS nS'), some (idct lH nH'), some (idct lQ nQ), some (sdct P lq nq), some (idct [] nr), some (idct [(b1, bt1, bu1), (b2, bt2, bu2), (b3, bt3, bu3)] nr')]
def e03_X (P : Params) (b : Bool) (prog : Program) (p : Pos) (bl : List (Code × Pos)) (N t0 : Nat) (A0 A1 A2 A3 A4 A5 k0 k1 k2 k3 k4 ti : Nat) (tm : Int) (lM lS lH lQ : IL) (nM' nS' nH' nQ : Nat) (B0 B1 B2 : Nat) (lq : SL) (nq nr nr' : Nat) (b1 b2 b3 : Int) (bt1 bt2 bt3 : Nat) (bu1 bu2 bu3 : Value) : Out Flow := (run ⟨prog, swP P b, Mine.hz.ktop_302 P, N+150, t0, [A0+150, A1+150, A2+150, A3+150, A4+150, A5+150, B0+150, B1+150, B2+150]⟩ 100000).c (.call (.ref 115) ⟨[(.ref (A1+150))], []⟩) p bl none 0 0 2280401346372139295242026241488939389970755624395360070084261546845237154086955757253225581018434516106342357098357204426654434805316593977250342640438218388944459361265824591600702838121461889974435580711941758695192967612178477196691920797190393876247147111679065113349858541314343004581453953488405103033209226085857303539889795284063844212291972622136380705774814192038381735394469988284543904766739949467510644706948353471148407794005940378790305794 (e03_S P b prog p bl N t0 A0 A1 A2 A3 A4 A5 k0 k1 k2 k3 k4 ti tm lM lS lH lQ nM' nS' nH' nQ B0 B1 B2 lq nq nr nr' b1 b2 b3 bt1 bt2 bt3 bu1 bu2 bu3) (e03_T P b prog p bl N t0 A0 A1 A2 A3 A4 A5 k0 k1 k2 k3 k4 ti tm lM lS lH lQ nM' nS' nH' nQ B0 B1 B2 lq nq nr nr' b1 b2 b3 bt1 bt2 bt3 bu1 bu2 bu3) 0 0 []
def e03_L (P : Params) (b : Bool) (prog : Program) (p : Pos) (bl : List (Code × Pos)) (N t0 : Nat) (A0 A1 A2 A3 A4 A5 k0 k1 k2 k3 k4 ti : Nat) (tm : Int) (lM lS lH lQ : IL) (nM' nS' nH' nQ : Nat) (B0 B1 B2 : Nat) (lq : SL) (nq nr nr' : Nat) (b1 b2 b3 : Int) (bt1 bt2 bt3 : Nat) (bu1 bu2 bu3 : Value) := look [0, 1, 2, 3, 4, 5, 6, 7, 8] (e03_X P b prog p bl N t0 A0 A1 A2 A3 A4 A5 k0 k1 k2 k3 k4 ti tm lM lS lH lQ nM' nS' nH' nQ B0 B1 B2 lq nq nr nr' b1 b2 b3 bt1 bt2 bt3 bu1 bu2 bu3)
def e03_R (P : Params) (b : Bool) (prog : Program) (p : Pos) (bl : List (Code × Pos)) (N t0 : Nat) (A0 A1 A2 A3 A4 A5 k0 k1 k2 k3 k4 ti : Nat) (tm : Int) (lM lS lH lQ : IL) (nM' nS' nH' nQ : Nat) (B0 B1 B2 : Nat) (lq : SL) (nq nr nr' : Nat) (b1 b2 b3 : Int) (bt1 bt2 bt3 : Nat) (bu1 bu2 bu3 : Value) : Option (Except Value Flow × List (Option Obj) × Nat × Nat × List Ob) := some ((.ok (.ret .none)), [some (cdict P k0 k1 k2 k3 k4 (A2+150) (A3+150) (A4+150) (A5+150) (tm+1) (t0+30)), some (instO (A0+150)), some (idct (rem (rem (rem lM b1) b2) b3) (((nM' + 1) + 1) + 1)), some (idct lS nS'), some (idct lH nH'), some (idct (rem lQ tm) (nQ + 1)), some (sdct P lq nq), some (idct [] nr), some (idct [(b1, bt1, bu1), (b2, bt2, bu2), (b3, bt3, bu3)] nr')], 7, 33, obsOf (e03_X P b prog p bl N t0 A0 A1 A2 A3 A4 A5 k0 k1 k2 k3 k4 ti tm lM lS lH lQ nM' nS' nH' nQ B0 B1 B2 lq nq nr nr' b1 b2 b3 bt1 bt2 bt3 bu1 bu2 bu3))
theorem e03_L0 : @e03_L = e03_L := rfl
theorem e03_R0 : @e03_R = e03_R := rfl
lay_z Mine.e03_L Mine.e03_R
name_z e03LZ for Mine.e03_L by Mine.e03_L0
name_z e03RZ for Mine.e03_R by Mine.e03_R0
theorem e03_ok (P : Params) (b : Bool) (prog : Program) (p : Pos) (bl : List (Code × Pos)) (N t0 : Nat) (A0 A1 A2 A3 A4 A5 k0 k1 k2 k3 k4 ti : Nat) (tm : Int) (lM lS lH lQ : IL) (nM' nS' nH' nQ : Nat) (B0 B1 B2 : Nat) (lq : SL) (nq nr nr' : Nat) (b1 b2 b3 : Int) (bt1 bt2 bt3 : Nat) (bu1 bu2 bu3 : Value) : e03_L P b prog p bl N t0 A0 A1 A2 A3 A4 A5 k0 k1 k2 k3 k4 ti tm lM lS lH lQ nM' nS' nH' nQ B0 B1 B2 lq nq nr nr' b1 b2 b3 bt1 bt2 bt3 bu1 bu2 bu3 = e03_R P b prog p bl N t0 A0 A1 A2 A3 A4 A5 k0 k1 k2 k3 k4 ti tm lM lS lH lQ nM' nS' nH' nQ B0 B1 B2 lq nq nr nr' b1 b2 b3 bt1 bt2 bt3 bu1 bu2 bu3 := by
  rw [PySem.W.ZFast.e03LZ_eq, PySem.W.ZFast.e03RZ_eq]
  cases b <;> kernel_rfl!

def e1n_S (P : Params) (b : Bool) (prog : Program) (p : Pos) (bl : List (Code × Pos)) (N t0 : Nat) (A0 A1 A2 A3 A4 A5 k0 k1 k2 k3 k4 ti : Nat) (tm : Int) (lM lS lH lQ : IL) (nM' nS' nH' nQ : Nat) (B0 B1 B2 : Nat) (lq : SL) (nq nr nr' : Nat) (a1 : Int) (at1 : Nat) (au1 : Value) : List Sm := [mkSm t0 (.hasI 5 (A5+150) lQ nQ tm ti true), mkSm t0 (.getI 5 (A5+150) lQ nQ tm ti (.ref (B0+150))), mkSm t0 (.hasS P 6 (B0+150) lq nq nS (t0+8) true), mkSm t0 (.getS P 6 (B0+150) lq nq nS (t0+10) (.ref (B1+150))), mkSm t0 (.knext 9 (N+150+1) 7 (B1+150) [(a1, at1, au1)] nr 0 a1 at1), mkSm t0 (.delI 3 (A3+150) lS nS' a1 at1), mkSm t0 (.kend 9 (N+150+1) 7 (B1+150) (N+150) [(a1, at1, au1)] nr), mkSm t0 (.hasS P 6 (B0+150) lq nq nM (t0+15) false), mkSm t0 (.delI 5 (A5+150) lQ nQ tm ti)]
def e1n_T (P : Params) (b : Bool) (prog : Program) (p : Pos) (bl : List (Code × Pos)) (N t0 : Nat) (A0 A1 A2 A3 A4 A5 k0 k1 k2 k3 k4 ti : Nat) (tm : Int) (lM lS lH lQ : IL) (nM' nS' nH' nQ : Nat) (B0 B1 B2 : Nat) (lq : SL) (nq nr nr' : Nat) (a1 : Int) (at1 : Nat) (au1 : Value) : Tab := [some (cdict P k0 k1 k2 k3 k4 (A2+150) (A3+150) (A4+150) (A5+150) tm ti), some (instO (A0+150)), some (idct lM nM'), some (idct lS nS'), some (idct lH nH'), some (idct lQ nQ), some (sdct P lq nq), some (idct [(a1, at1, au1)] nr)]
def e1n_X (P : Params) (b : Bool) (prog : Program) (p : Pos) (bl : List (Code × Pos)) (N t0 : Nat) (A0 A1 A2 A3 A4 A5 k0 k1 k2 k3 k4 ti : Nat) (tm : Int) (lM lS lH lQ : IL) (nM' nS' nH' nQ : Nat) (B0 B1 B2 : Nat) (lq : SL) (nq nr nr' : Nat) (a1 : Int) (at1 : Nat) (au1 : Value) : Out Flow := (run ⟨prog, swP P b, Mine.hz.ktop_302 P, N+150, t0, [A0+150, A1+150, A2+150, A3+150, A4+150, A5+150, B0+150, B1+150]⟩ 100000).c (.call (.ref 115) ⟨[(.ref (A1+150))], []⟩) p bl none 0 0 904300934816998031612787350370711966845252372648256048897544559599728432524912997228218587114306255292104169107196816332747450108172996146191312219657459463212521353498625593177057494671675875879861696630574089520414505186626793084586537234794278564620056376655543356834484314807954336595674352249285055453705147719600425979589729488898 (e1n_S P b prog p bl N t0 A0 A1 A2 A3 A4 A5 k0 k1 k2 k3 k4 ti tm lM lS lH lQ nM' nS' nH' nQ B0 B1 B2 lq nq nr nr' a1 at1 au1) (e1n_T P b prog p bl N t0 A0 A1 A2 A3 A4 A5 k0 k1 k2 k3 k4 ti tm lM lS lH lQ nM' nS' nH' nQ B0 B1 B2 lq nq nr nr' a1 at1 au1) 0 0 []
def e1n_L (P : Params) (b : Bool) (prog : Program) (p : Pos) (bl : List (Code × Pos)) (N t0 : Nat) (A0 A1 A2 A3 A4 A5 k0 k1 k2 k3 k4 ti : Nat) (tm : Int) (lM lS lH lQ : IL) (nM' nS' nH' nQ : Nat) (B0 B1 B2 : Nat) (lq : SL) (nq nr nr' : Nat) (a1 : Int) (at1 : Nat) (au1 : Value) := look [0, 1, 2, 3, 4, 5, 6, 7] (e1n_X P b prog p bl N t0 A0 A1 A2 A3 A4 A5 k0 k1 k2 k3 k4 ti tm lM lS lH lQ nM' nS' nH' nQ B0 B1 B2 lq nq nr nr' a1 at1 au1)
def e1n_R (P : Params) (b : Bool) (prog : Program) (p : Pos) (bl : List (Code × Pos)) (N t0 : Nat) (A0 A1 A2 A3 A4 A5 k0 k1 k2 k3 k4 ti : Nat) (tm : Int) (lM lS lH lQ : IL) (nM' nS' nH' nQ : Nat) (B0 B1 B2 : Nat) (lq : SL) (nq nr nr' : Nat) (a1 : Int) (at1 : Nat) (au1 : Value) : Option (Except Value Flow × List (Option Obj) × Nat × Nat × List Ob) := some ((.ok (.ret .none)), [some (cdict P k0 k1 k2 k3 k4 (A2+150) (A3+150) (A4+150) (A5+150) (tm+1) (t0+22)), some (instO (A0+150)), some (idct lM nM'), some (idct (rem lS a1) (nS' + 1)), some (idct lH nH'), some (idct (rem lQ tm) (nQ + 1)), some (sdct P lq nq), some (idct [(a1, at1, au1)] nr)], 4, 25, obsOf (e1n_X P b prog p bl N t0 A0 A1 A2 A3 A4 A5 k0 k1 k2 k3 k4 ti tm lM lS lH lQ nM' nS' nH' nQ B0 B1 B2 lq nq nr nr' a1 at1 au1))
theorem e1n_L0 : @e1n_L = e1n_L := rfl
theorem e1n_R0 : @e1n_R = e1n_R := rfl
lay_z Mine.e1n_L Mine.e1n_R
name_z e1nLZ for Mine.e1n_L by Mine.e1n_L0
name_z e1nRZ for Mine.e1n_R by Mine.e1n_R0
theorem e1n_ok (P : Params) (b : Bool) (prog : Program) (p : Pos) (bl : List (Code × Pos)) (N t0 : Nat) (A0 A1 A2 A3 A4 A5 k0 k1 k2 k3 k4 ti : Nat) (tm : Int) (lM lS lH lQ : IL) (nM' nS' nH' nQ : Nat) (B0 B1 B2 : Nat) (lq : SL) (nq nr nr' : Nat) (a1 : Int) (at1 : Nat) (au1 : Value) : e1n_L P b prog p bl N t0 A0 A1 A2 A3 A4 A5 k0 k1 k2 k3 k4 ti tm lM lS lH lQ nM' nS' nH' nQ B0 B1 B2 lq nq nr nr' a1 at1 au1 = e1n_R P b prog p bl N t0 A0 A1 A2 A3 A4 A5 k0 k1 k2 k3 k4 ti tm lM lS lH lQ nM' nS' nH' nQ B0 B1 B2 lq nq nr nr' a1 at1 au1 := by
  rw [PySem.W.ZFast.e1nLZ_eq, PySem.W.ZFast.e1nRZ_eq]
  cases b <;> kernel_rfl!

def e10_S (P : Params) (b : Bool) (prog : Program) (p : Pos) (bl : List (Code × Pos)) (N t0 : Nat) (A0 A1 A2 A3 A4 A5 k0 k1 k2 k3 k4 ti : Nat) (tm : Int) (lM lS lH lQ : IL) (nM' nS' nH' nQ : Nat) (B0 B1 B2 : Nat) (lq : SL) (nq nr nr' : Nat) (a1 : Int) (at1 : Nat) (au1 : Value) : List Sm := [mkSm t0 (.hasI 5 (A5+150) lQ nQ tm ti true), mkSm t0 (.getI 5 (A5+150) lQ nQ tm ti (.ref (B0+150))), mkSm t0 (.hasS P 6 (B0+150) lq nq nS (t0+8) true), mkSm t0 (.getS P 6 (B0+150) lq nq nS (t0+10) (.ref (B1+150))), mkSm t0 (.knext 10 (N+150+1) 7 (B1+150) [(a1, at1, au1)] nr 0 a1 at1), mkSm t0 (.delI 3 (A3+150) lS nS' a1 at1), mkSm t0 (.kend 10 (N+150+1) 7 (B1+150) (N+150) [(a1, at1, au1)] nr), mkSm t0 (.hasS P 6 (B0+150) lq nq nM (t0+15) true), mkSm t0 (.getS P 6 (B0+150) lq nq nM (t0+17) (.ref (B2+150))), mkSm t0 (.kend 13 (N+150+4) 8 (B2+150) (N+150) [] nr'), mkSm t0 (.delI 5 (A5+150) lQ nQ tm ti)]
def e10_T (P : Params) (b : Bool) (prog : Program) (p : Pos) (bl : List (Code × Pos)) (N t0 : Nat) (A0 A1 A2 A3 A4 A5 k0 k1 k2 k3 k4 ti : Nat) (tm : Int) (lM lS lH lQ : IL) (nM' nS' nH' nQ : Nat) (B0 B1 B2 : Nat) (lq : SL) (nq nr nr' : Nat) (a1 : Int) (at1 : Nat) (au1 : Value) : Tab := [some (cdict P k0 k1 k2 k3 k4 (A2+150) (A3+150) (A4+150) (A5+150) tm ti), some (instO (A0+150)), some (idct lM nM'), some (idct lS nS'), some (idct lH nH'), some (idct lQ nQ), some (sdct P lq nq), some (idct [(a1, at1, au1)] nr), some (idct [] nr')]
def e10_X (P : Params) (b : Bool) (prog : Program) (p : Pos) (bl : List (Code × Pos)) (N t0 : Nat) (A0 A1 A2 A3 A4 A5 k0 k1 k2 k3 k4 ti : Nat) (tm : Int) (lM lS lH lQ : IL) (nM' nS' nH' nQ : Nat) (B0 B1 B2 : Nat) (lq : SL) (nq nr nr' : Nat) (a1 : Int) (at1 : Nat) (au1 : Value) : Out Flow := (run ⟨prog, swP P b, Mine.hz.ktop_302 P, N+150, t0, [A0+150, A1+150, A2+150, A3+150, A4+150, A5+150, B0+150, B1+150, B2+150]⟩ 100000).c (.call (.ref 115) ⟨[(.ref (A1+150))], []⟩) p bl none 0 0 18781595612081627235925385718843390859444274024851174094360089349142861777286285485972600148814917442453518137426913305737675448864236971260526826565700923391063182072733228023225896153396583825327341479437563653296259550671444553492269055934308123328191589279907348459793104034401797542551232211771612923542348480032275239365227416567693141048790036678847973330254340098 (e10_S P b prog p bl N t0 A0 A1 A2 A3 A4 A5 k0 k1 k2 k3 k4 ti tm lM lS lH lQ nM' nS' nH' nQ B0 B1 B2 lq nq nr nr' a1 at1 au1) (e10_T P b prog p bl N t0 A0 A1 A2 A3 A4 A5 k0 k1 k2 k3 k4 ti tm lM lS lH lQ nM' nS' nH' nQ B0 B1 B2 lq nq nr nr' a1 at1 au1) 0 0 []
def e10_L (P : Params) (b : Bool) (prog : Program) (p : Pos) (bl : List (Code × Pos)) (N t0 : Nat) (A0 A1 A2 A3 A4 A5 k0 k1 k2 k3 k4 ti : Nat) (tm : Int) (lM lS lH lQ : IL) (nM' nS' nH' nQ : Nat) (B0 B1 B2 : Nat) (lq : SL) (nq nr nr' : Nat) (a1 : Int) (at1 : Nat) (au1 : Value) := look [0, 1, 2, 3, 4, 5, 6, 7, 8] (e10_X P b prog p bl N t0 A0 A1 A2 A3 A4 A5 k0 k1 k2 k3 k4 ti tm lM lS lH lQ nM' nS' nH' nQ B0 B1 B2 lq nq nr nr' a1 at1 au1)
def e10_R (P : Params) (b : Bool) (prog : Program) (p : Pos) (bl : List (Code × Pos)) (N t0 : Nat) (A0 A1 A2 A3 A4 A5 k0 k1 k2 k3 k4 ti : Nat) (tm : Int) (lM lS lH lQ : IL) (nM' nS' nH' nQ : Nat) (B0 B1 B2 : Nat) (lq : SL) (nq nr nr' : Nat) (a1 : Int) (at1 : Nat) (au1 : Value) : Option (Except Value Flow × List (Option Obj) × Nat × Nat × List Ob) := some ((.ok (.ret .none)), [some (cdict P k0 k1 k2 k3 k4 (A2+150) (A3+150) (A4+150) (A5+150) (tm+1) (t0+24)), some (instO (A0+150)), some (idct lM nM'), some (idct (rem lS a1) (nS' + 1)), some (idct lH nH'), some (idct (rem lQ tm) (nQ + 1)), some (sdct P lq nq), some (idct [(a1, at1, au1)] nr), some (idct [] nr')], 7, 27, obsOf (e10_X P b prog p bl N t0 A0 A1 A2 A3 A4 A5 k0 k1 k2 k3 k4 ti tm lM lS lH lQ nM' nS' nH' nQ B0 B1 B2 lq nq nr nr' a1 at1 au1))
theorem e10_L0 : @e10_L = e10_L := rfl
theorem e10_R0 : @e10_R = e10_R := rfl
lay_z Mine.e10_L Mine.e10_R
name_z e10LZ for Mine.e10_L by Mine.e10_L0
name_z e10RZ for Mine.e10_R by Mine.e10_R0
theorem e10_ok (P : Params) (b : Bool) (prog : Program) (p : Pos) (bl : List (Code × Pos)) (N t0 : Nat) (A0 A1 A2 A3 A4 A5 k0 k1 k2 k3 k4 ti : Nat) (tm : Int) (lM lS lH lQ : IL) (nM' nS' nH' nQ : Nat) (B0 B1 B2 : Nat) (lq : SL) (nq nr nr' : Nat) (a1 : Int) (at1 : Nat) (au1 : Value) : e10_L P b prog p bl N t0 A0 A1 A2 A3 A4 A5 k0 k1 k2 k3 k4 ti tm lM lS lH lQ nM' nS' nH' nQ B0 B1 B2 lq nq nr nr' a1 at1 au1 = e10_R P b prog p bl N t0 A0 A1 A2 A3 A4 A5 k0 k1 k2 k3 k4 ti tm lM lS lH lQ nM' nS' nH' nQ B0 B1 B2 lq nq nr nr' a1 at1 au1 := by
  rw [PySem.W.ZFast.e10LZ_eq, PySem.W.ZFast.e10RZ_eq]
  cases b <;> kernel_rfl!

def e11_S (P : Params) (b : Bool) (prog : Program) (p : Pos) (bl : List (Code × Pos)) (N t0 : Nat) (A0 A1 A2 A3 A4 A5 k0 k1 k2 k3 k4 ti : Nat) (tm : Int) (lM lS lH lQ : IL) (nM' nS' nH' nQ : Nat) (B0 B1 B2 : Nat) (lq : SL) (nq nr nr' : Nat) (a1 : Int) (at1 : Nat) (au1 : Value) (b1 : Int) (bt1 : Nat) (bu1 : Value) : List Sm := [mkSm t0 (.hasI 5 (A5+150) lQ nQ tm ti true), mkSm t0 (.getI 5 (A5+150) lQ nQ tm ti (.ref (B0+150))), mkSm t0 (.hasS P 6 (B0+150) lq nq nS (t0+8) true), mkSm t0 (.getS P 6 (B0+150) lq nq nS (t0+10) (.ref (B1+150))), mkSm t0 (.knext 10 (N+150+1) 7 (B1+150) [(a1, at1, au1)] nr 0 a1 at1), mkSm t0 (.delI 3 (A3+150) lS nS' a1 at1), mkSm t0 (.kend 10 (N+150+1) 7 (B1+150) (N+150) [(a1, at1, au1)] nr), mkSm t0 (.hasS P 6 (B0+150) lq nq nM (t0+15) true), mkSm t0 (.getS P 6 (B0+150) lq nq nM (t0+17) (.ref (B2+150))), mkSm t0 (.knext 13 (N+150+4) 8 (B2+150) [(b1, bt1, bu1)] nr' 0 b1 bt1), mkSm t0 (.delI 2 (A2+150) lM nM' b1 bt1), mkSm t0 (.kend 13 (N+150+4) 8 (B2+150) (N+150) [(b1, bt1, bu1)] nr'), mkSm t0 (.delI 5 (A5+150) lQ nQ tm ti)]
def e11_T (P : Params) (b : Bool) (prog : Program) (p : Pos) (bl : List (Code × Pos)) (N t0 : Nat) (A0 A1 A2 A3 A4 A5 k0 k1 k2 k3 k4 ti : Nat) (tm : Int) (lM lS lH lQ : IL) (nM' nS' nH' nQ : Nat) (B0 B1 B2 : Nat) (lq : SL) (nq nr nr' : Nat) (a1 : Int) (at1 : Nat) (au1 : Value) (b1 : Int) (bt1 : Nat) (bu1 : Value) : Tab := [some (cdict P k0 k1 k2 k3 k4 (A2+150) (A3+150) (A4+150) (A5+150) tm ti), some (instO (A0+150)), some (idct lM nM'), some (idct lS nS'), some (idct lH nH'), some (idct lQ nQ), some (sdct P lq nq), some (idct [(a1, at1, au1)] nr), some (idct [(b1, bt1, bu1)] nr')]
def e11_X (P : Params) (b : Bool) (prog : Program) (p : Pos) (bl : List (Code × Pos)) (N t0 : Nat) (A0 A1 A2 A3 A4 A5 k0 k1 k2 k3 k4 ti : Nat) (tm : Int) (lM lS lH lQ : IL) (nM' nS' nH' nQ : Nat) (B0 B1 B2 : Nat) (lq : SL) (nq nr nr' : Nat) (a1 : Int) (at1 : Nat) (au1 : Value) (b1 : Int) (bt1 : Nat) (bu1 : Value) : Out Flow := (run ⟨prog, swP P b, Mine.hz.ktop_302 P, N+150, t0, [A0+150, A1+150, A2+150, A3+150, A4+150, A5+150, B0+150, B1+150, B2+150]⟩ 100000).c (.call (.ref 115) ⟨[(.ref (A1+150))], []⟩) p bl none 0 0 6544430908857393259880082393859325286189073604259459633396061180843463314023707679806660581636740366680694614050849159872371011607090783793691369092612756288283143082580053710932304311488377486884413989566646503130834575105176062121734185456646685462472056516162307263307635582977344611044879692590454148072557839433211106140677233502013599160154943348398161665234908606854929043732811069200358987604176656703490 (e11_S P b prog p bl N t0 A0 A1 A2 A3 A4 A5 k0 k1 k2 k3 k4 ti tm lM lS lH lQ nM' nS' nH' nQ B0 B1 B2 lq nq nr nr' a1 at1 au1 b1 bt1 bu1) (e11_T P b prog p bl N t0 A0 A1 A2 A3 A4 A5 k0 k1 k2 k3 k4 ti tm lM lS lH lQ nM' nS' nH' nQ B0 B1 B2 lq nq nr nr' a1 at1 au1 b1 bt1 bu1) 0 0 []
def e11_L (P : Params) (b : Bool) (prog : Program) (p : Pos) (bl : List (Code × Pos)) (N t0 : Nat) (A0 A1 A2 A3 A4 A5 k0 k1 k2 k3 k4 ti : Nat) (tm : Int) (lM lS lH lQ : IL) (nM' nS' nH' nQ : Nat) (B0 B1 B2 : Nat) (lq : SL) (nq nr nr' : Nat) (a1 : Int) (at1 : Nat) (au1 : Value) (b1 : Int) (bt1 : Nat) (bu1 : Value) := look [0, 1, 2, 3, 4, 5, 6, 7, 8] (e11_X P b prog p bl N t0 A0 A1 A2 A3 A4 A5 k0 k1 k2 k3 k4 ti tm lM lS lH lQ nM' nS' nH' nQ B0 B1 B2 lq nq nr nr' a1 at1 au1 b1 bt1 bu1)
def e11_R (P : Params) (b : Bool) (prog : Program) (p : Pos) (bl : List (Code × Pos)) (N t0 : Nat) (A0 A1 A2 A3 A4 A5 k0 k1 k2 k3 k4 ti : Nat) (tm : Int) (lM lS lH lQ : IL) (nM' nS' nH' nQ : Nat) (B0 B1 B2 : Nat) (lq : SL) (nq nr nr' : Nat) (a1 : Int) (at1 : Nat) (au1 : Value) (b1 : Int) (bt1 : Nat) (bu1 : Value) : Option (Except Value Flow × List (Option Obj) × Nat × Nat × List Ob) := some ((.ok (.ret .none)), [some (cdict P k0 k1 k2 k3 k4 (A2+150) (A3+150) (A4+150) (A5+150) (tm+1) (t0+27)), some (instO (A0+150)), some (idct (rem lM b1) (nM' + 1)), some (idct (rem lS a1) (nS' + 1)), some (idct lH nH'), some (idct (rem lQ tm) (nQ + 1)), some (sdct P lq nq), some (idct [(a1, at1, au1)] nr), some (idct [(b1, bt1, bu1)] nr')], 7, 30, obsOf (e11_X P b prog p bl N t0 A0 A1 A2 A3 A4 A5 k0 k1 k2 k3 k4 ti tm lM lS lH lQ nM' nS' nH' nQ B0 B1 B2 lq nq nr nr' a1 at1 au1 b1 bt1 bu1))
theorem e11_L0 : @e11_L = e11_L := rfl
theorem e11_R0 : @e11_R = e11_R := rfl
lay_z Mine.e11_L Mine.e11_R
name_z e11LZ for Mine.e11_L by Mine.e11_L0
name_z e11RZ for Mine.e11_R by Mine.e11_R0
theorem e11_ok (P : Params) (b : Bool) (prog : Program) (p : Pos) (bl : List (Code × Pos)) (N t0 : Nat) (A0 A1 A2 A3 A4 A5 k0 k1 k2 k3 k4 ti : Nat) (tm : Int) (lM lS lH lQ : IL) (nM' nS' nH' nQ : Nat) (B0 B1 B2 : Nat) (lq : SL) (nq nr nr' : Nat) (a1 : Int) (at1 : Nat) (au1 : Value) (b1 : Int) (bt1 : Nat) (bu1 : Value) : e11_L P b prog p bl N t0 A0 A1 A2 A3 A4 A5 k0 k1 k2 k3 k4 ti tm lM lS lH lQ nM' nS' nH' nQ B0 B1 B2 lq nq nr nr' a1 at1 au1 b1 bt1 bu1 = e11_R P b prog p bl N t0 A0 A1 A2 A3 A4 A5 k0 k1 k2 k3 k4 ti tm lM lS lH lQ nM' nS' nH' nQ B0 B1 B2 lq nq nr nr' a1 at1 au1 b1 bt1 bu1 := by
  rw [PySem.W.ZFast.e11LZ_eq, PySem.W.ZFast.e11RZ_eq]
  cases b <;> kernel_rfl!

def e12_S (P : Params) (b : Bool) (prog : Program) (p : Pos) (bl : List (Code × Pos)) (N t0 : Nat) (A0 A1 A2 A3 A4 A5 k0 k1 k2 k3 k4 ti : Nat) (tm : Int) (lM lS lH lQ : IL) (nM' nS' nH' nQ : Nat) (B0 B1 B2 : Nat) (lq : SL) (nq nr nr' : Nat) (a1 : Int) (at1 : Nat) (au1 : Value) (b1 b2 : Int) (bt1 bt2 : Nat) (bu1 bu2 : Value) : List Sm := [mkSm t0 (.hasI 5 (A5+150) lQ nQ tm ti true), mkSm t0 (.getI 5 (A5+150) lQ nQ tm ti (.ref (B0+150))), mkSm t0 (.hasS P 6 (B0+150) lq nq nS (t0+8) true), mkSm t0 (.getS P 6 (B0+150) lq nq nS (t0+10) (.ref (B1+150))), mkSm t0 (.knext 10 (N+150+1) 7 (B1+150) [(a1, at1, au1)] nr 0 a1 at1), mkSm t0 (.delI 3 (A3+150) lS nS' a1 at1), mkSm t0 (.kend 10 (N+150+1) 7 (B1+150) (N+150) [(a1, at1, au1)] nr), mkSm t0 (.hasS P 6 (B0+150) lq nq nM (t0+15) true), mkSm t0 (.getS P 6 (B0+150) lq nq nM (t0+17) (.ref (B2+150))), mkSm t0 (.knext 13 (N+150+4) 8 (B2+150) [(b1, bt1, bu1), (b2, bt2, bu2)] nr' 0 b1 bt1), mkSm t0 (.delI 2 (A2+150) lM nM' b1 bt1), mkSm t0 (.knext 13 (N+150+4) 8 (B2+150) [(b1, bt1, bu1), (b2, bt2, bu2)] nr' 1 b2 bt2), mkSm t0 (.delI 2 (A2+150) (rem lM b1) (nM' + 1) b2 bt2), mkSm t0 (.kend 13 (N+150+4) 8 (B2+150) (N+150) [(b1, bt1, bu1), (b2, bt2, bu2)] nr'), mkSm t0 (.delI 5 (A5+150) lQ nQ tm ti)]
def e12_T (P : Params) (b : Bool) (prog : Program) (p : Pos) (bl : List (Code × Pos)) (N t0 : Nat) (A0 A1 A2 A3 A4 A5 k0 k1 k2 k3 k4 ti : Nat) (tm : Int) (lM lS lH lQ : IL) (nM' nS' nH' nQ : Nat) (B0 B1 B2 : Nat) (lq : SL) (nq nr nr' : Nat) (a1 : Int) (at1 : Nat) (au1 : Value) (b1 b2 : Int) (bt1 bt2 : Nat) (bu1 bu2 : Value) : Tab := [some (cdict P k0 k1 k2 k3 k4 (A2+150) (A3+150) (A4+150) (A5+150) tm ti), some (instO (A0+150)), some (idct lM nM'), some (idct lS nS'), some (idct lH nH'), some (idct lQ nQ), some (sdct P lq nq), some (idct [(a1, at1, au1)] nr), some (idct [(b1, bt1, bu1), (b2, bt2, bu2)] nr')]
def e12_X (P : Params) (b : Bool) (prog : Program) (p : Pos) (bl : List (Code × Pos)) (N t0 : Nat) (A0 A1 A2 A3 A4 A5 k0 k1 k2 k3 k4 ti : Nat) (tm : Int) (lM lS lH lQ : IL) (nM' nS' nH' nQ : Nat) (B0 B1 B2 : Nat) (lq : SL) (nq nr nr' : Nat) (a1 : Int) (at1 : Nat) (au1 : Value) (b1 b2 : Int) (bt1 bt2 : Nat) (bu1 bu2 : Value) : Out Flow := (run ⟨prog, swP P b, Mine.hz.ktop_302 P, N+150, t0, [A0+150, A1+150, A2+150, A3+150, A4+150, A5+150, B0+150, B1+150, B2+150]⟩ 100000).c (.call (.ref 115) ⟨[(.ref (A1+150))], []⟩) p bl none 0 0 2280401346372139295242026241488939389970755624395360070084261546845237154086955757253225581018434516106342357098357204426654434805316593977250342640438218388944459361265824591600702838121461889974435580711941760092297860437680284579350149140139752957430179478351292808637778927371588230253558060703820105641752348237450660192949635203518208324308152087557512802589921114116208712670879628363859537305940796666708803942927352223319347607973608871101505538 (e12_S P b prog p bl N t0 A0 A1 A2 A3 A4 A5 k0 k1 k2 k3 k4 ti tm lM lS lH lQ nM' nS' nH' nQ B0 B1 B2 lq nq nr nr' a1 at1 au1 b1 b2 bt1 bt2 bu1 bu2) (e12_T P b prog p bl N t0 A0 A1 A2 A3 A4 A5 k0 k1 k2 k3 k4 ti tm lM lS lH lQ nM' nS' nH' nQ B0 B1 B2 lq nq nr nr' a1 at1 au1 b1 b2 bt1 bt2 bu1 bu2) 0 0 []
def e12_L (P : Params) (b : Bool) (prog : Program) (p : Pos) (bl : List (Code × Pos)) (N t0 : Nat) (A0 A1 A2 A3 A4 A5 k0 k1 k2 k3 k4 ti : Nat) (tm : Int) (lM lS lH lQ : IL) (nM' nS' nH' nQ : Nat) (B0 B1 B2 : Nat) (lq : SL) (nq nr nr' : Nat) (a1 : Int) (at1 : Nat) (au1 : Value) (b1 b2 : Int) (bt1 bt2 : Nat) (bu1 bu2 : Value) := look [0, 1, 2, 3, 4, 5, 6, 7, 8] (e12_X P b prog p bl N t0 A0 A1 A2 A3 A4 A5 k0 k1 k2 k3 k4 ti tm lM lS lH lQ nM' nS' nH' nQ B0 B1 B2 lq nq nr nr' a1 at1 au1 b1 b2 bt1 bt2 bu1 bu2)
def e12_R (P : Params) (b : Bool) (prog : Program) (p : Pos) (bl : List (Code × Pos)) (N t0 : Nat) (A0 A1 A2 A3 A4 A5 k0 k1 k2 k3 k4 ti : Nat) (tm : Int) (lM lS lH lQ : IL) (nM' nS' nH' nQ : Nat) (B0 B1 B2 : Nat) (lq : SL) (nq nr nr' : Nat) (a1 : Int) (at1 : Nat) (au1 : Value) (b1 b2 : Int) (bt1 bt2 : Nat) (bu1 bu2 : Value) : Option (Except Value Flow × List (Option Obj) × Nat × Nat × List Ob) := some ((.ok (.ret .none)), [some (cdict P k0 k1 k2 k3 k4 (A2+150) (A3+150) (A4+150) (A5+150) (tm+1) (t0+30)), some (instO (A0+150)), some (idct (rem (rem lM b1) b2) ((nM' + 1) + 1)), some (idct (rem lS a1) (nS' + 1)), some (idct lH nH'), some (idct (rem lQ tm) (nQ + 1)), some (sdct P lq nq), some (idct [(a1, at1, au1)] nr), some (idct [(b1, bt1, bu1), (b2, bt2, bu2)] nr')], 7, 33, obsOf (e12_X P b prog p bl N t0 A0 A1 A2 A3 A4 A5 k0 k1 k2 k3 k4 ti tm lM lS lH lQ nM' nS' nH' nQ B0 B1 B2 lq nq nr nr' a1 at1 au1 b1 b2 bt1 bt2 bu1 bu2))
theorem e12_L0 : @e12_L = e12_L := rfl
theorem e12_R0 : @e12_R = e12_R := rfl
lay_z Mine.e12_L Mine.e12_R
name_z e12LZ for Mine.e12_L by Mine.e12_L0
name_z e12RZ for Mine.e12_R by Mine.e12_R0
theorem e12_ok (P : Params) (b : Bool) (prog : Program) (p : Pos) (bl : List (Code × Pos)) (N t0 : Nat) (A0 A1 A2 A3 A4 A5 k0 k1 k2 k3 k4 ti : Nat) (tm : Int) (lM lS lH lQ : IL) (nM' nS' nH' nQ : Nat) (B0 B1 B2 : Nat) (lq : SL) (nq nr nr' : Nat) (a1 : Int) (at1 : Nat) (au1 : Value) (b1 b2 : Int) (bt1 bt2 : Nat) (bu1 bu2 : Value) : e12_L P b prog p bl N t0 A0 A1 A2 A3 A4 A5 k0 k1 k2 k3 k4 ti tm lM lS lH lQ nM' nS' nH' nQ B0 B1 B2 lq nq nr nr' a1 at1 au1 b1 b2 bt1 bt2 bu1 bu2 = e12_R P b prog p bl N t0 A0 A1 A2 A3 A4 A5 k0 k1 k2 k3 k4 ti tm lM lS lH lQ nM' nS' nH' nQ B0 B1 B2 lq nq nr nr' a1 at1 au1 b1 b2 bt1 bt2 bu1 bu2 := by
  rw [PySem.W.ZFast.e12LZ_eq, PySem.W.ZFast.e12RZ_eq]
  cases b <;> kernel_rfl!

def e13_S (P : Params) (b : Bool) (prog : Program) (p : Pos) (bl : List (Code × Pos)) (N t0 : Nat) (A0 A1 A2 A3 A4 A5 k0 k1 k2 k3 k4 ti : Nat) (tm : Int) (lM lS lH lQ : IL) (nM' nS' nH' nQ : Nat) (B0 B1 B2 : Nat) (lq : SL) (nq nr nr' : Nat) (a1 : Int) (at1 : Nat) (au1 : Value) (b1 b2 b3 : Int) (bt1 bt2 bt3 : Nat) (bu1 bu2 bu3 : Value) : List Sm := [mkSm t0 (.hasI 5 (A5+150) lQ nQ tm ti true), mkSm t0 (.getI 5 (A5+150) lQ nQ tm ti (.ref (B0+150))), mkSm t0 (.hasS P 6 (B0+150) lq nq nS (t0+8) true), mkSm t0 (.getS P 6 (B0+150) lq nq nS (t0+10) (.ref (B1+150))), mkSm t0 (.knext 10 (N+150+1) 7 (B1+150) [(a1, at1, au1)] nr 0 a1 at1), mkSm t0 (.delI 3 (A3+150) lS nS' a1 at1), mkSm t0 (.kend 10 (N+150+1) 7 (B1+150) (N+150) [(a1, at1, au1)] nr), mkSm t0 (.hasS P 6 (B0+150) lq nq nM (t0+15) true), mkSm t0 (.getS P 6 (B0+150) lq nq nM (t0+17) (.ref (B2+150))), mkSm t0 (.knext 13 (N+150+4) 8 (B2+150) [(b1, bt1, bu1), (b2, bt2, bu2), (b3, bt3, bu3)] nr' 0 b1 bt1), mkSm t0 (.delI 2 (A2+150) lM nM' b1 bt1), mkSm t0 (.knext 13 (N+150+4) 8 (B2+150) [(b1, bt1, bu1), (b2, bt2, bu2), (b3, bt3, bu3)] nr' 1 b2 bt2), mkSm t0 (.delI 2 (A2+150) (rem lM b1) (nM' + 1) b2 bt2), mkSm t0 (.knext 13 (N+150+4) 8 (B2+150) [(b1, bt1, bu1), (b2, bt2, bu2), (b3, bt3, bu3)] nr' 2 b3 bt3), mkSm t0 (.delI 2 (A2+150) (rem (rem lM b1) b2) ((nM' + 1) + 1) b3 bt3), mkSm t0 (.kend 13 (N+150+4) 8 (B2+150) (N+150) [(b1, bt1, bu1), (b2, bt2, bu2), (b3, bt3, bu3)] nr'), mkSm t0 (.delI 5 (A5+150) lQ nQ tm ti)]
def e13_T (P : Params) (b : Bool) (prog : Program) (p : Pos) (bl : List (Code × Pos)) (N t0 : Nat) (A0 A1 A2 A3 A4 A5 k0 k1 k2 k3 k4 ti : Nat) (tm : Int) (lM lS lH lQ : IL) (nM' nS' nH' nQ : Nat) (B0 B1 B2 : Nat) (lq : SL) (nq nr nr' : Nat) (a1 : Int) (at1 : Nat) (au1 : Value) (b1 b2 b3 : Int) (bt1 bt2 bt3 : Nat) (bu1 bu2 bu3 : Value) : Tab := [some (cdict P k0 k1 k2 k3 k4 (A2+150) (A3+150) (A4+150) (A5+150) tm ti), some (instO (A0+150)), some (idct lM nM'), some (idct lS nS'), some (idct lH nH'), some (idct lQ nQ), some (sdct P lq nq), some (idct [(a1, at1, au1)] nr), some (idct [(b1, bt1, bu1), (b2, bt2, bu2), (b3, bt3, bu3)] nr')]
def e13_X (P : Params) (b : Bool) (prog : Program) (p : Pos) (bl : List (Code × Pos)) (N t0 : Nat) (A0 A1 A2 A3 A4 A5 k0 k1 k2 k3 k4 ti : Nat) (tm : Int) (lM lS lH lQ : IL) (nM' nS' nH' nQ : Nat) (B0 B1 B2 : Nat) (lq : SL) (nq nr nr' : Nat) (a1 : Int) (at1 : Nat) (au1 : Value) (b1 b2 b3 : Int) (bt1 bt2 bt3 : Nat) (bu1 bu2 bu3 : Value) : Out Flow := (run ⟨prog, swP P b, Mine.hz.ktop_302 P, N+150, t0, [A0+150, A1+150, A2+150, A3+150, A4+150, A5+150, B0+150, B1+150, B2+150]⟩ 100000).c (.call (.ref 115) ⟨[(.ref (A1+150))], []⟩) p bl none 0 0 794603896497363341183281048916074752716103562450591876461652457021019841796398457252668150443202384105487886238065276101277001852726278111820472460935619831984444586638083985288678582324164099642554332995737031840765385958852260459820543490328672030452083832027602132615874689603553802750020016798184805715161797841826355040142388419743676208285506894950059561137345277913927376099665883077950502507411770586802742715531129961774242841656393955377249111324964666749561853932385799074139184078850 (e13_S P b prog p bl N t0 A0 A1 A2 A3 A4 A5 k0 k1 k2 k3 k4 ti tm lM lS lH lQ nM' nS' nH' nQ B0 B1 B2 lq nq nr nr' a1 at1 au1 b1 b2 b3 bt1 bt2 bt3 bu1 bu2 bu3) (e13_T P b prog p bl N t0 A0 A1 A2 A3 A4 A5 k0 k1 k2 k3 k4 ti tm lM lS lH lQ nM' nS' nH' nQ B0 B1 B2 lq nq nr nr' a1 at1 au1 b1 b2 b3 bt1 bt2 bt3 bu1 bu2 bu3) 0 0 []
def e13_L (P : Params) (b : Bool) (prog : Program) (p : Pos) (bl : List (Code × Pos)) (N t0 : Nat) (A0 A1 A2 A3 A4 A5 k0 k1 k2 k3 k4 ti : Nat) (tm : Int) (lM lS lH lQ : IL) (nM' nS' nH' nQ : Nat) (B0 B1 B2 : Nat) (lq : SL) (nq nr nr' : Nat) (a1 : Int) (at1 : Nat) (au1 : Value) (b1 b2 b3 : Int) (bt1 bt2 bt3 : Nat) (bu1 bu2 bu3 : Value) := look [0, 1, 2, 3, 4, 5, 6, 7, 8] (e13_X P b prog p bl N t0 A0 A1 A2 A3 A4 A5 k0 k1 k2 k3 k4 ti tm lM lS lH lQ nM' nS' nH' nQ B0 B1 B2 lq nq nr nr' a1 at1 au1 b1 b2 b3 bt1 bt2 bt3 bu1 bu2 bu3)
def e13_R (P : Params) (b : Bool) (prog : Program) (p : Pos) (bl : List (Code × Pos)) (N t0 : Nat) (A0 A1 A2 A3 A4 A5 k0 k1 k2 k3 k4 ti : Nat) (tm : Int) (lM lS lH lQ : IL) (nM' nS' nH' nQ : Nat) (B0 B1 B2 : Nat) (lq : SL) (nq nr nr' : Nat) (a1 : Int) (at1 : Nat) (au1 : Value) (b1 b2 b3 : Int) (bt1 bt2 bt3 : Nat) (bu1 bu2 bu3 : Value) : Option (Except Value Flow × List (Option Obj) × Nat × Nat × List Ob) := some ((.ok (.ret .none)), [some (cdict P k0 k1 k2 k3 k4 (A2+150) (A3+150) (A4+150) (A5+150) (tm+1) (t0+33)), some (instO (A0+150)), some (idct (rem (rem (rem lM b1) b2) b3) (((nM' + 1) + 1) + 1)), some (idct (rem lS a1) (nS' + 1)), some (idct lH nH'), some (idct (rem lQ tm) (nQ + 1)), some (sdct P lq nq), some (idct [(a1, at1, au1)] nr), some (idct [(b1, bt1, bu1), (b2, bt2, bu2), (b3, bt3, bu3)] nr')], 7, 36, obsOf (e13_X P b prog p bl N t0 A0 A1 A2 A3 A4 A5 k0 k1 k2 k3 k4 ti tm lM lS lH lQ nM' nS' nH' nQ B0 B1 B2 lq nq nr nr' a1 at1 au1 b1 b2 b3 bt1 bt2 bt3 bu1 bu2 bu3))
theorem e13_L0 : @e13_L = e13_L := rfl
theorem e13_R0 : @e13_R = e13_R := rfl
lay_z Mine.e13_L Mine.e13_R
name_z e13LZ for Mine.e13_L by Mine.e13_L0
name_z e13RZ for Mine.e13_R by Mine.e13_R0
theorem e13_ok (P : Params) (b : Bool) (prog : Program) (p : Pos) (bl : List (Code × Pos)) (N t0 : Nat) (A0 A1 A2 A3 A4 A5 k0 k1 k2 k3 k4 ti : Nat) (tm : Int) (lM lS lH lQ : IL) (nM' nS' nH' nQ : Nat) (B0 B1 B2 : Nat) (lq : SL) (nq nr nr' : Nat) (a1 : Int) (at1 : Nat) (au1 : Value) (b1 b2 b3 : Int) (bt1 bt2 bt3 : Nat) (bu1 bu2 bu3 : Value) : e13_L P b prog p bl N t0 A0 A1 A2 A3 A4 A5 k0 k1 k2 k3 k4 ti tm lM lS lH lQ nM' nS' nH' nQ B0 B1 B2 lq nq nr nr' a1 at1 au1 b1 b2 b3 bt1 bt2 bt3 bu1 bu2 bu3 = e13_R P b prog p bl N t0 A0 A1 A2 A3 A4 A5 k0 k1 k2 k3 k4 ti tm lM lS lH lQ nM' nS' nH' nQ B0 B1 B2 lq nq nr nr' a1 at1 au1 b1 b2 b3 bt1 bt2 bt3 bu1 bu2 bu3 := by
  rw [PySem.W.ZFast.e13LZ_eq, PySem.W.ZFast.e13RZ_eq]
  cases b <;> kernel_rfl!

def e2n_S (P : Params) (b : Bool) (prog : Program) (p : Pos) (bl : List (Code × Pos)) (N t0 : Nat) (A0 A1 A2 A3 A4 A5 k0 k1 k2 k3 k4 ti : Nat) (tm : Int) (lM lS lH lQ : IL) (nM' nS' nH' nQ : Nat) (B0 B1 B2 : Nat) (lq : SL) (nq nr nr' : Nat) (a1 a2 : Int) (at1 at2 : Nat) (au1 au2 : Value) : List Sm := [mkSm t0 (.hasI 5 (A5+150) lQ nQ tm ti true), mkSm t0 (.getI 5 (A5+150) lQ nQ tm ti (.ref (B0+150))), mkSm t0 (.hasS P 6 (B0+150) lq nq nS (t0+8) true), mkSm t0 (.getS P 6 (B0+150) lq nq nS (t0+10) (.ref (B1+150))), mkSm t0 (.knext 9 (N+150+1) 7 (B1+150) [(a1, at1, au1), (a2, at2, au2)] nr 0 a1 at1), mkSm t0 (.delI 3 (A3+150) lS nS' a1 at1), mkSm t0 (.knext 9 (N+150+1) 7 (B1+150) [(a1, at1, au1), (a2, at2, au2)] nr 1 a2 at2), mkSm t0 (.delI 3 (A3+150) (rem lS a1) (nS' + 1) a2 at2), mkSm t0 (.kend 9 (N+150+1) 7 (B1+150) (N+150) [(a1, at1, au1), (a2, at2, au2)] nr), mkSm t0 (.hasS P 6 (B0+150) lq nq nM (t0+18) false), mkSm t0 (.delI 5 (A5+150) lQ nQ tm ti)]
def e2n_T (P : Params) (b : Bool) (prog : Program) (p : Pos) (bl : List (Code × Pos)) (N t0 : Nat) (A0 A1 A2 A3 A4 A5 k0 k1 k2 k3 k4 ti : Nat) (tm : Int) (lM lS lH lQ : IL) (nM' nS' nH' nQ : Nat) (B0 B1 B2 : Nat) (lq : SL) (nq nr nr' : Nat) (a1 a2 : Int) (at1 at2 : Nat) (au1 au2 : Value) : Tab := [some (cdict P k0 k1 k2 k3 k4 (A2+150) (A3+150) (A4+150) (A5+150) tm ti), some (instO (A0+150)), some (idct lM nM'), some (idct lS nS'), some (idct lH nH'), some (idct lQ nQ), some (sdct P lq nq), some (idct [(a1, at1, au1), (a2, at2, au2)] nr)]
def e2n_X (P : Params) (b : Bool) (prog : Program) (p : Pos) (bl : List (Code × Pos)) (N t0 : Nat) (A0 A1 A2 A3 A4 A5 k0 k1 k2 k3 k4 ti : Nat) (tm : Int) (lM lS lH lQ : IL) (nM' nS' nH' nQ : Nat) (B0 B1 B2 : Nat) (lq : SL) (nq nr nr' : Nat) (a1 a2 : Int) (at1 at2 : Nat) (au1 au2 : Value) : Out Flow := (run ⟨prog, swP P b, Mine.hz.ktop_302 P, N+150, t0, [A0+150, A1+150, A2+150, A3+150, A4+150, A5+150, B0+150, B1+150]⟩ 100000).c (.call (.ref 115) ⟨[(.ref (A1+150))], []⟩) p bl none 0 0 315102886408545669768603156088350838621322225278117515634683588725754796774794207751578196460449432800141287354040545032016326160448935843653891143293509087457144782853791425647767766100862746550039451150857794744917411594545106269122953192016477550908950364871776579338109715283651469896096899467913660119488639375119860804803350574524945649311207113641868017645978246898290690 (e2n_S P b prog p bl N t0 A0 A1 A2 A3 A4 A5 k0 k1 k2 k3 k4 ti tm lM lS lH lQ nM' nS' nH' nQ B0 B1 B2 lq nq nr nr' a1 a2 at1 at2 au1 au2) (e2n_T P b prog p bl N t0 A0 A1 A2 A3 A4 A5 k0 k1 k2 k3 k4 ti tm lM lS lH lQ nM' nS' nH' nQ B0 B1 B2 lq nq nr nr' a1 a2 at1 at2 au1 au2) 0 0 []
def e2n_L (P : Params) (b : Bool) (prog : Program) (p : Pos) (bl : List (Code × Pos)) (N t0 : Nat) (A0 A1 A2 A3 A4 A5 k0 k1 k2 k3 k4 ti : Nat) (tm : Int) (lM lS lH lQ : IL) (nM' nS' nH' nQ : Nat) (B0 B1 B2 : Nat) (lq : SL) (nq nr nr' : Nat) (a1 a2 : Int) (at1 at2 : Nat) (au1 au2 : Value) := look [0, 1, 2, 3, 4, 5, 6, 7] (e2n_X P b prog p bl N t0 A0 A1 A2 A3 A4 A5 k0 k1 k2 k3 k4 ti tm lM lS lH lQ nM' nS' nH' nQ B0 B1 B2 lq nq nr nr' a1 a2 at1 at2 au1 au2)
def e2n_R (P : Params) (b : Bool) (prog : Program) (p : Pos) (bl : List (Code × Pos)) (N t0 : Nat) (A0 A1 A2 A3 A4 A5 k0 k1 k2 k3 k4 ti : Nat) (tm : Int) (lM lS lH lQ : IL) (nM' nS' nH' nQ : Nat) (B0 B1 B2 : Nat) (lq : SL) (nq nr nr' : Nat) (a1 a2 : Int) (at1 at2 : Nat) (au1 au2 : Value) : Option (Except Value Flow × List (Option Obj) × Nat × Nat × List Ob) := some ((.ok (.ret .none)), [some (cdict P k0 k1 k2 k3 k4 (A2+150) (A3+150) (A4+150) (A5+150) (tm+1) (t0+25)), some (instO (A0+150)), some (idct lM nM'), some (idct (rem (rem lS a1) a2) ((nS' + 1) + 1)), some (idct lH nH'), some (idct (rem lQ tm) (nQ + 1)), some (sdct P lq nq), some (idct [(a1, at1, au1), (a2, at2, au2)] nr)], 4, 28, obsOf (e2n_X P b prog p bl N t0 A0 A1 A2 A3 A4 A5 k0 k1 k2 k3 k4 ti tm lM lS lH lQ nM' nS' nH' nQ B0 B1 B2 lq nq nr nr' a1 a2 at1 at2 au1 au2))
theorem e2n_L0 : @e2n_L = e2n_L := rfl
theorem e2n_R0 : @e2n_R = e2n_R := rfl
lay_z Mine.e2n_L Mine.e2n_R
name_z e2nLZ for Mine.e2n_L by Mine.e2n_L0
name_z e2nRZ for Mine.e2n_R by Mine.e2n_R0
theorem e2n_ok (P : Params) (b : Bool) (prog : Program) (p : Pos) (bl : List (Code × Pos)) (N t0 : Nat) (A0 A1 A2 A3 A4 A5 k0 k1 k2 k3 k4 ti : Nat) (tm : Int) (lM lS lH lQ : IL) (nM' nS' nH' nQ : Nat) (B0 B1 B2 : Nat) (lq : SL) (nq nr nr' : Nat) (a1 a2 : Int) (at1 at2 : Nat) (au1 au2 : Value) : e2n_L P b prog p bl N t0 A0 A1 A2 A3 A4 A5 k0 k1 k2 k3 k4 ti tm lM lS lH lQ nM' nS' nH' nQ B0 B1 B2 lq nq nr nr' a1 a2 at1 at2 au1 au2 = e2n_R P b prog p bl N t0 A0 A1 A2 A3 A4 A5 k0 k1 k2 k3 k4 ti tm lM lS lH lQ nM' nS' nH' nQ B0 B1 B2 lq nq nr nr' a1 a2 at1 at2 au1 au2 := by
  rw [PySem.W.ZFast.e2nLZ_eq, PySem.W.ZFast.e2nRZ_eq]
  cases b <;> kernel_rfl!

def e20_S (P : Params) (b : Bool) (prog : Program) (p : Pos) (bl : List (Code × Pos)) (N t0 : Nat) (A0 A1 A2 A3 A4 A5 k0 k1 k2 k3 k4 ti : Nat) (tm : Int) (lM lS lH lQ : IL) (nM' nS' nH' nQ : Nat) (B0 B1 B2 : Nat) (lq : SL) (nq nr nr' : Nat) (a1 a2 : Int) (at1 at2 : Nat) (au1 au2 : Value) : List Sm := [mkSm t0 (.hasI 5 (A5+150) lQ nQ tm ti true), mkSm t0 (.getI 5 (A5+150) lQ nQ tm ti (.ref (B0+150))), mkSm t0 (.hasS P 6 (B0+150) lq nq nS (t0+8) true), mkSm t0 (.getS P 6 (B0+150) lq nq nS (t0+10) (.ref (B1+150))), mkSm t0 (.knext 10 (N+150+1) 7 (B1+150) [(a1, at1, au1), (a2, at2, au2)] nr 0 a1 at1), mkSm t0 (.delI 3 (A3+150) lS nS' a1 at1), mkSm t0 (.knext 10 (N+150+1) 7 (B1+150) [(a1, at1, au1), (a2, at2, au2)] nr 1 a2 at2), mkSm t0 (.delI 3 (A3+150) (rem lS a1) (nS' + 1) a2 at2), mkSm t0 (.kend 10 (N+150+1) 7 (B1+150) (N+150) [(a1, at1, au1), (a2, at2, au2)] nr), mkSm t0 (.hasS P 6 (B0+150) lq nq nM (t0+18) true), mkSm t0 (.getS P 6 (B0+150) lq nq nM (t0+20) (.ref (B2+150))), mkSm t0 (.kend 13 (N+150+4) 8 (B2+150) (N+150) [] nr'), mkSm t0 (.delI 5 (A5+150) lQ nQ tm ti)]
def e20_T (P : Params) (b : Bool) (prog : Program) (p : Pos) (bl : List (Code × Pos)) (N t0 : Nat) (A0 A1 A2 A3 A4 A5 k0 k1 k2 k3 k4 ti : Nat) (tm : Int) (lM lS lH lQ : IL) (nM' nS' nH' nQ : Nat) (B0 B1 B2 : Nat) (lq : SL) (nq nr nr' : Nat) (a1 a2 : Int) (at1 at2 : Nat) (au1 au2 : Value) : Tab := [some (cdict P k0 k1 k2 k3 k4 (A2+150) (A3+150) (A4+150) (A5+150) tm ti), some (instO (A0+150)), some (idct lM nM'), some (idct lS nS'), some (idct lH nH'), some (idct lQ nQ), some (sdct P lq nq), some (idct [(a1, at1, au1), (a2, at2, au2)] nr), some (idct [] nr')]
def e20_X (P : Params) (b : Bool) (prog : Program) (p : Pos) (bl : List (Code × Pos)) (N t0 : Nat) (A0 A1 A2 A3 A4 A5 k0 k1 k2 k3 k4 ti : Nat) (tm : Int) (lM lS lH lQ : IL) (nM' nS' nH' nQ : Nat) (B0 B1 B2 : Nat) (lq : SL) (nq nr nr' : Nat) (a1 a2 : Int) (at1 at2 : Nat) (au1 au2 : Value) : Out Flow := (run ⟨prog, swP P b, Mine.hz.ktop_302 P, N+150, t0, [A0+150, A1+150, A2+150, A3+150, A4+150, A5+150, B0+150, B1+150, B2+150]⟩ 100000).c (.call (.ref 115) ⟨[(.ref (A1+150))], []⟩) p bl none 0 0 6544430908857393259880082393859325286189073604259459633396061180843463314023707679806660581636740366680694614050849159872371012093910787395596842064724118601124245783338893851611246584806915189397684113380550855657532474351336026375012566221383941504026732322039286192561934392244306754725902652965486136392442147780763617437290110702031522158282653352925947941377027293277909542074473550618631150650008405581826 (e20_S P b prog p bl N t0 A0 A1 A2 A3 A4 A5 k0 k1 k2 k3 k4 ti tm lM lS lH lQ nM' nS' nH' nQ B0 B1 B2 lq nq nr nr' a1 a2 at1 at2 au1 au2) (e20_T P b prog p bl N t0 A0 A1 A2 A3 A4 A5 k0 k1 k2 k3 k4 ti tm lM lS lH lQ nM' nS' nH' nQ B0 B1 B2 lq nq nr nr' a1 a2 at1 at2 au1 au2) 0 0 []
def e20_L (P : Params) (b : Bool) (prog : Program) (p : Pos) (bl : List (Code × Pos)) (N t0 : Nat) (A0 A1 A2 A3 A4 A5 k0 k1 k2 k3 k4 ti : Nat) (tm : Int) (lM lS lH lQ : IL) (nM' nS' nH' nQ : Nat) (B0 B1 B2 : Nat) (lq : SL) (nq nr nr' : Nat) (a1 a2 : Int) (at1 at2 : Nat) (au1 au2 : Value) := look [0, 1, 2, 3, 4, 5, 6, 7, 8] (e20_X P b prog p bl N t0 A0 A1 A2 A3 A4 A5 k0 k1 k2 k3 k4 ti tm lM lS lH lQ nM' nS' nH' nQ B0 B1 B2 lq nq nr nr' a1 a2 at1 at2 au1 au2)
def e20_R (P : Params) (b : Bool) (prog : Program) (p : Pos) (bl : List (Code × Pos)) (N t0 : Nat) (A0 A1 A2 A3 A4 A5 k0 k1 k2 k3 k4 ti : Nat) (tm : Int) (lM lS lH lQ : IL) (nM' nS' nH' nQ : Nat) (B0 B1 B2 : Nat) (lq : SL) (nq nr nr' : Nat) (a1 a2 : Int) (at1 at2 : Nat) (au1 au2 : Value) : Option (Except Value Flow × List (Option Obj) × Nat × Nat × List Ob) := some ((.ok (.ret .none)), [some (cdict P k0 k1 k2 k3 k4 (A2+150) (A3+150) (A4+150) (A5+150) (tm+1) (t0+27)), some (instO (A0+150)), some (idct lM nM'), some (idct (rem (rem lS a1) a2) ((nS' + 1) + 1)), some (idct lH nH'), some (idct (rem lQ tm) (nQ + 1)), some (sdct P lq nq), some (idct [(a1, at1, au1), (a2, at2, au2)] nr), some (idct [] nr')], 7, 30, obsOf (e20_X P b prog p bl N t0 A0 A1 A2 A3 A4 A5 k0 k1 k2 k3 k4 ti tm lM lS lH lQ nM' nS' nH' nQ B0 B1 B2 lq nq nr nr' a1 a2 at1 at2 au1 au2))
theorem e20_L0 : @e20_L = e20_L := rfl
theorem e20_R0 : @e20_R = e20_R := rfl
lay_z Mine.e20_L Mine.e20_R
name_z e20LZ for Mine.e20_L by Mine.e20_L0
name_z e20RZ for Mine.e20_R by Mine.e20_R0
theorem e20_ok (P : Params) (b : Bool) (prog : Program) (p : Pos) (bl : List (Code × Pos)) (N t0 : Nat) (A0 A1 A2 A3 A4 A5 k0 k1 k2 k3 k4 ti : Nat) (tm : Int) (lM lS lH lQ : IL) (nM' nS' nH' nQ : Nat) (B0 B1 B2 : Nat) (lq : SL) (nq nr nr' : Nat) (a1 a2 : Int) (at1 at2 : Nat) (au1 au2 : Value) : e20_L P b prog p bl N t0 A0 A1 A2 A3 A4 A5 k0 k1 k2 k3 k4 ti tm lM lS lH lQ nM' nS' nH' nQ B0 B1 B2 lq nq nr nr' a1 a2 at1 at2 au1 au2 = e20_R P b prog p bl N t0 A0 A1 A2 A3 A4 A5 k0 k1 k2 k3 k4 ti tm lM lS lH lQ nM' nS' nH' nQ B0 B1 B2 lq nq nr nr' a1 a2 at1 at2 au1 au2 := by
  rw [PySem.W.ZFast.e20LZ_eq, PySem.W.ZFast.e20RZ_eq]
  cases b <;> kernel_rfl!

def e21_S (P : Params) (b : Bool) (prog : Program) (p : Pos) (bl : List (Code × Pos)) (N t0 : Nat) (A0 A1 A2 A3 A4 A5 k0 k1 k2 k3 k4 ti : Nat) (tm : Int) (lM lS lH lQ : IL) (nM' nS' nH' nQ : Nat) (B0 B1 B2 : Nat) (lq : SL) (nq nr nr' : Nat) (a1 a2 : Int) (at1 at2 : Nat) (au1 au2 : Value) (b1 : Int) (bt1 : Nat) (bu1 : Value) : List Sm := [mkSm t0 (.hasI 5 (A5+150) lQ nQ tm ti true), mkSm t0 (.getI 5 (A5+150) lQ nQ tm ti (.ref (B0+150))), mkSm t0 (.hasS P 6 (B0+150) lq nq nS (t0+8) true), mkSm t0 (.getS P 6 (B0+150) lq nq nS (t0+10) (.ref (B1+150))), mkSm t0 (.knext 10 (N+150+1) 7 (B1+150) [(a1, at1, au1), (a2, at2, au2)] nr 0 a1 at1), mkSm t0 (.delI 3 (A3+150) lS nS' a1 at1), mkSm t0 (.knext 10 (N+150+1) 7 (B1+150) [(a1, at1, au1), (a2, at2, au2)] nr 1 a2 at2), mkSm t0 (.delI 3 (A3+150) (rem lS a1) (nS' + 1) a2 at2), mkSm t0 (.kend 10 (N+150+1) 7 (B1+150) (N+150) [(a1, at1, au1), (a2, at2, au2)] nr), mkSm t0 (.hasS P 6 (B0+150) lq nq nM (t0+18) true), mkSm t0 (.getS P 6 (B0+150) lq nq nM (t0+20) (.ref (B2+150))), mkSm t0 (.knext 13 (N+150+4) 8 (B2+150) [(b1, bt1, bu1)] nr' 0 b1 bt1), mkSm t0 (.delI 2 (A2+150) lM nM' b1 bt1), mkSm t0 (.kend 13 (N+150+4) 8 (B2+150) (N+150) [(b1, bt1, bu1)] nr'), mkSm t0 (.delI 5 (A5+150) lQ nQ tm ti)]
def e21_T (P : Params) (b : Bool) (prog : Program) (p : Pos) (bl : List (Code × Pos)) (N t0 : Nat) (A0 A1 A2 A3 A4 A5 k0 k1 k2 k3 k4 ti : Nat) (tm : Int) (lM lS lH lQ : IL) (nM' nS' nH' nQ : Nat) (B0 B1 B2 : Nat) (lq : SL) (nq nr nr' : Nat) (a1 a2 : Int) (at1 at2 : Nat) (au1 au2 : Value) (b1 : Int) (bt1 : Nat) (bu1 : Value) : Tab := [some (cdict P k0 k1 k2 k3 k4 (A2+150) (A3+150) (A4+150) (A5+150) tm ti), some (instO (A0+150)), some (idct lM nM'), some (idct lS nS'), some (idct lH nH'), some (idct lQ nQ), some (sdct P lq nq), some (idct [(a1, at1, au1), (a2, at2, au2)] nr), some (idct [(b1, bt1, bu1)] nr')]
def e21_X (P : Params) (b : Bool) (prog : Program) (p : Pos) (bl : List (Code × Pos)) (N t0 : Nat) (A0 A1 A2 A3 A4 A5 k0 k1 k2 k3 k4 ti : Nat) (tm : Int) (lM lS lH lQ : IL) (nM' nS' nH' nQ : Nat) (B0 B1 B2 : Nat) (lq : SL) (nq nr nr' : Nat) (a1 a2 : Int) (at1 at2 : Nat) (au1 au2 : Value) (b1 : Int) (bt1 : Nat) (bu1 : Value) : Out Flow := (run ⟨prog, swP P b, Mine.hz.ktop_302 P, N+150, t0, [A0+150, A1+150, A2+150, A3+150, A4+150, A5+150, B0+150, B1+150, B2+150]⟩ 100000).c (.call (.ref 115) ⟨[(.ref (A1+150))], []⟩) p bl none 0 0 2280401346372139295242026241488939389970755624395360070084261546845237154086955757253225581018434516106342357098357204426654434805316593977250342640438218388944459361266311411604304743594434001336748421814642518932438539379953603117052662410263566861782706176250538968602032205752352967509599615379625982620681602536259927155093316226478583356296471971865860355101217726993408730593877756073864065092216938785395226923425693885800765880136654702850383874 (e21_S P b prog p bl N t0 A0 A1 A2 A3 A4 A5 k0 k1 k2 k3 k4 ti tm lM lS lH lQ nM' nS' nH' nQ B0 B1 B2 lq nq nr nr' a1 a2 at1 at2 au1 au2 b1 bt1 bu1) (e21_T P b prog p bl N t0 A0 A1 A2 A3 A4 A5 k0 k1 k2 k3 k4 ti tm lM lS lH lQ nM' nS' nH' nQ B0 B1 B2 lq nq nr nr' a1 a2 at1 at2 au1 au2 b1 bt1 bu1) 0 0 []
def e21_L (P : Params) (b : Bool) (prog : Program) (p : Pos) (bl : List (Code × Pos)) (N t0 : Nat) (A0 A1 A2 A3 A4 A5 k0 k1 k2 k3 k4 ti : Nat) (tm : Int) (lM lS lH lQ : IL) (nM' nS' nH' nQ : Nat) (B0 B1 B2 : Nat) (lq : SL) (nq nr nr' : Nat) (a1 a2 : Int) (at1 at2 : Nat) (au1 au2 : Value) (b1 : Int) (bt1 : Nat) (bu1 : Value) := look [0, 1, 2, 3, 4, 5, 6, 7, 8] (e21_X P b prog p bl N t0 A0 A1 A2 A3 A4 A5 k0 k1 k2 k3 k4 ti tm lM lS lH lQ nM' nS' nH' nQ B0 B1 B2 lq nq nr nr' a1 a2 at1 at2 au1 au2 b1 bt1 bu1)
def e21_R (P : Params) (b : Bool) (prog : Program) (p : Pos) (bl : List (Code × Pos)) (N t0 : Nat) (A0 A1 A2 A3 A4 A5 k0 k1 k2 k3 k4 ti : Nat) (tm : Int) (lM lS lH lQ : IL) (nM' nS' nH' nQ : Nat) (B0 B1 B2 : Nat) (lq : SL) (nq nr nr' : Nat) (a1 a2 : Int) (at1 at2 : Nat) (au1 au2 : Value) (b1 : Int) (bt1 : Nat) (bu1 : Value) : Option (Except Value Flow × List (Option Obj) × Nat × Nat × List Ob) := some ((.ok (.ret .none)), [some (cdict P k0 k1 k2 k3 k4 (A2+150) (A3+150) (A4+150) (A5+150) (tm+1) (t0+30)), some (instO (A0+150)), some (idct (rem lM b1) (nM' + 1)), some (idct (rem (rem lS a1) a2) ((nS' + 1) + 1)), some (idct lH nH'), some (idct (rem lQ tm) (nQ + 1)), some (sdct P lq nq), some (idct [(a1, at1, au1), (a2, at2, au2)] nr), some (idct [(b1, bt1, bu1)] nr')], 7, 33, obsOf (e21_X P b prog p bl N t0 A0 A1 A2 A3 A4 A5 k0 k1 k2 k3 k4 ti tm lM lS lH lQ nM' nS' nH' nQ B0 B1 B2 lq nq nr nr' a1 a2 at1 at2 au1 au2 b1 bt1 bu1))
theorem e21_L0 : @e21_L = e21_L := rfl
theorem e21_R0 : @e21_R = e21_R := rfl
lay_z Mine.e21_L Mine.e21_R
name_z e21LZ for Mine.e21_L by Mine.e21_L0
name_z e21RZ for Mine.e21_R by Mine.e21_R0
theorem e21_ok (P : Params) (b : Bool) (prog : Program) (p : Pos) (bl : List (Code × Pos)) (N t0 : Nat) (A0 A1 A2 A3 A4 A5 k0 k1 k2 k3 k4 ti : Nat) (tm : Int) (lM lS lH lQ : IL) (nM' nS' nH' nQ : Nat) (B0 B1 B2 : Nat) (lq : SL) (nq nr nr' : Nat) (a1 a2 : Int) (at1 at2 : Nat) (au1 au2 : Value) (b1 : Int) (bt1 : Nat) (bu1 : Value) : e21_L P b prog p bl N t0 A0 A1 A2 A3 A4 A5 k0 k1 k2 k3 k4 ti tm lM lS lH lQ nM' nS' nH' nQ B0 B1 B2 lq nq nr nr' a1 a2 at1 at2 au1 au2 b1 bt1 bu1 = e21_R P b prog p bl N t0 A0 A1 A2 A3 A4 A5 k0 k1 k2 k3 k4 ti tm lM lS lH lQ nM' nS' nH' nQ B0 B1 B2 lq nq nr nr' a1 a2 at1 at2 au1 au2 b1 bt1 bu1 := by
  rw [PySem.W.ZFast.e21LZ_eq, PySem.W.ZFast.e21RZ_eq]
  cases b <;> kernel_rfl!

def e22_S (P : Params) (b : Bool) (prog : Program) (p : Pos) (bl : List (Code × Pos)) (N t0 : Nat) (A0 A1 A2 A3 A4 A5 k0 k1 k2 k3 k4 ti : Nat) (tm : Int) (lM lS lH lQ : IL) (nM' nS' nH' nQ : Nat) (B0 B1 B2 : Nat) (lq : SL) (nq nr nr' : Nat) (a1 a2 : Int) (at1 at2 : Nat) (au1 au2 : Value) (b1 b2 : Int) (bt1 bt2 : Nat) (bu1 bu2 : Value) : List Sm := [mkSm t0 (.hasI 5 (A5+150) lQ nQ tm ti true), mkSm t0 (.getI 5 (A5+150) lQ nQ tm ti (.ref (B0+150))), mkSm t0 (.hasS P 6 (B0+150) lq nq nS (t0+8) true), mkSm t0 (.getS P 6 (B0+150) lq nq nS (t0+10) (.ref (B1+150))), mkSm t0 (.knext 10 (N+150+1) 7 (B1+150) [(a1, at1, au1), (a2, at2, au2)] nr 0 a1 at1), mkSm t0 (.delI 3 (A3+150) lS nS' a1 at1), mkSm t0 (.knext 10 (N+150+1) 7 (B1+150) [(a1, at1, au1), (a2, at2, au2)] nr 1 a2 at2), mkSm t0 (.delI 3 (A3+150) (rem lS a1) (nS' + 1) a2 at2), mkSm t0 (.kend 10 (N+150+1) 7 (B1+150) (N+150) [(a1, at1, au1), (a2, at2, au2)] nr), mkSm t0 (.hasS P 6 (B0+150) lq nq nM (t0+18) true), mkSm t0 (.getS P 6 (B0+150) lq nq nM (t0+20) (.ref (B2+150))), mkSm t0 (.knext 13 (N+150+4) 8 (B2+150) [(b1, bt1, bu1), (b2, bt2, bu2)] nr' 0 b1 bt1), mkSm t0 (.delI 2 (A2+150) lM nM' b1 bt1), mkSm t0 (.knext 13 (N+150+4) 8 (B2+150) [(b1, bt1, bu1), (b2, bt2, bu2)] nr' 1 b2 bt2), mkSm t0 (.delI 2 (A2+150) (rem lM b1) (nM' + 1) b2 bt2), mkSm t0 (.kend 13 (N+150+4) 8 (B2+150) (N+150) [(b1, bt1, bu1), (b2, bt2, bu2)] nr'), mkSm t0 (.delI 5 (A5+150) lQ nQ tm ti)]
def e22_T (P : Params) (b : Bool) (prog : Program) (p : Pos) (bl : List (Code × Pos)) (N t0 : Nat) (A0 A1 A2 A3 A4 A5 k0 k1 k2 k3 k4 ti : Nat) (tm : Int) (lM lS lH lQ : IL) (nM' nS' nH' nQ : Nat) (B0 B1 B2 : Nat) (lq : SL) (nq nr nr' : Nat) (a1 a2 : Int) (at1 at2 : Nat) (au1 au2 : Value) (b1 b2 : Int) (bt1 bt2 : Nat) (bu1 bu2 : Value) : Tab := [some (cdict P k0 k1 k2 k3 k4 (A2+150) (A3+150) (A4+150) (A5+150) tm ti), some (instO (A0+150)), some (idct lM nM'), some (idct lS nS'), some (idct lH nH'), some (idct lQ nQ), some (sdct P lq nq), some (idct [(a1, at1, au1), (a2, at2, au2)] nr), some (idct [(b1, bt1, bu1), (b2, bt2, bu2)] nr')]
def e22_X (P : Params) (b : Bool) (prog : Program) (p : Pos) (bl : List (Code × Pos)) (N t0 : Nat) (A0 A1 A2 A3 A4 A5 k0 k1 k2 k3 k4 ti : Nat) (tm : Int) (lM lS lH lQ : IL) (nM' nS' nH' nQ : Nat) (B0 B1 B2 : Nat) (lq : SL) (nq nr nr' : Nat) (a1 a2 : Int) (at1 at2 : Nat) (au1 au2 : Value) (b1 b2 : Int) (bt1 bt2 : Nat) (bu1 bu2 : Value) : Out Flow := (run ⟨prog, swP P b, Mine.hz.ktop_302 P, N+150, t0, [A0+150, A1+150, A2+150, A3+150, A4+150, A5+150, B0+150, B1+150, B2+150]⟩ 100000).c (.call (.ref 115) ⟨[(.ref (A1+150))], []⟩) p bl none 0 0 794603896497363341183281048916074752716103562450591876461652457021019841796398457252668150443202384105487886238065276101277001852726278111820472460935619831984444586638083985288678582324164099642554332995737032327585389560757733431931905803169774731210923972706544405934412392116823926563924369324882704961321762095104735804879644461298352014162485824204358370404307421594950336474697871397834810854964281883415619915549052959901952846184180231519367797747945165091224335350657962119970932957186 (e22_S P b prog p bl N t0 A0 A1 A2 A3 A4 A5 k0 k1 k2 k3 k4 ti tm lM lS lH lQ nM' nS' nH' nQ B0 B1 B2 lq nq nr nr' a1 a2 at1 at2 au1 au2 b1 b2 bt1 bt2 bu1 bu2) (e22_T P b prog p bl N t0 A0 A1 A2 A3 A4 A5 k0 k1 k2 k3 k4 ti tm lM lS lH lQ nM' nS' nH' nQ B0 B1 B2 lq nq nr nr' a1 a2 at1 at2 au1 au2 b1 b2 bt1 bt2 bu1 bu2) 0 0 []
def e22_L (P : Params) (b : Bool) (prog : Program) (p : Pos) (bl : List (Code × Pos)) (N t0 : Nat) (A0 A1 A2 A3 A4 A5 k0 k1 k2 k3 k4 ti : Nat) (tm : Int) (lM lS lH lQ : IL) (nM' nS' nH' nQ : Nat) (B0 B1 B2 : Nat) (lq : SL) (nq nr nr' : Nat) (a1 a2 : Int) (at1 at2 : Nat) (au1 au2 : Value) (b1 b2 : Int) (bt1 bt2 : Nat) (bu1 bu2 : Value) := look [0, 1, 2, 3, 4, 5, 6, 7, 8] (e22_X P b prog p bl N t0 A0 A1 A2 A3 A4 A5 k0 k1 k2 k3 k4 ti tm lM lS lH lQ nM' nS' nH' nQ B0 B1 B2 lq nq nr nr' a1 a2 at1 at2 au1 au2 b1 b2 bt1 bt2 bu1 bu2)
def e22_R (P : Params) (b : Bool) (prog : Program) (p : Pos) (bl : List (Code × Pos)) (N t0 : Nat) (A0 A1 A2 A3 A4 A5 k0 k1 k2 k3 k4 ti : Nat) (tm : Int) (lM lS lH lQ : IL) (nM' nS' nH' nQ : Nat) (B0 B1 B2 : Nat) (lq : SL) (nq nr nr' : Nat) (a1 a2 : Int) (at1 at2 : Nat) (au1 au2 : Value) (b1 b2 : Int) (bt1 bt2 : Nat) (bu1 bu2 : Value) : Option (Except Value Flow × List (Option Obj) × Nat × Nat × List Ob) := some ((.ok (.ret .none)), [some (cdict P k0 k1 k2 k3 k4 (A2+150) (A3+150) (A4+150) (A5+150) (tm+1) (t0+33)), some (instO (A0+150)), some (idct (rem (rem lM b1) b2) ((nM' + 1) + 1)), some (idct (rem (rem lS a1) a2) ((nS' + 1) + 1)), some (idct lH nH'), some (idct (rem lQ tm) (nQ + 1)), some (sdct P lq nq), some (idct [(a1, at1, au1), (a2, at2, au2)] nr), some (idct [(b1, bt1, bu1), (b2, bt2, bu2)] nr')], 7, 36, obsOf (e22_X P b prog p bl N t0 A0 A1 A2 A3 A4 A5 k0 k1 k2 k3 k4 ti tm lM lS lH lQ nM' nS' nH' nQ B0 B1 B2 lq nq nr nr' a1 a2 at1 at2 au1 au2 b1 b2 bt1 bt2 bu1 bu2))
theorem e22_L0 : @e22_L = e22_L := rfl
theorem e22_R0 : @e22_R = e22_R := rfl
lay_z Mine.e22_L Mine.e22_R
name_z e22LZ for Mine.e22_L by Mine.e22_L0
name_z e22RZ for Mine.e22_R by Mine.e22_R0
theorem e22_ok (P : Params) (b : Bool) (prog : Program) (p : Pos) (bl : List (Code × Pos)) (N t0 : Nat) (A0 A1 A2 A3 A4 A5 k0 k1 k2 k3 k4 ti : Nat) (tm : Int) (lM lS lH lQ : IL) (nM' nS' nH' nQ : Nat) (B0 B1 B2 : Nat) (lq : SL) (nq nr nr' : Nat) (a1 a2 : Int) (at1 at2 : Nat) (au1 au2 : Value) (b1 b2 : Int) (bt1 bt2 : Nat) (bu1 bu2 : Value) : e22_L P b prog p bl N t0 A0 A1 A2 A3 A4 A5 k0 k1 k2 k3 k4 ti tm lM lS lH lQ nM' nS' nH' nQ B0 B1 B2 lq nq nr nr' a1 a2 at1 at2 au1 au2 b1 b2 bt1 bt2 bu1 bu2 = e22_R P b prog p bl N t0 A0 A1 A2 A3 A4 A5 k0 k1 k2 k3 k4 ti tm lM lS lH lQ nM' nS' nH' nQ B0 B1 B2 lq nq nr nr' a1 a2 at1 at2 au1 au2 b1 b2 bt1 bt2 bu1 bu2 := by
  rw [PySem.W.ZFast.e22LZ_eq, PySem.W.ZFast.e22RZ_eq]
  cases b <;> kernel_rfl!

def e23_S (P : Params) (b : Bool) (prog : Program) (p : Pos) (bl : List (Code × Pos)) (N t0 : Nat) (A0 A1 A2 A3 A4 A5 k0 k1 k2 k3 k4 ti : Nat) (tm : Int) (lM lS lH lQ : IL) (nM' nS' nH' nQ : Nat) (B0 B1 B2 : Nat) (lq : SL) (nq nr nr' : Nat) (a1 a2 : Int) (at1 at2 : Nat) (au1 au2 : Value) (b1 b2 b3 : Int) (bt1 bt2 bt3 : Nat) (bu1 bu2 bu3 : Value) : List Sm := [mkSm t0 (.hasI 5 (A5+150) lQ nQ tm ti true), mkSm t0 (.getI 5 (A5+150) lQ nQ tm ti (.ref (B0+150))), mkSm t0 (.hasS P 6 (B0+150) lq nq nS (t0+8) true), mkSm t0 (.getS P 6 (B0+150) lq nq nS (t0+10) (.ref (B1+150))), mkSm t0 (.knext 10 (N+150+1) 7 (B1+150) [(a1, at1, au1), (a2, at2, au2)] nr 0 a1 at1), mkSm t0 (.delI 3 (A3+150) lS nS' a1 at1), mkSm t0 (.knext 10 (N+150+1) 7 (B1+150) [(a1, at1, au1), (a2, at2, au2)] nr 1 a2 at2), mkSm t0 (.delI 3 (A3+150) (rem lS a1) (nS' + 1) a2 at2), mkSm t0 (.kend 10 (N+150+1) 7 (B1+150) (N+150) [(a1, at1, au1), (a2, at2, au2)] nr), mkSm t0 (.hasS P 6 (B0+150) lq nq nM (t0+18) true), mkSm t0 (.getS P 6 (B0+150) lq nq nM (t0+20) (.ref (B2+150))), mkSm t0 (.knext 13 (N+150+4) 8 (B2+150) [(b1, bt1, bu1), (b2, bt2, bu2), (b3, bt3, bu3)] nr' 0 b1 bt1), mkSm t0 (.delI 2 (A2+150) lM nM' b1 bt1), mkSm t0 (.knext 13 (N+150+4) 8 (B2+150) [(b1, bt1, bu1), (b2, bt2, bu2), (b3, bt3, bu3)] nr' 1 b2 bt2), mkSm t0 (.delI 2 (A2+150) (rem lM b1) (nM' + 1) b2 bt2), mkSm t0 (.knext 13 (N+150+4) 8 (B2+150) [(b1, bt1, bu1), (b2, bt2, bu2), (b3, bt3, bu3)] nr' 2 b3 bt3), mkSm t0 (.delI 2 (A2+150) (rem (rem lM b1) b2) ((nM' + 1) + 1) b3 bt3), mkSm t0 (.kend 13 (N+150+4) 8 (B2+150) (N+150) [(b1, bt1, bu1), (b2, bt2, bu2), (b3, bt3, bu3)] nr'), mkSm t0 (.delI 5 (A5+150) lQ nQ tm ti)]
def e23_T (P : Params) (b : Bool) (prog : Program) (p : Pos) (bl : List (Code × Pos)) (N t0 : Nat) (A0 A1 A2 A3 A4 A5 k0 k1 k2 k3 k4 ti : Nat) (tm : Int) (lM lS lH lQ : IL) (nM' nS' nH' nQ : Nat) (B0 B1 B2 : Nat) (lq : SL) (nq nr nr' : Nat) (a1 a2 : Int) (at1 at2 : Nat) (au1 au2 : Value) (b1 b2 b3 : Int) (bt1 bt2 bt3 : Nat) (bu1 bu2 bu3 : Value) : Tab := [some (cdict P k0 k1 k2 k3 k4 (A2+150) (A3+150) (A4+150) (A5+150) tm ti), some (instO (A0+150)), some (idct lM nM'), some (idct lS nS'), some (idct lH nH'), some (idct lQ nQ), some (sdct P lq nq), some (idct [(a1, at1, au1), (a2, at2, au2)] nr), some (idct [(b1, bt1, bu1), (b2, bt2, bu2), (b3, bt3, bu3)] nr')]
def e23_X (P : Params) (b : Bool) (prog : Program) (p : Pos) (bl : List (Code × Pos)) (N t0 : Nat) (A0 A1 A2 A3 A4 A5 k0 k1 k2 k3 k4 ti : Nat) (tm : Int) (lM lS lH lQ : IL) (nM' nS' nH' nQ : Nat) (B0 B1 B2 : Nat) (lq : SL) (nq nr nr' : Nat) (a1 a2 : Int) (at1 at2 : Nat) (au1 au2 : Value) (b1 b2 b3 : Int) (bt1 bt2 bt3 : Nat) (bu1 bu2 bu3 : Value) : Out Flow := (run ⟨prog, swP P b, Mine.hz.ktop_302 P, N+150, t0, [A0+150, A1+150, A2+150, A3+150, A4+150, A5+150, B0+150, B1+150, B2+150]⟩ 100000).c (.call (.ref 115) ⟨[(.ref (A1+150))], []⟩) p bl none 0 0 276879047336676558849847564854495458034220266645206150837804356345629201069986346824003767575902434337640677204796738138612740306225754848073049374646278283701456330925981389125797465445221462023848728920596639275840176006712314052297458149906044581034354135229615336341019058488679475884183915915341766900891343307305909593876212448542102110589935981574723520321592833340931651682723700196421736190293144447581147095573268746362936240221375566829704915514104375868844122342479099656569480238972452201898018523689695872554574870913523714 (e23_S P b prog p bl N t0 A0 A1 A2 A3 A4 A5 k0 k1 k2 k3 k4 ti tm lM lS lH lQ nM' nS' nH' nQ B0 B1 B2 lq nq nr nr' a1 a2 at1 at2 au1 au2 b1 b2 b3 bt1 bt2 bt3 bu1 bu2 bu3) (e23_T P b prog p bl N t0 A0 A1 A2 A3 A4 A5 k0 k1 k2 k3 k4 ti tm lM lS lH lQ nM' nS' nH' nQ B0 B1 B2 lq nq nr nr' a1 a2 at1 at2 au1 au2 b1 b2 b3 bt1 bt2 bt3 bu1 bu2 bu3) 0 0 []
def e23_L (P : Params) (b : Bool) (prog : Program) (p : Pos) (bl : List (Code × Pos)) (N t0 : Nat) (A0 A1 A2 A3 A4 A5 k0 k1 k2 k3 k4 ti : Nat) (tm : Int) (lM lS lH lQ : IL) (nM' nS' nH' nQ : Nat) (B0 B1 B2 : Nat) (lq : SL) (nq nr nr' : Nat) (a1 a2 : Int) (at1 at2 : Nat) (au1 au2 : Value) (b1 b2 b3 : Int) (bt1 bt2 bt3 : Nat) (bu1 bu2 bu3 : Value) := look [0, 1, 2, 3, 4, 5, 6, 7, 8] (e23_X P b prog p bl N t0 A0 A1 A2 A3 A4 A5 k0 k1 k2 k3 k4 ti tm lM lS lH lQ nM' nS' nH' nQ B0 B1 B2 lq nq nr nr' a1 a2 at1 at2 au1 au2 b1 b2 b3 bt1 bt2 bt3 bu1 bu2 bu3)
def e23_R (P : Params) (b : Bool) (prog : Program) (p : Pos) (bl : List (Code × Pos)) (N t0 : Nat) (A0 A1 A2 A3 A4 A5 k0 k1 k2 k3 k4 ti : Nat) (tm : Int) (lM lS lH lQ : IL) (nM' nS' nH' nQ : Nat) (B0 B1 B2 : Nat) (lq : SL) (nq nr nr' : Nat) (a1 a2 : Int) (at1 at2 : Nat) (au1 au2 : Value) (b1 b2 b3 : Int) (bt1 bt2 bt3 : Nat) (bu1 bu2 bu3 : Value) : Option (Except Value Flow × List (Option Obj) × Nat × Nat × List Ob) := some ((.ok (.ret .none)), [some (cdict P k0 k1 k2 k3 k4 (A2+150) (A3+150) (A4+150) (A5+150) (tm+1) (t0+36)), some (instO (A0+150)), some (idct (rem (rem (rem lM b1) b2) b3) (((nM' + 1) + 1) + 1)), some (idct (rem (rem lS a1) a2) ((nS' + 1) + 1)), some (idct lH nH'), some (idct (rem lQ tm) (nQ + 1)), some (sdct P lq nq), some (idct [(a1, at1, au1), (a2, at2, au2)] nr), some (idct [(b1, bt1, bu1), (b2, bt2, bu2), (b3, bt3, bu3)] nr')], 7, 39, obsOf (e23_X P b prog p bl N t0 A0 A1 A2 A3 A4 A5 k0 k1 k2 k3 k4 ti tm lM lS lH lQ nM' nS' nH' nQ B0 B1 B2 lq nq nr nr' a1 a2 at1 at2 au1 au2 b1 b2 b3 bt1 bt2 bt3 bu1 bu2 bu3))
theorem e23_L0 : @e23_L = e23_L := rfl
theorem e23_R0 : @e23_R = e23_R := rfl
lay_z Mine.e23_L Mine.e23_R
name_z e23LZ for Mine.e23_L by Mine.e23_L0
name_z e23RZ for Mine.e23_R by Mine.e23_R0
theorem e23_ok (P : Params) (b : Bool) (prog : Program) (p : Pos) (bl : List (Code × Pos)) (N t0 : Nat) (A0 A1 A2 A3 A4 A5 k0 k1 k2 k3 k4 ti : Nat) (tm : Int) (lM lS lH lQ : IL) (nM' nS' nH' nQ : Nat) (B0 B1 B2 : Nat) (lq : SL) (nq nr nr' : Nat) (a1 a2 : Int) (at1 at2 : Nat) (au1 au2 : Value) (b1 b2 b3 : Int) (bt1 bt2 bt3 : Nat) (bu1 bu2 bu3 : Value) : e23_L P b prog p bl N t0 A0 A1 A2 A3 A4 A5 k0 k1 k2 k3 k4 ti tm lM lS lH lQ nM' nS' nH' nQ B0 B1 B2 lq nq nr nr' a1 a2 at1 at2 au1 au2 b1 b2 b3 bt1 bt2 bt3 bu1 bu2 bu3 = e23_R P b prog p bl N t0 A0 A1 A2 A3 A4 A5 k0 k1 k2 k3 k4 ti tm lM lS lH lQ nM' nS' nH' nQ B0 B1 B2 lq nq nr nr' a1 a2 at1 at2 au1 au2 b1 b2 b3 bt1 bt2 bt3 bu1 bu2 bu3 := by
  rw [PySem.W.ZFast.e23LZ_eq, PySem.W.ZFast.e23RZ_eq]
  cases b <;> kernel_rfl!

def e3n_S (P : Params) (b : Bool) (prog : Program) (p : Pos) (bl : List (Code × Pos)) (N t0 : Nat) (A0 A1 A2 A3 A4 A5 k0 k1 k2 k3 k4 ti : Nat) (tm : Int) (lM lS lH lQ : IL) (nM' nS' nH' nQ : Nat) (B0 B1 B2 : Nat) (lq : SL) (nq nr nr' : Nat) (a1 a2 a3 : Int) (at1 at2 at3 : Nat) (au1 au2 au3 : Value) : List Sm := [mkSm t0 (.hasI 5 (A5+150) lQ nQ tm ti true), mkSm t0 (.getI 5 (A5+150) lQ nQ tm ti (.ref (B0+150))), mkSm t0 (.hasS P 6 (B0+150) lq nq nS (t0+8) true), mkSm t0 (.getS P 6 (B0+150) lq nq nS (t0+10) (.ref (B1+150))), mkSm t0 (.knext 9 (N+150+1) 7 (B1+150) [(a1, at1, au1), (a2, at2, au2), (a3, at3, au3)] nr 0 a1 at1), mkSm t0 (.delI 3 (A3+150) lS nS' a1 at1), mkSm t0 (.knext 9 (N+150+1) 7 (B1+150) [(a1, at1, au1), (a2, at2, au2), (a3, at3, au3)] nr 1 a2 at2), mkSm t0 (.delI 3 (A3+150) (rem lS a1) (nS' + 1) a2 at2), mkSm t0 (.knext 9 (N+150+1) 7 (B1+150) [(a1, at1, au1), (a2, at2, au2), (a3, at3, au3)] nr 2 a3 at3), mkSm t0 (.delI 3 (A3+150) (rem (rem lS a1) a2) ((nS' + 1) + 1) a3 at3), mkSm t0 (.kend 9 (N+150+1) 7 (B1+150) (N+150) [(a1, at1, au1), (a2, at2, au2), (a3, at3, au3)] nr), mkSm t0 (.hasS P 6 (B0+150) lq nq nM (t0+21) false), mkSm t0 (.delI 5 (A5+150) lQ nQ tm ti)]
def e3n_T (P : Params) (b : Bool) (prog : Program) (p : Pos) (bl : List (Code × Pos)) (N t0 : Nat) (A0 A1 A2 A3 A4 A5 k0 k1 k2 k3 k4 ti : Nat) (tm : Int) (lM lS lH lQ : IL) (nM' nS' nH' nQ : Nat) (B0 B1 B2 : Nat) (lq : SL) (nq nr nr' : Nat) (a1 a2 a3 : Int) (at1 at2 at3 : Nat) (au1 au2 au3 : Value) : Tab := [some (cdict P k0 k1 k2 k3 k4 (A2+150) (A3+150) (A4+150) (A5+150) tm ti), some (instO (A0+150)), some (idct lM nM'), some (idct lS nS'), some (idct lH nH'), some (idct lQ nQ), some (sdct P lq nq), some (idct [(a1, at1, au1), (a2, at2, au2), (a3, at3, au3)] nr)]
def e3n_X (P : Params) (b : Bool) (prog : Program) (p : Pos) (bl : List (Code × Pos)) (N t0 : Nat) (A0 A1 A2 A3 A4 A5 k0 k1 k2 k3 k4 ti : Nat) (tm : Int) (lM lS lH lQ : IL) (nM' nS' nH' nQ : Nat) (B0 B1 B2 : Nat) (lq : SL) (nq nr nr' : Nat) (a1 a2 a3 : Int) (at1 at2 at3 : Nat) (au1 au2 au3 : Value) : Out Flow := (run ⟨prog, swP P b, Mine.hz.ktop_302 P, N+150, t0, [A0+150, A1+150, A2+150, A3+150, A4+150, A5+150, B0+150, B1+150]⟩ 100000).c (.call (.ref 115) ⟨[(.ref (A1+150))], []⟩) p bl none 0 0 109797330954976799917952276419574973940655904698559474312766527776495510175774175875869299990625727179794407470386847432999237234864060085660765045503532146694933642209998191581097419129241827524510649402744309974385265350554198556952014999137935198117777718527988250530286324723099981502883695440130040662137971418398233559493418478507472604205394768884897338301115578437922291969452965890904029999234036546600412942338 (e3n_S P b prog p bl N t0 A0 A1 A2 A3 A4 A5 k0 k1 k2 k3 k4 ti tm lM lS lH lQ nM' nS' nH' nQ B0 B1 B2 lq nq nr nr' a1 a2 a3 at1 at2 at3 au1 au2 au3) (e3n_T P b prog p bl N t0 A0 A1 A2 A3 A4 A5 k0 k1 k2 k3 k4 ti tm lM lS lH lQ nM' nS' nH' nQ B0 B1 B2 lq nq nr nr' a1 a2 a3 at1 at2 at3 au1 au2 au3) 0 0 []
def e3n_L (P : Params) (b : Bool) (prog : Program) (p : Pos) (bl : List (Code × Pos)) (N t0 : Nat) (A0 A1 A2 A3 A4 A5 k0 k1 k2 k3 k4 ti : Nat) (tm : Int) (lM lS lH lQ : IL) (nM' nS' nH' nQ : Nat) (B0 B1 B2 : Nat) (lq : SL) (nq nr nr' : Nat) (a1 a2 a3 : Int) (at1 at2 at3 : Nat) (au1 au2 au3 : Value) := look [0, 1, 2, 3, 4, 5, 6, 7] (e3n_X P b prog p bl N t0 A0 A1 A2 A3 A4 A5 k0 k1 k2 k3 k4 ti tm lM lS lH lQ nM' nS' nH' nQ B0 B1 B2 lq nq nr nr' a1 a2 a3 at1 at2 at3 au1 au2 au3)
def e3n_R (P : Params) (b : Bool) (prog : Program) (p : Pos) (bl : List (Code × Pos)) (N t0 : Nat) (A0 A1 A2 A3 A4 A5 k0 k1 k2 k3 k4 ti : Nat) (tm : Int) (lM lS lH lQ : IL) (nM' nS' nH' nQ : Nat) (B0 B1 B2 : Nat) (lq : SL) (nq nr nr' : Nat) (a1 a2 a3 : Int) (at1 at2 at3 : Nat) (au1 au2 au3 : Value) : Option (Except Value Flow × List (Option Obj) × Nat × Nat × List Ob) := some ((.ok (.ret .none)), [some (cdict P k0 k1 k2 k3 k4 (A2+150) (A3+150) (A4+150) (A5+150) (tm+1) (t0+28)), some (instO (A0+150)), some (idct lM nM'), some (idct (rem (rem (rem lS a1) a2) a3) (((nS' + 1) + 1) + 1)), some (idct lH nH'), some (idct (rem lQ tm) (nQ + 1)), some (sdct P lq nq), some (idct [(a1, at1, au1), (a2, at2, au2), (a3, at3, au3)] nr)], 4, 31, obsOf (e3n_X P b prog p bl N t0 A0 A1 A2 A3 A4 A5 k0 k1 k2 k3 k4 ti tm lM lS lH lQ nM' nS' nH' nQ B0 B1 B2 lq nq nr nr' a1 a2 a3 at1 at2 at3 au1 au2 au3))
theorem e3n_L0 : @e3n_L = e3n_L := rfl
theorem e3n_R0 : @e3n_R = e3n_R := rfl
lay_z Mine.e3n_L Mine.e3n_R
name_z e3nLZ for Mine.e3n_L by Mine.e3n_L0
name_z e3nRZ for Mine.e3n_R by Mine.e3n_R0
theorem e3n_ok (P : Params) (b : Bool) (prog : Program) (p : Pos) (bl : List (Code × Pos)) (N t0 : Nat) (A0 A1 A2 A3 A4 A5 k0 k1 k2 k3 k4 ti : Nat) (tm : Int) (lM lS lH lQ : IL) (nM' nS' nH' nQ : Nat) (B0 B1 B2 : Nat) (lq : SL) (nq nr nr' : Nat) (a1 a2 a3 : Int) (at1 at2 at3 : Nat) (au1 au2 au3 : Value) : e3n_L P b prog p bl N t0 A0 A1 A2 A3 A4 A5 k0 k1 k2 k3 k4 ti tm lM lS lH lQ nM' nS' nH' nQ B0 B1 B2 lq nq nr nr' a1 a2 a3 at1 at2 at3 au1 au2 au3 = e3n_R P b prog p bl N t0 A0 A1 A2 A3 A4 A5 k0 k1 k2 k3 k4 ti tm lM lS lH lQ nM' nS' nH' nQ B0 B1 B2 lq nq nr nr' a1 a2 a3 at1 at2 at3 au1 au2 au3 := by
  rw [PySem.W.ZFast.e3nLZ_eq, PySem.W.ZFast.e3nRZ_eq]
  cases b <;> kernel_rfl!

def e30_S (P : Params) (b : Bool) (prog : Program) (p : Pos) (bl : List (Code × Pos)) (N t0 : Nat) (A0 A1 A2 A3 A4 A5 k0 k1 k2 k3 k4 ti : Nat) (tm : Int) (lM lS lH lQ : IL) (nM' nS' nH' nQ : Nat) (B0 B1 B2 : Nat) (lq : SL) (nq nr nr' : Nat) (a1 a2 a3 : Int) (at1 at2 at3 : Nat) (au1 au2 au3 : Value) : List Sm := [mkSm t0 (.hasI 5 (A5+150) lQ nQ tm ti true), mkSm t0 (.getI 5 (A5+150) lQ nQ tm ti (.ref (B0+150))), mkSm t0 (.hasS P 6 (B0+150) lq nq nS (t0+8) true), mkSm t0 (.getS P 6 (B0+150) lq nq nS (t0+10) (.ref (B1+150))), mkSm t0 (.knext 10 (N+150+1) 7 (B1+150) [(a1, at1, au1), (a2, at2, au2), (a3, at3, au3)] nr 0 a1 at1), mkSm t0 (.delI 3 (A3+150) lS nS' a1 at1), mkSm t0 (.knext 10 (N+150+1) 7 (B1+150) [(a1, at1, au1), (a2, at2, au2), (a3, at3, au3)] nr 1 a2 at2), mkSm t0 (.delI 3 (A3+150) (rem lS a1) (nS' + 1) a2 at2), mkSm t0 (.knext 10 (N+150+1) 7 (B1+150) [(a1, at1, au1), (a2, at2, au2), (a3, at3, au3)] nr 2 a3 at3), mkSm t0 (.delI 3 (A3+150) (rem (rem lS a1) a2) ((nS' + 1) + 1) a3 at3), mkSm t0 (.kend 10 (N+150+1) 7 (B1+150) (N+150) [(a1, at1, au1), (a2, at2, au2), (a3, at3, au3)] nr), mkSm t0 (.hasS P 6 (B0+150) lq nq nM (t0+21) true), mkSm t0 (.getS P 6 (B0+150) lq nq nM (t0+23) (.ref (B2+150))), mkSm t0 (.kend 13 (N+150+4) 8 (B2+150) (N+150) [] nr'), mkSm t0 (.delI 5 (A5+150) lQ nQ tm ti)]
def e30_T (P : Params) (b : Bool) (prog : Program) (p : Pos) (bl : List (Code × Pos)) (N t0 : Nat) (A0 A1 A2 A3 A4 A5 k0 k1 k2 k3 k4 ti : Nat) (tm : Int) (lM lS lH lQ : IL) (nM' nS' nH' nQ : Nat) (B0 B1 B2 : Nat) (lq : SL) (nq nr nr' : Nat) (a1 a2 a3 : Int) (at1 at2 at3 : Nat) (au1 au2 au3 : Value) : Tab := [some (cdict P k0 k1 k2 k3 k4 (A2+150) (A3+150) (A4+150) (A5+150) tm ti), some (instO (A0+150)), some (idct lM nM'), some (idct lS nS'), some (idct lH nH'), some (idct lQ nQ), some (sdct P lq nq), some (idct [(a1, at1, au1), (a2, at2, au2), (a3, at3, au3)] nr), some (idct [] nr')]
def e30_X (P : Params) (b : Bool) (prog : Program) (p : Pos) (bl : List (Code × Pos)) (N t0 : Nat) (A0 A1 A2 A3 A4 A5 k0 k1 k2 k3 k4 ti : Nat) (tm : Int) (lM lS lH lQ : IL) (nM' nS' nH' nQ : Nat) (B0 B1 B2 : Nat) (lq : SL) (nq nr nr' : Nat) (a1 a2 a3 : Int) (at1 at2 at3 : Nat) (au1 au2 au3 : Value) : Out Flow := (run ⟨prog, swP P b, Mine.hz.ktop_302 P, N+150, t0, [A0+150, A1+150, A2+150, A3+150, A4+150, A5+150, B0+150, B1+150, B2+150]⟩ 100000).c (.call (.ref 115) ⟨[(.ref (A1+150))], []⟩) p bl none 0 0 2280401346372139295242026241488939389970755624395360070084261546845237154086955757253225581018434516106342357098357204426654434974948607381529313573350781171650141514827037707813330778531872374937521435201149650113356095868378631520504216755678073039234542765819551587745776596993088172333834495575107248587094127100022023375682515040338678193845908234396946606878345331232975583714764825099856067519446556978737239721972786917041292096381563621037613058 (e30_S P b prog p bl N t0 A0 A1 A2 A3 A4 A5 k0 k1 k2 k3 k4 ti tm lM lS lH lQ nM' nS' nH' nQ B0 B1 B2 lq nq nr nr' a1 a2 a3 at1 at2 at3 au1 au2 au3) (e30_T P b prog p bl N t0 A0 A1 A2 A3 A4 A5 k0 k1 k2 k3 k4 ti tm lM lS lH lQ nM' nS' nH' nQ B0 B1 B2 lq nq nr nr' a1 a2 a3 at1 at2 at3 au1 au2 au3) 0 0 []
def e30_L (P : Params) (b : Bool) (prog : Program) (p : Pos) (bl : List (Code × Pos)) (N t0 : Nat) (A0 A1 A2 A3 A4 A5 k0 k1 k2 k3 k4 ti : Nat) (tm : Int) (lM lS lH lQ : IL) (nM' nS' nH' nQ : Nat) (B0 B1 B2 : Nat) (lq : SL) (nq nr nr' : Nat) (a1 a2 a3 : Int) (at1 at2 at3 : Nat) (au1 au2 au3 : Value) := look [0, 1, 2, 3, 4, 5, 6, 7, 8] (e30_X P b prog p bl N t0 A0 A1 A2 A3 A4 A5 k0 k1 k2 k3 k4 ti tm lM lS lH lQ nM' nS' nH' nQ B0 B1 B2 lq nq nr nr' a1 a2 a3 at1 at2 at3 au1 au2 au3)
def e30_R (P : Params) (b : Bool) (prog : Program) (p : Pos) (bl : List (Code × Pos)) (N t0 : Nat) (A0 A1 A2 A3 A4 A5 k0 k1 k2 k3 k4 ti : Nat) (tm : Int) (lM lS lH lQ : IL) (nM' nS' nH' nQ : Nat) (B0 B1 B2 : Nat) (lq : SL) (nq nr nr' : Nat) (a1 a2 a3 : Int) (at1 at2 at3 : Nat) (au1 au2 au3 : Value) : Option (Except Value Flow × List (Option Obj) × Nat × Nat × List Ob) := some ((.ok (.ret .none)), [some (cdict P k0 k1 k2 k3 k4 (A2+150) (A3+150) (A4+150) (A5+150) (tm+1) (t0+30)), some (instO (A0+150)), some (idct lM nM'), some (idct (rem (rem (rem lS a1) a2) a3) (((nS' + 1) + 1) + 1)), some (idct lH nH'), some (idct (rem lQ tm) (nQ + 1)), some (sdct P lq nq), some (idct [(a1, at1, au1), (a2, at2, au2), (a3, at3, au3)] nr), some (idct [] nr')], 7, 33, obsOf (e30_X P b prog p bl N t0 A0 A1 A2 A3 A4 A5 k0 k1 k2 k3 k4 ti tm lM lS lH lQ nM' nS' nH' nQ B0 B1 B2 lq nq nr nr' a1 a2 a3 at1 at2 at3 au1 au2 au3))
theorem e30_L0 : @e30_L = e30_L := rfl
theorem e30_R0 : @e30_R = e30_R := rfl
lay_z Mine.e30_L Mine.e30_R
name_z e30LZ for Mine.e30_L by Mine.e30_L0
name_z e30RZ for Mine.e30_R by Mine.e30_R0
theorem e30_ok (P : Params) (b : Bool) (prog : Program) (p : Pos) (bl : List (Code × Pos)) (N t0 : Nat) (A0 A1 A2 A3 A4 A5 k0 k1 k2 k3 k4 ti : Nat) (tm : Int) (lM lS lH lQ : IL) (nM' nS' nH' nQ : Nat) (B0 B1 B2 : Nat) (lq : SL) (nq nr nr' : Nat) (a1 a2 a3 : Int) (at1 at2 at3 : Nat) (au1 au2 au3 : Value) : e30_L P b prog p bl N t0 A0 A1 A2 A3 A4 A5 k0 k1 k2 k3 k4 ti tm lM lS lH lQ nM' nS' nH' nQ B0 B1 B2 lq nq nr nr' a1 a2 a3 at1 at2 at3 au1 au2 au3 = e30_R P b prog p bl N t0 A0 A1 A2 A3 A4 A5 k0 k1 k2 k3 k4 ti tm lM lS lH lQ nM' nS' nH' nQ B0 B1 B2 lq nq nr nr' a1 a2 a3 at1 at2 at3 au1 au2 au3 := by
  rw [PySem.W.ZFast.e30LZ_eq, PySem.W.ZFast.e30RZ_eq]
  cases b <;> kernel_rfl!

def e31_S (P : Params) (b : Bool) (prog : Program) (p : Pos) (bl : List (Code × Pos)) (N t0 : Nat) (A0 A1 A2 A3 A4 A5 k0 k1 k2 k3 k4 ti : Nat) (tm : Int) (lM lS lH lQ : IL) (nM' nS' nH' nQ : Nat) (B0 B1 B2 : Nat) (lq : SL) (nq nr nr' : Nat) (a1 a2 a3 : Int) (at1 at2 at3 : Nat) (au1 au2 au3 : Value) (b1 : Int) (bt1 : Nat) (bu1 : Value) : List Sm := [mkSm t0 (.hasI 5 (A5+150) lQ nQ tm ti true), mkSm t0 (.getI 5 (A5+150) lQ nQ tm ti (.ref (B0+150))), mkSm t0 (.hasS P 6 (B0+150) lq nq nS (t0+8) true), mkSm t0 (.getS P 6 (B0+150) lq nq nS (t0+10) (.ref (B1+150))), mkSm t0 (.knext 10 (N+150+1) 7 (B1+150) [(a1, at1, au1), (a2, at2, au2), (a3, at3, au3)] nr 0 a1 at1), mkSm t0 (.delI 3 (A3+150) lS nS' a1 at1), mkSm t0 (.knext 10 (N+150+1) 7 (B1+150) [(a1, at1, au1), (a2, at2, au2), (a3, at3, au3)] nr 1 a2 at2), mkSm t0 (.delI 3 (A3+150) (rem lS a1) (nS' + 1) a2 at2), mkSm t0 (.knext 10 (N+150+1) 7 (B1+150) [(a1, at1, au1), (a2, at2, au2), (a3, at3, au3)] nr 2 a3 at3), mkSm t0 (.delI 3 (A3+150) (rem (rem lS a1) a2) ((nS' + 1) + 1) a3 at3), mkSm t0 (.kend 10 (N+150+1) 7 (B1+150) (N+150) [(a1, at1, au1), (a2, at2, au2), (a3, at3, au3)] nr), mkSm t0 (.hasS P 6 (B0+150) lq nq nM (t0+21) true), mkSm t0 (.getS P 6 (B0+150) lq nq nM (t0+23) (.ref (B2+150))), mkSm t0 (.knext 13 (N+150+4) 8 (B2+150) [(b1, bt1, bu1)] nr' 0 b1 bt1), mkSm t0 (.delI 2 (A2+150) lM nM' b1 bt1), mkSm t0 (.kend 13 (N+150+4) 8 (B2+150) (N+150) [(b1, bt1, bu1)] nr'), mkSm t0 (.delI 5 (A5+150) lQ nQ tm ti)]
def e31_T (P : Params) (b : Bool) (prog : Program) (p : Pos) (bl : List (Code × Pos)) (N t0 : Nat) (A0 A1 A2 A3 A4 A5 k0 k1 k2 k3 k4 ti : Nat) (tm : Int) (lM lS lH lQ : IL) (nM' nS' nH' nQ : Nat) (B0 B1 B2 : Nat) (lq : SL) (nq nr nr' : Nat) (a1 a2 a3 : Int) (at1 at2 at3 : Nat) (au1 au2 au3 : Value) (b1 : Int) (bt1 : Nat) (bu1 : Value) : Tab := [some (cdict P k0 k1 k2 k3 k4 (A2+150) (A3+150) (A4+150) (A5+150) tm ti), some (instO (A0+150)), some (idct lM nM'), some (idct lS nS'), some (idct lH nH'), some (idct lQ nQ), some (sdct P lq nq), some (idct [(a1, at1, au1), (a2, at2, au2), (a3, at3, au3)] nr), some (idct [(b1, bt1, bu1)] nr')]
def e31_X (P : Params) (b : Bool) (prog : Program) (p : Pos) (bl : List (Code × Pos)) (N t0 : Nat) (A0 A1 A2 A3 A4 A5 k0 k1 k2 k3 k4 ti : Nat) (tm : Int) (lM lS lH lQ : IL) (nM' nS' nH' nQ : Nat) (B0 B1 B2 : Nat) (lq : SL) (nq nr nr' : Nat) (a1 a2 a3 : Int) (at1 at2 at3 : Nat) (au1 au2 au3 : Value) (b1 : Int) (bt1 : Nat) (bu1 : Value) : Out Flow := (run ⟨prog, swP P b, Mine.hz.ktop_302 P, N+150, t0, [A0+150, A1+150, A2+150, A3+150, A4+150, A5+150, B0+150, B1+150, B2+150]⟩ 100000).c (.call (.ref 115) ⟨[(.ref (A1+150))], []⟩) p bl none 0 0 794603896497363341183281048916074752716103562450591876461652457021019841796398457252668150443202384105487886238065276101277001852726278111820472460935619831984444586638253617302082861295097012205337038677890593053881598586792670870305506576183161238342104890263032830962815843671169341070101821161472273973940905839495976540084468696178547495428452236728922132500528010793764196569535420834097341941216059011019859482402173846970978838186607461137561139760743712184255575876874207028889120186370 (e31_S P b prog p bl N t0 A0 A1 A2 A3 A4 A5 k0 k1 k2 k3 k4 ti tm lM lS lH lQ nM' nS' nH' nQ B0 B1 B2 lq nq nr nr' a1 a2 a3 at1 at2 at3 au1 au2 au3 b1 bt1 bu1) (e31_T P b prog p bl N t0 A0 A1 A2 A3 A4 A5 k0 k1 k2 k3 k4 ti tm lM lS lH lQ nM' nS' nH' nQ B0 B1 B2 lq nq nr nr' a1 a2 a3 at1 at2 at3 au1 au2 au3 b1 bt1 bu1) 0 0 []
def e31_L (P : Params) (b : Bool) (prog : Program) (p : Pos) (bl : List (Code × Pos)) (N t0 : Nat) (A0 A1 A2 A3 A4 A5 k0 k1 k2 k3 k4 ti : Nat) (tm : Int) (lM lS lH lQ : IL) (nM' nS' nH' nQ : Nat) (B0 B1 B2 : Nat) (lq : SL) (nq nr nr' : Nat) (a1 a2 a3 : Int) (at1 at2 at3 : Nat) (au1 au2 au3 : Value) (b1 : Int) (bt1 : Nat) (bu1 : Value) := look [0, 1, 2, 3, 4, 5, 6, 7, 8] (e31_X P b prog p bl N t0 A0 A1 A2 A3 A4 A5 k0 k1 k2 k3 k4 ti tm lM lS lH lQ nM' nS' nH' nQ B0 B1 B2 lq nq nr nr' a1 a2 a3 at1 at2 at3 au1 au2 au3 b1 bt1 bu1)
def e31_R (P : Params) (b : Bool) (prog : Program) (p : Pos) (bl : List (Code × Pos)) (N t0 : Nat) (A0 A1 A2 A3 A4 A5 k0 k1 k2 k3 k4 ti : Nat) (tm : Int) (lM lS lH lQ : IL) (nM' nS' nH' nQ : Nat) (B0 B1 B2 : Nat) (lq : SL) (nq nr nr' : Nat) (a1 a2 a3 : Int) (at1 at2 at3 : Nat) (au1 au2 au3 : Value) (b1 : Int) (bt1 : Nat) (bu1 : Value) : Option (Except Value Flow × List (Option Obj) × Nat × Nat × List Ob) := some ((.ok (.ret .none)), [some (cdict P k0 k1 k2 k3 k4 (A2+150) (A3+150) (A4+150) (A5+150) (tm+1) (t0+33)), some (instO (A0+150)), some (idct (rem lM b1) (nM' + 1)), some (idct (rem (rem (rem lS a1) a2) a3) (((nS' + 1) + 1) + 1)), some (idct lH nH'), some (idct (rem lQ tm) (nQ + 1)), some (sdct P lq nq), some (idct [(a1, at1, au1), (a2, at2, au2), (a3, at3, au3)] nr), some (idct [(b1, bt1, bu1)] nr')], 7, 36, obsOf (e31_X P b prog p bl N t0 A0 A1 A2 A3 A4 A5 k0 k1 k2 k3 k4 ti tm lM lS lH lQ nM' nS' nH' nQ B0 B1 B2 lq nq nr nr' a1 a2 a3 at1 at2 at3 au1 au2 au3 b1 bt1 bu1))
theorem e31_L0 : @e31_L = e31_L := rfl
theorem e31_R0 : @e31_R = e31_R := rfl
lay_z Mine.e31_L Mine.e31_R
name_z e31LZ for Mine.e31_L by Mine.e31_L0
name_z e31RZ for Mine.e31_R by Mine.e31_R0
theorem e31_ok (P : Params) (b : Bool) (prog : Program) (p : Pos) (bl : List (Code × Pos)) (N t0 : Nat) (A0 A1 A2 A3 A4 A5 k0 k1 k2 k3 k4 ti : Nat) (tm : Int) (lM lS lH lQ : IL) (nM' nS' nH' nQ : Nat) (B0 B1 B2 : Nat) (lq : SL) (nq nr nr' : Nat) (a1 a2 a3 : Int) (at1 at2 at3 : Nat) (au1 au2 au3 : Value) (b1 : Int) (bt1 : Nat) (bu1 : Value) : e31_L P b prog p bl N t0 A0 A1 A2 A3 A4 A5 k0 k1 k2 k3 k4 ti tm lM lS lH lQ nM' nS' nH' nQ B0 B1 B2 lq nq nr nr' a1 a2 a3 at1 at2 at3 au1 au2 au3 b1 bt1 bu1 = e31_R P b prog p bl N t0 A0 A1 A2 A3 A4 A5 k0 k1 k2 k3 k4 ti tm lM lS lH lQ nM' nS' nH' nQ B0 B1 B2 lq nq nr nr' a1 a2 a3 at1 at2 at3 au1 au2 au3 b1 bt1 bu1 := by
  rw [PySem.W.ZFast.e31LZ_eq, PySem.W.ZFast.e31RZ_eq]
  cases b <;> kernel_rfl!

def e32_S (P : Params) (b : Bool) (prog : Program) (p : Pos) (bl : List (Code × Pos)) (N t0 : Nat) (A0 A1 A2 A3 A4 A5 k0 k1 k2 k3 k4 ti : Nat) (tm : Int) (lM lS lH lQ : IL) (nM' nS' nH' nQ : Nat) (B0 B1 B2 : Nat) (lq : SL) (nq nr nr' : Nat) (a1 a2 a3 : Int) (at1 at2 at3 : Nat) (au1 au2 au3 : Value) (b1 b2 : Int) (bt1 bt2 : Nat) (bu1 bu2 : Value) : List Sm := [mkSm t0 (.hasI 5 (A5+150) lQ nQ tm ti true), mkSm t0 (.getI 5 (A5+150) lQ nQ tm ti (.ref (B0+150))), mkSm t0 (.hasS P 6 (B0+150) lq nq nS (t0+8) true), mkSm t0 (.getS P 6 (B0+150) lq nq nS (t0+10) (.ref (B1+150))), mkSm t0 (.knext 10 (N+150+1) 7 (B1+150) [(a1, at1, au1), (a2, at2, au2), (a3, at3, au3)] nr 0 a1 at1), mkSm t0 (.delI 3 (A3+150) lS nS' a1 at1), mkSm t0 (.knext 10 (N+150+1) 7 (B1+150) [(a1, at1, au1), (a2, at2, au2), (a3, at3, au3)] nr 1 a2 at2), mkSm t0 (.delI 3 (A3+150) (rem lS a1) (nS' + 1) a2 at2), mkSm t0 (.knext 10 (N+150+1) 7 (B1+150) [(a1, at1, au1), (a2, at2, au2), (a3, at3, au3)] nr 2 a3 at3), mkSm t0 (.delI 3 (A3+150) (rem (rem lS a1) a2) ((nS' + 1) + 1) a3 at3), mkSm t0 (.kend 10 (N+150+1) 7 (B1+150) (N+150) [(a1, at1, au1), (a2, at2, au2), (a3, at3, au3)] nr), mkSm t0 (.hasS P 6 (B0+150) lq nq nM (t0+21) true), mkSm t0 (.getS P 6 (B0+150) lq nq nM (t0+23) (.ref (B2+150))), mkSm t0 (.knext 13 (N+150+4) 8 (B2+150) [(b1, bt1, bu1), (b2, bt2, bu2)] nr' 0 b1 bt1), mkSm t0 (.delI 2 (A2+150) lM nM' b1 bt1), mkSm t0 (.knext 13 (N+150+4) 8 (B2+150) [(b1, bt1, bu1), (b2, bt2, bu2)] nr' 1 b2 bt2), mkSm t0 (.delI 2 (A2+150) (rem lM b1) (nM' + 1) b2 bt2), mkSm t0 (.kend 13 (N+150+4) 8 (B2+150) (N+150) [(b1, bt1, bu1), (b2, bt2, bu2)] nr'), mkSm t0 (.delI 5 (A5+150) lQ nQ tm ti)]
def e32_T (P : Params) (b : Bool) (prog : Program) (p : Pos) (bl : List (Code × Pos)) (N t0 : Nat) (A0 A1 A2 A3 A4 A5 k0 k1 k2 k3 k4 ti : Nat) (tm : Int) (lM lS lH lQ : IL) (nM' nS' nH' nQ : Nat) (B0 B1 B2 : Nat) (lq : SL) (nq nr nr' : Nat) (a1 a2 a3 : Int) (at1 at2 at3 : Nat) (au1 au2 au3 : Value) (b1 b2 : Int) (bt1 bt2 : Nat) (bu1 bu2 : Value) : Tab := [some (cdict P k0 k1 k2 k3 k4 (A2+150) (A3+150) (A4+150) (A5+150) tm ti), some (instO (A0+150)), some (idct lM nM'), some (idct lS nS'), some (idct lH nH'), some (idct lQ nQ), some (sdct P lq nq), some (idct [(a1, at1, au1), (a2, at2, au2), (a3, at3, au3)] nr), some (idct [(b1, bt1, bu1), (b2, bt2, bu2)] nr')]
def e32_X (P : Params) (b : Bool) (prog : Program) (p : Pos) (bl : List (Code × Pos)) (N t0 : Nat) (A0 A1 A2 A3 A4 A5 k0 k1 k2 k3 k4 ti : Nat) (tm : Int) (lM lS lH lQ : IL) (nM' nS' nH' nQ : Nat) (B0 B1 B2 : Nat) (lq : SL) (nq nr nr' : Nat) (a1 a2 a3 : Int) (at1 at2 at3 : Nat) (au1 au2 au3 : Value) (b1 b2 : Int) (bt1 bt2 : Nat) (bu1 bu2 : Value) : Out Flow := (run ⟨prog, swP P b, Mine.hz.ktop_302 P, N+150, t0, [A0+150, A1+150, A2+150, A3+150, A4+150, A5+150, B0+150, B1+150, B2+150]⟩ 100000).c (.call (.ref 115) ⟨[(.ref (A1+150))], []⟩) p bl none 0 0 276879047336676558849847564854495458034220266645206150837804356345629201069986346824003767575902434337640677204796738138612740306225754848073049374646278283701456330925981389125797465445221462023848728920596639445472189410991284985210020932611726734595080431438641371278457432089452489270691047096259323389316371710757463939290718625993938700158948600718467911562328038165166531878204966162834260754055240668170345909433363583912372502752461818606832519753671228989731191368471102083799098432314465000445111554930222088799483789100752898 (e32_S P b prog p bl N t0 A0 A1 A2 A3 A4 A5 k0 k1 k2 k3 k4 ti tm lM lS lH lQ nM' nS' nH' nQ B0 B1 B2 lq nq nr nr' a1 a2 a3 at1 at2 at3 au1 au2 au3 b1 b2 bt1 bt2 bu1 bu2) (e32_T P b prog p bl N t0 A0 A1 A2 A3 A4 A5 k0 k1 k2 k3 k4 ti tm lM lS lH lQ nM' nS' nH' nQ B0 B1 B2 lq nq nr nr' a1 a2 a3 at1 at2 at3 au1 au2 au3 b1 b2 bt1 bt2 bu1 bu2) 0 0 []
def e32_L (P : Params) (b : Bool) (prog : Program) (p : Pos) (bl : List (Code × Pos)) (N t0 : Nat) (A0 A1 A2 A3 A4 A5 k0 k1 k2 k3 k4 ti : Nat) (tm : Int) (lM lS lH lQ : IL) (nM' nS' nH' nQ : Nat) (B0 B1 B2 : Nat) (lq : SL) (nq nr nr' : Nat) (a1 a2 a3 : Int) (at1 at2 at3 : Nat) (au1 au2 au3 : Value) (b1 b2 : Int) (bt1 bt2 : Nat) (bu1 bu2 : Value) := look [0, 1, 2, 3, 4, 5, 6, 7, 8] (e32_X P b prog p bl N t0 A0 A1 A2 A3 A4 A5 k0 k1 k2 k3 k4 ti tm lM lS lH lQ nM' nS' nH' nQ B0 B1 B2 lq nq nr nr' a1 a2 a3 at1 at2 at3 au1 au2 au3 b1 b2 bt1 bt2 bu1 bu2)
def e32_R (P : Params) (b : Bool) (prog : Program) (p : Pos) (bl : List (Code × Pos)) (N t0 : Nat) (A0 A1 A2 A3 A4 A5 k0 k1 k2 k3 k4 ti : Nat) (tm : Int) (lM lS lH lQ : IL) (nM' nS' nH' nQ : Nat) (B0 B1 B2 : Nat) (lq : SL) (nq nr nr' : Nat) (a1 a2 a3 : Int) (at1 at2 at3 : Nat) (au1 au2 au3 : Value) (b1 b2 : Int) (bt1 bt2 : Nat) (bu1 bu2 : Value) : Option (Except Value Flow × List (Option Obj) × Nat × Nat × List Ob) := some ((.ok (.ret .none)), [some (cdict P k0 k1 k2 k3 k4 (A2+150) (A3+150) (A4+150) (A5+150) (tm+1) (t0+36)), some (instO (A0+150)), some (idct (rem (rem lM b1) b2) ((nM' + 1) + 1)), some (idct (rem (rem (rem lS a1) a2) a3) (((nS' + 1) + 1) + 1)), some (idct lH nH'), some (idct (rem lQ tm) (nQ + 1)), some (sdct P lq nq), some (idct [(a1, at1, au1), (a2, at2, au2), (a3, at3, au3)] nr), some (idct [(b1, bt1, bu1), (b2, bt2, bu2)] nr')], 7, 39, obsOf (e32_X P b prog p bl N t0 A0 A1 A2 A3 A4 A5 k0 k1 k2 k3 k4 ti tm lM lS lH lQ nM' nS' nH' nQ B0 B1 B2 lq nq nr nr' a1 a2 a3 at1 at2 at3 au1 au2 au3 b1 b2 bt1 bt2 bu1 bu2))
theorem e32_L0 : @e32_L = e32_L := rfl
theorem e32_R0 : @e32_R = e32_R := rfl
lay_z Mine.e32_L Mine.e32_R
name_z e32LZ for Mine.e32_L by Mine.e32_L0
name_z e32RZ for Mine.e32_R by Mine.e32_R0
theorem e32_ok (P : Params) (b : Bool) (prog : Program) (p : Pos) (bl : List (Code × Pos)) (N t0 : Nat) (A0 A1 A2 A3 A4 A5 k0 k1 k2 k3 k4 ti : Nat) (tm : Int) (lM lS lH lQ : IL) (nM' nS' nH' nQ : Nat) (B0 B1 B2 : Nat) (lq : SL) (nq nr nr' : Nat) (a1 a2 a3 : Int) (at1 at2 at3 : Nat) (au1 au2 au3 : Value) (b1 b2 : Int) (bt1 bt2 : Nat) (bu1 bu2 : Value) : e32_L P b prog p bl N t0 A0 A1 A2 A3 A4 A5 k0 k1 k2 k3 k4 ti tm lM lS lH lQ nM' nS' nH' nQ B0 B1 B2 lq nq nr nr' a1 a2 a3 at1 at2 at3 au1 au2 au3 b1 b2 bt1 bt2 bu1 bu2 = e32_R P b prog p bl N t0 A0 A1 A2 A3 A4 A5 k0 k1 k2 k3 k4 ti tm lM lS lH lQ nM' nS' nH' nQ B0 B1 B2 lq nq nr nr' a1 a2 a3 at1 at2 at3 au1 au2 au3 b1 b2 bt1 bt2 bu1 bu2 := by
  rw [PySem.W.ZFast.e32LZ_eq, PySem.W.ZFast.e32RZ_eq]
  cases b <;> kernel_rfl!

def e33_S (P : Params) (b : Bool) (prog : Program) (p : Pos) (bl : List (Code × Pos)) (N t0 : Nat) (A0 A1 A2 A3 A4 A5 k0 k1 k2 k3 k4 ti : Nat) (tm : Int) (lM lS lH lQ : IL) (nM' nS' nH' nQ : Nat) (B0 B1 B2 : Nat) (lq : SL) (nq nr nr' : Nat) (a1 a2 a3 : Int) (at1 at2 at3 : Nat) (au1 au2 au3 : Value) (b1 b2 b3 : Int) (bt1 bt2 bt3 : Nat) (bu1 bu2 bu3 : Value) : List Sm := [mkSm t0 (.hasI 5 (A5+150) lQ nQ tm ti true), mkSm t0 (.getI 5 (A5+150) lQ nQ tm ti (.ref (B0+150))), mkSm t0 (.hasS P 6 (B0+150) lq nq nS (t0+8) true), mkSm t0 (.getS P 6 (B0+150) lq nq nS (t0+10) (.ref (B1+150))), mkSm t0 (.knext 10 (N+150+1) 7 (B1+150) [(a1, at1, au1), (a2, at2, au2), (a3, at3, au3)] nr 0 a1 at1), mkSm t0 (.delI 3 (A3+150) lS nS' a1 at1), mkSm t0 (.knext 10 (N+150+1) 7 (B1+150) [(a1, at1, au1), (a2, at2, au2), (a3, at3, au3)] nr 1 a2 at2), mkSm t0 (.delI 3 (A3+150) (rem lS a1) (nS' + 1) a2 at2), mkSm t0 (.knext 10 (N+150+1) 7 (B1+150) [(a1, at1, au1), (a2, at2, au2), (a3, at3, au3)] nr 2 a3 at3), mkSm t0 (.delI 3 (A3+150) (rem (rem lS a1) a2) ((nS' + 1) + 1) a3 at3), mkSm t0 (.kend 10 (N+150+1) 7 (B1+150) (N+150) [(a1, at1, au1), (a2, at2, au2), (a3, at3, au3)] nr), mkSm t0 (.hasS P 6 (B0+150) lq nq nM (t0+21) true), mkSm t0 (.getS P 6 (B0+150) lq nq nM (t0+23) (.ref (B2+150))), mkSm t0 (.knext 13 (N+150+4) 8 (B2+150) [(b1, bt1, bu1), (b2, bt2, bu2), (b3, bt3, bu3)] nr' 0 b1 bt1), mkSm t0 (.delI 2 (A2+150) lM nM' b1 bt1), mkSm t0 (.knext 13 (N+150+4) 8 (B2+150) [(b1, bt1, bu1), (b2, bt2, bu2), (b3, bt3, bu3)] nr' 1 b2 bt2), mkSm t0 (.delI 2 (A2+150) (rem lM b1) (nM' + 1) b2 bt2), mkSm t0 (.knext 13 (N+150+4) 8 (B2+150) [(b1, bt1, bu1), (b2, bt2, bu2), (b3, bt3, bu3)] nr' 2 b3 bt3), mkSm t0 (.delI 2 (A2+150) (rem (rem lM b1) b2) ((nM' + 1) + 1) b3 bt3), mkSm t0 (.kend 13 (N+150+4) 8 (B2+150) (N+150) [(b1, bt1, bu1), (b2, bt2, bu2), (b3, bt3, bu3)] nr'), mkSm t0 (.delI 5 (A5+150) lQ nQ tm ti)]
def e33_T (P : Params) (b : Bool) (prog : Program) (p : Pos) (bl : List (Code × Pos)) (N t0 : Nat) (A0 A1 A2 A3 A4 A5 k0 k1 k2 k3 k4 ti : Nat) (tm : Int) (lM lS lH lQ : IL) (nM' nS' nH' nQ : Nat) (B0 B1 B2 : Nat) (lq : SL) (nq nr nr' : Nat) (a1 a2 a3 : Int) (at1 at2 at3 : Nat) (au1 au2 au3 : Value) (b1 b2 b3 : Int) (bt1 bt2 bt3 : Nat) (bu1 bu2 bu3 : Value) : Tab := [some (cdict P k0 k1 k2 k3 k4 (A2+150) (A3+150) (A4+150) (A5+150) tm ti), some (instO (A0+150)), some (idct lM nM'), some (idct lS nS'), some (idct lH nH'), some (idct lQ nQ), some (sdct P lq nq), some (idct [(a1, at1, au1), (a2, at2, au2), (a3, at3, au3)] nr), some (idct [(b1, bt1, bu1), (b2, bt2, bu2), (b3, bt3, bu3)] nr')]
def e33_X (P : Params) (b : Bool) (prog : Program) (p : Pos) (bl : List (Code × Pos)) (N t0 : Nat) (A0 A1 A2 A3 A4 A5 k0 k1 k2 k3 k4 ti : Nat) (tm : Int) (lM lS lH lQ : IL) (nM' nS' nH' nQ : Nat) (B0 B1 B2 : Nat) (lq : SL) (nq nr nr' : Nat) (a1 a2 a3 : Int) (at1 at2 at3 : Nat) (au1 au2 au3 : Value) (b1 b2 b3 : Int) (bt1 bt2 bt3 : Nat) (bu1 bu2 bu3 : Value) : Out Flow := (run ⟨prog, swP P b, Mine.hz.ktop_302 P, N+150, t0, [A0+150, A1+150, A2+150, A3+150, A4+150, A5+150, B0+150, B1+150, B2+150]⟩ 100000).c (.call (.ref 115) ⟨[(.ref (A1+150))], []⟩) p bl none 0 0 96478266960423795140204791407665451580301857302339278763910701975531441436499073346019941787291272625178098310654233426897609097256657577002261399102129040712187251691320895977559429445365515990785819290329991515460508198883099101010064910322890718502376703680700574881055694962890932783291107500825597881259796498126414969996779208506925527301770335552920431666883456301157377924517939768173260241662894727664207826823426835396894518228507221979630728526273178311415669094039718287771079548425949587007218827304199137660026406303888240340485431987318182104387244234821159395330 (e33_S P b prog p bl N t0 A0 A1 A2 A3 A4 A5 k0 k1 k2 k3 k4 ti tm lM lS lH lQ nM' nS' nH' nQ B0 B1 B2 lq nq nr nr' a1 a2 a3 at1 at2 at3 au1 au2 au3 b1 b2 b3 bt1 bt2 bt3 bu1 bu2 bu3) (e33_T P b prog p bl N t0 A0 A1 A2 A3 A4 A5 k0 k1 k2 k3 k4 ti tm lM lS lH lQ nM' nS' nH' nQ B0 B1 B2 lq nq nr nr' a1 a2 a3 at1 at2 at3 au1 au2 au3 b1 b2 b3 bt1 bt2 bt3 bu1 bu2 bu3) 0 0 []
def e33_L (P : Params) (b : Bool) (prog : Program) (p : Pos) (bl : List (Code × Pos)) (N t0 : Nat) (A0 A1 A2 A3 A4 A5 k0 k1 k2 k3 k4 ti : Nat) (tm : Int) (lM lS lH lQ : IL) (nM' nS' nH' nQ : Nat) (B0 B1 B2 : Nat) (lq : SL) (nq nr nr' : Nat) (a1 a2 a3 : Int) (at1 at2 at3 : Nat) (au1 au2 au3 : Value) (b1 b2 b3 : Int) (bt1 bt2 bt3 : Nat) (bu1 bu2 bu3 : Value) := look [0, 1, 2, 3, 4, 5, 6, 7, 8] (e33_X P b prog p bl N t0 A0 A1 A2 A3 A4 A5 k0 k1 k2 k3 k4 ti tm lM lS lH lQ nM' nS' nH' nQ B0 B1 B2 lq nq nr nr' a1 a2 a3 at1 at2 at3 au1 au2 au3 b1 b2 b3 bt1 bt2 bt3 bu1 bu2 bu3)
def e33_R (P : Params) (b : Bool) (prog : Program) (p : Pos) (bl : List (Code × Pos)) (N t0 : Nat) (A0 A1 A2 A3 A4 A5 k0 k1 k2 k3 k4 ti : Nat) (tm : Int) (lM lS lH lQ : IL) (nM' nS' nH' nQ : Nat) (B0 B1 B2 : Nat) (lq : SL) (nq nr nr' : Nat) (a1 a2 a3 : Int) (at1 at2 at3 : Nat) (au1 au2 au3 : Value) (b1 b2 b3 : Int) (bt1 bt2 bt3 : Nat) (bu1 bu2 bu3 : Value) : Option (Except Value Flow × List (Option Obj) × Nat × Nat × List Ob) := some ((.ok (.ret .none)), [some (cdict P k0 k1 k2 k3 k4 (A2+150) (A3+150) (A4+150) (A5+150) (tm+1) (t0+39)), some (instO (A0+150)), some (idct (rem (rem (rem lM b1) b2) b3) (((nM' + 1) + 1) + 1)), some (idct (rem (rem (rem lS a1) a2) a3) (((nS' + 1) + 1) + 1)), some (idct lH nH'), some (idct (rem lQ tm) (nQ + 1)), some (sdct P lq nq), some (idct [(a1, at1, au1), (a2, at2, au2), (a3, at3, au3)] nr), some (idct [(b1, bt1, bu1), (b2, bt2, bu2), (b3, bt3, bu3)] nr')], 7, 42, obsOf (e33_X P b prog p bl N t0 A0 A1 A2 A3 A4 A5 k0 k1 k2 k3 k4 ti tm lM lS lH lQ nM' nS' nH' nQ B0 B1 B2 lq nq nr nr' a1 a2 a3 at1 at2 at3 au1 au2 au3 b1 b2 b3 bt1 bt2 bt3 bu1 bu2 bu3))
theorem e33_L0 : @e33_L = e33_L := rfl
theorem e33_R0 : @e33_R = e33_R := rfl
lay_z Mine.e33_L Mine.e33_R
name_z e33LZ for Mine.e33_L by Mine.e33_L0
name_z e33RZ for Mine.e33_R by Mine.e33_R0
theorem e33_ok (P : Params) (b : Bool) (prog : Program) (p : Pos) (bl : List (Code × Pos)) (N t0 : Nat) (A0 A1 A2 A3 A4 A5 k0 k1 k2 k3 k4 ti : Nat) (tm : Int) (lM lS lH lQ : IL) (nM' nS' nH' nQ : Nat) (B0 B1 B2 : Nat) (lq : SL) (nq nr nr' : Nat) (a1 a2 a3 : Int) (at1 at2 at3 : Nat) (au1 au2 au3 : Value) (b1 b2 b3 : Int) (bt1 bt2 bt3 : Nat) (bu1 bu2 bu3 : Value) : e33_L P b prog p bl N t0 A0 A1 A2 A3 A4 A5 k0 k1 k2 k3 k4 ti tm lM lS lH lQ nM' nS' nH' nQ B0 B1 B2 lq nq nr nr' a1 a2 a3 at1 at2 at3 au1 au2 au3 b1 b2 b3 bt1 bt2 bt3 bu1 bu2 bu3 = e33_R P b prog p bl N t0 A0 A1 A2 A3 A4 A5 k0 k1 k2 k3 k4 ti tm lM lS lH lQ nM' nS' nH' nQ B0 B1 B2 lq nq nr nr' a1 a2 a3 at1 at2 at3 au1 au2 au3 b1 b2 b3 bt1 bt2 bt3 bu1 bu2 bu3 := by
  rw [PySem.W.ZFast.e33LZ_eq, PySem.W.ZFast.e33RZ_eq]
  cases b <;> kernel_rfl!

end Mine

end
/-! HE0 -/
section
open PySem PySem.W PySem.W.X PyProof.Rows
namespace Mine
def expA (a : Ab) (tm : Int) : Ab := fun b k => match a b k with
  | some (x, e) => if e = tm then none else some (x, e)
  | none => none
theorem expA_iff {a : Ab} {tm e : Int} (he : e ≠ tm) (b : Bool) (k x : Int) : expA a tm b k = some (x, e) ↔ a b k = some (x, e) := by
  unfold expA
  cases h : a b k with
  | none => simp
  | some p =>
    obtain ⟨y, e'⟩ := p
    by_cases h' : e' = tm
    · subst h'
      simp only [if_true, Option.some.injEq, Prod.mk.injEq, reduceCtorEq, false_iff, not_and]
      exact fun _ h => he h.symm
    · simp [h']
theorem expA_no {a : Ab} {tm : Int} (b : Bool) (k x : Int) : expA a tm b k ≠ some (x, tm) := by
  unfold expA
  cases h : a b k with
  | none => simp
  | some p =>
    obtain ⟨y, e'⟩ := p
    by_cases h' : e' = tm
    · simp [h']
    · simp [h']
theorem expA_dead {a : Ab} {tm x : Int} {b : Bool} {k : Int} (h : a b k = some (x, tm)) : expA a tm b k = none := by unfold expA; rw [h]; simp
theorem expA_live {a : Ab} {tm : Int} {b : Bool} {k : Int} (h : ¬ ∃ x, a b k = some (x, tm)) : expA a tm b k = a b k := by
  unfold expA
  cases h' : a b k with
  | none => rfl
  | some p =>
    obtain ⟨y, e'⟩ := p
    have : e' ≠ tm := fun q => h ⟨y, by rw [h', q]⟩
    simp [this]
theorem expA_some {a : Ab} {tm : Int} {b : Bool} {k : Int} (h : (expA a tm b k).isSome = true) : (a b k).isSome = true := by
  unfold expA at h
  cases h' : a b k with
  | none => rw [h'] at h; cases h
  | some p => rfl
theorem Rp.exp {P : Params} {h h' : Heap} {g g' : Cch} {a : Ab} {hd : Int → Bool} {B : Nat} {Z : List Role} {tm : Int} (R : Rp P h g a hd B) (K : Kp h h' g g' Z) (hZ : ∀ c k, .t c k ∉ Z ∧ .i c k ∉ Z) (hZq : ∀ e, e ≠ tm → .q e ∉ Z ∧ ∀ c, .r e c ∉ Z)
    (ob : Obs P h' g' B) (hL : ∀ b k, ((∃ x, a b k = some (x, tm)) → lk (g'.L b) k = none) ∧ ((¬ ∃ x, a b k = some (x, tm)) → lk (g'.L b) k = lk (g.L b) k)) (hQ : ∀ e, lk g'.lQ e = if e = tm then none else lk g.lQ e) (hH : g'.lH = g.lH) : Rp P h' g' (expA a tm) hd B := by
  refine R.step (Nat.le_refl B) K ob ⟨fun k => by rw [hH]; exact R.hds.hdl k, fun k v => by rw [hH]; exact R.hds.hdk k v, fun k hk => R.hds.hda k (expA_some hk), fun b k hk => R.hds.rng b k (expA_some hk)⟩ (fun c k => ?_) (fun e => ?_)
  · by_cases hx : ∃ x, a c k = some (x, tm)
    · right
      rw [(hL c k).1 hx]
      obtain ⟨x, hx⟩ := hx
      exact expA_dead hx
    · left
      exact ⟨(hL c k).2 hx, expA_live hx, (hZ c k).1, (hZ c k).2⟩
  · by_cases he : e = tm
    · subst he
      right
      rw [hQ, if_pos rfl]
      exact fun b k x => expA_no b k x
    · left
      rw [hQ, if_neg he]
      exact ⟨rfl, expA_iff he, (hZq e he).1, (hZq e he).2⟩
def remL (l : IL) : List Int → IL
  | [] => l
  | k :: ks => remL (rem l k) ks
theorem lk_remL : ∀ (ks : List Int) {l : IL}, (l.map (·.1)).Nodup → ∀ j, lk (remL l ks) j = if j ∈ ks then none else lk l j
  | [], l, _, j => by simp [remL]
  | k :: ks, l, hn, j => by
    rw [remL, lk_remL ks (nodup_rem hn), lk_rem' hn]
    by_cases h1 : j ∈ ks
    · simp [h1]
    · by_cases h2 : j = k <;> simp [h1, h2]
theorem nodup_remL : ∀ (ks : List Int) {l : IL}, (l.map (·.1)).Nodup → ((remL l ks).map (·.1)).Nodup
  | [], _, hn => hn
  | k :: ks, _, hn => nodup_remL ks (nodup_rem hn)
theorem length_remL : ∀ (ks : List Int) (l : IL), (remL l ks).length ≤ l.length
  | [], _ => Nat.le_refl _
  | k :: ks, l => Nat.le_trans (length_remL ks (rem l k)) (length_rem l k)
theorem some_remL {ks : List Int} {l : IL} (hn : (l.map (·.1)).Nodup) {k : Int} (h : (lk l k).isSome = true) (hk : k ∉ ks) : (lk (remL l ks) k).isSome = true := by
  rw [lk_remL ks hn, if_neg hk]
  exact h
theorem hL_of {a : Ab} {tm : Int} {b : Bool} {l : IL} {ks : List Int} (hn : (l.map (·.1)).Nodup) (hk : ∀ k, k ∈ ks ↔ ∃ x, a b k = some (x, tm)) (k : Int) : ((∃ x, a b k = some (x, tm)) → lk (remL l ks) k = none) ∧ ((¬ ∃ x, a b k = some (x, tm)) → lk (remL l ks) k = lk l k) := by
  rw [lk_remL ks hn, ← hk]
  constructor
  · intro h; rw [if_pos h]
  · intro h; rw [if_neg h]
section
variable {prog : Program} {w : World} {A : Around} {s : Shared} {g : Cch} {a : Ab} {hd : Int → Bool} {B : Nat} {R0 : Result → Shared → Prop} {fp : Nat → Prop}
theorem there_of (R : Rp w.params s.heap g a hd B) {b : Bool} {k : Int} {tm : Int} (h : ∃ x, a b k = some (x, tm)) : (lk (g.L b) k).isSome = true := by
  cases hl : lk (g.L b) k with
  | some v => rfl
  | none =>
    have := R.ent b k
    rw [hl] at this
    obtain ⟨x, hx⟩ := h
    rw [hx] at this
    cases this
theorem exp_ex (Y : Rdy w A s) (R : Rp w.params s.heap g a hd B) (hB : B ≤ 100) (h2 : lk g.lQ g.tm = none)
    (k : ∀ s' g', Aft w.params s s' g g' fp → g'.tm = g.tm + 1 → Rp w.params s'.heap g' (expA a g.tm) hd B → R0 (.ok (.ret .none)) s') :
    codeAny (model prog w) A (.call (.ref 115) ⟨[.ref (g.A1+150)], []⟩) R0 s := by
  have O := R.obs
  have hlab : [g.A0+150, g.A1+150, g.A2+150, g.A3+150, g.A4+150, g.A5+150].map g.lab = ([Role.o 0, .o 1, .o 2, .o 3, .o 4, .o 5] : List Role).map some := by
    have := O.labs
    simp only [List.map_cons, List.map_nil, List.cons.injEq, and_true] at this ⊢
    simp [this]
  have hZn : ([Role.o 0, .o 1, .o 2, .o 3, .o 4, .o 5] : List Role).Nodup := by simp
  have hlt : ∀ p ∈ [g.A0+150, g.A1+150, g.A2+150, g.A3+150, g.A4+150, g.A5+150], 150 ≤ p ∧ p < s.heap.objs.size :=
    lt_cons O.o0 (by omega) (lt_cons O.o1 (by omega) (lt_cons O.o2 (by omega) (lt_cons O.o3 (by omega) (lt_cons O.o4 (by omega) (lt_cons O.o5 (by omega) lt_nil)))))
  have W := wf_of (prog := prog) (w := w) (s := s) Y.tb Y.ti Y.sz hlt (nodup_ps hlab hZn)
  have lS : g.lS.length ≤ B := O.le false
  have lM : g.lM.length ≤ B := O.le true
  have lQ := O.leQ
  have hM : topN s = s.heap.objs.size := by have := Y.sz; show s.heap.objs.size - 150 + 150 = _; omega
  have h150 := Y.sz
  have hno := R.que g.tm
  rw [h2] at hno
  have hSk : ∀ k, k ∈ ([] : List Int) ↔ ∃ x, a false k = some (x, g.tm) := fun k => by simp; exact fun x => hno false k x
  have hMk : ∀ k, k ∈ ([] : List Int) ↔ ∃ x, a true k = some (x, g.tm) := fun k => by simp; exact fun x => hno true k x
  refine run_code W Y.hh (Nat.le_refl _) Y.hd (Nat.le_refl _) (T := ex_T w.params true prog default [] 0 0 g.A0 g.A1 g.A2 g.A3 g.A4 g.A5 g.k0 g.k1 g.k2 g.k3 g.k4 g.ti g.tm g.lM g.lS g.lH g.lQ g.eM g.eS g.eH g.eQ)
    (sm := ex_S w.params true prog default [] (s.heap.objs.size - 150) s.toks g.A0 g.A1 g.A2 g.A3 g.A4 g.A5 g.k0 g.k1 g.k2 g.k3 g.k4 g.ti g.tm g.lM g.lS g.lH g.lQ g.eM g.eS g.eH g.eQ) rfl ?_ rfl ?_
    (fun p bl => ex_ok w.params (w.params.followText "special-get-raises") prog p bl (s.heap.objs.size - 150) s.toks g.A0 g.A1 g.A2 g.A3 g.A4 g.A5 g.k0 g.k1 g.k2 g.k3 g.k4 g.ti g.tm g.lM g.lS g.lH g.lQ g.eM g.eS g.eH g.eQ) (fun p bl => xeq rfl rfl rfl) ?_
  · exact start_of _ _ _ (And.intro O.o0 (And.intro O.o1 (And.intro O.o2 (And.intro O.o3 (And.intro O.o4 (And.intro O.o5 trivial))))))
  · unfold ex_S
    repeat' (first | exact all_nil | refine all_cons ?_ ?_)
    all_goals refine okx ?_ rfl
    all_goals first
      | (refine ok_hasI W ?_ ?_ ?_; rfl; omega; simp [h2])
      | (refine ok_getI W ?_ ?_ ?_; rfl; omega; simp [h2])
      | (refine ok_delI W ?_ ?_ ?_ ?_; rfl; omega; omega; simp [h2])
      | (refine ok_hasS W ?_ ?_ ?_ ?_; rfl; rfl; omega; simp [h2])
      | (refine ok_getS W ?_ ?_ ?_ ?_; rfl; omega; rfl; simp [h2])
      | (apply ok_knext W; rfl; rfl; rfl)
      | (refine ok_kend W ?_ ?_; rfl; rfl)
  · intro s' T' R' hp
    have F := allGet R' hp
    obtain ⟨f0, f1, f2, f3, f4, f5, -⟩ := F
    let g' : Cch := { g with tm := g.tm + 1, ti := s.toks + 6, lS := remL g.lS [], eS := g.eS, lM := remL g.lM [], eM := g.eM, lQ := g.lQ, eQ := g.eQ, lab := ext g.lab (topN s) (fun _ => none) }
    obtain ⟨AF, K⟩ := aft_of (f := fun _ => none) (g' := g') (fp := fp) R' Y.sz hlab rfl rfl
    refine k s' g' AF rfl (R.exp (tm := g.tm) K (fun c k => by simp) (fun e he => by simp [he]) ⟨f0, f1, f2, f3, f4, f5, (List.map_congr_left fun p hp => AF.lab p (O.lts p hp).2).trans O.labs, fun b => ?_, O.ndH, O.ndQ, fun b => ?_, O.leH, O.leQ⟩ (fun b k => ?_) ?_ rfl)
    · cases b
      · exact nodup_remL [] (O.nd false)
      · exact nodup_remL [] (O.nd true)
    · cases b
      · exact Nat.le_trans (length_remL [] g.lS) lS
      · exact Nat.le_trans (length_remL [] g.lM) lM
    · cases b
      · exact hL_of (O.nd false) hSk k
      · exact hL_of (O.nd true) hMk k
    · exact fun e => by
        by_cases he : e = g.tm
        · subst he; rw [if_pos rfl]; exact h2
        · rw [if_neg he]
theorem exp_enn (Y : Rdy w A s) (R : Rp w.params s.heap g a hd B) (hB : B ≤ 100) {q nq : Nat} {lq : SL} (h2 : lk g.lQ g.tm = some (.ref (q+150))) (hq : s.heap.get? (q+150) = some (sdct w.params lq nq)) (hql : g.lab (q+150) = some (.q g.tm)) (hS : lk lq nS = none) (hM' : lk lq nM = none) (hSk : ∀ k, k ∈ ([] : List Int) ↔ ∃ x, a false k = some (x, g.tm)) (hMk : ∀ k, k ∈ ([] : List Int) ↔ ∃ x, a true k = some (x, g.tm))
    (k : ∀ s' g', Aft w.params s s' g g' fp → g'.tm = g.tm + 1 → Rp w.params s'.heap g' (expA a g.tm) hd B → R0 (.ok (.ret .none)) s') :
    codeAny (model prog w) A (.call (.ref 115) ⟨[.ref (g.A1+150)], []⟩) R0 s := by
  have O := R.obs
  have hlab : [g.A0+150, g.A1+150, g.A2+150, g.A3+150, g.A4+150, g.A5+150, q+150].map g.lab = ([Role.o 0, .o 1, .o 2, .o 3, .o 4, .o 5, .q g.tm] : List Role).map some := by
    have := O.labs
    simp only [List.map_cons, List.map_nil, List.cons.injEq, and_true] at this ⊢
    simp [this, hql]
  have hZn : ([Role.o 0, .o 1, .o 2, .o 3, .o 4, .o 5, .q g.tm] : List Role).Nodup := by simp
  have hlt : ∀ p ∈ [g.A0+150, g.A1+150, g.A2+150, g.A3+150, g.A4+150, g.A5+150, q+150], 150 ≤ p ∧ p < s.heap.objs.size :=
    lt_cons O.o0 (by omega) (lt_cons O.o1 (by omega) (lt_cons O.o2 (by omega) (lt_cons O.o3 (by omega) (lt_cons O.o4 (by omega) (lt_cons O.o5 (by omega) (lt_cons hq (by omega) lt_nil))))))
  have W := wf_of (prog := prog) (w := w) (s := s) Y.tb Y.ti Y.sz hlt (nodup_ps hlab hZn)
  have lS : g.lS.length ≤ B := O.le false
  have lM : g.lM.length ≤ B := O.le true
  have lQ := O.leQ
  have hM : topN s = s.heap.objs.size := by have := Y.sz; show s.heap.objs.size - 150 + 150 = _; omega
  have h150 := Y.sz
  refine run_code W Y.hh (Nat.le_refl _) Y.hd (Nat.le_refl _) (T := enn_T w.params true prog default [] 0 0 g.A0 g.A1 g.A2 g.A3 g.A4 g.A5 g.k0 g.k1 g.k2 g.k3 g.k4 g.ti g.tm g.lM g.lS g.lH g.lQ g.eM g.eS g.eH g.eQ q 0 0 lq nq 0 0)
    (sm := enn_S w.params true prog default [] (s.heap.objs.size - 150) s.toks g.A0 g.A1 g.A2 g.A3 g.A4 g.A5 g.k0 g.k1 g.k2 g.k3 g.k4 g.ti g.tm g.lM g.lS g.lH g.lQ g.eM g.eS g.eH g.eQ q 0 0 lq nq 0 0) rfl ?_ rfl ?_
    (fun p bl => enn_ok w.params (w.params.followText "special-get-raises") prog p bl (s.heap.objs.size - 150) s.toks g.A0 g.A1 g.A2 g.A3 g.A4 g.A5 g.k0 g.k1 g.k2 g.k3 g.k4 g.ti g.tm g.lM g.lS g.lH g.lQ g.eM g.eS g.eH g.eQ q 0 0 lq nq 0 0) (fun p bl => xeq rfl rfl rfl) ?_
  · exact start_of _ _ _ (And.intro O.o0 (And.intro O.o1 (And.intro O.o2 (And.intro O.o3 (And.intro O.o4 (And.intro O.o5 (And.intro hq trivial)))))))
  · unfold enn_S
    repeat' (first | exact all_nil | refine all_cons ?_ ?_)
    all_goals refine okx ?_ rfl
    all_goals first
      | (refine ok_hasI W ?_ ?_ ?_; rfl; omega; simp [h2, hS, hM'])
      | (refine ok_getI W ?_ ?_ ?_; rfl; omega; simp [h2, hS, hM'])
      | (refine ok_delI W ?_ ?_ ?_ ?_; rfl; omega; omega; simp [h2, hS, hM'])
      | (refine ok_hasS W ?_ ?_ ?_ ?_; rfl; rfl; omega; simp [h2, hS, hM'])
      | (refine ok_getS W ?_ ?_ ?_ ?_; rfl; omega; rfl; simp [h2, hS, hM'])
      | (apply ok_knext W; rfl; rfl; rfl)
      | (refine ok_kend W ?_ ?_; rfl; rfl)
  · intro s' T' R' hp
    have F := allGet R' hp
    obtain ⟨f0, f1, f2, f3, f4, f5, -⟩ := F
    let g' : Cch := { g with tm := g.tm + 1, ti := s.toks + 17, lS := remL g.lS [], eS := g.eS, lM := remL g.lM [], eM := g.eM, lQ := rem g.lQ g.tm, eQ := g.eQ + 1, lab := ext g.lab (topN s) (fun _ => none) }
    obtain ⟨AF, K⟩ := aft_of (f := fun _ => none) (g' := g') (fp := fp) R' Y.sz hlab rfl rfl
    refine k s' g' AF rfl (R.exp (tm := g.tm) K (fun c k => by simp) (fun e he => by simp [he]) ⟨f0, f1, f2, f3, f4, f5, (List.map_congr_left fun p hp => AF.lab p (O.lts p hp).2).trans O.labs, fun b => ?_, O.ndH, nodup_rem O.ndQ, fun b => ?_, O.leH, Nat.le_trans (length_rem ..) O.leQ⟩ (fun b k => ?_) ?_ rfl)
    · cases b
      · exact nodup_remL [] (O.nd false)
      · exact nodup_remL [] (O.nd true)
    · cases b
      · exact Nat.le_trans (length_remL [] g.lS) lS
      · exact Nat.le_trans (length_remL [] g.lM) lM
    · cases b
      · exact hL_of (O.nd false) hSk k
      · exact hL_of (O.nd true) hMk k
    · exact fun e => lk_rem' O.ndQ e
theorem exp_en0 (Y : Rdy w A s) (R : Rp w.params s.heap g a hd B) (hB : B ≤ 100) {q nq : Nat} {lq : SL} {r' nr' : Nat} (h2 : lk g.lQ g.tm = some (.ref (q+150))) (hq : s.heap.get? (q+150) = some (sdct w.params lq nq)) (hql : g.lab (q+150) = some (.q g.tm)) (hS : lk lq nS = none) (hM' : lk lq nM = some (.ref (r'+150))) (hr' : s.heap.get? (r'+150) = some (idct [] nr')) (hrl' : g.lab (r'+150) = some (.r g.tm true)) (hrn' : ([] : List Int).Nodup) (hSk : ∀ k, k ∈ ([] : List Int) ↔ ∃ x, a false k = some (x, g.tm)) (hMk : ∀ k, k ∈ ([] : List Int) ↔ ∃ x, a true k = some (x, g.tm))
    (k : ∀ s' g', Aft w.params s s' g g' fp → g'.tm = g.tm + 1 → Rp w.params s'.heap g' (expA a g.tm) hd B → R0 (.ok (.ret .none)) s') :
    codeAny (model prog w) A (.call (.ref 115) ⟨[.ref (g.A1+150)], []⟩) R0 s := by
  have O := R.obs
  have hlab : [g.A0+150, g.A1+150, g.A2+150, g.A3+150, g.A4+150, g.A5+150, q+150, r'+150].map g.lab = ([Role.o 0, .o 1, .o 2, .o 3, .o 4, .o 5, .q g.tm, .r g.tm true] : List Role).map some := by
    have := O.labs
    simp only [List.map_cons, List.map_nil, List.cons.injEq, and_true] at this ⊢
    simp [this, hql, hrl']
  have hZn : ([Role.o 0, .o 1, .o 2, .o 3, .o 4, .o 5, .q g.tm, .r g.tm true] : List Role).Nodup := by simp
  have hlt : ∀ p ∈ [g.A0+150, g.A1+150, g.A2+150, g.A3+150, g.A4+150, g.A5+150, q+150, r'+150], 150 ≤ p ∧ p < s.heap.objs.size :=
    lt_cons O.o0 (by omega) (lt_cons O.o1 (by omega) (lt_cons O.o2 (by omega) (lt_cons O.o3 (by omega) (lt_cons O.o4 (by omega) (lt_cons O.o5 (by omega) (lt_cons hq (by omega) (lt_cons hr' (by omega) lt_nil)))))))
  have W := wf_of (prog := prog) (w := w) (s := s) Y.tb Y.ti Y.sz hlt (nodup_ps hlab hZn)
  have lS : g.lS.length ≤ B := O.le false
  have lM : g.lM.length ≤ B := O.le true
  have lQ := O.leQ
  have hM : topN s = s.heap.objs.size := by have := Y.sz; show s.heap.objs.size - 150 + 150 = _; omega
  have h150 := Y.sz
  refine run_code W Y.hh (Nat.le_refl _) Y.hd (Nat.le_refl _) (T := en0_T w.params true prog default [] 0 0 g.A0 g.A1 g.A2 g.A3 g.A4 g.A5 g.k0 g.k1 g.k2 g.k3 g.k4 g.ti g.tm g.lM g.lS g.lH g.lQ g.eM g.eS g.eH g.eQ q 0 r' lq nq 0 nr')
    (sm := en0_S w.params true prog default [] (s.heap.objs.size - 150) s.toks g.A0 g.A1 g.A2 g.A3 g.A4 g.A5 g.k0 g.k1 g.k2 g.k3 g.k4 g.ti g.tm g.lM g.lS g.lH g.lQ g.eM g.eS g.eH g.eQ q 0 r' lq nq 0 nr') rfl ?_ rfl ?_
    (fun p bl => en0_ok w.params (w.params.followText "special-get-raises") prog p bl (s.heap.objs.size - 150) s.toks g.A0 g.A1 g.A2 g.A3 g.A4 g.A5 g.k0 g.k1 g.k2 g.k3 g.k4 g.ti g.tm g.lM g.lS g.lH g.lQ g.eM g.eS g.eH g.eQ q 0 r' lq nq 0 nr') (fun p bl => xeq rfl rfl rfl) ?_
  · exact start_of _ _ _ (And.intro O.o0 (And.intro O.o1 (And.intro O.o2 (And.intro O.o3 (And.intro O.o4 (And.intro O.o5 (And.intro hq (And.intro hr' trivial))))))))
  · unfold en0_S
    repeat' (first | exact all_nil | refine all_cons ?_ ?_)
    all_goals refine okx ?_ rfl
    all_goals first
      | (refine ok_hasI W ?_ ?_ ?_; rfl; omega; simp [h2, hS, hM'])
      | (refine ok_getI W ?_ ?_ ?_; rfl; omega; simp [h2, hS, hM'])
      | (refine ok_delI W ?_ ?_ ?_ ?_; rfl; omega; omega; simp [h2, hS, hM'])
      | (refine ok_hasS W ?_ ?_ ?_ ?_; rfl; rfl; omega; simp [h2, hS, hM'])
      | (refine ok_getS W ?_ ?_ ?_ ?_; rfl; omega; rfl; simp [h2, hS, hM'])
      | (apply ok_knext W; rfl; rfl; rfl)
      | (refine ok_kend W ?_ ?_; rfl; rfl)
  · intro s' T' R' hp
    have F := allGet R' hp
    obtain ⟨f0, f1, f2, f3, f4, f5, -⟩ := F
    let g' : Cch := { g with tm := g.tm + 1, ti := s.toks + 19, lS := remL g.lS [], eS := g.eS, lM := remL g.lM [], eM := g.eM, lQ := rem g.lQ g.tm, eQ := g.eQ + 1, lab := ext g.lab (topN s) (fun _ => none) }
    obtain ⟨AF, K⟩ := aft_of (f := fun _ => none) (g' := g') (fp := fp) R' Y.sz hlab rfl rfl
    refine k s' g' AF rfl (R.exp (tm := g.tm) K (fun c k => by simp) (fun e he => by simp [he]) ⟨f0, f1, f2, f3, f4, f5, (List.map_congr_left fun p hp => AF.lab p (O.lts p hp).2).trans O.labs, fun b => ?_, O.ndH, nodup_rem O.ndQ, fun b => ?_, O.leH, Nat.le_trans (length_rem ..) O.leQ⟩ (fun b k => ?_) ?_ rfl)
    · cases b
      · exact nodup_remL [] (O.nd false)
      · exact nodup_remL [] (O.nd true)
    · cases b
      · exact Nat.le_trans (length_remL [] g.lS) lS
      · exact Nat.le_trans (length_remL [] g.lM) lM
    · cases b
      · exact hL_of (O.nd false) hSk k
      · exact hL_of (O.nd true) hMk k
    · exact fun e => lk_rem' O.ndQ e
theorem exp_en1 (Y : Rdy w A s) (R : Rp w.params s.heap g a hd B) (hB : B ≤ 100) {q nq : Nat} {lq : SL} {r' nr' : Nat} {b1 : Int} {bt1 : Nat} {bu1 : Value} (h2 : lk g.lQ g.tm = some (.ref (q+150))) (hq : s.heap.get? (q+150) = some (sdct w.params lq nq)) (hql : g.lab (q+150) = some (.q g.tm)) (hS : lk lq nS = none) (hM' : lk lq nM = some (.ref (r'+150))) (hr' : s.heap.get? (r'+150) = some (idct [(b1, bt1, bu1)] nr')) (hrl' : g.lab (r'+150) = some (.r g.tm true)) (hrn' : ([b1] : List Int).Nodup) (hSk : ∀ k, k ∈ ([] : List Int) ↔ ∃ x, a false k = some (x, g.tm)) (hMk : ∀ k, k ∈ ([b1] : List Int) ↔ ∃ x, a true k = some (x, g.tm))
    (k : ∀ s' g', Aft w.params s s' g g' fp → g'.tm = g.tm + 1 → Rp w.params s'.heap g' (expA a g.tm) hd B → R0 (.ok (.ret .none)) s') :
    codeAny (model prog w) A (.call (.ref 115) ⟨[.ref (g.A1+150)], []⟩) R0 s := by
  have O := R.obs
  have hlab : [g.A0+150, g.A1+150, g.A2+150, g.A3+150, g.A4+150, g.A5+150, q+150, r'+150].map g.lab = ([Role.o 0, .o 1, .o 2, .o 3, .o 4, .o 5, .q g.tm, .r g.tm true] : List Role).map some := by
    have := O.labs
    simp only [List.map_cons, List.map_nil, List.cons.injEq, and_true] at this ⊢
    simp [this, hql, hrl']
  have hZn : ([Role.o 0, .o 1, .o 2, .o 3, .o 4, .o 5, .q g.tm, .r g.tm true] : List Role).Nodup := by simp
  have hlt : ∀ p ∈ [g.A0+150, g.A1+150, g.A2+150, g.A3+150, g.A4+150, g.A5+150, q+150, r'+150], 150 ≤ p ∧ p < s.heap.objs.size :=
    lt_cons O.o0 (by omega) (lt_cons O.o1 (by omega) (lt_cons O.o2 (by omega) (lt_cons O.o3 (by omega) (lt_cons O.o4 (by omega) (lt_cons O.o5 (by omega) (lt_cons hq (by omega) (lt_cons hr' (by omega) lt_nil)))))))
  have W := wf_of (prog := prog) (w := w) (s := s) Y.tb Y.ti Y.sz hlt (nodup_ps hlab hZn)
  have lS : g.lS.length ≤ B := O.le false
  have lM : g.lM.length ≤ B := O.le true
  have lQ := O.leQ
  have hM : topN s = s.heap.objs.size := by have := Y.sz; show s.heap.objs.size - 150 + 150 = _; omega
  have h150 := Y.sz
  have dM0 : (lk (g.lM) b1).isSome = true := some_remL (ks := []) (O.nd true) (there_of R ((hMk b1).mp (by simp))) (by simp only [List.nodup_cons, List.mem_cons, List.mem_nil_iff, or_false, not_or] at hrn'; simp; try omega)
  have eM0 : (g.lM).length ≤ B := Nat.le_trans (length_remL [] g.lM) (O.le true)
  refine run_code W Y.hh (Nat.le_refl _) Y.hd (Nat.le_refl _) (T := en1_T w.params true prog default [] 0 0 g.A0 g.A1 g.A2 g.A3 g.A4 g.A5 g.k0 g.k1 g.k2 g.k3 g.k4 g.ti g.tm g.lM g.lS g.lH g.lQ g.eM g.eS g.eH g.eQ q 0 r' lq nq 0 nr' b1 bt1 bu1)
    (sm := en1_S w.params true prog default [] (s.heap.objs.size - 150) s.toks g.A0 g.A1 g.A2 g.A3 g.A4 g.A5 g.k0 g.k1 g.k2 g.k3 g.k4 g.ti g.tm g.lM g.lS g.lH g.lQ g.eM g.eS g.eH g.eQ q 0 r' lq nq 0 nr' b1 bt1 bu1) rfl ?_ rfl ?_
    (fun p bl => en1_ok w.params (w.params.followText "special-get-raises") prog p bl (s.heap.objs.size - 150) s.toks g.A0 g.A1 g.A2 g.A3 g.A4 g.A5 g.k0 g.k1 g.k2 g.k3 g.k4 g.ti g.tm g.lM g.lS g.lH g.lQ g.eM g.eS g.eH g.eQ q 0 r' lq nq 0 nr' b1 bt1 bu1) (fun p bl => xeq rfl rfl rfl) ?_
  · exact start_of _ _ _ (And.intro O.o0 (And.intro O.o1 (And.intro O.o2 (And.intro O.o3 (And.intro O.o4 (And.intro O.o5 (And.intro hq (And.intro hr' trivial))))))))
  · unfold en1_S
    repeat' (first | exact all_nil | refine all_cons ?_ ?_)
    all_goals refine okx ?_ rfl
    all_goals first
      | (refine ok_hasI W ?_ ?_ ?_; rfl; omega; simp [h2, hS, hM', dM0])
      | (refine ok_getI W ?_ ?_ ?_; rfl; omega; simp [h2, hS, hM', dM0])
      | (refine ok_delI W ?_ ?_ ?_ ?_; rfl; omega; omega; simp [h2, hS, hM', dM0])
      | (refine ok_hasS W ?_ ?_ ?_ ?_; rfl; rfl; omega; simp [h2, hS, hM', dM0])
      | (refine ok_getS W ?_ ?_ ?_ ?_; rfl; omega; rfl; simp [h2, hS, hM', dM0])
      | (apply ok_knext W; rfl; rfl; rfl)
      | (refine ok_kend W ?_ ?_; rfl; rfl)
  · intro s' T' R' hp
    have F := allGet R' hp
    obtain ⟨f0, f1, f2, f3, f4, f5, -⟩ := F
    let g' : Cch := { g with tm := g.tm + 1, ti := s.toks + 22, lS := remL g.lS [], eS := g.eS, lM := remL g.lM [b1], eM := g.eM + 1, lQ := rem g.lQ g.tm, eQ := g.eQ + 1, lab := ext g.lab (topN s) (fun _ => none) }
    obtain ⟨AF, K⟩ := aft_of (f := fun _ => none) (g' := g') (fp := fp) R' Y.sz hlab rfl rfl
    refine k s' g' AF rfl (R.exp (tm := g.tm) K (fun c k => by simp) (fun e he => by simp [he]) ⟨f0, f1, f2, f3, f4, f5, (List.map_congr_left fun p hp => AF.lab p (O.lts p hp).2).trans O.labs, fun b => ?_, O.ndH, nodup_rem O.ndQ, fun b => ?_, O.leH, Nat.le_trans (length_rem ..) O.leQ⟩ (fun b k => ?_) ?_ rfl)
    · cases b
      · exact nodup_remL [] (O.nd false)
      · exact nodup_remL [b1] (O.nd true)
    · cases b
      · exact Nat.le_trans (length_remL [] g.lS) lS
      · exact Nat.le_trans (length_remL [b1] g.lM) lM
    · cases b
      · exact hL_of (O.nd false) hSk k
      · exact hL_of (O.nd true) hMk k
    · exact fun e => lk_rem' O.ndQ e
theorem exp_en2 (Y : Rdy w A s) (R : Rp w.params s.heap g a hd B) (hB : B ≤ 100) {q nq : Nat} {lq : SL} {r' nr' : Nat} {b1 b2 : Int} {bt1 bt2 : Nat} {bu1 bu2 : Value} (h2 : lk g.lQ g.tm = some (.ref (q+150))) (hq : s.heap.get? (q+150) = some (sdct w.params lq nq)) (hql : g.lab (q+150) = some (.q g.tm)) (hS : lk lq nS = none) (hM' : lk lq nM = some (.ref (r'+150))) (hr' : s.heap.get? (r'+150) = some (idct [(b1, bt1, bu1), (b2, bt2, bu2)] nr')) (hrl' : g.lab (r'+150) = some (.r g.tm true)) (hrn' : ([b1, b2] : List Int).Nodup) (hSk : ∀ k, k ∈ ([] : List Int) ↔ ∃ x, a false k = some (x, g.tm)) (hMk : ∀ k, k ∈ ([b1, b2] : List Int) ↔ ∃ x, a true k = some (x, g.tm))
    (k : ∀ s' g', Aft w.params s s' g g' fp → g'.tm = g.tm + 1 → Rp w.params s'.heap g' (expA a g.tm) hd B → R0 (.ok (.ret .none)) s') :
    codeAny (model prog w) A (.call (.ref 115) ⟨[.ref (g.A1+150)], []⟩) R0 s := by
  have O := R.obs
  have hlab : [g.A0+150, g.A1+150, g.A2+150, g.A3+150, g.A4+150, g.A5+150, q+150, r'+150].map g.lab = ([Role.o 0, .o 1, .o 2, .o 3, .o 4, .o 5, .q g.tm, .r g.tm true] : List Role).map some := by
    have := O.labs
    simp only [List.map_cons, List.map_nil, List.cons.injEq, and_true] at this ⊢
    simp [this, hql, hrl']
  have hZn : ([Role.o 0, .o 1, .o 2, .o 3, .o 4, .o 5, .q g.tm, .r g.tm true] : List Role).Nodup := by simp
  have hlt : ∀ p ∈ [g.A0+150, g.A1+150, g.A2+150, g.A3+150, g.A4+150, g.A5+150, q+150, r'+150], 150 ≤ p ∧ p < s.heap.objs.size :=
    lt_cons O.o0 (by omega) (lt_cons O.o1 (by omega) (lt_cons O.o2 (by omega) (lt_cons O.o3 (by omega) (lt_cons O.o4 (by omega) (lt_cons O.o5 (by omega) (lt_cons hq (by omega) (lt_cons hr' (by omega) lt_nil)))))))
  have W := wf_of (prog := prog) (w := w) (s := s) Y.tb Y.ti Y.sz hlt (nodup_ps hlab hZn)
  have lS : g.lS.length ≤ B := O.le false
  have lM : g.lM.length ≤ B := O.le true
  have lQ := O.leQ
  have hM : topN s = s.heap.objs.size := by have := Y.sz; show s.heap.objs.size - 150 + 150 = _; omega
  have h150 := Y.sz
  have dM0 : (lk (g.lM) b1).isSome = true := some_remL (ks := []) (O.nd true) (there_of R ((hMk b1).mp (by simp))) (by simp only [List.nodup_cons, List.mem_cons, List.mem_nil_iff, or_false, not_or] at hrn'; simp; try omega)
  have eM0 : (g.lM).length ≤ B := Nat.le_trans (length_remL [] g.lM) (O.le true)
  have dM1 : (lk (rem g.lM b1) b2).isSome = true := some_remL (ks := [b1]) (O.nd true) (there_of R ((hMk b2).mp (by simp))) (by simp only [List.nodup_cons, List.mem_cons, List.mem_nil_iff, or_false, not_or] at hrn'; simp; try omega)
  have eM1 : (rem g.lM b1).length ≤ B := Nat.le_trans (length_remL [b1] g.lM) (O.le true)
  refine run_code W Y.hh (Nat.le_refl _) Y.hd (Nat.le_refl _) (T := en2_T w.params true prog default [] 0 0 g.A0 g.A1 g.A2 g.A3 g.A4 g.A5 g.k0 g.k1 g.k2 g.k3 g.k4 g.ti g.tm g.lM g.lS g.lH g.lQ g.eM g.eS g.eH g.eQ q 0 r' lq nq 0 nr' b1 b2 bt1 bt2 bu1 bu2)
    (sm := en2_S w.params true prog default [] (s.heap.objs.size - 150) s.toks g.A0 g.A1 g.A2 g.A3 g.A4 g.A5 g.k0 g.k1 g.k2 g.k3 g.k4 g.ti g.tm g.lM g.lS g.lH g.lQ g.eM g.eS g.eH g.eQ q 0 r' lq nq 0 nr' b1 b2 bt1 bt2 bu1 bu2) rfl ?_ rfl ?_
    (fun p bl => en2_ok w.params (w.params.followText "special-get-raises") prog p bl (s.heap.objs.size - 150) s.toks g.A0 g.A1 g.A2 g.A3 g.A4 g.A5 g.k0 g.k1 g.k2 g.k3 g.k4 g.ti g.tm g.lM g.lS g.lH g.lQ g.eM g.eS g.eH g.eQ q 0 r' lq nq 0 nr' b1 b2 bt1 bt2 bu1 bu2) (fun p bl => xeq rfl rfl rfl) ?_
  · exact start_of _ _ _ (And.intro O.o0 (And.intro O.o1 (And.intro O.o2 (And.intro O.o3 (And.intro O.o4 (And.intro O.o5 (And.intro hq (And.intro hr' trivial))))))))
  · unfold en2_S
    repeat' (first | exact all_nil | refine all_cons ?_ ?_)
    all_goals refine okx ?_ rfl
    all_goals first
      | (refine ok_hasI W ?_ ?_ ?_; rfl; omega; simp [h2, hS, hM', dM0, dM1])
      | (refine ok_getI W ?_ ?_ ?_; rfl; omega; simp [h2, hS, hM', dM0, dM1])
      | (refine ok_delI W ?_ ?_ ?_ ?_; rfl; omega; omega; simp [h2, hS, hM', dM0, dM1])
      | (refine ok_hasS W ?_ ?_ ?_ ?_; rfl; rfl; omega; simp [h2, hS, hM', dM0, dM1])
      | (refine ok_getS W ?_ ?_ ?_ ?_; rfl; omega; rfl; simp [h2, hS, hM', dM0, dM1])
      | (apply ok_knext W; rfl; rfl; rfl)
      | (refine ok_kend W ?_ ?_; rfl; rfl)
  · intro s' T' R' hp
    have F := allGet R' hp
    obtain ⟨f0, f1, f2, f3, f4, f5, -⟩ := F
    let g' : Cch := { g with tm := g.tm + 1, ti := s.toks + 25, lS := remL g.lS [], eS := g.eS, lM := remL g.lM [b1, b2], eM := g.eM + 1 + 1, lQ := rem g.lQ g.tm, eQ := g.eQ + 1, lab := ext g.lab (topN s) (fun _ => none) }
    obtain ⟨AF, K⟩ := aft_of (f := fun _ => none) (g' := g') (fp := fp) R' Y.sz hlab rfl rfl
    refine k s' g' AF rfl (R.exp (tm := g.tm) K (fun c k => by simp) (fun e he => by simp [he]) ⟨f0, f1, f2, f3, f4, f5, (List.map_congr_left fun p hp => AF.lab p (O.lts p hp).2).trans O.labs, fun b => ?_, O.ndH, nodup_rem O.ndQ, fun b => ?_, O.leH, Nat.le_trans (length_rem ..) O.leQ⟩ (fun b k => ?_) ?_ rfl)
    · cases b
      · exact nodup_remL [] (O.nd false)
      · exact nodup_remL [b1, b2] (O.nd true)
    · cases b
      · exact Nat.le_trans (length_remL [] g.lS) lS
      · exact Nat.le_trans (length_remL [b1, b2] g.lM) lM
    · cases b
      · exact hL_of (O.nd false) hSk k
      · exact hL_of (O.nd true) hMk k
    · exact fun e => lk_rem' O.ndQ e
theorem exp_en3 (Y : Rdy w A s) (R : Rp w.params s.heap g a hd B) (hB : B ≤ 100) {q nq : Nat} {lq : SL} {r' nr' : Nat} {b1 b2 b3 : Int} {bt1 bt2 bt3 : Nat} {bu1 bu2 bu3 : Value} (h2 : lk g.lQ g.tm = some (.ref (q+150))) (hq : s.heap.get? (q+150) = some (sdct w.params lq nq)) (hql : g.lab (q+150) = some (.q g.tm)) (hS : lk lq nS = none) (hM' : lk lq nM = some (.ref (r'+150))) (hr' : s.heap.get? (r'+150) = some (idct [(b1, bt1, bu1), (b2, bt2, bu2), (b3, bt3, bu3)] nr')) (hrl' : g.lab (r'+150) = some (.r g.tm true)) (hrn' : ([b1, b2, b3] : List Int).Nodup) (hSk : ∀ k, k ∈ ([] : List Int) ↔ ∃ x, a false k = some (x, g.tm)) (hMk : ∀ k, k ∈ ([b1, b2, b3] : List Int) ↔ ∃ x, a true k = some (x, g.tm))
    (k : ∀ s' g', Aft w.params s s' g g' fp → g'.tm = g.tm + 1 → Rp w.params s'.heap g' (expA a g.tm) hd B → R0 (.ok (.ret .none)) s') :
    codeAny (model prog w) A (.call (.ref 115) ⟨[.ref (g.A1+150)], []⟩) R0 s := by
  have O := R.obs
  have hlab : [g.A0+150, g.A1+150, g.A2+150, g.A3+150, g.A4+150, g.A5+150, q+150, r'+150].map g.lab = ([Role.o 0, .o 1, .o 2, .o 3, .o 4, .o 5, .q g.tm, .r g.tm true] : List Role).map some := by
    have := O.labs
    simp only [List.map_cons, List.map_nil, List.cons.injEq, and_true] at this ⊢
    simp [this, hql, hrl']
  have hZn : ([Role.o 0, .o 1, .o 2, .o 3, .o 4, .o 5, .q g.tm, .r g.tm true] : List Role).Nodup := by simp
  have hlt : ∀ p ∈ [g.A0+150, g.A1+150, g.A2+150, g.A3+150, g.A4+150, g.A5+150, q+150, r'+150], 150 ≤ p ∧ p < s.heap.objs.size :=
    lt_cons O.o0 (by omega) (lt_cons O.o1 (by omega) (lt_cons O.o2 (by omega) (lt_cons O.o3 (by omega) (lt_cons O.o4 (by omega) (lt_cons O.o5 (by omega) (lt_cons hq (by omega) (lt_cons hr' (by omega) lt_nil)))))))
  have W := wf_of (prog := prog) (w := w) (s := s) Y.tb Y.ti Y.sz hlt (nodup_ps hlab hZn)
  have lS : g.lS.length ≤ B := O.le false
  have lM : g.lM.length ≤ B := O.le true
  have lQ := O.leQ
  have hM : topN s = s.heap.objs.size := by have := Y.sz; show s.heap.objs.size - 150 + 150 = _; omega
  have h150 := Y.sz
  have dM0 : (lk (g.lM) b1).isSome = true := some_remL (ks := []) (O.nd true) (there_of R ((hMk b1).mp (by simp))) (by simp only [List.nodup_cons, List.mem_cons, List.mem_nil_iff, or_false, not_or] at hrn'; simp; try omega)
  have eM0 : (g.lM).length ≤ B := Nat.le_trans (length_remL [] g.lM) (O.le true)
  have dM1 : (lk (rem g.lM b1) b2).isSome = true := some_remL (ks := [b1]) (O.nd true) (there_of R ((hMk b2).mp (by simp))) (by simp only [List.nodup_cons, List.mem_cons, List.mem_nil_iff, or_false, not_or] at hrn'; simp; try omega)
  have eM1 : (rem g.lM b1).length ≤ B := Nat.le_trans (length_remL [b1] g.lM) (O.le true)
  have dM2 : (lk (rem (rem g.lM b1) b2) b3).isSome = true := some_remL (ks := [b1, b2]) (O.nd true) (there_of R ((hMk b3).mp (by simp))) (by simp only [List.nodup_cons, List.mem_cons, List.mem_nil_iff, or_false, not_or] at hrn'; simp; try omega)
  have eM2 : (rem (rem g.lM b1) b2).length ≤ B := Nat.le_trans (length_remL [b1, b2] g.lM) (O.le true)
  refine run_code W Y.hh (Nat.le_refl _) Y.hd (Nat.le_refl _) (T := en3_T w.params true prog default [] 0 0 g.A0 g.A1 g.A2 g.A3 g.A4 g.A5 g.k0 g.k1 g.k2 g.k3 g.k4 g.ti g.tm g.lM g.lS g.lH g.lQ g.eM g.eS g.eH g.eQ q 0 r' lq nq 0 nr' b1 b2 b3 bt1 bt2 bt3 bu1 bu2 bu3)
    (sm := en3_S w.params true prog default [] (s.heap.objs.size - 150) s.toks g.A0 g.A1 g.A2 g.A3 g.A4 g.A5 g.k0 g.k1 g.k2 g.k3 g.k4 g.ti g.tm g.lM g.lS g.lH g.lQ g.eM g.eS g.eH g.eQ q 0 r' lq nq 0 nr' b1 b2 b3 bt1 bt2 bt3 bu1 bu2 bu3) rfl ?_ rfl ?_
    (fun p bl => en3_ok w.params (w.params.followText "special-get-raises") prog p bl (s.heap.objs.size - 150) s.toks g.A0 g.A1 g.A2 g.A3 g.A4 g.A5 g.k0 g.k1 g.k2 g.k3 g.k4 g.ti g.tm g.lM g.lS g.lH g.lQ g.eM g.eS g.eH g.eQ q 0 r' lq nq 0 nr' b1 b2 b3 bt1 bt2 bt3 bu1 bu2 bu3) (fun p bl => xeq rfl rfl rfl) ?_
  · exact start_of _ _ _ (And.intro O.o0 (And.intro O.o1 (And.intro O.o2 (And.intro O.o3 (And.intro O.o4 (And.intro O.o5 (And.intro hq (And.intro hr' trivial))))))))
  · unfold en3_S
    repeat' (first | exact all_nil | refine all_cons ?_ ?_)
    all_goals refine okx ?_ rfl
    all_goals first
      | (refine ok_hasI W ?_ ?_ ?_; rfl; omega; simp [h2, hS, hM', dM0, dM1, dM2])
      | (refine ok_getI W ?_ ?_ ?_; rfl; omega; simp [h2, hS, hM', dM0, dM1, dM2])
      | (refine ok_delI W ?_ ?_ ?_ ?_; rfl; omega; omega; simp [h2, hS, hM', dM0, dM1, dM2])
      | (refine ok_hasS W ?_ ?_ ?_ ?_; rfl; rfl; omega; simp [h2, hS, hM', dM0, dM1, dM2])
      | (refine ok_getS W ?_ ?_ ?_ ?_; rfl; omega; rfl; simp [h2, hS, hM', dM0, dM1, dM2])
      | (apply ok_knext W; rfl; rfl; rfl)
      | (refine ok_kend W ?_ ?_; rfl; rfl)
  · intro s' T' R' hp
    have F := allGet R' hp
    obtain ⟨f0, f1, f2, f3, f4, f5, -⟩ := F
    let g' : Cch := { g with tm := g.tm + 1, ti := s.toks + 28, lS := remL g.lS [], eS := g.eS, lM := remL g.lM [b1, b2, b3], eM := g.eM + 1 + 1 + 1, lQ := rem g.lQ g.tm, eQ := g.eQ + 1, lab := ext g.lab (topN s) (fun _ => none) }
    obtain ⟨AF, K⟩ := aft_of (f := fun _ => none) (g' := g') (fp := fp) R' Y.sz hlab rfl rfl
    refine k s' g' AF rfl (R.exp (tm := g.tm) K (fun c k => by simp) (fun e he => by simp [he]) ⟨f0, f1, f2, f3, f4, f5, (List.map_congr_left fun p hp => AF.lab p (O.lts p hp).2).trans O.labs, fun b => ?_, O.ndH, nodup_rem O.ndQ, fun b => ?_, O.leH, Nat.le_trans (length_rem ..) O.leQ⟩ (fun b k => ?_) ?_ rfl)
    · cases b
      · exact nodup_remL [] (O.nd false)
      · exact nodup_remL [b1, b2, b3] (O.nd true)
    · cases b
      · exact Nat.le_trans (length_remL [] g.lS) lS
      · exact Nat.le_trans (length_remL [b1, b2, b3] g.lM) lM
    · cases b
      · exact hL_of (O.nd false) hSk k
      · exact hL_of (O.nd true) hMk k
    · exact fun e => lk_rem' O.ndQ e
theorem exp_e0n (Y : Rdy w A s) (R : Rp w.params s.heap g a hd B) (hB : B ≤ 100) {q nq : Nat} {lq : SL} {r nr : Nat} (h2 : lk g.lQ g.tm = some (.ref (q+150))) (hq : s.heap.get? (q+150) = some (sdct w.params lq nq)) (hql : g.lab (q+150) = some (.q g.tm)) (hS : lk lq nS = some (.ref (r+150))) (hr : s.heap.get? (r+150) = some (idct [] nr)) (hrl : g.lab (r+150) = some (.r g.tm false)) (hrn : ([] : List Int).Nodup) (hM' : lk lq nM = none) (hSk : ∀ k, k ∈ ([] : List Int) ↔ ∃ x, a false k = some (x, g.tm)) (hMk : ∀ k, k ∈ ([] : List Int) ↔ ∃ x, a true k = some (x, g.tm))
    (k : ∀ s' g', Aft w.params s s' g g' fp → g'.tm = g.tm + 1 → Rp w.params s'.heap g' (expA a g.tm) hd B → R0 (.ok (.ret .none)) s') :
    codeAny (model prog w) A (.call (.ref 115) ⟨[.ref (g.A1+150)], []⟩) R0 s := by
  have O := R.obs
  have hlab : [g.A0+150, g.A1+150, g.A2+150, g.A3+150, g.A4+150, g.A5+150, q+150, r+150].map g.lab = ([Role.o 0, .o 1, .o 2, .o 3, .o 4, .o 5, .q g.tm, .r g.tm false] : List Role).map some := by
    have := O.labs
    simp only [List.map_cons, List.map_nil, List.cons.injEq, and_true] at this ⊢
    simp [this, hql, hrl]
  have hZn : ([Role.o 0, .o 1, .o 2, .o 3, .o 4, .o 5, .q g.tm, .r g.tm false] : List Role).Nodup := by simp
  have hlt : ∀ p ∈ [g.A0+150, g.A1+150, g.A2+150, g.A3+150, g.A4+150, g.A5+150, q+150, r+150], 150 ≤ p ∧ p < s.heap.objs.size :=
    lt_cons O.o0 (by omega) (lt_cons O.o1 (by omega) (lt_cons O.o2 (by omega) (lt_cons O.o3 (by omega) (lt_cons O.o4 (by omega) (lt_cons O.o5 (by omega) (lt_cons hq (by omega) (lt_cons hr (by omega) lt_nil)))))))
  have W := wf_of (prog := prog) (w := w) (s := s) Y.tb Y.ti Y.sz hlt (nodup_ps hlab hZn)
  have lS : g.lS.length ≤ B := O.le false
  have lM : g.lM.length ≤ B := O.le true
  have lQ := O.leQ
  have hM : topN s = s.heap.objs.size := by have := Y.sz; show s.heap.objs.size - 150 + 150 = _; omega
  have h150 := Y.sz
  refine run_code W Y.hh (Nat.le_refl _) Y.hd (Nat.le_refl _) (T := e0n_T w.params true prog default [] 0 0 g.A0 g.A1 g.A2 g.A3 g.A4 g.A5 g.k0 g.k1 g.k2 g.k3 g.k4 g.ti g.tm g.lM g.lS g.lH g.lQ g.eM g.eS g.eH g.eQ q r 0 lq nq nr 0)
    (sm := e0n_S w.params true prog default [] (s.heap.objs.size - 150) s.toks g.A0 g.A1 g.A2 g.A3 g.A4 g.A5 g.k0 g.k1 g.k2 g.k3 g.k4 g.ti g.tm g.lM g.lS g.lH g.lQ g.eM g.eS g.eH g.eQ q r 0 lq nq nr 0) rfl ?_ rfl ?_
    (fun p bl => e0n_ok w.params (w.params.followText "special-get-raises") prog p bl (s.heap.objs.size - 150) s.toks g.A0 g.A1 g.A2 g.A3 g.A4 g.A5 g.k0 g.k1 g.k2 g.k3 g.k4 g.ti g.tm g.lM g.lS g.lH g.lQ g.eM g.eS g.eH g.eQ q r 0 lq nq nr 0) (fun p bl => xeq rfl rfl rfl) ?_
  · exact start_of _ _ _ (And.intro O.o0 (And.intro O.o1 (And.intro O.o2 (And.intro O.o3 (And.intro O.o4 (And.intro O.o5 (And.intro hq (And.intro hr trivial))))))))
  · unfold e0n_S
    repeat' (first | exact all_nil | refine all_cons ?_ ?_)
    all_goals refine okx ?_ rfl
    all_goals first
      | (refine ok_hasI W ?_ ?_ ?_; rfl; omega; simp [h2, hS, hM'])
      | (refine ok_getI W ?_ ?_ ?_; rfl; omega; simp [h2, hS, hM'])
      | (refine ok_delI W ?_ ?_ ?_ ?_; rfl; omega; omega; simp [h2, hS, hM'])
      | (refine ok_hasS W ?_ ?_ ?_ ?_; rfl; rfl; omega; simp [h2, hS, hM'])
      | (refine ok_getS W ?_ ?_ ?_ ?_; rfl; omega; rfl; simp [h2, hS, hM'])
      | (apply ok_knext W; rfl; rfl; rfl)
      | (refine ok_kend W ?_ ?_; rfl; rfl)
  · intro s' T' R' hp
    have F := allGet R' hp
    obtain ⟨f0, f1, f2, f3, f4, f5, -⟩ := F
    let g' : Cch := { g with tm := g.tm + 1, ti := s.toks + 19, lS := remL g.lS [], eS := g.eS, lM := remL g.lM [], eM := g.eM, lQ := rem g.lQ g.tm, eQ := g.eQ + 1, lab := ext g.lab (topN s) (fun _ => none) }
    obtain ⟨AF, K⟩ := aft_of (f := fun _ => none) (g' := g') (fp := fp) R' Y.sz hlab rfl rfl
    refine k s' g' AF rfl (R.exp (tm := g.tm) K (fun c k => by simp) (fun e he => by simp [he]) ⟨f0, f1, f2, f3, f4, f5, (List.map_congr_left fun p hp => AF.lab p (O.lts p hp).2).trans O.labs, fun b => ?_, O.ndH, nodup_rem O.ndQ, fun b => ?_, O.leH, Nat.le_trans (length_rem ..) O.leQ⟩ (fun b k => ?_) ?_ rfl)
    · cases b
      · exact nodup_remL [] (O.nd false)
      · exact nodup_remL [] (O.nd true)
    · cases b
      · exact Nat.le_trans (length_remL [] g.lS) lS
      · exact Nat.le_trans (length_remL [] g.lM) lM
    · cases b
      · exact hL_of (O.nd false) hSk k
      · exact hL_of (O.nd true) hMk k
    · exact fun e => lk_rem' O.ndQ e
theorem exp_e00 (Y : Rdy w A s) (R : Rp w.params s.heap g a hd B) (hB : B ≤ 100) {q nq : Nat} {lq : SL} {r nr : Nat} {r' nr' : Nat} (h2 : lk g.lQ g.tm = some (.ref (q+150))) (hq : s.heap.get? (q+150) = some (sdct w.params lq nq)) (hql : g.lab (q+150) = some (.q g.tm)) (hS : lk lq nS = some (.ref (r+150))) (hr : s.heap.get? (r+150) = some (idct [] nr)) (hrl : g.lab (r+150) = some (.r g.tm false)) (hrn : ([] : List Int).Nodup) (hM' : lk lq nM = some (.ref (r'+150))) (hr' : s.heap.get? (r'+150) = some (idct [] nr')) (hrl' : g.lab (r'+150) = some (.r g.tm true)) (hrn' : ([] : List Int).Nodup) (hSk : ∀ k, k ∈ ([] : List Int) ↔ ∃ x, a false k = some (x, g.tm)) (hMk : ∀ k, k ∈ ([] : List Int) ↔ ∃ x, a true k = some (x, g.tm))
    (k : ∀ s' g', Aft w.params s s' g g' fp → g'.tm = g.tm + 1 → Rp w.params s'.heap g' (expA a g.tm) hd B → R0 (.ok (.ret .none)) s') :
    codeAny (model prog w) A (.call (.ref 115) ⟨[.ref (g.A1+150)], []⟩) R0 s := by
  have O := R.obs
  have hlab : [g.A0+150, g.A1+150, g.A2+150, g.A3+150, g.A4+150, g.A5+150, q+150, r+150, r'+150].map g.lab = ([Role.o 0, .o 1, .o 2, .o 3, .o 4, .o 5, .q g.tm, .r g.tm false, .r g.tm true] : List Role).map some := by
    have := O.labs
    simp only [List.map_cons, List.map_nil, List.cons.injEq, and_true] at this ⊢
    simp [this, hql, hrl, hrl']
  have hZn : ([Role.o 0, .o 1, .o 2, .o 3, .o 4, .o 5, .q g.tm, .r g.tm false, .r g.tm true] : List Role).Nodup := by simp
  have hlt : ∀ p ∈ [g.A0+150, g.A1+150, g.A2+150, g.A3+150, g.A4+150, g.A5+150, q+150, r+150, r'+150], 150 ≤ p ∧ p < s.heap.objs.size :=
    lt_cons O.o0 (by omega) (lt_cons O.o1 (by omega) (lt_cons O.o2 (by omega) (lt_cons O.o3 (by omega) (lt_cons O.o4 (by omega) (lt_cons O.o5 (by omega) (lt_cons hq (by omega) (lt_cons hr (by omega) (lt_cons hr' (by omega) lt_nil))))))))
  have W := wf_of (prog := prog) (w := w) (s := s) Y.tb Y.ti Y.sz hlt (nodup_ps hlab hZn)
  have lS : g.lS.length ≤ B := O.le false
  have lM : g.lM.length ≤ B := O.le true
  have lQ := O.leQ
  have hM : topN s = s.heap.objs.size := by have := Y.sz; show s.heap.objs.size - 150 + 150 = _; omega
  have h150 := Y.sz
  refine run_code W Y.hh (Nat.le_refl _) Y.hd (Nat.le_refl _) (T := e00_T w.params true prog default [] 0 0 g.A0 g.A1 g.A2 g.A3 g.A4 g.A5 g.k0 g.k1 g.k2 g.k3 g.k4 g.ti g.tm g.lM g.lS g.lH g.lQ g.eM g.eS g.eH g.eQ q r r' lq nq nr nr')
    (sm := e00_S w.params true prog default [] (s.heap.objs.size - 150) s.toks g.A0 g.A1 g.A2 g.A3 g.A4 g.A5 g.k0 g.k1 g.k2 g.k3 g.k4 g.ti g.tm g.lM g.lS g.lH g.lQ g.eM g.eS g.eH g.eQ q r r' lq nq nr nr') rfl ?_ rfl ?_
    (fun p bl => e00_ok w.params (w.params.followText "special-get-raises") prog p bl (s.heap.objs.size - 150) s.toks g.A0 g.A1 g.A2 g.A3 g.A4 g.A5 g.k0 g.k1 g.k2 g.k3 g.k4 g.ti g.tm g.lM g.lS g.lH g.lQ g.eM g.eS g.eH g.eQ q r r' lq nq nr nr') (fun p bl => xeq rfl rfl rfl) ?_
  · exact start_of _ _ _ (And.intro O.o0 (And.intro O.o1 (And.intro O.o2 (And.intro O.o3 (And.intro O.o4 (And.intro O.o5 (And.intro hq (And.intro hr (And.intro hr' trivial)))))))))
  · unfold e00_S
    repeat' (first | exact all_nil | refine all_cons ?_ ?_)
    all_goals refine okx ?_ rfl
    all_goals first
      | (refine ok_hasI W ?_ ?_ ?_; rfl; omega; simp [h2, hS, hM'])
      | (refine ok_getI W ?_ ?_ ?_; rfl; omega; simp [h2, hS, hM'])
      | (refine ok_delI W ?_ ?_ ?_ ?_; rfl; omega; omega; simp [h2, hS, hM'])
      | (refine ok_hasS W ?_ ?_ ?_ ?_; rfl; rfl; omega; simp [h2, hS, hM'])
      | (refine ok_getS W ?_ ?_ ?_ ?_; rfl; omega; rfl; simp [h2, hS, hM'])
      | (apply ok_knext W; rfl; rfl; rfl)
      | (refine ok_kend W ?_ ?_; rfl; rfl)
  · intro s' T' R' hp
    have F := allGet R' hp
    obtain ⟨f0, f1, f2, f3, f4, f5, -⟩ := F
    let g' : Cch := { g with tm := g.tm + 1, ti := s.toks + 21, lS := remL g.lS [], eS := g.eS, lM := remL g.lM [], eM := g.eM, lQ := rem g.lQ g.tm, eQ := g.eQ + 1, lab := ext g.lab (topN s) (fun _ => none) }
    obtain ⟨AF, K⟩ := aft_of (f := fun _ => none) (g' := g') (fp := fp) R' Y.sz hlab rfl rfl
    refine k s' g' AF rfl (R.exp (tm := g.tm) K (fun c k => by simp) (fun e he => by simp [he]) ⟨f0, f1, f2, f3, f4, f5, (List.map_congr_left fun p hp => AF.lab p (O.lts p hp).2).trans O.labs, fun b => ?_, O.ndH, nodup_rem O.ndQ, fun b => ?_, O.leH, Nat.le_trans (length_rem ..) O.leQ⟩ (fun b k => ?_) ?_ rfl)
    · cases b
      · exact nodup_remL [] (O.nd false)
      · exact nodup_remL [] (O.nd true)
    · cases b
      · exact Nat.le_trans (length_remL [] g.lS) lS
      · exact Nat.le_trans (length_remL [] g.lM) lM
    · cases b
      · exact hL_of (O.nd false) hSk k
      · exact hL_of (O.nd true) hMk k
    · exact fun e => lk_rem' O.ndQ e
theorem exp_e01 (Y : Rdy w A s) (R : Rp w.params s.heap g a hd B) (hB : B ≤ 100) {q nq : Nat} {lq : SL} {r nr : Nat} {r' nr' : Nat} {b1 : Int} {bt1 : Nat} {bu1 : Value} (h2 : lk g.lQ g.tm = some (.ref (q+150))) (hq : s.heap.get? (q+150) = some (sdct w.params lq nq)) (hql : g.lab (q+150) = some (.q g.tm)) (hS : lk lq nS = some (.ref (r+150))) (hr : s.heap.get? (r+150) = some (idct [] nr)) (hrl : g.lab (r+150) = some (.r g.tm false)) (hrn : ([] : List Int).Nodup) (hM' : lk lq nM = some (.ref (r'+150))) (hr' : s.heap.get? (r'+150) = some (idct [(b1, bt1, bu1)] nr')) (hrl' : g.lab (r'+150) = some (.r g.tm true)) (hrn' : ([b1] : List Int).Nodup) (hSk : ∀ k, k ∈ ([] : List Int) ↔ ∃ x, a false k = some (x, g.tm)) (hMk : ∀ k, k ∈ ([b1] : List Int) ↔ ∃ x, a true k = some (x, g.tm))
    (k : ∀ s' g', Aft w.params s s' g g' fp → g'.tm = g.tm + 1 → Rp w.params s'.heap g' (expA a g.tm) hd B → R0 (.ok (.ret .none)) s') :
    codeAny (model prog w) A (.call (.ref 115) ⟨[.ref (g.A1+150)], []⟩) R0 s := by
  have O := R.obs
  have hlab : [g.A0+150, g.A1+150, g.A2+150, g.A3+150, g.A4+150, g.A5+150, q+150, r+150, r'+150].map g.lab = ([Role.o 0, .o 1, .o 2, .o 3, .o 4, .o 5, .q g.tm, .r g.tm false, .r g.tm true] : List Role).map some := by
    have := O.labs
    simp only [List.map_cons, List.map_nil, List.cons.injEq, and_true] at this ⊢
    simp [this, hql, hrl, hrl']
  have hZn : ([Role.o 0, .o 1, .o 2, .o 3, .o 4, .o 5, .q g.tm, .r g.tm false, .r g.tm true] : List Role).Nodup := by simp
  have hlt : ∀ p ∈ [g.A0+150, g.A1+150, g.A2+150, g.A3+150, g.A4+150, g.A5+150, q+150, r+150, r'+150], 150 ≤ p ∧ p < s.heap.objs.size :=
    lt_cons O.o0 (by omega) (lt_cons O.o1 (by omega) (lt_cons O.o2 (by omega) (lt_cons O.o3 (by omega) (lt_cons O.o4 (by omega) (lt_cons O.o5 (by omega) (lt_cons hq (by omega) (lt_cons hr (by omega) (lt_cons hr' (by omega) lt_nil))))))))
  have W := wf_of (prog := prog) (w := w) (s := s) Y.tb Y.ti Y.sz hlt (nodup_ps hlab hZn)
  have lS : g.lS.length ≤ B := O.le false
  have lM : g.lM.length ≤ B := O.le true
  have lQ := O.leQ
  have hM : topN s = s.heap.objs.size := by have := Y.sz; show s.heap.objs.size - 150 + 150 = _; omega
  have h150 := Y.sz
  have dM0 : (lk (g.lM) b1).isSome = true := some_remL (ks := []) (O.nd true) (there_of R ((hMk b1).mp (by simp))) (by simp only [List.nodup_cons, List.mem_cons, List.mem_nil_iff, or_false, not_or] at hrn'; simp; try omega)
  have eM0 : (g.lM).length ≤ B := Nat.le_trans (length_remL [] g.lM) (O.le true)
  refine run_code W Y.hh (Nat.le_refl _) Y.hd (Nat.le_refl _) (T := e01_T w.params true prog default [] 0 0 g.A0 g.A1 g.A2 g.A3 g.A4 g.A5 g.k0 g.k1 g.k2 g.k3 g.k4 g.ti g.tm g.lM g.lS g.lH g.lQ g.eM g.eS g.eH g.eQ q r r' lq nq nr nr' b1 bt1 bu1)
    (sm := e01_S w.params true prog default [] (s.heap.objs.size - 150) s.toks g.A0 g.A1 g.A2 g.A3 g.A4 g.A5 g.k0 g.k1 g.k2 g.k3 g.k4 g.ti g.tm g.lM g.lS g.lH g.lQ g.eM g.eS g.eH g.eQ q r r' lq nq nr nr' b1 bt1 bu1) rfl ?_ rfl ?_
    (fun p bl => e01_ok w.params (w.params.followText "special-get-raises") prog p bl (s.heap.objs.size - 150) s.toks g.A0 g.A1 g.A2 g.A3 g.A4 g.A5 g.k0 g.k1 g.k2 g.k3 g.k4 g.ti g.tm g.lM g.lS g.lH g.lQ g.eM g.eS g.eH g.eQ q r r' lq nq nr nr' b1 bt1 bu1) (fun p bl => xeq rfl rfl rfl) ?_
  · exact start_of _ _ _ (And.intro O.o0 (And.intro O.o1 (And.intro O.o2 (And.intro O.o3 (And.intro O.o4 (And.intro O.o5 (And.intro hq (And.intro hr (And.intro hr' trivial)))))))))
  · unfold e01_S
    repeat' (first | exact all_nil | refine all_cons ?_ ?_)
    all_goals refine okx ?_ rfl
    all_goals first
      | (refine ok_hasI W ?_ ?_ ?_; rfl; omega; simp [h2, hS, hM', dM0])
      | (refine ok_getI W ?_ ?_ ?_; rfl; omega; simp [h2, hS, hM', dM0])
      | (refine ok_delI W ?_ ?_ ?_ ?_; rfl; omega; omega; simp [h2, hS, hM', dM0])
      | (refine ok_hasS W ?_ ?_ ?_ ?_; rfl; rfl; omega; simp [h2, hS, hM', dM0])
      | (refine ok_getS W ?_ ?_ ?_ ?_; rfl; omega; rfl; simp [h2, hS, hM', dM0])
      | (apply ok_knext W; rfl; rfl; rfl)
      | (refine ok_kend W ?_ ?_; rfl; rfl)
  · intro s' T' R' hp
    have F := allGet R' hp
    obtain ⟨f0, f1, f2, f3, f4, f5, -⟩ := F
    let g' : Cch := { g with tm := g.tm + 1, ti := s.toks + 24, lS := remL g.lS [], eS := g.eS, lM := remL g.lM [b1], eM := g.eM + 1, lQ := rem g.lQ g.tm, eQ := g.eQ + 1, lab := ext g.lab (topN s) (fun _ => none) }
    obtain ⟨AF, K⟩ := aft_of (f := fun _ => none) (g' := g') (fp := fp) R' Y.sz hlab rfl rfl
    refine k s' g' AF rfl (R.exp (tm := g.tm) K (fun c k => by simp) (fun e he => by simp [he]) ⟨f0, f1, f2, f3, f4, f5, (List.map_congr_left fun p hp => AF.lab p (O.lts p hp).2).trans O.labs, fun b => ?_, O.ndH, nodup_rem O.ndQ, fun b => ?_, O.leH, Nat.le_trans (length_rem ..) O.leQ⟩ (fun b k => ?_) ?_ rfl)
    · cases b
      · exact nodup_remL [] (O.nd false)
      · exact nodup_remL [b1] (O.nd true)
    · cases b
      · exact Nat.le_trans (length_remL [] g.lS) lS
      · exact Nat.le_trans (length_remL [b1] g.lM) lM
    · cases b
      · exact hL_of (O.nd false) hSk k
      · exact hL_of (O.nd true) hMk k
    · exact fun e => lk_rem' O.ndQ e
theorem exp_e02 (Y : Rdy w A s) (R : Rp w.params s.heap g a hd B) (hB : B ≤ 100) {q nq : Nat} {lq : SL} {r nr : Nat} {r' nr' : Nat} {b1 b2 : Int} {bt1 bt2 : Nat} {bu1 bu2 : Value} (h2 : lk g.lQ g.tm = some (.ref (q+150))) (hq : s.heap.get? (q+150) = some (sdct w.params lq nq)) (hql : g.lab (q+150) = some (.q g.tm)) (hS : lk lq nS = some (.ref (r+150))) (hr : s.heap.get? (r+150) = some (idct [] nr)) (hrl : g.lab (r+150) = some (.r g.tm false)) (hrn : ([] : List Int).Nodup) (hM' : lk lq nM = some (.ref (r'+150))) (hr' : s.heap.get? (r'+150) = some (idct [(b1, bt1, bu1), (b2, bt2, bu2)] nr')) (hrl' : g.lab (r'+150) = some (.r g.tm true)) (hrn' : ([b1, b2] : List Int).Nodup) (hSk : ∀ k, k ∈ ([] : List Int) ↔ ∃ x, a false k = some (x, g.tm)) (hMk : ∀ k, k ∈ ([b1, b2] : List Int) ↔ ∃ x, a true k = some (x, g.tm))
    (k : ∀ s' g', Aft w.params s s' g g' fp → g'.tm = g.tm + 1 → Rp w.params s'.heap g' (expA a g.tm) hd B → R0 (.ok (.ret .none)) s') :
    codeAny (model prog w) A (.call (.ref 115) ⟨[.ref (g.A1+150)], []⟩) R0 s := by
  have O := R.obs
  have hlab : [g.A0+150, g.A1+150, g.A2+150, g.A3+150, g.A4+150, g.A5+150, q+150, r+150, r'+150].map g.lab = ([Role.o 0, .o 1, .o 2, .o 3, .o 4, .o 5, .q g.tm, .r g.tm false, .r g.tm true] : List Role).map some := by
    have := O.labs
    simp only [List.map_cons, List.map_nil, List.cons.injEq, and_true] at this ⊢
    simp [this, hql, hrl, hrl']
  have hZn : ([Role.o 0, .o 1, .o 2, .o 3, .o 4, .o 5, .q g.tm, .r g.tm false, .r g.tm true] : List Role).Nodup := by simp
  have hlt : ∀ p ∈ [g.A0+150, g.A1+150, g.A2+150, g.A3+150, g.A4+150, g.A5+150, q+150, r+150, r'+150], 150 ≤ p ∧ p < s.heap.objs.size :=
    lt_cons O.o0 (by omega) (lt_cons O.o1 (by omega) (lt_cons O.o2 (by omega) (lt_cons O.o3 (by omega) (lt_cons O.o4 (by omega) (lt_cons O.o5 (by omega) (lt_cons hq (by omega) (lt_cons hr (by omega) (lt_cons hr' (by omega) lt_nil))))))))
  have W := wf_of (prog := prog) (w := w) (s := s) Y.tb Y.ti Y.sz hlt (nodup_ps hlab hZn)
  have lS : g.lS.length ≤ B := O.le false
  have lM : g.lM.length ≤ B := O.le true
  have lQ := O.leQ
  have hM : topN s = s.heap.objs.size := by have := Y.sz; show s.heap.objs.size - 150 + 150 = _; omega
  have h150 := Y.sz
  have dM0 : (lk (g.lM) b1).isSome = true := some_remL (ks := []) (O.nd true) (there_of R ((hMk b1).mp (by simp))) (by simp only [List.nodup_cons, List.mem_cons, List.mem_nil_iff, or_false, not_or] at hrn'; simp; try omega)
  have eM0 : (g.lM).length ≤ B := Nat.le_trans (length_remL [] g.lM) (O.le true)
  have dM1 : (lk (rem g.lM b1) b2).isSome = true := some_remL (ks := [b1]) (O.nd true) (there_of R ((hMk b2).mp (by simp))) (by simp only [List.nodup_cons, List.mem_cons, List.mem_nil_iff, or_false, not_or] at hrn'; simp; try omega)
  have eM1 : (rem g.lM b1).length ≤ B := Nat.le_trans (length_remL [b1] g.lM) (O.le true)
  refine run_code W Y.hh (Nat.le_refl _) Y.hd (Nat.le_refl _) (T := e02_T w.params true prog default [] 0 0 g.A0 g.A1 g.A2 g.A3 g.A4 g.A5 g.k0 g.k1 g.k2 g.k3 g.k4 g.ti g.tm g.lM g.lS g.lH g.lQ g.eM g.eS g.eH g.eQ q r r' lq nq nr nr' b1 b2 bt1 bt2 bu1 bu2)
    (sm := e02_S w.params true prog default [] (s.heap.objs.size - 150) s.toks g.A0 g.A1 g.A2 g.A3 g.A4 g.A5 g.k0 g.k1 g.k2 g.k3 g.k4 g.ti g.tm g.lM g.lS g.lH g.lQ g.eM g.eS g.eH g.eQ q r r' lq nq nr nr' b1 b2 bt1 bt2 bu1 bu2) rfl ?_ rfl ?_
    (fun p bl => e02_ok w.params (w.params.followText "special-get-raises") prog p bl (s.heap.objs.size - 150) s.toks g.A0 g.A1 g.A2 g.A3 g.A4 g.A5 g.k0 g.k1 g.k2 g.k3 g.k4 g.ti g.tm g.lM g.lS g.lH g.lQ g.eM g.eS g.eH g.eQ q r r' lq nq nr nr' b1 b2 bt1 bt2 bu1 bu2) (fun p bl => xeq rfl rfl rfl) ?_
  · exact start_of _ _ _ (And.intro O.o0 (And.intro O.o1 (And.intro O.o2 (And.intro O.o3 (And.intro O.o4 (And.intro O.o5 (And.intro hq (And.intro hr (And.intro hr' trivial)))))))))
  · unfold e02_S
    repeat' (first | exact all_nil | refine all_cons ?_ ?_)
    all_goals refine okx ?_ rfl
    all_goals first
      | (refine ok_hasI W ?_ ?_ ?_; rfl; omega; simp [h2, hS, hM', dM0, dM1])
      | (refine ok_getI W ?_ ?_ ?_; rfl; omega; simp [h2, hS, hM', dM0, dM1])
      | (refine ok_delI W ?_ ?_ ?_ ?_; rfl; omega; omega; simp [h2, hS, hM', dM0, dM1])
      | (refine ok_hasS W ?_ ?_ ?_ ?_; rfl; rfl; omega; simp [h2, hS, hM', dM0, dM1])
      | (refine ok_getS W ?_ ?_ ?_ ?_; rfl; omega; rfl; simp [h2, hS, hM', dM0, dM1])
      | (apply ok_knext W; rfl; rfl; rfl)
      | (refine ok_kend W ?_ ?_; rfl; rfl)
  · intro s' T' R' hp
    have F := allGet R' hp
    obtain ⟨f0, f1, f2, f3, f4, f5, -⟩ := F
    let g' : Cch := { g with tm := g.tm + 1, ti := s.toks + 27, lS := remL g.lS [], eS := g.eS, lM := remL g.lM [b1, b2], eM := g.eM + 1 + 1, lQ := rem g.lQ g.tm, eQ := g.eQ + 1, lab := ext g.lab (topN s) (fun _ => none) }
    obtain ⟨AF, K⟩ := aft_of (f := fun _ => none) (g' := g') (fp := fp) R' Y.sz hlab rfl rfl
    refine k s' g' AF rfl (R.exp (tm := g.tm) K (fun c k => by simp) (fun e he => by simp [he]) ⟨f0, f1, f2, f3, f4, f5, (List.map_congr_left fun p hp => AF.lab p (O.lts p hp).2).trans O.labs, fun b => ?_, O.ndH, nodup_rem O.ndQ, fun b => ?_, O.leH, Nat.le_trans (length_rem ..) O.leQ⟩ (fun b k => ?_) ?_ rfl)
    · cases b
      · exact nodup_remL [] (O.nd false)
      · exact nodup_remL [b1, b2] (O.nd true)
    · cases b
      · exact Nat.le_trans (length_remL [] g.lS) lS
      · exact Nat.le_trans (length_remL [b1, b2] g.lM) lM
    · cases b
      · exact hL_of (O.nd false) hSk k
      · exact hL_of (O.nd true) hMk k
    · exact fun e => lk_rem' O.ndQ e
theorem exp_e03 (Y : Rdy w A s) (R : Rp w.params s.heap g a hd B) (hB : B ≤ 100) {q nq : Nat} {lq : SL} {r nr : Nat} {r' nr' : Nat} {b1 b2 b3 : Int} {bt1 bt2 bt3 : Nat} {bu1 bu2 bu3 : Value} (h2 : lk g.lQ g.tm = some (.ref (q+150))) (hq : s.heap.get? (q+150) = some (sdct w.params lq nq)) (hql : g.lab (q+150) = some (.q g.tm)) (hS : lk lq nS = some (.ref (r+150))) (hr : s.heap.get? (r+150) = some (idct [] nr)) (hrl : g.lab (r+150) = some (.r g.tm false)) (hrn : ([] : List Int).Nodup) (hM' : lk lq nM = some (.ref (r'+150))) (hr' : s.heap.get? (r'+150) = some (idct [(b1, bt1, bu1), (b2, bt2, bu2), (b3, bt3, bu3)] nr')) (hrl' : g.lab (r'+150) = some (.r g.tm true)) (hrn' : ([b1, b2, b3] : List Int).Nodup) (hSk : ∀ k, k ∈ ([] : List Int) ↔ ∃ x, a false k = some (x, g.tm)) (hMk : ∀ k, k ∈ ([b1, b2, b3] : List Int) ↔ ∃ x, a true k = some (x, g.tm))
    (k : ∀ s' g', Aft w.params s s' g g' fp → g'.tm = g.tm + 1 → Rp w.params s'.heap g' (expA a g.tm) hd B → R0 (.ok (.ret .none)) s') :
    codeAny (model prog w) A (.call (.ref 115) ⟨[.ref (g.A1+150)], []⟩) R0 s := by
  have O := R.obs
  have hlab : [g.A0+150, g.A1+150, g.A2+150, g.A3+150, g.A4+150, g.A5+150, q+150, r+150, r'+150].map g.lab = ([Role.o 0, .o 1, .o 2, .o 3, .o 4, .o 5, .q g.tm, .r g.tm false, .r g.tm true] : List Role).map some := by
    have := O.labs
    simp only [List.map_cons, List.map_nil, List.cons.injEq, and_true] at this ⊢
    simp [this, hql, hrl, hrl']
  have hZn : ([Role.o 0, .o 1, .o 2, .o 3, .o 4, .o 5, .q g.tm, .r g.tm false, .r g.tm true] : List Role).Nodup := by simp
  have hlt : ∀ p ∈ [g.A0+150, g.A1+150, g.A2+150, g.A3+150, g.A4+150, g.A5+150, q+150, r+150, r'+150], 150 ≤ p ∧ p < s.heap.objs.size :=
    lt_cons O.o0 (by omega) (lt_cons O.o1 (by omega) (lt_cons O.o2 (by omega) (lt_cons O.o3 (by omega) (lt_cons O.o4 (by omega) (lt_cons O.o5 (by omega) (lt_cons hq (by omega) (lt_cons hr (by omega) (lt_cons hr' (by omega) lt_nil))))))))
  have W := wf_of (prog := prog) (w := w) (s := s) Y.tb Y.ti Y.sz hlt (nodup_ps hlab hZn)
  have lS : g.lS.length ≤ B := O.le false
  have lM : g.lM.length ≤ B := O.le true
  have lQ := O.leQ
  have hM : topN s = s.heap.objs.size := by have := Y.sz; show s.heap.objs.size - 150 + 150 = _; omega
  have h150 := Y.sz
  have dM0 : (lk (g.lM) b1).isSome = true := some_remL (ks := []) (O.nd true) (there_of R ((hMk b1).mp (by simp))) (by simp only [List.nodup_cons, List.mem_cons, List.mem_nil_iff, or_false, not_or] at hrn'; simp; try omega)
  have eM0 : (g.lM).length ≤ B := Nat.le_trans (length_remL [] g.lM) (O.le true)
  have dM1 : (lk (rem g.lM b1) b2).isSome = true := some_remL (ks := [b1]) (O.nd true) (there_of R ((hMk b2).mp (by simp))) (by simp only [List.nodup_cons, List.mem_cons, List.mem_nil_iff, or_false, not_or] at hrn'; simp; try omega)
  have eM1 : (rem g.lM b1).length ≤ B := Nat.le_trans (length_remL [b1] g.lM) (O.le true)
  have dM2 : (lk (rem (rem g.lM b1) b2) b3).isSome = true := some_remL (ks := [b1, b2]) (O.nd true) (there_of R ((hMk b3).mp (by simp))) (by simp only [List.nodup_cons, List.mem_cons, List.mem_nil_iff, or_false, not_or] at hrn'; simp; try omega)
  have eM2 : (rem (rem g.lM b1) b2).length ≤ B := Nat.le_trans (length_remL [b1, b2] g.lM) (O.le true)
  refine run_code W Y.hh (Nat.le_refl _) Y.hd (Nat.le_refl _) (T := e03_T w.params true prog default [] 0 0 g.A0 g.A1 g.A2 g.A3 g.A4 g.A5 g.k0 g.k1 g.k2 g.k3 g.k4 g.ti g.tm g.lM g.lS g.lH g.lQ g.eM g.eS g.eH g.eQ q r r' lq nq nr nr' b1 b2 b3 bt1 bt2 bt3 bu1 bu2 bu3)
    (sm := e03_S w.params true prog default [] (s.heap.objs.size - 150) s.toks g.A0 g.A1 g.A2 g.A3 g.A4 g.A5 g.k0 g.k1 g.k2 g.k3 g.k4 g.ti g.tm g.lM g.lS g.lH g.lQ g.eM g.eS g.eH g.eQ q r r' lq nq nr nr' b1 b2 b3 bt1 bt2 bt3 bu1 bu2 bu3) rfl ?_ rfl ?_
    (fun p bl => e03_ok w.params (w.params.followText "special-get-raises") prog p bl (s.heap.objs.size - 150) s.toks g.A0 g.A1 g.A2 g.A3 g.A4 g.A5 g.k0 g.k1 g.k2 g.k3 g.k4 g.ti g.tm g.lM g.lS g.lH g.lQ g.eM g.eS g.eH g.eQ q r r' lq nq nr nr' b1 b2 b3 bt1 bt2 bt3 bu1 bu2 bu3) (fun p bl => xeq rfl rfl rfl) ?_
  · exact start_of _ _ _ (And.intro O.o0 (And.intro O.o1 (And.intro O.o2 (And.intro O.o3 (And.intro O.o4 (And.intro O.o5 (And.intro hq (And.intro hr (And.intro hr' trivial)))))))))
  · unfold e03_S
    repeat' (first | exact all_nil | refine all_cons ?_ ?_)
    all_goals refine okx ?_ rfl
    all_goals first
      | (refine ok_hasI W ?_ ?_ ?_; rfl; omega; simp [h2, hS, hM', dM0, dM1, dM2])
      | (refine ok_getI W ?_ ?_ ?_; rfl; omega; simp [h2, hS, hM', dM0, dM1, dM2])
      | (refine ok_delI W ?_ ?_ ?_ ?_; rfl; omega; omega; simp [h2, hS, hM', dM0, dM1, dM2])
      | (refine ok_hasS W ?_ ?_ ?_ ?_; rfl; rfl; omega; simp [h2, hS, hM', dM0, dM1, dM2])
      | (refine ok_getS W ?_ ?_ ?_ ?_; rfl; omega; rfl; simp [h2, hS, hM', dM0, dM1, dM2])
      | (apply ok_knext W; rfl; rfl; rfl)
      | (refine ok_kend W ?_ ?_; rfl; rfl)
  · intro s' T' R' hp
    have F := allGet R' hp
    obtain ⟨f0, f1, f2, f3, f4, f5, -⟩ := F
    let g' : Cch := { g with tm := g.tm + 1, ti := s.toks + 30, lS := remL g.lS [], eS := g.eS, lM := remL g.lM [b1, b2, b3], eM := g.eM + 1 + 1 + 1, lQ := rem g.lQ g.tm, eQ := g.eQ + 1, lab := ext g.lab (topN s) (fun _ => none) }
    obtain ⟨AF, K⟩ := aft_of (f := fun _ => none) (g' := g') (fp := fp) R' Y.sz hlab rfl rfl
    refine k s' g' AF rfl (R.exp (tm := g.tm) K (fun c k => by simp) (fun e he => by simp [he]) ⟨f0, f1, f2, f3, f4, f5, (List.map_congr_left fun p hp => AF.lab p (O.lts p hp).2).trans O.labs, fun b => ?_, O.ndH, nodup_rem O.ndQ, fun b => ?_, O.leH, Nat.le_trans (length_rem ..) O.leQ⟩ (fun b k => ?_) ?_ rfl)
    · cases b
      · exact nodup_remL [] (O.nd false)
      · exact nodup_remL [b1, b2, b3] (O.nd true)
    · cases b
      · exact Nat.le_trans (length_remL [] g.lS) lS
      · exact Nat.le_trans (length_remL [b1, b2, b3] g.lM) lM
    · cases b
      · exact hL_of (O.nd false) hSk k
      · exact hL_of (O.nd true) hMk k
    · exact fun e => lk_rem' O.ndQ e
theorem exp_e1n (Y : Rdy w A s) (R : Rp w.params s.heap g a hd B) (hB : B ≤ 100) {q nq : Nat} {lq : SL} {r nr : Nat} {a1 : Int} {at1 : Nat} {au1 : Value} (h2 : lk g.lQ g.tm = some (.ref (q+150))) (hq : s.heap.get? (q+150) = some (sdct w.params lq nq)) (hql : g.lab (q+150) = some (.q g.tm)) (hS : lk lq nS = some (.ref (r+150))) (hr : s.heap.get? (r+150) = some (idct [(a1, at1, au1)] nr)) (hrl : g.lab (r+150) = some (.r g.tm false)) (hrn : ([a1] : List Int).Nodup) (hM' : lk lq nM = none) (hSk : ∀ k, k ∈ ([a1] : List Int) ↔ ∃ x, a false k = some (x, g.tm)) (hMk : ∀ k, k ∈ ([] : List Int) ↔ ∃ x, a true k = some (x, g.tm))
    (k : ∀ s' g', Aft w.params s s' g g' fp → g'.tm = g.tm + 1 → Rp w.params s'.heap g' (expA a g.tm) hd B → R0 (.ok (.ret .none)) s') :
    codeAny (model prog w) A (.call (.ref 115) ⟨[.ref (g.A1+150)], []⟩) R0 s := by
  have O := R.obs
  have hlab : [g.A0+150, g.A1+150, g.A2+150, g.A3+150, g.A4+150, g.A5+150, q+150, r+150].map g.lab = ([Role.o 0, .o 1, .o 2, .o 3, .o 4, .o 5, .q g.tm, .r g.tm false] : List Role).map some := by
    have := O.labs
    simp only [List.map_cons, List.map_nil, List.cons.injEq, and_true] at this ⊢
    simp [this, hql, hrl]
  have hZn : ([Role.o 0, .o 1, .o 2, .o 3, .o 4, .o 5, .q g.tm, .r g.tm false] : List Role).Nodup := by simp
  have hlt : ∀ p ∈ [g.A0+150, g.A1+150, g.A2+150, g.A3+150, g.A4+150, g.A5+150, q+150, r+150], 150 ≤ p ∧ p < s.heap.objs.size :=
    lt_cons O.o0 (by omega) (lt_cons O.o1 (by omega) (lt_cons O.o2 (by omega) (lt_cons O.o3 (by omega) (lt_cons O.o4 (by omega) (lt_cons O.o5 (by omega) (lt_cons hq (by omega) (lt_cons hr (by omega) lt_nil)))))))
  have W := wf_of (prog := prog) (w := w) (s := s) Y.tb Y.ti Y.sz hlt (nodup_ps hlab hZn)
  have lS : g.lS.length ≤ B := O.le false
  have lM : g.lM.length ≤ B := O.le true
  have lQ := O.leQ
  have hM : topN s = s.heap.objs.size := by have := Y.sz; show s.heap.objs.size - 150 + 150 = _; omega
  have h150 := Y.sz
  have dS0 : (lk (g.lS) a1).isSome = true := some_remL (ks := []) (O.nd false) (there_of R ((hSk a1).mp (by simp))) (by simp only [List.nodup_cons, List.mem_cons, List.mem_nil_iff, or_false, not_or] at hrn; simp; try omega)
  have eS0 : (g.lS).length ≤ B := Nat.le_trans (length_remL [] g.lS) (O.le false)
  refine run_code W Y.hh (Nat.le_refl _) Y.hd (Nat.le_refl _) (T := e1n_T w.params true prog default [] 0 0 g.A0 g.A1 g.A2 g.A3 g.A4 g.A5 g.k0 g.k1 g.k2 g.k3 g.k4 g.ti g.tm g.lM g.lS g.lH g.lQ g.eM g.eS g.eH g.eQ q r 0 lq nq nr 0 a1 at1 au1)
    (sm := e1n_S w.params true prog default [] (s.heap.objs.size - 150) s.toks g.A0 g.A1 g.A2 g.A3 g.A4 g.A5 g.k0 g.k1 g.k2 g.k3 g.k4 g.ti g.tm g.lM g.lS g.lH g.lQ g.eM g.eS g.eH g.eQ q r 0 lq nq nr 0 a1 at1 au1) rfl ?_ rfl ?_
    (fun p bl => e1n_ok w.params (w.params.followText "special-get-raises") prog p bl (s.heap.objs.size - 150) s.toks g.A0 g.A1 g.A2 g.A3 g.A4 g.A5 g.k0 g.k1 g.k2 g.k3 g.k4 g.ti g.tm g.lM g.lS g.lH g.lQ g.eM g.eS g.eH g.eQ q r 0 lq nq nr 0 a1 at1 au1) (fun p bl => xeq rfl rfl rfl) ?_
  · exact start_of _ _ _ (And.intro O.o0 (And.intro O.o1 (And.intro O.o2 (And.intro O.o3 (And.intro O.o4 (And.intro O.o5 (And.intro hq (And.intro hr trivial))))))))
  · unfold e1n_S
    repeat' (first | exact all_nil | refine all_cons ?_ ?_)
    all_goals refine okx ?_ rfl
    all_goals first
      | (refine ok_hasI W ?_ ?_ ?_; rfl; omega; simp [h2, hS, hM', dS0])
      | (refine ok_getI W ?_ ?_ ?_; rfl; omega; simp [h2, hS, hM', dS0])
      | (refine ok_delI W ?_ ?_ ?_ ?_; rfl; omega; omega; simp [h2, hS, hM', dS0])
      | (refine ok_hasS W ?_ ?_ ?_ ?_; rfl; rfl; omega; simp [h2, hS, hM', dS0])
      | (refine ok_getS W ?_ ?_ ?_ ?_; rfl; omega; rfl; simp [h2, hS, hM', dS0])
      | (apply ok_knext W; rfl; rfl; rfl)
      | (refine ok_kend W ?_ ?_; rfl; rfl)
  · intro s' T' R' hp
    have F := allGet R' hp
    obtain ⟨f0, f1, f2, f3, f4, f5, -⟩ := F
    let g' : Cch := { g with tm := g.tm + 1, ti := s.toks + 22, lS := remL g.lS [a1], eS := g.eS + 1, lM := remL g.lM [], eM := g.eM, lQ := rem g.lQ g.tm, eQ := g.eQ + 1, lab := ext g.lab (topN s) (fun _ => none) }
    obtain ⟨AF, K⟩ := aft_of (f := fun _ => none) (g' := g') (fp := fp) R' Y.sz hlab rfl rfl
    refine k s' g' AF rfl (R.exp (tm := g.tm) K (fun c k => by simp) (fun e he => by simp [he]) ⟨f0, f1, f2, f3, f4, f5, (List.map_congr_left fun p hp => AF.lab p (O.lts p hp).2).trans O.labs, fun b => ?_, O.ndH, nodup_rem O.ndQ, fun b => ?_, O.leH, Nat.le_trans (length_rem ..) O.leQ⟩ (fun b k => ?_) ?_ rfl)
    · cases b
      · exact nodup_remL [a1] (O.nd false)
      · exact nodup_remL [] (O.nd true)
    · cases b
      · exact Nat.le_trans (length_remL [a1] g.lS) lS
      · exact Nat.le_trans (length_remL [] g.lM) lM
    · cases b
      · exact hL_of (O.nd false) hSk k
      · exact hL_of (O.nd true) hMk k
    · exact fun e => lk_rem' O.ndQ e
theorem exp_e10 (Y : Rdy w A s) (R : Rp w.params s.heap g a hd B) (hB : B ≤ 100) {q nq : Nat} {lq : SL} {r nr : Nat} {a1 : Int} {at1 : Nat} {au1 : Value} {r' nr' : Nat} (h2 : lk g.lQ g.tm = some (.ref (q+150))) (hq : s.heap.get? (q+150) = some (sdct w.params lq nq)) (hql : g.lab (q+150) = some (.q g.tm)) (hS : lk lq nS = some (.ref (r+150))) (hr : s.heap.get? (r+150) = some (idct [(a1, at1, au1)] nr)) (hrl : g.lab (r+150) = some (.r g.tm false)) (hrn : ([a1] : List Int).Nodup) (hM' : lk lq nM = some (.ref (r'+150))) (hr' : s.heap.get? (r'+150) = some (idct [] nr')) (hrl' : g.lab (r'+150) = some (.r g.tm true)) (hrn' : ([] : List Int).Nodup) (hSk : ∀ k, k ∈ ([a1] : List Int) ↔ ∃ x, a false k = some (x, g.tm)) (hMk : ∀ k, k ∈ ([] : List Int) ↔ ∃ x, a true k = some (x, g.tm))
    (k : ∀ s' g', Aft w.params s s' g g' fp → g'.tm = g.tm + 1 → Rp w.params s'.heap g' (expA a g.tm) hd B → R0 (.ok (.ret .none)) s') :
    codeAny (model prog w) A (.call (.ref 115) ⟨[.ref (g.A1+150)], []⟩) R0 s := by
  have O := R.obs
  have hlab : [g.A0+150, g.A1+150, g.A2+150, g.A3+150, g.A4+150, g.A5+150, q+150, r+150, r'+150].map g.lab = ([Role.o 0, .o 1, .o 2, .o 3, .o 4, .o 5, .q g.tm, .r g.tm false, .r g.tm true] : List Role).map some := by
    have := O.labs
    simp only [List.map_cons, List.map_nil, List.cons.injEq, and_true] at this ⊢
    simp [this, hql, hrl, hrl']
  have hZn : ([Role.o 0, .o 1, .o 2, .o 3, .o 4, .o 5, .q g.tm, .r g.tm false, .r g.tm true] : List Role).Nodup := by simp
  have hlt : ∀ p ∈ [g.A0+150, g.A1+150, g.A2+150, g.A3+150, g.A4+150, g.A5+150, q+150, r+150, r'+150], 150 ≤ p ∧ p < s.heap.objs.size :=
    lt_cons O.o0 (by omega) (lt_cons O.o1 (by omega) (lt_cons O.o2 (by omega) (lt_cons O.o3 (by omega) (lt_cons O.o4 (by omega) (lt_cons O.o5 (by omega) (lt_cons hq (by omega) (lt_cons hr (by omega) (lt_cons hr' (by omega) lt_nil))))))))
  have W := wf_of (prog := prog) (w := w) (s := s) Y.tb Y.ti Y.sz hlt (nodup_ps hlab hZn)
  have lS : g.lS.length ≤ B := O.le false
  have lM : g.lM.length ≤ B := O.le true
  have lQ := O.leQ
  have hM : topN s = s.heap.objs.size := by have := Y.sz; show s.heap.objs.size - 150 + 150 = _; omega
  have h150 := Y.sz
  have dS0 : (lk (g.lS) a1).isSome = true := some_remL (ks := []) (O.nd false) (there_of R ((hSk a1).mp (by simp))) (by simp only [List.nodup_cons, List.mem_cons, List.mem_nil_iff, or_false, not_or] at hrn; simp; try omega)
  have eS0 : (g.lS).length ≤ B := Nat.le_trans (length_remL [] g.lS) (O.le false)
  refine run_code W Y.hh (Nat.le_refl _) Y.hd (Nat.le_refl _) (T := e10_T w.params true prog default [] 0 0 g.A0 g.A1 g.A2 g.A3 g.A4 g.A5 g.k0 g.k1 g.k2 g.k3 g.k4 g.ti g.tm g.lM g.lS g.lH g.lQ g.eM g.eS g.eH g.eQ q r r' lq nq nr nr' a1 at1 au1)
    (sm := e10_S w.params true prog default [] (s.heap.objs.size - 150) s.toks g.A0 g.A1 g.A2 g.A3 g.A4 g.A5 g.k0 g.k1 g.k2 g.k3 g.k4 g.ti g.tm g.lM g.lS g.lH g.lQ g.eM g.eS g.eH g.eQ q r r' lq nq nr nr' a1 at1 au1) rfl ?_ rfl ?_
    (fun p bl => e10_ok w.params (w.params.followText "special-get-raises") prog p bl (s.heap.objs.size - 150) s.toks g.A0 g.A1 g.A2 g.A3 g.A4 g.A5 g.k0 g.k1 g.k2 g.k3 g.k4 g.ti g.tm g.lM g.lS g.lH g.lQ g.eM g.eS g.eH g.eQ q r r' lq nq nr nr' a1 at1 au1) (fun p bl => xeq rfl rfl rfl) ?_
  · exact start_of _ _ _ (And.intro O.o0 (And.intro O.o1 (And.intro O.o2 (And.intro O.o3 (And.intro O.o4 (And.intro O.o5 (And.intro hq (And.intro hr (And.intro hr' trivial)))))))))
  · unfold e10_S
    repeat' (first | exact all_nil | refine all_cons ?_ ?_)
    all_goals refine okx ?_ rfl
    all_goals first
      | (refine ok_hasI W ?_ ?_ ?_; rfl; omega; simp [h2, hS, hM', dS0])
      | (refine ok_getI W ?_ ?_ ?_; rfl; omega; simp [h2, hS, hM', dS0])
      | (refine ok_delI W ?_ ?_ ?_ ?_; rfl; omega; omega; simp [h2, hS, hM', dS0])
      | (refine ok_hasS W ?_ ?_ ?_ ?_; rfl; rfl; omega; simp [h2, hS, hM', dS0])
      | (refine ok_getS W ?_ ?_ ?_ ?_; rfl; omega; rfl; simp [h2, hS, hM', dS0])
      | (apply ok_knext W; rfl; rfl; rfl)
      | (refine ok_kend W ?_ ?_; rfl; rfl)
  · intro s' T' R' hp
    have F := allGet R' hp
    obtain ⟨f0, f1, f2, f3, f4, f5, -⟩ := F
    let g' : Cch := { g with tm := g.tm + 1, ti := s.toks + 24, lS := remL g.lS [a1], eS := g.eS + 1, lM := remL g.lM [], eM := g.eM, lQ := rem g.lQ g.tm, eQ := g.eQ + 1, lab := ext g.lab (topN s) (fun _ => none) }
    obtain ⟨AF, K⟩ := aft_of (f := fun _ => none) (g' := g') (fp := fp) R' Y.sz hlab rfl rfl
    refine k s' g' AF rfl (R.exp (tm := g.tm) K (fun c k => by simp) (fun e he => by simp [he]) ⟨f0, f1, f2, f3, f4, f5, (List.map_congr_left fun p hp => AF.lab p (O.lts p hp).2).trans O.labs, fun b => ?_, O.ndH, nodup_rem O.ndQ, fun b => ?_, O.leH, Nat.le_trans (length_rem ..) O.leQ⟩ (fun b k => ?_) ?_ rfl)
    · cases b
      · exact nodup_remL [a1] (O.nd false)
      · exact nodup_remL [] (O.nd true)
    · cases b
      · exact Nat.le_trans (length_remL [a1] g.lS) lS
      · exact Nat.le_trans (length_remL [] g.lM) lM
    · cases b
      · exact hL_of (O.nd false) hSk k
      · exact hL_of (O.nd true) hMk k
    · exact fun e => lk_rem' O.ndQ e
theorem exp_e11 (Y : Rdy w A s) (R : Rp w.params s.heap g a hd B) (hB : B ≤ 100) {q nq : Nat} {lq : SL} {r nr : Nat} {a1 : Int} {at1 : Nat} {au1 : Value} {r' nr' : Nat} {b1 : Int} {bt1 : Nat} {bu1 : Value} (h2 : lk g.lQ g.tm = some (.ref (q+150))) (hq : s.heap.get? (q+150) = some (sdct w.params lq nq)) (hql : g.lab (q+150) = some (.q g.tm)) (hS : lk lq nS = some (.ref (r+150))) (hr : s.heap.get? (r+150) = some (idct [(a1, at1, au1)] nr)) (hrl : g.lab (r+150) = some (.r g.tm false)) (hrn : ([a1] : List Int).Nodup) (hM' : lk lq nM = some (.ref (r'+150))) (hr' : s.heap.get? (r'+150) = some (idct [(b1, bt1, bu1)] nr')) (hrl' : g.lab (r'+150) = some (.r g.tm true)) (hrn' : ([b1] : List Int).Nodup) (hSk : ∀ k, k ∈ ([a1] : List Int) ↔ ∃ x, a false k = some (x, g.tm)) (hMk : ∀ k, k ∈ ([b1] : List Int) ↔ ∃ x, a true k = some (x, g.tm))
    (k : ∀ s' g', Aft w.params s s' g g' fp → g'.tm = g.tm + 1 → Rp w.params s'.heap g' (expA a g.tm) hd B → R0 (.ok (.ret .none)) s') :
    codeAny (model prog w) A (.call (.ref 115) ⟨[.ref (g.A1+150)], []⟩) R0 s := by
  have O := R.obs
  have hlab : [g.A0+150, g.A1+150, g.A2+150, g.A3+150, g.A4+150, g.A5+150, q+150, r+150, r'+150].map g.lab = ([Role.o 0, .o 1, .o 2, .o 3, .o 4, .o 5, .q g.tm, .r g.tm false, .r g.tm true] : List Role).map some := by
    have := O.labs
    simp only [List.map_cons, List.map_nil, List.cons.injEq, and_true] at this ⊢
    simp [this, hql, hrl, hrl']
  have hZn : ([Role.o 0, .o 1, .o 2, .o 3, .o 4, .o 5, .q g.tm, .r g.tm false, .r g.tm true] : List Role).Nodup := by simp
  have hlt : ∀ p ∈ [g.A0+150, g.A1+150, g.A2+150, g.A3+150, g.A4+150, g.A5+150, q+150, r+150, r'+150], 150 ≤ p ∧ p < s.heap.objs.size :=
    lt_cons O.o0 (by omega) (lt_cons O.o1 (by omega) (lt_cons O.o2 (by omega) (lt_cons O.o3 (by omega) (lt_cons O.o4 (by omega) (lt_cons O.o5 (by omega) (lt_cons hq (by omega) (lt_cons hr (by omega) (lt_cons hr' (by omega) lt_nil))))))))
  have W := wf_of (prog := prog) (w := w) (s := s) Y.tb Y.ti Y.sz hlt (nodup_ps hlab hZn)
  have lS : g.lS.length ≤ B := O.le false
  have lM : g.lM.length ≤ B := O.le true
  have lQ := O.leQ
  have hM : topN s = s.heap.objs.size := by have := Y.sz; show s.heap.objs.size - 150 + 150 = _; omega
  have h150 := Y.sz
  have dS0 : (lk (g.lS) a1).isSome = true := some_remL (ks := []) (O.nd false) (there_of R ((hSk a1).mp (by simp))) (by simp only [List.nodup_cons, List.mem_cons, List.mem_nil_iff, or_false, not_or] at hrn; simp; try omega)
  have eS0 : (g.lS).length ≤ B := Nat.le_trans (length_remL [] g.lS) (O.le false)
  have dM0 : (lk (g.lM) b1).isSome = true := some_remL (ks := []) (O.nd true) (there_of R ((hMk b1).mp (by simp))) (by simp only [List.nodup_cons, List.mem_cons, List.mem_nil_iff, or_false, not_or] at hrn'; simp; try omega)
  have eM0 : (g.lM).length ≤ B := Nat.le_trans (length_remL [] g.lM) (O.le true)
  refine run_code W Y.hh (Nat.le_refl _) Y.hd (Nat.le_refl _) (T := e11_T w.params true prog default [] 0 0 g.A0 g.A1 g.A2 g.A3 g.A4 g.A5 g.k0 g.k1 g.k2 g.k3 g.k4 g.ti g.tm g.lM g.lS g.lH g.lQ g.eM g.eS g.eH g.eQ q r r' lq nq nr nr' a1 at1 au1 b1 bt1 bu1)
    (sm := e11_S w.params true prog default [] (s.heap.objs.size - 150) s.toks g.A0 g.A1 g.A2 g.A3 g.A4 g.A5 g.k0 g.k1 g.k2 g.k3 g.k4 g.ti g.tm g.lM g.lS g.lH g.lQ g.eM g.eS g.eH g.eQ q r r' lq nq nr nr' a1 at1 au1 b1 bt1 bu1) rfl ?_ rfl ?_
    (fun p bl => e11_ok w.params (w.params.followText "special-get-raises") prog p bl (s.heap.objs.size - 150) s.toks g.A0 g.A1 g.A2 g.A3 g.A4 g.A5 g.k0 g.k1 g.k2 g.k3 g.k4 g.ti g.tm g.lM g.lS g.lH g.lQ g.eM g.eS g.eH g.eQ q r r' lq nq nr nr' a1 at1 au1 b1 bt1 bu1) (fun p bl => xeq rfl rfl rfl) ?_
  · exact start_of _ _ _ (And.intro O.o0 (And.intro O.o1 (And.intro O.o2 (And.intro O.o3 (And.intro O.o4 (And.intro O.o5 (And.intro hq (And.intro hr (And.intro hr' trivial)))))))))
  · unfold e11_S
    repeat' (first | exact all_nil | refine all_cons ?_ ?_)
    all_goals refine okx ?_ rfl
    all_goals first
      | (refine ok_hasI W ?_ ?_ ?_; rfl; omega; simp [h2, hS, hM', dS0, dM0])
      | (refine ok_getI W ?_ ?_ ?_; rfl; omega; simp [h2, hS, hM', dS0, dM0])
      | (refine ok_delI W ?_ ?_ ?_ ?_; rfl; omega; omega; simp [h2, hS, hM', dS0, dM0])
      | (refine ok_hasS W ?_ ?_ ?_ ?_; rfl; rfl; omega; simp [h2, hS, hM', dS0, dM0])
      | (refine ok_getS W ?_ ?_ ?_ ?_; rfl; omega; rfl; simp [h2, hS, hM', dS0, dM0])
      | (apply ok_knext W; rfl; rfl; rfl)
      | (refine ok_kend W ?_ ?_; rfl; rfl)
  · intro s' T' R' hp
    have F := allGet R' hp
    obtain ⟨f0, f1, f2, f3, f4, f5, -⟩ := F
    let g' : Cch := { g with tm := g.tm + 1, ti := s.toks + 27, lS := remL g.lS [a1], eS := g.eS + 1, lM := remL g.lM [b1], eM := g.eM + 1, lQ := rem g.lQ g.tm, eQ := g.eQ + 1, lab := ext g.lab (topN s) (fun _ => none) }
    obtain ⟨AF, K⟩ := aft_of (f := fun _ => none) (g' := g') (fp := fp) R' Y.sz hlab rfl rfl
    refine k s' g' AF rfl (R.exp (tm := g.tm) K (fun c k => by simp) (fun e he => by simp [he]) ⟨f0, f1, f2, f3, f4, f5, (List.map_congr_left fun p hp => AF.lab p (O.lts p hp).2).trans O.labs, fun b => ?_, O.ndH, nodup_rem O.ndQ, fun b => ?_, O.leH, Nat.le_trans (length_rem ..) O.leQ⟩ (fun b k => ?_) ?_ rfl)
    · cases b
      · exact nodup_remL [a1] (O.nd false)
      · exact nodup_remL [b1] (O.nd true)
    · cases b
      · exact Nat.le_trans (length_remL [a1] g.lS) lS
      · exact Nat.le_trans (length_remL [b1] g.lM) lM
    · cases b
      · exact hL_of (O.nd false) hSk k
      · exact hL_of (O.nd true) hMk k
    · exact fun e => lk_rem' O.ndQ e
theorem exp_e12 (Y : Rdy w A s) (R : Rp w.params s.heap g a hd B) (hB : B ≤ 100) {q nq : Nat} {lq : SL} {r nr : Nat} {a1 : Int} {at1 : Nat} {au1 : Value} {r' nr' : Nat} {b1 b2 : Int} {bt1 bt2 : Nat} {bu1 bu2 : Value} (h2 : lk g.lQ g.tm = some (.ref (q+150))) (hq : s.heap.get? (q+150) = some (sdct w.params lq nq)) (hql : g.lab (q+150) = some (.q g.tm)) (hS : lk lq nS = some (.ref (r+150))) (hr : s.heap.get? (r+150) = some (idct [(a1, at1, au1)] nr)) (hrl : g.lab (r+150) = some (.r g.tm false)) (hrn : ([a1] : List Int).Nodup) (hM' : lk lq nM = some (.ref (r'+150))) (hr' : s.heap.get? (r'+150) = some (idct [(b1, bt1, bu1), (b2, bt2, bu2)] nr')) (hrl' : g.lab (r'+150) = some (.r g.tm true)) (hrn' : ([b1, b2] : List Int).Nodup) (hSk : ∀ k, k ∈ ([a1] : List Int) ↔ ∃ x, a false k = some (x, g.tm)) (hMk : ∀ k, k ∈ ([b1, b2] : List Int) ↔ ∃ x, a true k = some (x, g.tm))
    (k : ∀ s' g', Aft w.params s s' g g' fp → g'.tm = g.tm + 1 → Rp w.params s'.heap g' (expA a g.tm) hd B → R0 (.ok (.ret .none)) s') :
    codeAny (model prog w) A (.call (.ref 115) ⟨[.ref (g.A1+150)], []⟩) R0 s := by
  have O := R.obs
  have hlab : [g.A0+150, g.A1+150, g.A2+150, g.A3+150, g.A4+150, g.A5+150, q+150, r+150, r'+150].map g.lab = ([Role.o 0, .o 1, .o 2, .o 3, .o 4, .o 5, .q g.tm, .r g.tm false, .r g.tm true] : List Role).map some := by
    have := O.labs
    simp only [List.map_cons, List.map_nil, List.cons.injEq, and_true] at this ⊢
    simp [this, hql, hrl, hrl']
  have hZn : ([Role.o 0, .o 1, .o 2, .o 3, .o 4, .o 5, .q g.tm, .r g.tm false, .r g.tm true] : List Role).Nodup := by simp
  have hlt : ∀ p ∈ [g.A0+150, g.A1+150, g.A2+150, g.A3+150, g.A4+150, g.A5+150, q+150, r+150, r'+150], 150 ≤ p ∧ p < s.heap.objs.size :=
    lt_cons O.o0 (by omega) (lt_cons O.o1 (by omega) (lt_cons O.o2 (by omega) (lt_cons O.o3 (by omega) (lt_cons O.o4 (by omega) (lt_cons O.o5 (by omega) (lt_cons hq (by omega) (lt_cons hr (by omega) (lt_cons hr' (by omega) lt_nil))))))))
  have W := wf_of (prog := prog) (w := w) (s := s) Y.tb Y.ti Y.sz hlt (nodup_ps hlab hZn)
  have lS : g.lS.length ≤ B := O.le false
  have lM : g.lM.length ≤ B := O.le true
  have lQ := O.leQ
  have hM : topN s = s.heap.objs.size := by have := Y.sz; show s.heap.objs.size - 150 + 150 = _; omega
  have h150 := Y.sz
  have dS0 : (lk (g.lS) a1).isSome = true := some_remL (ks := []) (O.nd false) (there_of R ((hSk a1).mp (by simp))) (by simp only [List.nodup_cons, List.mem_cons, List.mem_nil_iff, or_false, not_or] at hrn; simp; try omega)
  have eS0 : (g.lS).length ≤ B := Nat.le_trans (length_remL [] g.lS) (O.le false)
  have dM0 : (lk (g.lM) b1).isSome = true := some_remL (ks := []) (O.nd true) (there_of R ((hMk b1).mp (by simp))) (by simp only [List.nodup_cons, List.mem_cons, List.mem_nil_iff, or_false, not_or] at hrn'; simp; try omega)
  have eM0 : (g.lM).length ≤ B := Nat.le_trans (length_remL [] g.lM) (O.le true)
  have dM1 : (lk (rem g.lM b1) b2).isSome = true := some_remL (ks := [b1]) (O.nd true) (there_of R ((hMk b2).mp (by simp))) (by simp only [List.nodup_cons, List.mem_cons, List.mem_nil_iff, or_false, not_or] at hrn'; simp; try omega)
  have eM1 : (rem g.lM b1).length ≤ B := Nat.le_trans (length_remL [b1] g.lM) (O.le true)
  refine run_code W Y.hh (Nat.le_refl _) Y.hd (Nat.le_refl _) (T := e12_T w.params true prog default [] 0 0 g.A0 g.A1 g.A2 g.A3 g.A4 g.A5 g.k0 g.k1 g.k2 g.k3 g.k4 g.ti g.tm g.lM g.lS g.lH g.lQ g.eM g.eS g.eH g.eQ q r r' lq nq nr nr' a1 at1 au1 b1 b2 bt1 bt2 bu1 bu2)
    (sm := e12_S w.params true prog default [] (s.heap.objs.size - 150) s.toks g.A0 g.A1 g.A2 g.A3 g.A4 g.A5 g.k0 g.k1 g.k2 g.k3 g.k4 g.ti g.tm g.lM g.lS g.lH g.lQ g.eM g.eS g.eH g.eQ q r r' lq nq nr nr' a1 at1 au1 b1 b2 bt1 bt2 bu1 bu2) rfl ?_ rfl ?_
    (fun p bl => e12_ok w.params (w.params.followText "special-get-raises") prog p bl (s.heap.objs.size - 150) s.toks g.A0 g.A1 g.A2 g.A3 g.A4 g.A5 g.k0 g.k1 g.k2 g.k3 g.k4 g.ti g.tm g.lM g.lS g.lH g.lQ g.eM g.eS g.eH g.eQ q r r' lq nq nr nr' a1 at1 au1 b1 b2 bt1 bt2 bu1 bu2) (fun p bl => xeq rfl rfl rfl) ?_
  · exact start_of _ _ _ (And.intro O.o0 (And.intro O.o1 (And.intro O.o2 (And.intro O.o3 (And.intro O.o4 (And.intro O.o5 (And.intro hq (And.intro hr (And.intro hr' trivial)))))))))
  · unfold e12_S
    repeat' (first | exact all_nil | refine all_cons ?_ ?_)
    all_goals refine okx ?_ rfl
    all_goals first
      | (refine ok_hasI W ?_ ?_ ?_; rfl; omega; simp [h2, hS, hM', dS0, dM0, dM1])
      | (refine ok_getI W ?_ ?_ ?_; rfl; omega; simp [h2, hS, hM', dS0, dM0, dM1])
      | (refine ok_delI W ?_ ?_ ?_ ?_; rfl; omega; omega; simp [h2, hS, hM', dS0, dM0, dM1])
      | (refine ok_hasS W ?_ ?_ ?_ ?_; rfl; rfl; omega; simp [h2, hS, hM', dS0, dM0, dM1])
      | (refine ok_getS W ?_ ?_ ?_ ?_; rfl; omega; rfl; simp [h2, hS, hM', dS0, dM0, dM1])
      | (apply ok_knext W; rfl; rfl; rfl)
      | (refine ok_kend W ?_ ?_; rfl; rfl)
  · intro s' T' R' hp
    have F := allGet R' hp
    obtain ⟨f0, f1, f2, f3, f4, f5, -⟩ := F
    let g' : Cch := { g with tm := g.tm + 1, ti := s.toks + 30, lS := remL g.lS [a1], eS := g.eS + 1, lM := remL g.lM [b1, b2], eM := g.eM + 1 + 1, lQ := rem g.lQ g.tm, eQ := g.eQ + 1, lab := ext g.lab (topN s) (fun _ => none) }
    obtain ⟨AF, K⟩ := aft_of (f := fun _ => none) (g' := g') (fp := fp) R' Y.sz hlab rfl rfl
    refine k s' g' AF rfl (R.exp (tm := g.tm) K (fun c k => by simp) (fun e he => by simp [he]) ⟨f0, f1, f2, f3, f4, f5, (List.map_congr_left fun p hp => AF.lab p (O.lts p hp).2).trans O.labs, fun b => ?_, O.ndH, nodup_rem O.ndQ, fun b => ?_, O.leH, Nat.le_trans (length_rem ..) O.leQ⟩ (fun b k => ?_) ?_ rfl)
    · cases b
      · exact nodup_remL [a1] (O.nd false)
      · exact nodup_remL [b1, b2] (O.nd true)
    · cases b
      · exact Nat.le_trans (length_remL [a1] g.lS) lS
      · exact Nat.le_trans (length_remL [b1, b2] g.lM) lM
    · cases b
      · exact hL_of (O.nd false) hSk k
      · exact hL_of (O.nd true) hMk k
    · exact fun e => lk_rem' O.ndQ e
theorem exp_e13 (Y : Rdy w A s) (R : Rp w.params s.heap g a hd B) (hB : B ≤ 100) {q nq : Nat} {lq : SL} {r nr : Nat} {a1 : Int} {at1 : Nat} {au1 : Value} {r' nr' : Nat} {b1 b2 b3 : Int} {bt1 bt2 bt3 : Nat} {bu1 bu2 bu3 : Value} (h2 : lk g.lQ g.tm = some (.ref (q+150))) (hq : s.heap.get? (q+150) = some (sdct w.params lq nq)) (hql : g.lab (q+150) = some (.q g.tm)) (hS : lk lq nS = some (.ref (r+150))) (hr : s.heap.get? (r+150) = some (idct [(a1, at1, au1)] nr)) (hrl : g.lab (r+150) = some (.r g.tm false)) (hrn : ([a1] : List Int).Nodup) (hM' : lk lq nM = some (.ref (r'+150))) (hr' : s.heap.get? (r'+150) = some (idct [(b1, bt1, bu1), (b2, bt2, bu2), (b3, bt3, bu3)] nr')) (hrl' : g.lab (r'+150) = some (.r g.tm true)) (hrn' : ([b1, b2, b3] : List Int).Nodup) (hSk : ∀ k, k ∈ ([a1] : List Int) ↔ ∃ x, a false k = some (x, g.tm)) (hMk : ∀ k, k ∈ ([b1, b2, b3] : List Int) ↔ ∃ x, a true k = some (x, g.tm))
    (k : ∀ s' g', Aft w.params s s' g g' fp → g'.tm = g.tm + 1 → Rp w.params s'.heap g' (expA a g.tm) hd B → R0 (.ok (.ret .none)) s') :
    codeAny (model prog w) A (.call (.ref 115) ⟨[.ref (g.A1+150)], []⟩) R0 s := by
  have O := R.obs
  have hlab : [g.A0+150, g.A1+150, g.A2+150, g.A3+150, g.A4+150, g.A5+150, q+150, r+150, r'+150].map g.lab = ([Role.o 0, .o 1, .o 2, .o 3, .o 4, .o 5, .q g.tm, .r g.tm false, .r g.tm true] : List Role).map some := by
    have := O.labs
    simp only [List.map_cons, List.map_nil, List.cons.injEq, and_true] at this ⊢
    simp [this, hql, hrl, hrl']
  have hZn : ([Role.o 0, .o 1, .o 2, .o 3, .o 4, .o 5, .q g.tm, .r g.tm false, .r g.tm true] : List Role).Nodup := by simp
  have hlt : ∀ p ∈ [g.A0+150, g.A1+150, g.A2+150, g.A3+150, g.A4+150, g.A5+150, q+150, r+150, r'+150], 150 ≤ p ∧ p < s.heap.objs.size :=
    lt_cons O.o0 (by omega) (lt_cons O.o1 (by omega) (lt_cons O.o2 (by omega) (lt_cons O.o3 (by omega) (lt_cons O.o4 (by omega) (lt_cons O.o5 (by omega) (lt_cons hq (by omega) (lt_cons hr (by omega) (lt_cons hr' (by omega) lt_nil))))))))
  have W := wf_of (prog := prog) (w := w) (s := s) Y.tb Y.ti Y.sz hlt (nodup_ps hlab hZn)
  have lS : g.lS.length ≤ B := O.le false
  have lM : g.lM.length ≤ B := O.le true
  have lQ := O.leQ
  have hM : topN s = s.heap.objs.size := by have := Y.sz; show s.heap.objs.size - 150 + 150 = _; omega
  have h150 := Y.sz
  have dS0 : (lk (g.lS) a1).isSome = true := some_remL (ks := []) (O.nd false) (there_of R ((hSk a1).mp (by simp))) (by simp only [List.nodup_cons, List.mem_cons, List.mem_nil_iff, or_false, not_or] at hrn; simp; try omega)
  have eS0 : (g.lS).length ≤ B := Nat.le_trans (length_remL [] g.lS) (O.le false)
  have dM0 : (lk (g.lM) b1).isSome = true := some_remL (ks := []) (O.nd true) (there_of R ((hMk b1).mp (by simp))) (by simp only [List.nodup_cons, List.mem_cons, List.mem_nil_iff, or_false, not_or] at hrn'; simp; try omega)
  have eM0 : (g.lM).length ≤ B := Nat.le_trans (length_remL [] g.lM) (O.le true)
  have dM1 : (lk (rem g.lM b1) b2).isSome = true := some_remL (ks := [b1]) (O.nd true) (there_of R ((hMk b2).mp (by simp))) (by simp only [List.nodup_cons, List.mem_cons, List.mem_nil_iff, or_false, not_or] at hrn'; simp; try omega)
  have eM1 : (rem g.lM b1).length ≤ B := Nat.le_trans (length_remL [b1] g.lM) (O.le true)
  have dM2 : (lk (rem (rem g.lM b1) b2) b3).isSome = true := some_remL (ks := [b1, b2]) (O.nd true) (there_of R ((hMk b3).mp (by simp))) (by simp only [List.nodup_cons, List.mem_cons, List.mem_nil_iff, or_false, not_or] at hrn'; simp; try omega)
  have eM2 : (rem (rem g.lM b1) b2).length ≤ B := Nat.le_trans (length_remL [b1, b2] g.lM) (O.le true)
  refine run_code W Y.hh (Nat.le_refl _) Y.hd (Nat.le_refl _) (T := e13_T w.params true prog default [] 0 0 g.A0 g.A1 g.A2 g.A3 g.A4 g.A5 g.k0 g.k1 g.k2 g.k3 g.k4 g.ti g.tm g.lM g.lS g.lH g.lQ g.eM g.eS g.eH g.eQ q r r' lq nq nr nr' a1 at1 au1 b1 b2 b3 bt1 bt2 bt3 bu1 bu2 bu3)
    (sm := e13_S w.params true prog default [] (s.heap.objs.size - 150) s.toks g.A0 g.A1 g.A2 g.A3 g.A4 g.A5 g.k0 g.k1 g.k2 g.k3 g.k4 g.ti g.tm g.lM g.lS g.lH g.lQ g.eM g.eS g.eH g.eQ q r r' lq nq nr nr' a1 at1 au1 b1 b2 b3 bt1 bt2 bt3 bu1 bu2 bu3) rfl ?_ rfl ?_
    (fun p bl => e13_ok w.params (w.params.followText "special-get-raises") prog p bl (s.heap.objs.size - 150) s.toks g.A0 g.A1 g.A2 g.A3 g.A4 g.A5 g.k0 g.k1 g.k2 g.k3 g.k4 g.ti g.tm g.lM g.lS g.lH g.lQ g.eM g.eS g.eH g.eQ q r r' lq nq nr nr' a1 at1 au1 b1 b2 b3 bt1 bt2 bt3 bu1 bu2 bu3) (fun p bl => xeq rfl rfl rfl) ?_
  · exact start_of _ _ _ (And.intro O.o0 (And.intro O.o1 (And.intro O.o2 (And.intro O.o3 (And.intro O.o4 (And.intro O.o5 (And.intro hq (And.intro hr (And.intro hr' trivial)))))))))
  · unfold e13_S
    repeat' (first | exact all_nil | refine all_cons ?_ ?_)
    all_goals refine okx ?_ rfl
    all_goals first
      | (refine ok_hasI W ?_ ?_ ?_; rfl; omega; simp [h2, hS, hM', dS0, dM0, dM1, dM2])
      | (refine ok_getI W ?_ ?_ ?_; rfl; omega; simp [h2, hS, hM', dS0, dM0, dM1, dM2])
      | (refine ok_delI W ?_ ?_ ?_ ?_; rfl; omega; omega; simp [h2, hS, hM', dS0, dM0, dM1, dM2])
      | (refine ok_hasS W ?_ ?_ ?_ ?_; rfl; rfl; omega; simp [h2, hS, hM', dS0, dM0, dM1, dM2])
      | (refine ok_getS W ?_ ?_ ?_ ?_; rfl; omega; rfl; simp [h2, hS, hM', dS0, dM0, dM1, dM2])
      | (apply ok_knext W; rfl; rfl; rfl)
      | (refine ok_kend W ?_ ?_; rfl; rfl)
  · intro s' T' R' hp
    have F := allGet R' hp
    obtain ⟨f0, f1, f2, f3, f4, f5, -⟩ := F
    let g' : Cch := { g with tm := g.tm + 1, ti := s.toks + 33, lS := remL g.lS [a1], eS := g.eS + 1, lM := remL g.lM [b1, b2, b3], eM := g.eM + 1 + 1 + 1, lQ := rem g.lQ g.tm, eQ := g.eQ + 1, lab := ext g.lab (topN s) (fun _ => none) }
    obtain ⟨AF, K⟩ := aft_of (f := fun _ => none) (g' := g') (fp := fp) R' Y.sz hlab rfl rfl
    refine k s' g' AF rfl (R.exp (tm := g.tm) K (fun c k => by simp) (fun e he => by simp [he]) ⟨f0, f1, f2, f3, f4, f5, (List.map_congr_left fun p hp => AF.lab p (O.lts p hp).2).trans O.labs, fun b => ?_, O.ndH, nodup_rem O.ndQ, fun b => ?_, O.leH, Nat.le_trans (length_rem ..) O.leQ⟩ (fun b k => ?_) ?_ rfl)
    · cases b
      · exact nodup_remL [a1] (O.nd false)
      · exact nodup_remL [b1, b2, b3] (O.nd true)
    · cases b
      · exact Nat.le_trans (length_remL [a1] g.lS) lS
      · exact Nat.le_trans (length_remL [b1, b2, b3] g.lM) lM
    · cases b
      · exact hL_of (O.nd false) hSk k
      · exact hL_of (O.nd true) hMk k
    · exact fun e => lk_rem' O.ndQ e
theorem exp_e2n (Y : Rdy w A s) (R : Rp w.params s.heap g a hd B) (hB : B ≤ 100) {q nq : Nat} {lq : SL} {r nr : Nat} {a1 a2 : Int} {at1 at2 : Nat} {au1 au2 : Value} (h2 : lk g.lQ g.tm = some (.ref (q+150))) (hq : s.heap.get? (q+150) = some (sdct w.params lq nq)) (hql : g.lab (q+150) = some (.q g.tm)) (hS : lk lq nS = some (.ref (r+150))) (hr : s.heap.get? (r+150) = some (idct [(a1, at1, au1), (a2, at2, au2)] nr)) (hrl : g.lab (r+150) = some (.r g.tm false)) (hrn : ([a1, a2] : List Int).Nodup) (hM' : lk lq nM = none) (hSk : ∀ k, k ∈ ([a1, a2] : List Int) ↔ ∃ x, a false k = some (x, g.tm)) (hMk : ∀ k, k ∈ ([] : List Int) ↔ ∃ x, a true k = some (x, g.tm))
    (k : ∀ s' g', Aft w.params s s' g g' fp → g'.tm = g.tm + 1 → Rp w.params s'.heap g' (expA a g.tm) hd B → R0 (.ok (.ret .none)) s') :
    codeAny (model prog w) A (.call (.ref 115) ⟨[.ref (g.A1+150)], []⟩) R0 s := by
  have O := R.obs
  have hlab : [g.A0+150, g.A1+150, g.A2+150, g.A3+150, g.A4+150, g.A5+150, q+150, r+150].map g.lab = ([Role.o 0, .o 1, .o 2, .o 3, .o 4, .o 5, .q g.tm, .r g.tm false] : List Role).map some := by
    have := O.labs
    simp only [List.map_cons, List.map_nil, List.cons.injEq, and_true] at this ⊢
    simp [this, hql, hrl]
  have hZn : ([Role.o 0, .o 1, .o 2, .o 3, .o 4, .o 5, .q g.tm, .r g.tm false] : List Role).Nodup := by simp
  have hlt : ∀ p ∈ [g.A0+150, g.A1+150, g.A2+150, g.A3+150, g.A4+150, g.A5+150, q+150, r+150], 150 ≤ p ∧ p < s.heap.objs.size :=
    lt_cons O.o0 (by omega) (lt_cons O.o1 (by omega) (lt_cons O.o2 (by omega) (lt_cons O.o3 (by omega) (lt_cons O.o4 (by omega) (lt_cons O.o5 (by omega) (lt_cons hq (by omega) (lt_cons hr (by omega) lt_nil)))))))
  have W := wf_of (prog := prog) (w := w) (s := s) Y.tb Y.ti Y.sz hlt (nodup_ps hlab hZn)
  have lS : g.lS.length ≤ B := O.le false
  have lM : g.lM.length ≤ B := O.le true
  have lQ := O.leQ
  have hM : topN s = s.heap.objs.size := by have := Y.sz; show s.heap.objs.size - 150 + 150 = _; omega
  have h150 := Y.sz
  have dS0 : (lk (g.lS) a1).isSome = true := some_remL (ks := []) (O.nd false) (there_of R ((hSk a1).mp (by simp))) (by simp only [List.nodup_cons, List.mem_cons, List.mem_nil_iff, or_false, not_or] at hrn; simp; try omega)
  have eS0 : (g.lS).length ≤ B := Nat.le_trans (length_remL [] g.lS) (O.le false)
  have dS1 : (lk (rem g.lS a1) a2).isSome = true := some_remL (ks := [a1]) (O.nd false) (there_of R ((hSk a2).mp (by simp))) (by simp only [List.nodup_cons, List.mem_cons, List.mem_nil_iff, or_false, not_or] at hrn; simp; try omega)
  have eS1 : (rem g.lS a1).length ≤ B := Nat.le_trans (length_remL [a1] g.lS) (O.le false)
  refine run_code W Y.hh (Nat.le_refl _) Y.hd (Nat.le_refl _) (T := e2n_T w.params true prog default [] 0 0 g.A0 g.A1 g.A2 g.A3 g.A4 g.A5 g.k0 g.k1 g.k2 g.k3 g.k4 g.ti g.tm g.lM g.lS g.lH g.lQ g.eM g.eS g.eH g.eQ q r 0 lq nq nr 0 a1 a2 at1 at2 au1 au2)
    (sm := e2n_S w.params true prog default [] (s.heap.objs.size - 150) s.toks g.A0 g.A1 g.A2 g.A3 g.A4 g.A5 g.k0 g.k1 g.k2 g.k3 g.k4 g.ti g.tm g.lM g.lS g.lH g.lQ g.eM g.eS g.eH g.eQ q r 0 lq nq nr 0 a1 a2 at1 at2 au1 au2) rfl ?_ rfl ?_
    (fun p bl => e2n_ok w.params (w.params.followText "special-get-raises") prog p bl (s.heap.objs.size - 150) s.toks g.A0 g.A1 g.A2 g.A3 g.A4 g.A5 g.k0 g.k1 g.k2 g.k3 g.k4 g.ti g.tm g.lM g.lS g.lH g.lQ g.eM g.eS g.eH g.eQ q r 0 lq nq nr 0 a1 a2 at1 at2 au1 au2) (fun p bl => xeq rfl rfl rfl) ?_
  · exact start_of _ _ _ (And.intro O.o0 (And.intro O.o1 (And.intro O.o2 (And.intro O.o3 (And.intro O.o4 (And.intro O.o5 (And.intro hq (And.intro hr trivial))))))))
  · unfold e2n_S
    repeat' (first | exact all_nil | refine all_cons ?_ ?_)
    all_goals refine okx ?_ rfl
    all_goals first
      | (refine ok_hasI W ?_ ?_ ?_; rfl; omega; simp [h2, hS, hM', dS0, dS1])
      | (refine ok_getI W ?_ ?_ ?_; rfl; omega; simp [h2, hS, hM', dS0, dS1])
      | (refine ok_delI W ?_ ?_ ?_ ?_; rfl; omega; omega; simp [h2, hS, hM', dS0, dS1])
      | (refine ok_hasS W ?_ ?_ ?_ ?_; rfl; rfl; omega; simp [h2, hS, hM', dS0, dS1])
      | (refine ok_getS W ?_ ?_ ?_ ?_; rfl; omega; rfl; simp [h2, hS, hM', dS0, dS1])
      | (apply ok_knext W; rfl; rfl; rfl)
      | (refine ok_kend W ?_ ?_; rfl; rfl)
  · intro s' T' R' hp
    have F := allGet R' hp
    obtain ⟨f0, f1, f2, f3, f4, f5, -⟩ := F
    let g' : Cch := { g with tm := g.tm + 1, ti := s.toks + 25, lS := remL g.lS [a1, a2], eS := g.eS + 1 + 1, lM := remL g.lM [], eM := g.eM, lQ := rem g.lQ g.tm, eQ := g.eQ + 1, lab := ext g.lab (topN s) (fun _ => none) }
    obtain ⟨AF, K⟩ := aft_of (f := fun _ => none) (g' := g') (fp := fp) R' Y.sz hlab rfl rfl
    refine k s' g' AF rfl (R.exp (tm := g.tm) K (fun c k => by simp) (fun e he => by simp [he]) ⟨f0, f1, f2, f3, f4, f5, (List.map_congr_left fun p hp => AF.lab p (O.lts p hp).2).trans O.labs, fun b => ?_, O.ndH, nodup_rem O.ndQ, fun b => ?_, O.leH, Nat.le_trans (length_rem ..) O.leQ⟩ (fun b k => ?_) ?_ rfl)
    · cases b
      · exact nodup_remL [a1, a2] (O.nd false)
      · exact nodup_remL [] (O.nd true)
    · cases b
      · exact Nat.le_trans (length_remL [a1, a2] g.lS) lS
      · exact Nat.le_trans (length_remL [] g.lM) lM
    · cases b
      · exact hL_of (O.nd false) hSk k
      · exact hL_of (O.nd true) hMk k
    · exact fun e => lk_rem' O.ndQ e
theorem exp_e20 (Y : Rdy w A s) (R : Rp w.params s.heap g a hd B) (hB : B ≤ 100) {q nq : Nat} {lq : SL} {r nr : Nat} {a1 a2 : Int} {at1 at2 : Nat} {au1 au2 : Value} {r' nr' : Nat} (h2 : lk g.lQ g.tm = some (.ref (q+150))) (hq : s.heap.get? (q+150) = some (sdct w.params lq nq)) (hql : g.lab (q+150) = some (.q g.tm)) (hS : lk lq nS = some (.ref (r+150))) (hr : s.heap.get? (r+150) = some (idct [(a1, at1, au1), (a2, at2, au2)] nr)) (hrl : g.lab (r+150) = some (.r g.tm false)) (hrn : ([a1, a2] : List Int).Nodup) (hM' : lk lq nM = some (.ref (r'+150))) (hr' : s.heap.get? (r'+150) = some (idct [] nr')) (hrl' : g.lab (r'+150) = some (.r g.tm true)) (hrn' : ([] : List Int).Nodup) (hSk : ∀ k, k ∈ ([a1, a2] : List Int) ↔ ∃ x, a false k = some (x, g.tm)) (hMk : ∀ k, k ∈ ([] : List Int) ↔ ∃ x, a true k = some (x, g.tm))
    (k : ∀ s' g', Aft w.params s s' g g' fp → g'.tm = g.tm + 1 → Rp w.params s'.heap g' (expA a g.tm) hd B → R0 (.ok (.ret .none)) s') :
    codeAny (model prog w) A (.call (.ref 115) ⟨[.ref (g.A1+150)], []⟩) R0 s := by
  have O := R.obs
  have hlab : [g.A0+150, g.A1+150, g.A2+150, g.A3+150, g.A4+150, g.A5+150, q+150, r+150, r'+150].map g.lab = ([Role.o 0, .o 1, .o 2, .o 3, .o 4, .o 5, .q g.tm, .r g.tm false, .r g.tm true] : List Role).map some := by
    have := O.labs
    simp only [List.map_cons, List.map_nil, List.cons.injEq, and_true] at this ⊢
    simp [this, hql, hrl, hrl']
  have hZn : ([Role.o 0, .o 1, .o 2, .o 3, .o 4, .o 5, .q g.tm, .r g.tm false, .r g.tm true] : List Role).Nodup := by simp
  have hlt : ∀ p ∈ [g.A0+150, g.A1+150, g.A2+150, g.A3+150, g.A4+150, g.A5+150, q+150, r+150, r'+150], 150 ≤ p ∧ p < s.heap.objs.size :=
    lt_cons O.o0 (by omega) (lt_cons O.o1 (by omega) (lt_cons O.o2 (by omega) (lt_cons O.o3 (by omega) (lt_cons O.o4 (by omega) (lt_cons O.o5 (by omega) (lt_cons hq (by omega) (lt_cons hr (by omega) (lt_cons hr' (by omega) lt_nil))))))))
  have W := wf_of (prog := prog) (w := w) (s := s) Y.tb Y.ti Y.sz hlt (nodup_ps hlab hZn)
  have lS : g.lS.length ≤ B := O.le false
  have lM : g.lM.length ≤ B := O.le true
  have lQ := O.leQ
  have hM : topN s = s.heap.objs.size := by have := Y.sz; show s.heap.objs.size - 150 + 150 = _; omega
  have h150 := Y.sz
  have dS0 : (lk (g.lS) a1).isSome = true := some_remL (ks := []) (O.nd false) (there_of R ((hSk a1).mp (by simp))) (by simp only [List.nodup_cons, List.mem_cons, List.mem_nil_iff, or_false, not_or] at hrn; simp; try omega)
  have eS0 : (g.lS).length ≤ B := Nat.le_trans (length_remL [] g.lS) (O.le false)
  have dS1 : (lk (rem g.lS a1) a2).isSome = true := some_remL (ks := [a1]) (O.nd false) (there_of R ((hSk a2).mp (by simp))) (by simp only [List.nodup_cons, List.mem_cons, List.mem_nil_iff, or_false, not_or] at hrn; simp; try omega)
  have eS1 : (rem g.lS a1).length ≤ B := Nat.le_trans (length_remL [a1] g.lS) (O.le false)
  refine run_code W Y.hh (Nat.le_refl _) Y.hd (Nat.le_refl _) (T := e20_T w.params true prog default [] 0 0 g.A0 g.A1 g.A2 g.A3 g.A4 g.A5 g.k0 g.k1 g.k2 g.k3 g.k4 g.ti g.tm g.lM g.lS g.lH g.lQ g.eM g.eS g.eH g.eQ q r r' lq nq nr nr' a1 a2 at1 at2 au1 au2)
    (sm := e20_S w.params true prog default [] (s.heap.objs.size - 150) s.toks g.A0 g.A1 g.A2 g.A3 g.A4 g.A5 g.k0 g.k1 g.k2 g.k3 g.k4 g.ti g.tm g.lM g.lS g.lH g.lQ g.eM g.eS g.eH g.eQ q r r' lq nq nr nr' a1 a2 at1 at2 au1 au2) rfl ?_ rfl ?_
    (fun p bl => e20_ok w.params (w.params.followText "special-get-raises") prog p bl (s.heap.objs.size - 150) s.toks g.A0 g.A1 g.A2 g.A3 g.A4 g.A5 g.k0 g.k1 g.k2 g.k3 g.k4 g.ti g.tm g.lM g.lS g.lH g.lQ g.eM g.eS g.eH g.eQ q r r' lq nq nr nr' a1 a2 at1 at2 au1 au2) (fun p bl => xeq rfl rfl rfl) ?_
  · exact start_of _ _ _ (And.intro O.o0 (And.intro O.o1 (And.intro O.o2 (And.intro O.o3 (And.intro O.o4 (And.intro O.o5 (And.intro hq (And.intro hr (And.intro hr' trivial)))))))))
  · unfold e20_S
    repeat' (first | exact all_nil | refine all_cons ?_ ?_)
    all_goals refine okx ?_ rfl
    all_goals first
      | (refine ok_hasI W ?_ ?_ ?_; rfl; omega; simp [h2, hS, hM', dS0, dS1])
      | (refine ok_getI W ?_ ?_ ?_; rfl; omega; simp [h2, hS, hM', dS0, dS1])
      | (refine ok_delI W ?_ ?_ ?_ ?_; rfl; omega; omega; simp [h2, hS, hM', dS0, dS1])
      | (refine ok_hasS W ?_ ?_ ?_ ?_; rfl; rfl; omega; simp [h2, hS, hM', dS0, dS1])
      | (refine ok_getS W ?_ ?_ ?_ ?_; rfl; omega; rfl; simp [h2, hS, hM', dS0, dS1])
      | (apply ok_knext W; rfl; rfl; rfl)
      | (refine ok_kend W ?_ ?_; rfl; rfl)
  · intro s' T' R' hp
    have F := allGet R' hp
    obtain ⟨f0, f1, f2, f3, f4, f5, -⟩ := F
    let g' : Cch := { g with tm := g.tm + 1, ti := s.toks + 27, lS := remL g.lS [a1, a2], eS := g.eS + 1 + 1, lM := remL g.lM [], eM := g.eM, lQ := rem g.lQ g.tm, eQ := g.eQ + 1, lab := ext g.lab (topN s) (fun _ => none) }
    obtain ⟨AF, K⟩ := aft_of (f := fun _ => none) (g' := g') (fp := fp) R' Y.sz hlab rfl rfl
    refine k s' g' AF rfl (R.exp (tm := g.tm) K (fun c k => by simp) (fun e he => by simp [he]) ⟨f0, f1, f2, f3, f4, f5, (List.map_congr_left fun p hp => AF.lab p (O.lts p hp).2).trans O.labs, fun b => ?_, O.ndH, nodup_rem O.ndQ, fun b => ?_, O.leH, Nat.le_trans (length_rem ..) O.leQ⟩ (fun b k => ?_) ?_ rfl)
    · cases b
      · exact nodup_remL [a1, a2] (O.nd false)
      · exact nodup_remL [] (O.nd true)
    · cases b
      · exact Nat.le_trans (length_remL [a1, a2] g.lS) lS
      · exact Nat.le_trans (length_remL [] g.lM) lM
    · cases b
      · exact hL_of (O.nd false) hSk k
      · exact hL_of (O.nd true) hMk k
    · exact fun e => lk_rem' O.ndQ e
theorem exp_e21 (Y : Rdy w A s) (R : Rp w.params s.heap g a hd B) (hB : B ≤ 100) {q nq : Nat} {lq : SL} {r nr : Nat} {a1 a2 : Int} {at1 at2 : Nat} {au1 au2 : Value} {r' nr' : Nat} {b1 : Int} {bt1 : Nat} {bu1 : Value} (h2 : lk g.lQ g.tm = some (.ref (q+150))) (hq : s.heap.get? (q+150) = some (sdct w.params lq nq)) (hql : g.lab (q+150) = some (.q g.tm)) (hS : lk lq nS = some (.ref (r+150))) (hr : s.heap.get? (r+150) = some (idct [(a1, at1, au1), (a2, at2, au2)] nr)) (hrl : g.lab (r+150) = some (.r g.tm false)) (hrn : ([a1, a2] : List Int).Nodup) (hM' : lk lq nM = some (.ref (r'+150))) (hr' : s.heap.get? (r'+150) = some (idct [(b1, bt1, bu1)] nr')) (hrl' : g.lab (r'+150) = some (.r g.tm true)) (hrn' : ([b1] : List Int).Nodup) (hSk : ∀ k, k ∈ ([a1, a2] : List Int) ↔ ∃ x, a false k = some (x, g.tm)) (hMk : ∀ k, k ∈ ([b1] : List Int) ↔ ∃ x, a true k = some (x, g.tm))
    (k : ∀ s' g', Aft w.params s s' g g' fp → g'.tm = g.tm + 1 → Rp w.params s'.heap g' (expA a g.tm) hd B → R0 (.ok (.ret .none)) s') :
    codeAny (model prog w) A (.call (.ref 115) ⟨[.ref (g.A1+150)], []⟩) R0 s := by
  have O := R.obs
  have hlab : [g.A0+150, g.A1+150, g.A2+150, g.A3+150, g.A4+150, g.A5+150, q+150, r+150, r'+150].map g.lab = ([Role.o 0, .o 1, .o 2, .o 3, .o 4, .o 5, .q g.tm, .r g.tm false, .r g.tm true] : List Role).map some := by
    have := O.labs
    simp only [List.map_cons, List.map_nil, List.cons.injEq, and_true] at this ⊢
    simp [this, hql, hrl, hrl']
  have hZn : ([Role.o 0, .o 1, .o 2, .o 3, .o 4, .o 5, .q g.tm, .r g.tm false, .r g.tm true] : List Role).Nodup := by simp
  have hlt : ∀ p ∈ [g.A0+150, g.A1+150, g.A2+150, g.A3+150, g.A4+150, g.A5+150, q+150, r+150, r'+150], 150 ≤ p ∧ p < s.heap.objs.size :=
    lt_cons O.o0 (by omega) (lt_cons O.o1 (by omega) (lt_cons O.o2 (by omega) (lt_cons O.o3 (by omega) (lt_cons O.o4 (by omega) (lt_cons O.o5 (by omega) (lt_cons hq (by omega) (lt_cons hr (by omega) (lt_cons hr' (by omega) lt_nil))))))))
  have W := wf_of (prog := prog) (w := w) (s := s) Y.tb Y.ti Y.sz hlt (nodup_ps hlab hZn)
  have lS : g.lS.length ≤ B := O.le false
  have lM : g.lM.length ≤ B := O.le true
  have lQ := O.leQ
  have hM : topN s = s.heap.objs.size := by have := Y.sz; show s.heap.objs.size - 150 + 150 = _; omega
  have h150 := Y.sz
  have dS0 : (lk (g.lS) a1).isSome = true := some_remL (ks := []) (O.nd false) (there_of R ((hSk a1).mp (by simp))) (by simp only [List.nodup_cons, List.mem_cons, List.mem_nil_iff, or_false, not_or] at hrn; simp; try omega)
  have eS0 : (g.lS).length ≤ B := Nat.le_trans (length_remL [] g.lS) (O.le false)
  have dS1 : (lk (rem g.lS a1) a2).isSome = true := some_remL (ks := [a1]) (O.nd false) (there_of R ((hSk a2).mp (by simp))) (by simp only [List.nodup_cons, List.mem_cons, List.mem_nil_iff, or_false, not_or] at hrn; simp; try omega)
  have eS1 : (rem g.lS a1).length ≤ B := Nat.le_trans (length_remL [a1] g.lS) (O.le false)
  have dM0 : (lk (g.lM) b1).isSome = true := some_remL (ks := []) (O.nd true) (there_of R ((hMk b1).mp (by simp))) (by simp only [List.nodup_cons, List.mem_cons, List.mem_nil_iff, or_false, not_or] at hrn'; simp; try omega)
  have eM0 : (g.lM).length ≤ B := Nat.le_trans (length_remL [] g.lM) (O.le true)
  refine run_code W Y.hh (Nat.le_refl _) Y.hd (Nat.le_refl _) (T := e21_T w.params true prog default [] 0 0 g.A0 g.A1 g.A2 g.A3 g.A4 g.A5 g.k0 g.k1 g.k2 g.k3 g.k4 g.ti g.tm g.lM g.lS g.lH g.lQ g.eM g.eS g.eH g.eQ q r r' lq nq nr nr' a1 a2 at1 at2 au1 au2 b1 bt1 bu1)
    (sm := e21_S w.params true prog default [] (s.heap.objs.size - 150) s.toks g.A0 g.A1 g.A2 g.A3 g.A4 g.A5 g.k0 g.k1 g.k2 g.k3 g.k4 g.ti g.tm g.lM g.lS g.lH g.lQ g.eM g.eS g.eH g.eQ q r r' lq nq nr nr' a1 a2 at1 at2 au1 au2 b1 bt1 bu1) rfl ?_ rfl ?_
    (fun p bl => e21_ok w.params (w.params.followText "special-get-raises") prog p bl (s.heap.objs.size - 150) s.toks g.A0 g.A1 g.A2 g.A3 g.A4 g.A5 g.k0 g.k1 g.k2 g.k3 g.k4 g.ti g.tm g.lM g.lS g.lH g.lQ g.eM g.eS g.eH g.eQ q r r' lq nq nr nr' a1 a2 at1 at2 au1 au2 b1 bt1 bu1) (fun p bl => xeq rfl rfl rfl) ?_
  · exact start_of _ _ _ (And.intro O.o0 (And.intro O.o1 (And.intro O.o2 (And.intro O.o3 (And.intro O.o4 (And.intro O.o5 (And.intro hq (And.intro hr (And.intro hr' trivial)))))))))
  · unfold e21_S
    repeat' (first | exact all_nil | refine all_cons ?_ ?_)
    all_goals refine okx ?_ rfl
    all_goals first
      | (refine ok_hasI W ?_ ?_ ?_; rfl; omega; simp [h2, hS, hM', dS0, dS1, dM0])
      | (refine ok_getI W ?_ ?_ ?_; rfl; omega; simp [h2, hS, hM', dS0, dS1, dM0])
      | (refine ok_delI W ?_ ?_ ?_ ?_; rfl; omega; omega; simp [h2, hS, hM', dS0, dS1, dM0])
      | (refine ok_hasS W ?_ ?_ ?_ ?_; rfl; rfl; omega; simp [h2, hS, hM', dS0, dS1, dM0])
      | (refine ok_getS W ?_ ?_ ?_ ?_; rfl; omega; rfl; simp [h2, hS, hM', dS0, dS1, dM0])
      | (apply ok_knext W; rfl; rfl; rfl)
      | (refine ok_kend W ?_ ?_; rfl; rfl)
  · intro s' T' R' hp
    have F := allGet R' hp
    obtain ⟨f0, f1, f2, f3, f4, f5, -⟩ := F
    let g' : Cch := { g with tm := g.tm + 1, ti := s.toks + 30, lS := remL g.lS [a1, a2], eS := g.eS + 1 + 1, lM := remL g.lM [b1], eM := g.eM + 1, lQ := rem g.lQ g.tm, eQ := g.eQ + 1, lab := ext g.lab (topN s) (fun _ => none) }
    obtain ⟨AF, K⟩ := aft_of (f := fun _ => none) (g' := g') (fp := fp) R' Y.sz hlab rfl rfl
    refine k s' g' AF rfl (R.exp (tm := g.tm) K (fun c k => by simp) (fun e he => by simp [he]) ⟨f0, f1, f2, f3, f4, f5, (List.map_congr_left fun p hp => AF.lab p (O.lts p hp).2).trans O.labs, fun b => ?_, O.ndH, nodup_rem O.ndQ, fun b => ?_, O.leH, Nat.le_trans (length_rem ..) O.leQ⟩ (fun b k => ?_) ?_ rfl)
    · cases b
      · exact nodup_remL [a1, a2] (O.nd false)
      · exact nodup_remL [b1] (O.nd true)
    · cases b
      · exact Nat.le_trans (length_remL [a1, a2] g.lS) lS
      · exact Nat.le_trans (length_remL [b1] g.lM) lM
    · cases b
      · exact hL_of (O.nd false) hSk k
      · exact hL_of (O.nd true) hMk k
    · exact fun e => lk_rem' O.ndQ e
theorem exp_e22 (Y : Rdy w A s) (R : Rp w.params s.heap g a hd B) (hB : B ≤ 100) {q nq : Nat} {lq : SL} {r nr : Nat} {a1 a2 : Int} {at1 at2 : Nat} {au1 au2 : Value} {r' nr' : Nat} {b1 b2 : Int} {bt1 bt2 : Nat} {bu1 bu2 : Value} (h2 : lk g.lQ g.tm = some (.ref (q+150))) (hq : s.heap.get? (q+150) = some (sdct w.params lq nq)) (hql : g.lab (q+150) = some (.q g.tm)) (hS : lk lq nS = some (.ref (r+150))) (hr : s.heap.get? (r+150) = some (idct [(a1, at1, au1), (a2, at2, au2)] nr)) (hrl : g.lab (r+150) = some (.r g.tm false)) (hrn : ([a1, a2] : List Int).Nodup) (hM' : lk lq nM = some (.ref (r'+150))) (hr' : s.heap.get? (r'+150) = some (idct [(b1, bt1, bu1), (b2, bt2, bu2)] nr')) (hrl' : g.lab (r'+150) = some (.r g.tm true)) (hrn' : ([b1, b2] : List Int).Nodup) (hSk : ∀ k, k ∈ ([a1, a2] : List Int) ↔ ∃ x, a false k = some (x, g.tm)) (hMk : ∀ k, k ∈ ([b1, b2] : List Int) ↔ ∃ x, a true k = some (x, g.tm))
    (k : ∀ s' g', Aft w.params s s' g g' fp → g'.tm = g.tm + 1 → Rp w.params s'.heap g' (expA a g.tm) hd B → R0 (.ok (.ret .none)) s') :
    codeAny (model prog w) A (.call (.ref 115) ⟨[.ref (g.A1+150)], []⟩) R0 s := by
  have O := R.obs
  have hlab : [g.A0+150, g.A1+150, g.A2+150, g.A3+150, g.A4+150, g.A5+150, q+150, r+150, r'+150].map g.lab = ([Role.o 0, .o 1, .o 2, .o 3, .o 4, .o 5, .q g.tm, .r g.tm false, .r g.tm true] : List Role).map some := by
    have := O.labs
    simp only [List.map_cons, List.map_nil, List.cons.injEq, and_true] at this ⊢
    simp [this, hql, hrl, hrl']
  have hZn : ([Role.o 0, .o 1, .o 2, .o 3, .o 4, .o 5, .q g.tm, .r g.tm false, .r g.tm true] : List Role).Nodup := by simp
  have hlt : ∀ p ∈ [g.A0+150, g.A1+150, g.A2+150, g.A3+150, g.A4+150, g.A5+150, q+150, r+150, r'+150], 150 ≤ p ∧ p < s.heap.objs.size :=
    lt_cons O.o0 (by omega) (lt_cons O.o1 (by omega) (lt_cons O.o2 (by omega) (lt_cons O.o3 (by omega) (lt_cons O.o4 (by omega) (lt_cons O.o5 (by omega) (lt_cons hq (by omega) (lt_cons hr (by omega) (lt_cons hr' (by omega) lt_nil))))))))
  have W := wf_of (prog := prog) (w := w) (s := s) Y.tb Y.ti Y.sz hlt (nodup_ps hlab hZn)
  have lS : g.lS.length ≤ B := O.le false
  have lM : g.lM.length ≤ B := O.le true
  have lQ := O.leQ
  have hM : topN s = s.heap.objs.size := by have := Y.sz; show s.heap.objs.size - 150 + 150 = _; omega
  have h150 := Y.sz
  have dS0 : (lk (g.lS) a1).isSome = true := some_remL (ks := []) (O.nd false) (there_of R ((hSk a1).mp (by simp))) (by simp only [List.nodup_cons, List.mem_cons, List.mem_nil_iff, or_false, not_or] at hrn; simp; try omega)
  have eS0 : (g.lS).length ≤ B := Nat.le_trans (length_remL [] g.lS) (O.le false)
  have dS1 : (lk (rem g.lS a1) a2).isSome = true := some_remL (ks := [a1]) (O.nd false) (there_of R ((hSk a2).mp (by simp))) (by simp only [List.nodup_cons, List.mem_cons, List.mem_nil_iff, or_false, not_or] at hrn; simp; try omega)
  have eS1 : (rem g.lS a1).length ≤ B := Nat.le_trans (length_remL [a1] g.lS) (O.le false)
  have dM0 : (lk (g.lM) b1).isSome = true := some_remL (ks := []) (O.nd true) (there_of R ((hMk b1).mp (by simp))) (by simp only [List.nodup_cons, List.mem_cons, List.mem_nil_iff, or_false, not_or] at hrn'; simp; try omega)
  have eM0 : (g.lM).length ≤ B := Nat.le_trans (length_remL [] g.lM) (O.le true)
  have dM1 : (lk (rem g.lM b1) b2).isSome = true := some_remL (ks := [b1]) (O.nd true) (there_of R ((hMk b2).mp (by simp))) (by simp only [List.nodup_cons, List.mem_cons, List.mem_nil_iff, or_false, not_or] at hrn'; simp; try omega)
  have eM1 : (rem g.lM b1).length ≤ B := Nat.le_trans (length_remL [b1] g.lM) (O.le true)
  refine run_code W Y.hh (Nat.le_refl _) Y.hd (Nat.le_refl _) (T := e22_T w.params true prog default [] 0 0 g.A0 g.A1 g.A2 g.A3 g.A4 g.A5 g.k0 g.k1 g.k2 g.k3 g.k4 g.ti g.tm g.lM g.lS g.lH g.lQ g.eM g.eS g.eH g.eQ q r r' lq nq nr nr' a1 a2 at1 at2 au1 au2 b1 b2 bt1 bt2 bu1 bu2)
    (sm := e22_S w.params true prog default [] (s.heap.objs.size - 150) s.toks g.A0 g.A1 g.A2 g.A3 g.A4 g.A5 g.k0 g.k1 g.k2 g.k3 g.k4 g.ti g.tm g.lM g.lS g.lH g.lQ g.eM g.eS g.eH g.eQ q r r' lq nq nr nr' a1 a2 at1 at2 au1 au2 b1 b2 bt1 bt2 bu1 bu2) rfl ?_ rfl ?_
    (fun p bl => e22_ok w.params (w.params.followText "special-get-raises") prog p bl (s.heap.objs.size - 150) s.toks g.A0 g.A1 g.A2 g.A3 g.A4 g.A5 g.k0 g.k1 g.k2 g.k3 g.k4 g.ti g.tm g.lM g.lS g.lH g.lQ g.eM g.eS g.eH g.eQ q r r' lq nq nr nr' a1 a2 at1 at2 au1 au2 b1 b2 bt1 bt2 bu1 bu2) (fun p bl => xeq rfl rfl rfl) ?_
  · exact start_of _ _ _ (And.intro O.o0 (And.intro O.o1 (And.intro O.o2 (And.intro O.o3 (And.intro O.o4 (And.intro O.o5 (And.intro hq (And.intro hr (And.intro hr' trivial)))))))))
  · unfold e22_S
    repeat' (first | exact all_nil | refine all_cons ?_ ?_)
    all_goals refine okx ?_ rfl
    all_goals first
      | (refine ok_hasI W ?_ ?_ ?_; rfl; omega; simp [h2, hS, hM', dS0, dS1, dM0, dM1])
      | (refine ok_getI W ?_ ?_ ?_; rfl; omega; simp [h2, hS, hM', dS0, dS1, dM0, dM1])
      | (refine ok_delI W ?_ ?_ ?_ ?_; rfl; omega; omega; simp [h2, hS, hM', dS0, dS1, dM0, dM1])
      | (refine ok_hasS W ?_ ?_ ?_ ?_; rfl; rfl; omega; simp [h2, hS, hM', dS0, dS1, dM0, dM1])
      | (refine ok_getS W ?_ ?_ ?_ ?_; rfl; omega; rfl; simp [h2, hS, hM', dS0, dS1, dM0, dM1])
      | (apply ok_knext W; rfl; rfl; rfl)
      | (refine ok_kend W ?_ ?_; rfl; rfl)
  · intro s' T' R' hp
    have F := allGet R' hp
    obtain ⟨f0, f1, f2, f3, f4, f5, -⟩ := F
    let g' : Cch := { g with tm := g.tm + 1, ti := s.toks + 33, lS := remL g.lS [a1, a2], eS := g.eS + 1 + 1, lM := remL g.lM [b1, b2], eM := g.eM + 1 + 1, lQ := rem g.lQ g.tm, eQ := g.eQ + 1, lab := ext g.lab (topN s) (fun _ => none) }
    obtain ⟨AF, K⟩ := aft_of (f := fun _ => none) (g' := g') (fp := fp) R' Y.sz hlab rfl rfl
    refine k s' g' AF rfl (R.exp (tm := g.tm) K (fun c k => by simp) (fun e he => by simp [he]) ⟨f0, f1, f2, f3, f4, f5, (List.map_congr_left fun p hp => AF.lab p (O.lts p hp).2).trans O.labs, fun b => ?_, O.ndH, nodup_rem O.ndQ, fun b => ?_, O.leH, Nat.le_trans (length_rem ..) O.leQ⟩ (fun b k => ?_) ?_ rfl)
    · cases b
      · exact nodup_remL [a1, a2] (O.nd false)
      · exact nodup_remL [b1, b2] (O.nd true)
    · cases b
      · exact Nat.le_trans (length_remL [a1, a2] g.lS) lS
      · exact Nat.le_trans (length_remL [b1, b2] g.lM) lM
    · cases b
      · exact hL_of (O.nd false) hSk k
      · exact hL_of (O.nd true) hMk k
    · exact fun e => lk_rem' O.ndQ e
theorem exp_e23 (Y : Rdy w A s) (R : Rp w.params s.heap g a hd B) (hB : B ≤ 100) {q nq : Nat} {lq : SL} {r nr : Nat} {a1 a2 : Int} {at1 at2 : Nat} {au1 au2 : Value} {r' nr' : Nat} {b1 b2 b3 : Int} {bt1 bt2 bt3 : Nat} {bu1 bu2 bu3 : Value} (h2 : lk g.lQ g.tm = some (.ref (q+150))) (hq : s.heap.get? (q+150) = some (sdct w.params lq nq)) (hql : g.lab (q+150) = some (.q g.tm)) (hS : lk lq nS = some (.ref (r+150))) (hr : s.heap.get? (r+150) = some (idct [(a1, at1, au1), (a2, at2, au2)] nr)) (hrl : g.lab (r+150) = some (.r g.tm false)) (hrn : ([a1, a2] : List Int).Nodup) (hM' : lk lq nM = some (.ref (r'+150))) (hr' : s.heap.get? (r'+150) = some (idct [(b1, bt1, bu1), (b2, bt2, bu2), (b3, bt3, bu3)] nr')) (hrl' : g.lab (r'+150) = some (.r g.tm true)) (hrn' : ([b1, b2, b3] : List Int).Nodup) (hSk : ∀ k, k ∈ ([a1, a2] : List Int) ↔ ∃ x, a false k = some (x, g.tm)) (hMk : ∀ k, k ∈ ([b1, b2, b3] : List Int) ↔ ∃ x, a true k = some (x, g.tm))
    (k : ∀ s' g', Aft w.params s s' g g' fp → g'.tm = g.tm + 1 → Rp w.params s'.heap g' (expA a g.tm) hd B → R0 (.ok (.ret .none)) s') :
    codeAny (model prog w) A (.call (.ref 115) ⟨[.ref (g.A1+150)], []⟩) R0 s := by
  have O := R.obs
  have hlab : [g.A0+150, g.A1+150, g.A2+150, g.A3+150, g.A4+150, g.A5+150, q+150, r+150, r'+150].map g.lab = ([Role.o 0, .o 1, .o 2, .o 3, .o 4, .o 5, .q g.tm, .r g.tm false, .r g.tm true] : List Role).map some := by
    have := O.labs
    simp only [List.map_cons, List.map_nil, List.cons.injEq, and_true] at this ⊢
    simp [this, hql, hrl, hrl']
  have hZn : ([Role.o 0, .o 1, .o 2, .o 3, .o 4, .o 5, .q g.tm, .r g.tm false, .r g.tm true] : List Role).Nodup := by simp
  have hlt : ∀ p ∈ [g.A0+150, g.A1+150, g.A2+150, g.A3+150, g.A4+150, g.A5+150, q+150, r+150, r'+150], 150 ≤ p ∧ p < s.heap.objs.size :=
    lt_cons O.o0 (by omega) (lt_cons O.o1 (by omega) (lt_cons O.o2 (by omega) (lt_cons O.o3 (by omega) (lt_cons O.o4 (by omega) (lt_cons O.o5 (by omega) (lt_cons hq (by omega) (lt_cons hr (by omega) (lt_cons hr' (by omega) lt_nil))))))))
  have W := wf_of (prog := prog) (w := w) (s := s) Y.tb Y.ti Y.sz hlt (nodup_ps hlab hZn)
  have lS : g.lS.length ≤ B := O.le false
  have lM : g.lM.length ≤ B := O.le true
  have lQ := O.leQ
  have hM : topN s = s.heap.objs.size := by have := Y.sz; show s.heap.objs.size - 150 + 150 = _; omega
  have h150 := Y.sz
  have dS0 : (lk (g.lS) a1).isSome = true := some_remL (ks := []) (O.nd false) (there_of R ((hSk a1).mp (by simp))) (by simp only [List.nodup_cons, List.mem_cons, List.mem_nil_iff, or_false, not_or] at hrn; simp; try omega)
  have eS0 : (g.lS).length ≤ B := Nat.le_trans (length_remL [] g.lS) (O.le false)
  have dS1 : (lk (rem g.lS a1) a2).isSome = true := some_remL (ks := [a1]) (O.nd false) (there_of R ((hSk a2).mp (by simp))) (by simp only [List.nodup_cons, List.mem_cons, List.mem_nil_iff, or_false, not_or] at hrn; simp; try omega)
  have eS1 : (rem g.lS a1).length ≤ B := Nat.le_trans (length_remL [a1] g.lS) (O.le false)
  have dM0 : (lk (g.lM) b1).isSome = true := some_remL (ks := []) (O.nd true) (there_of R ((hMk b1).mp (by simp))) (by simp only [List.nodup_cons, List.mem_cons, List.mem_nil_iff, or_false, not_or] at hrn'; simp; try omega)
  have eM0 : (g.lM).length ≤ B := Nat.le_trans (length_remL [] g.lM) (O.le true)
  have dM1 : (lk (rem g.lM b1) b2).isSome = true := some_remL (ks := [b1]) (O.nd true) (there_of R ((hMk b2).mp (by simp))) (by simp only [List.nodup_cons, List.mem_cons, List.mem_nil_iff, or_false, not_or] at hrn'; simp; try omega)
  have eM1 : (rem g.lM b1).length ≤ B := Nat.le_trans (length_remL [b1] g.lM) (O.le true)
  have dM2 : (lk (rem (rem g.lM b1) b2) b3).isSome = true := some_remL (ks := [b1, b2]) (O.nd true) (there_of R ((hMk b3).mp (by simp))) (by simp only [List.nodup_cons, List.mem_cons, List.mem_nil_iff, or_false, not_or] at hrn'; simp; try omega)
  have eM2 : (rem (rem g.lM b1) b2).length ≤ B := Nat.le_trans (length_remL [b1, b2] g.lM) (O.le true)
  refine run_code W Y.hh (Nat.le_refl _) Y.hd (Nat.le_refl _) (T := e23_T w.params true prog default [] 0 0 g.A0 g.A1 g.A2 g.A3 g.A4 g.A5 g.k0 g.k1 g.k2 g.k3 g.k4 g.ti g.tm g.lM g.lS g.lH g.lQ g.eM g.eS g.eH g.eQ q r r' lq nq nr nr' a1 a2 at1 at2 au1 au2 b1 b2 b3 bt1 bt2 bt3 bu1 bu2 bu3)
    (sm := e23_S w.params true prog default [] (s.heap.objs.size - 150) s.toks g.A0 g.A1 g.A2 g.A3 g.A4 g.A5 g.k0 g.k1 g.k2 g.k3 g.k4 g.ti g.tm g.lM g.lS g.lH g.lQ g.eM g.eS g.eH g.eQ q r r' lq nq nr nr' a1 a2 at1 at2 au1 au2 b1 b2 b3 bt1 bt2 bt3 bu1 bu2 bu3) rfl ?_ rfl ?_
    (fun p bl => e23_ok w.params (w.params.followText "special-get-raises") prog p bl (s.heap.objs.size - 150) s.toks g.A0 g.A1 g.A2 g.A3 g.A4 g.A5 g.k0 g.k1 g.k2 g.k3 g.k4 g.ti g.tm g.lM g.lS g.lH g.lQ g.eM g.eS g.eH g.eQ q r r' lq nq nr nr' a1 a2 at1 at2 au1 au2 b1 b2 b3 bt1 bt2 bt3 bu1 bu2 bu3) (fun p bl => xeq rfl rfl rfl) ?_
  · exact start_of _ _ _ (And.intro O.o0 (And.intro O.o1 (And.intro O.o2 (And.intro O.o3 (And.intro O.o4 (And.intro O.o5 (And.intro hq (And.intro hr (And.intro hr' trivial)))))))))
  · unfold e23_S
    repeat' (first | exact all_nil | refine all_cons ?_ ?_)
    all_goals refine okx ?_ rfl
    all_goals first
      | (refine ok_hasI W ?_ ?_ ?_; rfl; omega; simp [h2, hS, hM', dS0, dS1, dM0, dM1, dM2])
      | (refine ok_getI W ?_ ?_ ?_; rfl; omega; simp [h2, hS, hM', dS0, dS1, dM0, dM1, dM2])
      | (refine ok_delI W ?_ ?_ ?_ ?_; rfl; omega; omega; simp [h2, hS, hM', dS0, dS1, dM0, dM1, dM2])
      | (refine ok_hasS W ?_ ?_ ?_ ?_; rfl; rfl; omega; simp [h2, hS, hM', dS0, dS1, dM0, dM1, dM2])
      | (refine ok_getS W ?_ ?_ ?_ ?_; rfl; omega; rfl; simp [h2, hS, hM', dS0, dS1, dM0, dM1, dM2])
      | (apply ok_knext W; rfl; rfl; rfl)
      | (refine ok_kend W ?_ ?_; rfl; rfl)
  · intro s' T' R' hp
    have F := allGet R' hp
    obtain ⟨f0, f1, f2, f3, f4, f5, -⟩ := F
    let g' : Cch := { g with tm := g.tm + 1, ti := s.toks + 36, lS := remL g.lS [a1, a2], eS := g.eS + 1 + 1, lM := remL g.lM [b1, b2, b3], eM := g.eM + 1 + 1 + 1, lQ := rem g.lQ g.tm, eQ := g.eQ + 1, lab := ext g.lab (topN s) (fun _ => none) }
    obtain ⟨AF, K⟩ := aft_of (f := fun _ => none) (g' := g') (fp := fp) R' Y.sz hlab rfl rfl
    refine k s' g' AF rfl (R.exp (tm := g.tm) K (fun c k => by simp) (fun e he => by simp [he]) ⟨f0, f1, f2, f3, f4, f5, (List.map_congr_left fun p hp => AF.lab p (O.lts p hp).2).trans O.labs, fun b => ?_, O.ndH, nodup_rem O.ndQ, fun b => ?_, O.leH, Nat.le_trans (length_rem ..) O.leQ⟩ (fun b k => ?_) ?_ rfl)
    · cases b
      · exact nodup_remL [a1, a2] (O.nd false)
      · exact nodup_remL [b1, b2, b3] (O.nd true)
    · cases b
      · exact Nat.le_trans (length_remL [a1, a2] g.lS) lS
      · exact Nat.le_trans (length_remL [b1, b2, b3] g.lM) lM
    · cases b
      · exact hL_of (O.nd false) hSk k
      · exact hL_of (O.nd true) hMk k
    · exact fun e => lk_rem' O.ndQ e
theorem exp_e3n (Y : Rdy w A s) (R : Rp w.params s.heap g a hd B) (hB : B ≤ 100) {q nq : Nat} {lq : SL} {r nr : Nat} {a1 a2 a3 : Int} {at1 at2 at3 : Nat} {au1 au2 au3 : Value} (h2 : lk g.lQ g.tm = some (.ref (q+150))) (hq : s.heap.get? (q+150) = some (sdct w.params lq nq)) (hql : g.lab (q+150) = some (.q g.tm)) (hS : lk lq nS = some (.ref (r+150))) (hr : s.heap.get? (r+150) = some (idct [(a1, at1, au1), (a2, at2, au2), (a3, at3, au3)] nr)) (hrl : g.lab (r+150) = some (.r g.tm false)) (hrn : ([a1, a2, a3] : List Int).Nodup) (hM' : lk lq nM = none) (hSk : ∀ k, k ∈ ([a1, a2, a3] : List Int) ↔ ∃ x, a false k = some (x, g.tm)) (hMk : ∀ k, k ∈ ([] : List Int) ↔ ∃ x, a true k = some (x, g.tm))
    (k : ∀ s' g', Aft w.params s s' g g' fp → g'.tm = g.tm + 1 → Rp w.params s'.heap g' (expA a g.tm) hd B → R0 (.ok (.ret .none)) s') :
    codeAny (model prog w) A (.call (.ref 115) ⟨[.ref (g.A1+150)], []⟩) R0 s := by
  have O := R.obs
  have hlab : [g.A0+150, g.A1+150, g.A2+150, g.A3+150, g.A4+150, g.A5+150, q+150, r+150].map g.lab = ([Role.o 0, .o 1, .o 2, .o 3, .o 4, .o 5, .q g.tm, .r g.tm false] : List Role).map some := by
    have := O.labs
    simp only [List.map_cons, List.map_nil, List.cons.injEq, and_true] at this ⊢
    simp [this, hql, hrl]
  have hZn : ([Role.o 0, .o 1, .o 2, .o 3, .o 4, .o 5, .q g.tm, .r g.tm false] : List Role).Nodup := by simp
  have hlt : ∀ p ∈ [g.A0+150, g.A1+150, g.A2+150, g.A3+150, g.A4+150, g.A5+150, q+150, r+150], 150 ≤ p ∧ p < s.heap.objs.size :=
    lt_cons O.o0 (by omega) (lt_cons O.o1 (by omega) (lt_cons O.o2 (by omega) (lt_cons O.o3 (by omega) (lt_cons O.o4 (by omega) (lt_cons O.o5 (by omega) (lt_cons hq (by omega) (lt_cons hr (by omega) lt_nil)))))))
  have W := wf_of (prog := prog) (w := w) (s := s) Y.tb Y.ti Y.sz hlt (nodup_ps hlab hZn)
  have lS : g.lS.length ≤ B := O.le false
  have lM : g.lM.length ≤ B := O.le true
  have lQ := O.leQ
  have hM : topN s = s.heap.objs.size := by have := Y.sz; show s.heap.objs.size - 150 + 150 = _; omega
  have h150 := Y.sz
  have dS0 : (lk (g.lS) a1).isSome = true := some_remL (ks := []) (O.nd false) (there_of R ((hSk a1).mp (by simp))) (by simp only [List.nodup_cons, List.mem_cons, List.mem_nil_iff, or_false, not_or] at hrn; simp; try omega)
  have eS0 : (g.lS).length ≤ B := Nat.le_trans (length_remL [] g.lS) (O.le false)
  have dS1 : (lk (rem g.lS a1) a2).isSome = true := some_remL (ks := [a1]) (O.nd false) (there_of R ((hSk a2).mp (by simp))) (by simp only [List.nodup_cons, List.mem_cons, List.mem_nil_iff, or_false, not_or] at hrn; simp; try omega)
  have eS1 : (rem g.lS a1).length ≤ B := Nat.le_trans (length_remL [a1] g.lS) (O.le false)
  have dS2 : (lk (rem (rem g.lS a1) a2) a3).isSome = true := some_remL (ks := [a1, a2]) (O.nd false) (there_of R ((hSk a3).mp (by simp))) (by simp only [List.nodup_cons, List.mem_cons, List.mem_nil_iff, or_false, not_or] at hrn; simp; try omega)
  have eS2 : (rem (rem g.lS a1) a2).length ≤ B := Nat.le_trans (length_remL [a1, a2] g.lS) (O.le false)
  refine run_code W Y.hh (Nat.le_refl _) Y.hd (Nat.le_refl _) (T := e3n_T w.params true prog default [] 0 0 g.A0 g.A1 g.A2 g.A3 g.A4 g.A5 g.k0 g.k1 g.k2 g.k3 g.k4 g.ti g.tm g.lM g.lS g.lH g.lQ g.eM g.eS g.eH g.eQ q r 0 lq nq nr 0 a1 a2 a3 at1 at2 at3 au1 au2 au3)
    (sm := e3n_S w.params true prog default [] (s.heap.objs.size - 150) s.toks g.A0 g.A1 g.A2 g.A3 g.A4 g.A5 g.k0 g.k1 g.k2 g.k3 g.k4 g.ti g.tm g.lM g.lS g.lH g.lQ g.eM g.eS g.eH g.eQ q r 0 lq nq nr 0 a1 a2 a3 at1 at2 at3 au1 au2 au3) rfl ?_ rfl ?_
    (fun p bl => e3n_ok w.params (w.params.followText "special-get-raises") prog p bl (s.heap.objs.size - 150) s.toks g.A0 g.A1 g.A2 g.A3 g.A4 g.A5 g.k0 g.k1 g.k2 g.k3 g.k4 g.ti g.tm g.lM g.lS g.lH g.lQ g.eM g.eS g.eH g.eQ q r 0 lq nq nr 0 a1 a2 a3 at1 at2 at3 au1 au2 au3) (fun p bl => xeq rfl rfl rfl) ?_
  · exact start_of _ _ _ (And.intro O.o0 (And.intro O.o1 (And.intro O.o2 (And.intro O.o3 (And.intro O.o4 (And.intro O.o5 (And.intro hq (And.intro hr trivial))))))))
  · unfold e3n_S
    repeat' (first | exact all_nil | refine all_cons ?_ ?_)
    all_goals refine okx ?_ rfl
    all_goals first
      | (refine ok_hasI W ?_ ?_ ?_; rfl; omega; simp [h2, hS, hM', dS0, dS1, dS2])
      | (refine ok_getI W ?_ ?_ ?_; rfl; omega; simp [h2, hS, hM', dS0, dS1, dS2])
      | (refine ok_delI W ?_ ?_ ?_ ?_; rfl; omega; omega; simp [h2, hS, hM', dS0, dS1, dS2])
      | (refine ok_hasS W ?_ ?_ ?_ ?_; rfl; rfl; omega; simp [h2, hS, hM', dS0, dS1, dS2])
      | (refine ok_getS W ?_ ?_ ?_ ?_; rfl; omega; rfl; simp [h2, hS, hM', dS0, dS1, dS2])
      | (apply ok_knext W; rfl; rfl; rfl)
      | (refine ok_kend W ?_ ?_; rfl; rfl)
  · intro s' T' R' hp
    have F := allGet R' hp
    obtain ⟨f0, f1, f2, f3, f4, f5, -⟩ := F
    let g' : Cch := { g with tm := g.tm + 1, ti := s.toks + 28, lS := remL g.lS [a1, a2, a3], eS := g.eS + 1 + 1 + 1, lM := remL g.lM [], eM := g.eM, lQ := rem g.lQ g.tm, eQ := g.eQ + 1, lab := ext g.lab (topN s) (fun _ => none) }
    obtain ⟨AF, K⟩ := aft_of (f := fun _ => none) (g' := g') (fp := fp) R' Y.sz hlab rfl rfl
    refine k s' g' AF rfl (R.exp (tm := g.tm) K (fun c k => by simp) (fun e he => by simp [he]) ⟨f0, f1, f2, f3, f4, f5, (List.map_congr_left fun p hp => AF.lab p (O.lts p hp).2).trans O.labs, fun b => ?_, O.ndH, nodup_rem O.ndQ, fun b => ?_, O.leH, Nat.le_trans (length_rem ..) O.leQ⟩ (fun b k => ?_) ?_ rfl)
    · cases b
      · exact nodup_remL [a1, a2, a3] (O.nd false)
      · exact nodup_remL [] (O.nd true)
    · cases b
      · exact Nat.le_trans (length_remL [a1, a2, a3] g.lS) lS
      · exact Nat.le_trans (length_remL [] g.lM) lM
    · cases b
      · exact hL_of (O.nd false) hSk k
      · exact hL_of (O.nd true) hMk k
    · exact fun e => lk_rem' O.ndQ e
theorem exp_e30 (Y : Rdy w A s) (R : Rp w.params s.heap g a hd B) (hB : B ≤ 100) {q nq : Nat} {lq : SL} {r nr : Nat} {a1 a2 a3 : Int} {at1 at2 at3 : Nat} {au1 au2 au3 : Value} {r' nr' : Nat} (h2 : lk g.lQ g.tm = some (.ref (q+150))) (hq : s.heap.get? (q+150) = some (sdct w.params lq nq)) (hql : g.lab (q+150) = some (.q g.tm)) (hS : lk lq nS = some (.ref (r+150))) (hr : s.heap.get? (r+150) = some (idct [(a1, at1, au1), (a2, at2, au2), (a3, at3, au3)] nr)) (hrl : g.lab (r+150) = some (.r g.tm false)) (hrn : ([a1, a2, a3] : List Int).Nodup) (hM' : lk lq nM = some (.ref (r'+150))) (hr' : s.heap.get? (r'+150) = some (idct [] nr')) (hrl' : g.lab (r'+150) = some (.r g.tm true)) (hrn' : ([] : List Int).Nodup) (hSk : ∀ k, k ∈ ([a1, a2, a3] : List Int) ↔ ∃ x, a false k = some (x, g.tm)) (hMk : ∀ k, k ∈ ([] : List Int) ↔ ∃ x, a true k = some (x, g.tm))
    (k : ∀ s' g', Aft w.params s s' g g' fp → g'.tm = g.tm + 1 → Rp w.params s'.heap g' (expA a g.tm) hd B → R0 (.ok (.ret .none)) s') :
    codeAny (model prog w) A (.call (.ref 115) ⟨[.ref (g.A1+150)], []⟩) R0 s := by
  have O := R.obs
  have hlab : [g.A0+150, g.A1+150, g.A2+150, g.A3+150, g.A4+150, g.A5+150, q+150, r+150, r'+150].map g.lab = ([Role.o 0, .o 1, .o 2, .o 3, .o 4, .o 5, .q g.tm, .r g.tm false, .r g.tm true] : List Role).map some := by
    have := O.labs
    simp only [List.map_cons, List.map_nil, List.cons.injEq, and_true] at this ⊢
    simp [this, hql, hrl, hrl']
  have hZn : ([Role.o 0, .o 1, .o 2, .o 3, .o 4, .o 5, .q g.tm, .r g.tm false, .r g.tm true] : List Role).Nodup := by simp
  have hlt : ∀ p ∈ [g.A0+150, g.A1+150, g.A2+150, g.A3+150, g.A4+150, g.A5+150, q+150, r+150, r'+150], 150 ≤ p ∧ p < s.heap.objs.size :=
    lt_cons O.o0 (by omega) (lt_cons O.o1 (by omega) (lt_cons O.o2 (by omega) (lt_cons O.o3 (by omega) (lt_cons O.o4 (by omega) (lt_cons O.o5 (by omega) (lt_cons hq (by omega) (lt_cons hr (by omega) (lt_cons hr' (by omega) lt_nil))))))))
  have W := wf_of (prog := prog) (w := w) (s := s) Y.tb Y.ti Y.sz hlt (nodup_ps hlab hZn)
  have lS : g.lS.length ≤ B := O.le false
  have lM : g.lM.length ≤ B := O.le true
  have lQ := O.leQ
  have hM : topN s = s.heap.objs.size := by have := Y.sz; show s.heap.objs.size - 150 + 150 = _; omega
  have h150 := Y.sz
  have dS0 : (lk (g.lS) a1).isSome = true := some_remL (ks := []) (O.nd false) (there_of R ((hSk a1).mp (by simp))) (by simp only [List.nodup_cons, List.mem_cons, List.mem_nil_iff, or_false, not_or] at hrn; simp; try omega)
  have eS0 : (g.lS).length ≤ B := Nat.le_trans (length_remL [] g.lS) (O.le false)
  have dS1 : (lk (rem g.lS a1) a2).isSome = true := some_remL (ks := [a1]) (O.nd false) (there_of R ((hSk a2).mp (by simp))) (by simp only [List.nodup_cons, List.mem_cons, List.mem_nil_iff, or_false, not_or] at hrn; simp; try omega)
  have eS1 : (rem g.lS a1).length ≤ B := Nat.le_trans (length_remL [a1] g.lS) (O.le false)
  have dS2 : (lk (rem (rem g.lS a1) a2) a3).isSome = true := some_remL (ks := [a1, a2]) (O.nd false) (there_of R ((hSk a3).mp (by simp))) (by simp only [List.nodup_cons, List.mem_cons, List.mem_nil_iff, or_false, not_or] at hrn; simp; try omega)
  have eS2 : (rem (rem g.lS a1) a2).length ≤ B := Nat.le_trans (length_remL [a1, a2] g.lS) (O.le false)
  refine run_code W Y.hh (Nat.le_refl _) Y.hd (Nat.le_refl _) (T := e30_T w.params true prog default [] 0 0 g.A0 g.A1 g.A2 g.A3 g.A4 g.A5 g.k0 g.k1 g.k2 g.k3 g.k4 g.ti g.tm g.lM g.lS g.lH g.lQ g.eM g.eS g.eH g.eQ q r r' lq nq nr nr' a1 a2 a3 at1 at2 at3 au1 au2 au3)
    (sm := e30_S w.params true prog default [] (s.heap.objs.size - 150) s.toks g.A0 g.A1 g.A2 g.A3 g.A4 g.A5 g.k0 g.k1 g.k2 g.k3 g.k4 g.ti g.tm g.lM g.lS g.lH g.lQ g.eM g.eS g.eH g.eQ q r r' lq nq nr nr' a1 a2 a3 at1 at2 at3 au1 au2 au3) rfl ?_ rfl ?_
    (fun p bl => e30_ok w.params (w.params.followText "special-get-raises") prog p bl (s.heap.objs.size - 150) s.toks g.A0 g.A1 g.A2 g.A3 g.A4 g.A5 g.k0 g.k1 g.k2 g.k3 g.k4 g.ti g.tm g.lM g.lS g.lH g.lQ g.eM g.eS g.eH g.eQ q r r' lq nq nr nr' a1 a2 a3 at1 at2 at3 au1 au2 au3) (fun p bl => xeq rfl rfl rfl) ?_
  · exact start_of _ _ _ (And.intro O.o0 (And.intro O.o1 (And.intro O.o2 (And.intro O.o3 (And.intro O.o4 (And.intro O.o5 (And.intro hq (And.intro hr (And.intro hr' trivial)))))))))
  · unfold e30_S
    repeat' (first | exact all_nil | refine all_cons ?_ ?_)
    all_goals refine okx ?_ rfl
    all_goals first
      | (refine ok_hasI W ?_ ?_ ?_; rfl; omega; simp [h2, hS, hM', dS0, dS1, dS2])
      | (refine ok_getI W ?_ ?_ ?_; rfl; omega; simp [h2, hS, hM', dS0, dS1, dS2])
      | (refine ok_delI W ?_ ?_ ?_ ?_; rfl; omega; omega; simp [h2, hS, hM', dS0, dS1, dS2])
      | (refine ok_hasS W ?_ ?_ ?_ ?_; rfl; rfl; omega; simp [h2, hS, hM', dS0, dS1, dS2])
      | (refine ok_getS W ?_ ?_ ?_ ?_; rfl; omega; rfl; simp [h2, hS, hM', dS0, dS1, dS2])
      | (apply ok_knext W; rfl; rfl; rfl)
      | (refine ok_kend W ?_ ?_; rfl; rfl)
  · intro s' T' R' hp
    have F := allGet R' hp
    obtain ⟨f0, f1, f2, f3, f4, f5, -⟩ := F
    let g' : Cch := { g with tm := g.tm + 1, ti := s.toks + 30, lS := remL g.lS [a1, a2, a3], eS := g.eS + 1 + 1 + 1, lM := remL g.lM [], eM := g.eM, lQ := rem g.lQ g.tm, eQ := g.eQ + 1, lab := ext g.lab (topN s) (fun _ => none) }
    obtain ⟨AF, K⟩ := aft_of (f := fun _ => none) (g' := g') (fp := fp) R' Y.sz hlab rfl rfl
    refine k s' g' AF rfl (R.exp (tm := g.tm) K (fun c k => by simp) (fun e he => by simp [he]) ⟨f0, f1, f2, f3, f4, f5, (List.map_congr_left fun p hp => AF.lab p (O.lts p hp).2).trans O.labs, fun b => ?_, O.ndH, nodup_rem O.ndQ, fun b => ?_, O.leH, Nat.le_trans (length_rem ..) O.leQ⟩ (fun b k => ?_) ?_ rfl)
    · cases b
      · exact nodup_remL [a1, a2, a3] (O.nd false)
      · exact nodup_remL [] (O.nd true)
    · cases b
      · exact Nat.le_trans (length_remL [a1, a2, a3] g.lS) lS
      · exact Nat.le_trans (length_remL [] g.lM) lM
    · cases b
      · exact hL_of (O.nd false) hSk k
      · exact hL_of (O.nd true) hMk k
    · exact fun e => lk_rem' O.ndQ e
theorem exp_e31 (Y : Rdy w A s) (R : Rp w.params s.heap g a hd B) (hB : B ≤ 100) {q nq : Nat} {lq : SL} {r nr : Nat} {a1 a2 a3 : Int} {at1 at2 at3 : Nat} {au1 au2 au3 : Value} {r' nr' : Nat} {b1 : Int} {bt1 : Nat} {bu1 : Value} (h2 : lk g.lQ g.tm = some (.ref (q+150))) (hq : s.heap.get? (q+150) = some (sdct w.params lq nq)) (hql : g.lab (q+150) = some (.q g.tm)) (hS : lk lq nS = some (.ref (r+150))) (hr : s.heap.get? (r+150) = some (idct [(a1, at1, au1), (a2, at2, au2), (a3, at3, au3)] nr)) (hrl : g.lab (r+150) = some (.r g.tm false)) (hrn : ([a1, a2, a3] : List Int).Nodup) (hM' : lk lq nM = some (.ref (r'+150))) (hr' : s.heap.get? (r'+150) = some (idct [(b1, bt1, bu1)] nr')) (hrl' : g.lab (r'+150) = some (.r g.tm true)) (hrn' : ([b1] : List Int).Nodup) (hSk : ∀ k, k ∈ ([a1, a2, a3] : List Int) ↔ ∃ x, a false k = some (x, g.tm)) (hMk : ∀ k, k ∈ ([b1] : List Int) ↔ ∃ x, a true k = some (x, g.tm))
    (k : ∀ s' g', Aft w.params s s' g g' fp → g'.tm = g.tm + 1 → Rp w.params s'.heap g' (expA a g.tm) hd B → R0 (.ok (.ret .none)) s') :
    codeAny (model prog w) A (.call (.ref 115) ⟨[.ref (g.A1+150)], []⟩) R0 s := by
  have O := R.obs
  have hlab : [g.A0+150, g.A1+150, g.A2+150, g.A3+150, g.A4+150, g.A5+150, q+150, r+150, r'+150].map g.lab = ([Role.o 0, .o 1, .o 2, .o 3, .o 4, .o 5, .q g.tm, .r g.tm false, .r g.tm true] : List Role).map some := by
    have := O.labs
    simp only [List.map_cons, List.map_nil, List.cons.injEq, and_true] at this ⊢
    simp [this, hql, hrl, hrl']
  have hZn : ([Role.o 0, .o 1, .o 2, .o 3, .o 4, .o 5, .q g.tm, .r g.tm false, .r g.tm true] : List Role).Nodup := by simp
  have hlt : ∀ p ∈ [g.A0+150, g.A1+150, g.A2+150, g.A3+150, g.A4+150, g.A5+150, q+150, r+150, r'+150], 150 ≤ p ∧ p < s.heap.objs.size :=
    lt_cons O.o0 (by omega) (lt_cons O.o1 (by omega) (lt_cons O.o2 (by omega) (lt_cons O.o3 (by omega) (lt_cons O.o4 (by omega) (lt_cons O.o5 (by omega) (lt_cons hq (by omega) (lt_cons hr (by omega) (lt_cons hr' (by omega) lt_nil))))))))
  have W := wf_of (prog := prog) (w := w) (s := s) Y.tb Y.ti Y.sz hlt (nodup_ps hlab hZn)
  have lS : g.lS.length ≤ B := O.le false
  have lM : g.lM.length ≤ B := O.le true
  have lQ := O.leQ
  have hM : topN s = s.heap.objs.size := by have := Y.sz; show s.heap.objs.size - 150 + 150 = _; omega
  have h150 := Y.sz
  have dS0 : (lk (g.lS) a1).isSome = true := some_remL (ks := []) (O.nd false) (there_of R ((hSk a1).mp (by simp))) (by simp only [List.nodup_cons, List.mem_cons, List.mem_nil_iff, or_false, not_or] at hrn; simp; try omega)
  have eS0 : (g.lS).length ≤ B := Nat.le_trans (length_remL [] g.lS) (O.le false)
  have dS1 : (lk (rem g.lS a1) a2).isSome = true := some_remL (ks := [a1]) (O.nd false) (there_of R ((hSk a2).mp (by simp))) (by simp only [List.nodup_cons, List.mem_cons, List.mem_nil_iff, or_false, not_or] at hrn; simp; try omega)
  have eS1 : (rem g.lS a1).length ≤ B := Nat.le_trans (length_remL [a1] g.lS) (O.le false)
  have dS2 : (lk (rem (rem g.lS a1) a2) a3).isSome = true := some_remL (ks := [a1, a2]) (O.nd false) (there_of R ((hSk a3).mp (by simp))) (by simp only [List.nodup_cons, List.mem_cons, List.mem_nil_iff, or_false, not_or] at hrn; simp; try omega)
  have eS2 : (rem (rem g.lS a1) a2).length ≤ B := Nat.le_trans (length_remL [a1, a2] g.lS) (O.le false)
  have dM0 : (lk (g.lM) b1).isSome = true := some_remL (ks := []) (O.nd true) (there_of R ((hMk b1).mp (by simp))) (by simp only [List.nodup_cons, List.mem_cons, List.mem_nil_iff, or_false, not_or] at hrn'; simp; try omega)
  have eM0 : (g.lM).length ≤ B := Nat.le_trans (length_remL [] g.lM) (O.le true)
  refine run_code W Y.hh (Nat.le_refl _) Y.hd (Nat.le_refl _) (T := e31_T w.params true prog default [] 0 0 g.A0 g.A1 g.A2 g.A3 g.A4 g.A5 g.k0 g.k1 g.k2 g.k3 g.k4 g.ti g.tm g.lM g.lS g.lH g.lQ g.eM g.eS g.eH g.eQ q r r' lq nq nr nr' a1 a2 a3 at1 at2 at3 au1 au2 au3 b1 bt1 bu1)
    (sm := e31_S w.params true prog default [] (s.heap.objs.size - 150) s.toks g.A0 g.A1 g.A2 g.A3 g.A4 g.A5 g.k0 g.k1 g.k2 g.k3 g.k4 g.ti g.tm g.lM g.lS g.lH g.lQ g.eM g.eS g.eH g.eQ q r r' lq nq nr nr' a1 a2 a3 at1 at2 at3 au1 au2 au3 b1 bt1 bu1) rfl ?_ rfl ?_
    (fun p bl => e31_ok w.params (w.params.followText "special-get-raises") prog p bl (s.heap.objs.size - 150) s.toks g.A0 g.A1 g.A2 g.A3 g.A4 g.A5 g.k0 g.k1 g.k2 g.k3 g.k4 g.ti g.tm g.lM g.lS g.lH g.lQ g.eM g.eS g.eH g.eQ q r r' lq nq nr nr' a1 a2 a3 at1 at2 at3 au1 au2 au3 b1 bt1 bu1) (fun p bl => xeq rfl rfl rfl) ?_
  · exact start_of _ _ _ (And.intro O.o0 (And.intro O.o1 (And.intro O.o2 (And.intro O.o3 (And.intro O.o4 (And.intro O.o5 (And.intro hq (And.intro hr (And.intro hr' trivial)))))))))
  · unfold e31_S
    repeat' (first | exact all_nil | refine all_cons ?_ ?_)
    all_goals refine okx ?_ rfl
    all_goals first
      | (refine ok_hasI W ?_ ?_ ?_; rfl; omega; simp [h2, hS, hM', dS0, dS1, dS2, dM0])
      | (refine ok_getI W ?_ ?_ ?_; rfl; omega; simp [h2, hS, hM', dS0, dS1, dS2, dM0])
      | (refine ok_delI W ?_ ?_ ?_ ?_; rfl; omega; omega; simp [h2, hS, hM', dS0, dS1, dS2, dM0])
      | (refine ok_hasS W ?_ ?_ ?_ ?_; rfl; rfl; omega; simp [h2, hS, hM', dS0, dS1, dS2, dM0])
      | (refine ok_getS W ?_ ?_ ?_ ?_; rfl; omega; rfl; simp [h2, hS, hM', dS0, dS1, dS2, dM0])
      | (apply ok_knext W; rfl; rfl; rfl)
      | (refine ok_kend W ?_ ?_; rfl; rfl)
  · intro s' T' R' hp
    have F := allGet R' hp
    obtain ⟨f0, f1, f2, f3, f4, f5, -⟩ := F
    let g' : Cch := { g with tm := g.tm + 1, ti := s.toks + 33, lS := remL g.lS [a1, a2, a3], eS := g.eS + 1 + 1 + 1, lM := remL g.lM [b1], eM := g.eM + 1, lQ := rem g.lQ g.tm, eQ := g.eQ + 1, lab := ext g.lab (topN s) (fun _ => none) }
    obtain ⟨AF, K⟩ := aft_of (f := fun _ => none) (g' := g') (fp := fp) R' Y.sz hlab rfl rfl
    refine k s' g' AF rfl (R.exp (tm := g.tm) K (fun c k => by simp) (fun e he => by simp [he]) ⟨f0, f1, f2, f3, f4, f5, (List.map_congr_left fun p hp => AF.lab p (O.lts p hp).2).trans O.labs, fun b => ?_, O.ndH, nodup_rem O.ndQ, fun b => ?_, O.leH, Nat.le_trans (length_rem ..) O.leQ⟩ (fun b k => ?_) ?_ rfl)
    · cases b
      · exact nodup_remL [a1, a2, a3] (O.nd false)
      · exact nodup_remL [b1] (O.nd true)
    · cases b
      · exact Nat.le_trans (length_remL [a1, a2, a3] g.lS) lS
      · exact Nat.le_trans (length_remL [b1] g.lM) lM
    · cases b
      · exact hL_of (O.nd false) hSk k
      · exact hL_of (O.nd true) hMk k
    · exact fun e => lk_rem' O.ndQ e
theorem exp_e32 (Y : Rdy w A s) (R : Rp w.params s.heap g a hd B) (hB : B ≤ 100) {q nq : Nat} {lq : SL} {r nr : Nat} {a1 a2 a3 : Int} {at1 at2 at3 : Nat} {au1 au2 au3 : Value} {r' nr' : Nat} {b1 b2 : Int} {bt1 bt2 : Nat} {bu1 bu2 : Value} (h2 : lk g.lQ g.tm = some (.ref (q+150))) (hq : s.heap.get? (q+150) = some (sdct w.params lq nq)) (hql : g.lab (q+150) = some (.q g.tm)) (hS : lk lq nS = some (.ref (r+150))) (hr : s.heap.get? (r+150) = some (idct [(a1, at1, au1), (a2, at2, au2), (a3, at3, au3)] nr)) (hrl : g.lab (r+150) = some (.r g.tm false)) (hrn : ([a1, a2, a3] : List Int).Nodup) (hM' : lk lq nM = some (.ref (r'+150))) (hr' : s.heap.get? (r'+150) = some (idct [(b1, bt1, bu1), (b2, bt2, bu2)] nr')) (hrl' : g.lab (r'+150) = some (.r g.tm true)) (hrn' : ([b1, b2] : List Int).Nodup) (hSk : ∀ k, k ∈ ([a1, a2, a3] : List Int) ↔ ∃ x, a false k = some (x, g.tm)) (hMk : ∀ k, k ∈ ([b1, b2] : List Int) ↔ ∃ x, a true k = some (x, g.tm))
    (k : ∀ s' g', Aft w.params s s' g g' fp → g'.tm = g.tm + 1 → Rp w.params s'.heap g' (expA a g.tm) hd B → R0 (.ok (.ret .none)) s') :
    codeAny (model prog w) A (.call (.ref 115) ⟨[.ref (g.A1+150)], []⟩) R0 s := by
  have O := R.obs
  have hlab : [g.A0+150, g.A1+150, g.A2+150, g.A3+150, g.A4+150, g.A5+150, q+150, r+150, r'+150].map g.lab = ([Role.o 0, .o 1, .o 2, .o 3, .o 4, .o 5, .q g.tm, .r g.tm false, .r g.tm true] : List Role).map some := by
    have := O.labs
    simp only [List.map_cons, List.map_nil, List.cons.injEq, and_true] at this ⊢
    simp [this, hql, hrl, hrl']
  have hZn : ([Role.o 0, .o 1, .o 2, .o 3, .o 4, .o 5, .q g.tm, .r g.tm false, .r g.tm true] : List Role).Nodup := by simp
  have hlt : ∀ p ∈ [g.A0+150, g.A1+150, g.A2+150, g.A3+150, g.A4+150, g.A5+150, q+150, r+150, r'+150], 150 ≤ p ∧ p < s.heap.objs.size :=
    lt_cons O.o0 (by omega) (lt_cons O.o1 (by omega) (lt_cons O.o2 (by omega) (lt_cons O.o3 (by omega) (lt_cons O.o4 (by omega) (lt_cons O.o5 (by omega) (lt_cons hq (by omega) (lt_cons hr (by omega) (lt_cons hr' (by omega) lt_nil))))))))
  have W := wf_of (prog := prog) (w := w) (s := s) Y.tb Y.ti Y.sz hlt (nodup_ps hlab hZn)
  have lS : g.lS.length ≤ B := O.le false
  have lM : g.lM.length ≤ B := O.le true
  have lQ := O.leQ
  have hM : topN s = s.heap.objs.size := by have := Y.sz; show s.heap.objs.size - 150 + 150 = _; omega
  have h150 := Y.sz
  have dS0 : (lk (g.lS) a1).isSome = true := some_remL (ks := []) (O.nd false) (there_of R ((hSk a1).mp (by simp))) (by simp only [List.nodup_cons, List.mem_cons, List.mem_nil_iff, or_false, not_or] at hrn; simp; try omega)
  have eS0 : (g.lS).length ≤ B := Nat.le_trans (length_remL [] g.lS) (O.le false)
  have dS1 : (lk (rem g.lS a1) a2).isSome = true := some_remL (ks := [a1]) (O.nd false) (there_of R ((hSk a2).mp (by simp))) (by simp only [List.nodup_cons, List.mem_cons, List.mem_nil_iff, or_false, not_or] at hrn; simp; try omega)
  have eS1 : (rem g.lS a1).length ≤ B := Nat.le_trans (length_remL [a1] g.lS) (O.le false)
  have dS2 : (lk (rem (rem g.lS a1) a2) a3).isSome = true := some_remL (ks := [a1, a2]) (O.nd false) (there_of R ((hSk a3).mp (by simp))) (by simp only [List.nodup_cons, List.mem_cons, List.mem_nil_iff, or_false, not_or] at hrn; simp; try omega)
  have eS2 : (rem (rem g.lS a1) a2).length ≤ B := Nat.le_trans (length_remL [a1, a2] g.lS) (O.le false)
  have dM0 : (lk (g.lM) b1).isSome = true := some_remL (ks := []) (O.nd true) (there_of R ((hMk b1).mp (by simp))) (by simp only [List.nodup_cons, List.mem_cons, List.mem_nil_iff, or_false, not_or] at hrn'; simp; try omega)
  have eM0 : (g.lM).length ≤ B := Nat.le_trans (length_remL [] g.lM) (O.le true)
  have dM1 : (lk (rem g.lM b1) b2).isSome = true := some_remL (ks := [b1]) (O.nd true) (there_of R ((hMk b2).mp (by simp))) (by simp only [List.nodup_cons, List.mem_cons, List.mem_nil_iff, or_false, not_or] at hrn'; simp; try omega)
  have eM1 : (rem g.lM b1).length ≤ B := Nat.le_trans (length_remL [b1] g.lM) (O.le true)
  refine run_code W Y.hh (Nat.le_refl _) Y.hd (Nat.le_refl _) (T := e32_T w.params true prog default [] 0 0 g.A0 g.A1 g.A2 g.A3 g.A4 g.A5 g.k0 g.k1 g.k2 g.k3 g.k4 g.ti g.tm g.lM g.lS g.lH g.lQ g.eM g.eS g.eH g.eQ q r r' lq nq nr nr' a1 a2 a3 at1 at2 at3 au1 au2 au3 b1 b2 bt1 bt2 bu1 bu2)
    (sm := e32_S w.params true prog default [] (s.heap.objs.size - 150) s.toks g.A0 g.A1 g.A2 g.A3 g.A4 g.A5 g.k0 g.k1 g.k2 g.k3 g.k4 g.ti g.tm g.lM g.lS g.lH g.lQ g.eM g.eS g.eH g.eQ q r r' lq nq nr nr' a1 a2 a3 at1 at2 at3 au1 au2 au3 b1 b2 bt1 bt2 bu1 bu2) rfl ?_ rfl ?_
    (fun p bl => e32_ok w.params (w.params.followText "special-get-raises") prog p bl (s.heap.objs.size - 150) s.toks g.A0 g.A1 g.A2 g.A3 g.A4 g.A5 g.k0 g.k1 g.k2 g.k3 g.k4 g.ti g.tm g.lM g.lS g.lH g.lQ g.eM g.eS g.eH g.eQ q r r' lq nq nr nr' a1 a2 a3 at1 at2 at3 au1 au2 au3 b1 b2 bt1 bt2 bu1 bu2) (fun p bl => xeq rfl rfl rfl) ?_
  · exact start_of _ _ _ (And.intro O.o0 (And.intro O.o1 (And.intro O.o2 (And.intro O.o3 (And.intro O.o4 (And.intro O.o5 (And.intro hq (And.intro hr (And.intro hr' trivial)))))))))
  · unfold e32_S
    repeat' (first | exact all_nil | refine all_cons ?_ ?_)
    all_goals refine okx ?_ rfl
    all_goals first
      | (refine ok_hasI W ?_ ?_ ?_; rfl; omega; simp [h2, hS, hM', dS0, dS1, dS2, dM0, dM1])
      | (refine ok_getI W ?_ ?_ ?_; rfl; omega; simp [h2, hS, hM', dS0, dS1, dS2, dM0, dM1])
      | (refine ok_delI W ?_ ?_ ?_ ?_; rfl; omega; omega; simp [h2, hS, hM', dS0, dS1, dS2, dM0, dM1])
      | (refine ok_hasS W ?_ ?_ ?_ ?_; rfl; rfl; omega; simp [h2, hS, hM', dS0, dS1, dS2, dM0, dM1])
      | (refine ok_getS W ?_ ?_ ?_ ?_; rfl; omega; rfl; simp [h2, hS, hM', dS0, dS1, dS2, dM0, dM1])
      | (apply ok_knext W; rfl; rfl; rfl)
      | (refine ok_kend W ?_ ?_; rfl; rfl)
  · intro s' T' R' hp
    have F := allGet R' hp
    obtain ⟨f0, f1, f2, f3, f4, f5, -⟩ := F
    let g' : Cch := { g with tm := g.tm + 1, ti := s.toks + 36, lS := remL g.lS [a1, a2, a3], eS := g.eS + 1 + 1 + 1, lM := remL g.lM [b1, b2], eM := g.eM + 1 + 1, lQ := rem g.lQ g.tm, eQ := g.eQ + 1, lab := ext g.lab (topN s) (fun _ => none) }
    obtain ⟨AF, K⟩ := aft_of (f := fun _ => none) (g' := g') (fp := fp) R' Y.sz hlab rfl rfl
    refine k s' g' AF rfl (R.exp (tm := g.tm) K (fun c k => by simp) (fun e he => by simp [he]) ⟨f0, f1, f2, f3, f4, f5, (List.map_congr_left fun p hp => AF.lab p (O.lts p hp).2).trans O.labs, fun b => ?_, O.ndH, nodup_rem O.ndQ, fun b => ?_, O.leH, Nat.le_trans (length_rem ..) O.leQ⟩ (fun b k => ?_) ?_ rfl)
    · cases b
      · exact nodup_remL [a1, a2, a3] (O.nd false)
      · exact nodup_remL [b1, b2] (O.nd true)
    · cases b
      · exact Nat.le_trans (length_remL [a1, a2, a3] g.lS) lS
      · exact Nat.le_trans (length_remL [b1, b2] g.lM) lM
    · cases b
      · exact hL_of (O.nd false) hSk k
      · exact hL_of (O.nd true) hMk k
    · exact fun e => lk_rem' O.ndQ e
theorem exp_e33 (Y : Rdy w A s) (R : Rp w.params s.heap g a hd B) (hB : B ≤ 100) {q nq : Nat} {lq : SL} {r nr : Nat} {a1 a2 a3 : Int} {at1 at2 at3 : Nat} {au1 au2 au3 : Value} {r' nr' : Nat} {b1 b2 b3 : Int} {bt1 bt2 bt3 : Nat} {bu1 bu2 bu3 : Value} (h2 : lk g.lQ g.tm = some (.ref (q+150))) (hq : s.heap.get? (q+150) = some (sdct w.params lq nq)) (hql : g.lab (q+150) = some (.q g.tm)) (hS : lk lq nS = some (.ref (r+150))) (hr : s.heap.get? (r+150) = some (idct [(a1, at1, au1), (a2, at2, au2), (a3, at3, au3)] nr)) (hrl : g.lab (r+150) = some (.r g.tm false)) (hrn : ([a1, a2, a3] : List Int).Nodup) (hM' : lk lq nM = some (.ref (r'+150))) (hr' : s.heap.get? (r'+150) = some (idct [(b1, bt1, bu1), (b2, bt2, bu2), (b3, bt3, bu3)] nr')) (hrl' : g.lab (r'+150) = some (.r g.tm true)) (hrn' : ([b1, b2, b3] : List Int).Nodup) (hSk : ∀ k, k ∈ ([a1, a2, a3] : List Int) ↔ ∃ x, a false k = some (x, g.tm)) (hMk : ∀ k, k ∈ ([b1, b2, b3] : List Int) ↔ ∃ x, a true k = some (x, g.tm))
    (k : ∀ s' g', Aft w.params s s' g g' fp → g'.tm = g.tm + 1 → Rp w.params s'.heap g' (expA a g.tm) hd B → R0 (.ok (.ret .none)) s') :
    codeAny (model prog w) A (.call (.ref 115) ⟨[.ref (g.A1+150)], []⟩) R0 s := by
  have O := R.obs
  have hlab : [g.A0+150, g.A1+150, g.A2+150, g.A3+150, g.A4+150, g.A5+150, q+150, r+150, r'+150].map g.lab = ([Role.o 0, .o 1, .o 2, .o 3, .o 4, .o 5, .q g.tm, .r g.tm false, .r g.tm true] : List Role).map some := by
    have := O.labs
    simp only [List.map_cons, List.map_nil, List.cons.injEq, and_true] at this ⊢
    simp [this, hql, hrl, hrl']
  have hZn : ([Role.o 0, .o 1, .o 2, .o 3, .o 4, .o 5, .q g.tm, .r g.tm false, .r g.tm true] : List Role).Nodup := by simp
  have hlt : ∀ p ∈ [g.A0+150, g.A1+150, g.A2+150, g.A3+150, g.A4+150, g.A5+150, q+150, r+150, r'+150], 150 ≤ p ∧ p < s.heap.objs.size :=
    lt_cons O.o0 (by omega) (lt_cons O.o1 (by omega) (lt_cons O.o2 (by omega) (lt_cons O.o3 (by omega) (lt_cons O.o4 (by omega) (lt_cons O.o5 (by omega) (lt_cons hq (by omega) (lt_cons hr (by omega) (lt_cons hr' (by omega) lt_nil))))))))
  have W := wf_of (prog := prog) (w := w) (s := s) Y.tb Y.ti Y.sz hlt (nodup_ps hlab hZn)
  have lS : g.lS.length ≤ B := O.le false
  have lM : g.lM.length ≤ B := O.le true
  have lQ := O.leQ
  have hM : topN s = s.heap.objs.size := by have := Y.sz; show s.heap.objs.size - 150 + 150 = _; omega
  have h150 := Y.sz
  have dS0 : (lk (g.lS) a1).isSome = true := some_remL (ks := []) (O.nd false) (there_of R ((hSk a1).mp (by simp))) (by simp only [List.nodup_cons, List.mem_cons, List.mem_nil_iff, or_false, not_or] at hrn; simp; try omega)
  have eS0 : (g.lS).length ≤ B := Nat.le_trans (length_remL [] g.lS) (O.le false)
  have dS1 : (lk (rem g.lS a1) a2).isSome = true := some_remL (ks := [a1]) (O.nd false) (there_of R ((hSk a2).mp (by simp))) (by simp only [List.nodup_cons, List.mem_cons, List.mem_nil_iff, or_false, not_or] at hrn; simp; try omega)
  have eS1 : (rem g.lS a1).length ≤ B := Nat.le_trans (length_remL [a1] g.lS) (O.le false)
  have dS2 : (lk (rem (rem g.lS a1) a2) a3).isSome = true := some_remL (ks := [a1, a2]) (O.nd false) (there_of R ((hSk a3).mp (by simp))) (by simp only [List.nodup_cons, List.mem_cons, List.mem_nil_iff, or_false, not_or] at hrn; simp; try omega)
  have eS2 : (rem (rem g.lS a1) a2).length ≤ B := Nat.le_trans (length_remL [a1, a2] g.lS) (O.le false)
  have dM0 : (lk (g.lM) b1).isSome = true := some_remL (ks := []) (O.nd true) (there_of R ((hMk b1).mp (by simp))) (by simp only [List.nodup_cons, List.mem_cons, List.mem_nil_iff, or_false, not_or] at hrn'; simp; try omega)
  have eM0 : (g.lM).length ≤ B := Nat.le_trans (length_remL [] g.lM) (O.le true)
  have dM1 : (lk (rem g.lM b1) b2).isSome = true := some_remL (ks := [b1]) (O.nd true) (there_of R ((hMk b2).mp (by simp))) (by simp only [List.nodup_cons, List.mem_cons, List.mem_nil_iff, or_false, not_or] at hrn'; simp; try omega)
  have eM1 : (rem g.lM b1).length ≤ B := Nat.le_trans (length_remL [b1] g.lM) (O.le true)
  have dM2 : (lk (rem (rem g.lM b1) b2) b3).isSome = true := some_remL (ks := [b1, b2]) (O.nd true) (there_of R ((hMk b3).mp (by simp))) (by simp only [List.nodup_cons, List.mem_cons, List.mem_nil_iff, or_false, not_or] at hrn'; simp; try omega)
  have eM2 : (rem (rem g.lM b1) b2).length ≤ B := Nat.le_trans (length_remL [b1, b2] g.lM) (O.le true)
  refine run_code W Y.hh (Nat.le_refl _) Y.hd (Nat.le_refl _) (T := e33_T w.params true prog default [] 0 0 g.A0 g.A1 g.A2 g.A3 g.A4 g.A5 g.k0 g.k1 g.k2 g.k3 g.k4 g.ti g.tm g.lM g.lS g.lH g.lQ g.eM g.eS g.eH g.eQ q r r' lq nq nr nr' a1 a2 a3 at1 at2 at3 au1 au2 au3 b1 b2 b3 bt1 bt2 bt3 bu1 bu2 bu3)
    (sm := e33_S w.params true prog default [] (s.heap.objs.size - 150) s.toks g.A0 g.A1 g.A2 g.A3 g.A4 g.A5 g.k0 g.k1 g.k2 g.k3 g.k4 g.ti g.tm g.lM g.lS g.lH g.lQ g.eM g.eS g.eH g.eQ q r r' lq nq nr nr' a1 a2 a3 at1 at2 at3 au1 au2 au3 b1 b2 b3 bt1 bt2 bt3 bu1 bu2 bu3) rfl ?_ rfl ?_
    (fun p bl => e33_ok w.params (w.params.followText "special-get-raises") prog p bl (s.heap.objs.size - 150) s.toks g.A0 g.A1 g.A2 g.A3 g.A4 g.A5 g.k0 g.k1 g.k2 g.k3 g.k4 g.ti g.tm g.lM g.lS g.lH g.lQ g.eM g.eS g.eH g.eQ q r r' lq nq nr nr' a1 a2 a3 at1 at2 at3 au1 au2 au3 b1 b2 b3 bt1 bt2 bt3 bu1 bu2 bu3) (fun p bl => xeq rfl rfl rfl) ?_
  · exact start_of _ _ _ (And.intro O.o0 (And.intro O.o1 (And.intro O.o2 (And.intro O.o3 (And.intro O.o4 (And.intro O.o5 (And.intro hq (And.intro hr (And.intro hr' trivial)))))))))
  · unfold e33_S
    repeat' (first | exact all_nil | refine all_cons ?_ ?_)
    all_goals refine okx ?_ rfl
    all_goals first
      | (refine ok_hasI W ?_ ?_ ?_; rfl; omega; simp [h2, hS, hM', dS0, dS1, dS2, dM0, dM1, dM2])
      | (refine ok_getI W ?_ ?_ ?_; rfl; omega; simp [h2, hS, hM', dS0, dS1, dS2, dM0, dM1, dM2])
      | (refine ok_delI W ?_ ?_ ?_ ?_; rfl; omega; omega; simp [h2, hS, hM', dS0, dS1, dS2, dM0, dM1, dM2])
      | (refine ok_hasS W ?_ ?_ ?_ ?_; rfl; rfl; omega; simp [h2, hS, hM', dS0, dS1, dS2, dM0, dM1, dM2])
      | (refine ok_getS W ?_ ?_ ?_ ?_; rfl; omega; rfl; simp [h2, hS, hM', dS0, dS1, dS2, dM0, dM1, dM2])
      | (apply ok_knext W; rfl; rfl; rfl)
      | (refine ok_kend W ?_ ?_; rfl; rfl)
  · intro s' T' R' hp
    have F := allGet R' hp
    obtain ⟨f0, f1, f2, f3, f4, f5, -⟩ := F
    let g' : Cch := { g with tm := g.tm + 1, ti := s.toks + 39, lS := remL g.lS [a1, a2, a3], eS := g.eS + 1 + 1 + 1, lM := remL g.lM [b1, b2, b3], eM := g.eM + 1 + 1 + 1, lQ := rem g.lQ g.tm, eQ := g.eQ + 1, lab := ext g.lab (topN s) (fun _ => none) }
    obtain ⟨AF, K⟩ := aft_of (f := fun _ => none) (g' := g') (fp := fp) R' Y.sz hlab rfl rfl
    refine k s' g' AF rfl (R.exp (tm := g.tm) K (fun c k => by simp) (fun e he => by simp [he]) ⟨f0, f1, f2, f3, f4, f5, (List.map_congr_left fun p hp => AF.lab p (O.lts p hp).2).trans O.labs, fun b => ?_, O.ndH, nodup_rem O.ndQ, fun b => ?_, O.leH, Nat.le_trans (length_rem ..) O.leQ⟩ (fun b k => ?_) ?_ rfl)
    · cases b
      · exact nodup_remL [a1, a2, a3] (O.nd false)
      · exact nodup_remL [b1, b2, b3] (O.nd true)
    · cases b
      · exact Nat.le_trans (length_remL [a1, a2, a3] g.lS) lS
      · exact Nat.le_trans (length_remL [b1, b2, b3] g.lM) lM
    · cases b
      · exact hL_of (O.nd false) hSk k
      · exact hL_of (O.nd true) hMk k
    · exact fun e => lk_rem' O.ndQ e
end
end Mine

end
/-! LawH -/
section
open PySem PySem.W PySem.W.X PySem.W.ZRun PyProof.Rows
namespace Mine
theorem ktE (P : Params) : KT.of (Mine.hz.heap_155 P) = Mine.hz.ktop_302 P := by kernel_rfl
theorem kt_gen {h h' : Heap} {K : Frag} {t : KT} (e : KT.of K = t) (A : AllIn h K) (k : ∀ b o, h.get? b = some o → h'.get? b = some o) (b : Nat) (o : Obj) (q : t.get b = some o) : h.get? b = some o ∧ h'.get? b = some o := by
  subst e
  have := KT.Holds.get (holds_of A) q
  rw [Nat.one_mul, Nat.add_zero] at this
  exact ⟨this, k _ _ this⟩
theorem top_gen {w : World} {s₀ s₁ : Shared} (ZA : AllIn s₀.heap (Mine.hz.heap_155 w.params)) (hn : s₀.heap.objs.size = 150) (k : ∀ b o, s₀.heap.get? b = some o → s₁.heap.get? b = some o) : TopIn w.params s₁.heap ∧ TopB w.params :=
  ⟨fun b o q => (kt_gen (ktE w.params) ZA k b o q).2, fun b o q => hn ▸ Heap.lt_size (kt_gen (ktE w.params) ZA k b o q).1⟩
end Mine

end
/-! HD0 -/
section
open PySem PySem.W PySem.W.X PyProof.Rows
namespace Mine
theorem Rp.le {P : Params} {h : Heap} {g : Cch} {a : Ab} {hd : Int → Bool} {B B' : Nat} (R : Rp P h g a hd B) (hB : B ≤ B') : Rp P h g a hd B' := by
  have O := R.obs
  exact R.step (Z := []) hB (fun x o r hl _ hx => ⟨hx, hl⟩) ⟨O.o0, O.o1, O.o2, O.o3, O.o4, O.o5, O.labs, O.nd, O.ndH, O.ndQ, fun b => Nat.le_trans (O.le b) hB, Nat.le_trans O.leH hB, Nat.le_trans O.leQ hB⟩ R.hds (fun b k => .inl ⟨rfl, rfl, by simp, by simp⟩) (fun e => .inl ⟨rfl, fun _ _ _ => Iff.rfl, by simp, by simp⟩)
/-- what a raise needs of its frames -/
structure Rb (A : Around) (s : Shared) (g : Cch) (fp : Nat → Prop) (base : Heap) (es : List Env) : Prop where
  hdp : A.depth + 300 < recursionLimit
  hb : base.StaysIn s.heap
  hF : s.heap.FunFrames base es
  hfr : A.frames = some es
  hbase : ∀ x o, s.heap.get? x = some o → ¬ fp x → base.get? x = some o
  hfp : ∀ x, fp x → g.lab x = none ∧ 150 ≤ x
section
variable {prog : Program} {w : World} {A : Around} {s : Shared} {g : Cch} {a : Ab} {hd : Int → Bool} {B : Nat} {R0 : Result → Shared → Prop} {n v : Int} {j1 j2 j3 : Nat} {fp : Nat → Prop} {base : Heap} {es : List Env}
theorem up150 {x : Nat} (h : 150 ≤ x) : ∃ y, x = y + 150 := ⟨x - 150, (Nat.sub_add_cancel h).symm⟩
theorem told_0 (Y : Rdy w A s) (Z : Rb A s g fp base es) (R : Rp w.params s.heap g a hd B) (hB : B ≤ 99) (hn : 0 ≤ n ∧ n < 3)
    (k1 : ∀ s' g' l, a false n = none → Aft w.params s s' g g' fp → g'.tm = g.tm → Rp w.params s'.heap g' (setA a false n (some (v, g.tm+600))) hd (B+1) → s'.heap.get? l = some (lstO [.int n j2]) → R0 (.ok (.ret (.ref l))) s')
    (k2 : ∀ s' g' l, (a false n).isSome = true → Aft w.params s s' g g' fp → g'.tm = g.tm → Rp w.params s'.heap g' a hd (B+1) → s'.heap.get? l = some (lstO []) → R0 (.ok (.ret (.ref l))) s') :
    codeAny (model prog w) A (.call (.ref 137) ⟨[.ref (g.A1+150), .int 0 j1, .int n j2, .int v j3], []⟩) R0 s := by
  have E := R.ent false n
  cases h1 : lk g.lS n with
  | some v0 =>
    rw [show g.L false = g.lS from rfl, h1] at E
    obtain ⟨_, _, _, _, _, _, _, _, _, _, er, _⟩ := E
    exact toldR0 Y Z.hdp R hn (by rw [h1]; rfl) Z.hb Z.hF Z.hfr Z.hbase Z.hfp fun s' l AF R' hl => k2 s' g l (by rw [er]; rfl) AF rfl (R'.le (Nat.le_succ B)) hl
  | none =>
    rw [show g.L false = g.lS from rfl, h1] at E
    have ha : a false n = none := E
    cases h2 : lk g.lQ (g.tm+600) with
    | none => exact told0a Y R (by omega) hn h1 h2 fun s' g' l AF ht R' hl _ _ => k1 s' g' l ha AF ht R' hl
    | some vq =>
      have Q := R.que (g.tm+600)
      rw [h2] at Q
      obtain ⟨q, lq, nq, q1, rfl, q3, q4, q5, q6, q7⟩ := Q
      obtain ⟨q', rfl⟩ := up150 q1
      cases h3 : lk lq nS with
      | none => exact told0b Y R (by omega) hn h1 h2 q3 q4 q5 q6 q7 h3 fun s' g' l AF ht R' hl _ _ => k1 s' g' l ha AF ht R' hl
      | some u =>
        have I := q7 false
        rw [show lk lq (nm false) = some u from h3] at I
        obtain ⟨r, lr, nr, r1, rfl, r3, r4, r5, r6, r7⟩ := I
        obtain ⟨r', rfl⟩ := up150 r1
        exact told0c Y R (by omega) hn h1 h2 q3 q4 q5 q6 q7 h3 r3 r4 r5 r6 r7 fun s' g' l AF ht R' hl _ _ => k1 s' g' l ha AF ht R' hl
theorem told_1 (Y : Rdy w A s) (Z : Rb A s g fp base es) (R : Rp w.params s.heap g a hd B) (hB : B ≤ 99) (hn : 0 ≤ n ∧ n < 3)
    (k1 : ∀ s' g' l x e u, a false n = some (x, e) → Aft w.params s s' g g' fp → g'.tm = g.tm → Rp w.params s'.heap g' (setA a false n none) hd (B+1) → s'.heap.get? l = some (lstO [.int x u]) → R0 (.ok (.ret (.ref l))) s')
    (k2 : ∀ s' g' l, a false n = none → Aft w.params s s' g g' fp → g'.tm = g.tm → Rp w.params s'.heap g' a hd (B+1) → s'.heap.get? l = some (lstO []) → R0 (.ok (.ret (.ref l))) s') :
    codeAny (model prog w) A (.call (.ref 137) ⟨[.ref (g.A1+150), .int 1 j1, .int n j2, .int v j3], []⟩) R0 s := by
  have E := R.ent false n
  cases h1 : lk g.lS n with
  | none =>
    rw [show g.L false = g.lS from rfl, h1] at E
    exact toldR1 Y Z.hdp R hn h1 Z.hb Z.hF Z.hfr Z.hbase Z.hfp fun s' l AF R' hl => k2 s' g l E AF rfl (R'.le (Nat.le_succ B)) hl
  | some v0 =>
    rw [show g.L false = g.lS from rfl, h1] at E
    obtain ⟨T, I, e, x, y, li, ni, t1, i1, rfl, er, t3, i3, ⟨y', hw⟩, hwh, tl, il⟩ := E
    obtain ⟨T', rfl⟩ := up150 t1
    obtain ⟨I', rfl⟩ := up150 i1
    have Q := R.que e
    cases h2 : lk g.lQ e with
    | none => rw [h2] at Q; exact absurd er (Q false n x)
    | some vq =>
      rw [h2] at Q
      obtain ⟨q, lq, nq, q1, rfl, q3, q4, q5, q6, q7⟩ := Q
      obtain ⟨q', rfl⟩ := up150 q1
      have J := q7 false
      cases h3 : lk lq nS with
      | none => rw [show lk lq (nm false) = none from h3] at J; exact absurd er (J n x)
      | some u =>
        rw [show lk lq (nm false) = some u from h3] at J
        obtain ⟨r, lr, nr, r1, rfl, r3, r4, r5, r6, r7⟩ := J
        obtain ⟨r', rfl⟩ := up150 r1
        exact told1h Y R (by omega) er h1 t3 i3 hw tl il h2 q3 q4 q5 q6 q7 h3 r3 r4 r5 r6 r7 fun s' g' l u AF ht R' hl _ _ => k1 s' g' l x e u er AF ht (R'.le (Nat.le_succ B)) hl
theorem told_2 (Y : Rdy w A s) (Z : Rb A s g fp base es) (R : Rp w.params s.heap g a hd B) (hB : B ≤ 99) (hn : 0 ≤ n ∧ n < 3)
    (k1 : ∀ s' g' l, a true n = none → Aft w.params s s' g g' fp → g'.tm = g.tm → Rp w.params s'.heap g' (setA a true n (some (v, g.tm+600))) (fun k => if k = n then true else hd k) (B+1) → s'.heap.get? l = some (lstO [.int n j2]) → R0 (.ok (.ret (.ref l))) s')
    (k2 : ∀ s' g' l, (a true n).isSome = true → Aft w.params s s' g g' fp → g'.tm = g.tm → Rp w.params s'.heap g' a hd (B+1) → s'.heap.get? l = some (lstO []) → R0 (.ok (.ret (.ref l))) s') :
    codeAny (model prog w) A (.call (.ref 137) ⟨[.ref (g.A1+150), .int 2 j1, .int n j2, .int v j3], []⟩) R0 s := by
  have E := R.ent true n
  cases h1 : lk g.lM n with
  | some v0 =>
    rw [show g.L true = g.lM from rfl, h1] at E
    obtain ⟨_, _, _, _, _, _, _, _, _, _, er, _⟩ := E
    exact toldR2 Y Z.hdp R hn (by rw [h1]; rfl) Z.hb Z.hF Z.hfr Z.hbase Z.hfp fun s' l AF R' hl => k2 s' g l (by rw [er]; rfl) AF rfl (R'.le (Nat.le_succ B)) hl
  | none =>
    rw [show g.L true = g.lM from rfl, h1] at E
    have ha : a true n = none := E
    cases h2 : lk g.lQ (g.tm+600) with
    | none => exact told2a Y R (by omega) hn h1 h2 fun s' g' l AF ht R' hl _ _ => k1 s' g' l ha AF ht R' hl
    | some vq =>
      have Q := R.que (g.tm+600)
      rw [h2] at Q
      obtain ⟨q, lq, nq, q1, rfl, q3, q4, q5, q6, q7⟩ := Q
      obtain ⟨q', rfl⟩ := up150 q1
      cases h3 : lk lq nM with
      | none => exact told2b Y R (by omega) hn h1 h2 q3 q4 q5 q6 q7 h3 fun s' g' l AF ht R' hl _ _ => k1 s' g' l ha AF ht R' hl
      | some u =>
        have I := q7 true
        rw [show lk lq (nm true) = some u from h3] at I
        obtain ⟨r, lr, nr, r1, rfl, r3, r4, r5, r6, r7⟩ := I
        obtain ⟨r', rfl⟩ := up150 r1
        exact told2c Y R (by omega) hn h1 h2 q3 q4 q5 q6 q7 h3 r3 r4 r5 r6 r7 fun s' g' l AF ht R' hl _ _ => k1 s' g' l ha AF ht R' hl
theorem told_3 (Y : Rdy w A s) (Z : Rb A s g fp base es) (R : Rp w.params s.heap g a hd B) (hB : B ≤ 99) (hn : 0 ≤ n ∧ n < 3)
    (k1 : ∀ s' g' l x e u, a true n = some (x, e) → Aft w.params s s' g g' fp → g'.tm = g.tm → Rp w.params s'.heap g' (setA a true n none) (fun k => if k = n then false else hd k) (B+1) → s'.heap.get? l = some (lstO [.int x u]) → R0 (.ok (.ret (.ref l))) s')
    (k2 : ∀ s' g' l, a true n = none → Aft w.params s s' g g' fp → g'.tm = g.tm → Rp w.params s'.heap g' a hd (B+1) → s'.heap.get? l = some (lstO []) → R0 (.ok (.ret (.ref l))) s') :
    codeAny (model prog w) A (.call (.ref 137) ⟨[.ref (g.A1+150), .int 3 j1, .int n j2, .int v j3], []⟩) R0 s := by
  have E := R.ent true n
  cases h1 : lk g.lM n with
  | none =>
    rw [show g.L true = g.lM from rfl, h1] at E
    exact toldR3 Y Z.hdp R hn h1 Z.hb Z.hF Z.hfr Z.hbase Z.hfp fun s' l AF R' hl => k2 s' g l E AF rfl (R'.le (Nat.le_succ B)) hl
  | some v0 =>
    rw [show g.L true = g.lM from rfl, h1] at E
    obtain ⟨T, I, e, x, y, li, ni, t1, i1, rfl, er, t3, i3, ⟨y', hw⟩, hwh, tl, il⟩ := E
    obtain ⟨T', rfl⟩ := up150 t1
    obtain ⟨I', rfl⟩ := up150 i1
    have Q := R.que e
    cases h2 : lk g.lQ e with
    | none => rw [h2] at Q; exact absurd er (Q true n x)
    | some vq =>
      rw [h2] at Q
      obtain ⟨q, lq, nq, q1, rfl, q3, q4, q5, q6, q7⟩ := Q
      obtain ⟨q', rfl⟩ := up150 q1
      have J := q7 true
      cases h3 : lk lq nM with
      | none => rw [show lk lq (nm true) = none from h3] at J; exact absurd er (J n x)
      | some u =>
        rw [show lk lq (nm true) = some u from h3] at J
        obtain ⟨r, lr, nr, r1, rfl, r3, r4, r5, r6, r7⟩ := J
        obtain ⟨r', rfl⟩ := up150 r1
        obtain ⟨zh, hz⟩ := hwh rfl
        exact told3h Y R (by omega) er h1 t3 i3 hw tl il h2 q3 q4 q5 q6 q7 h3 r3 r4 r5 r6 r7 hz fun s' g' l u AF ht R' hl _ _ => k1 s' g' l x e u er AF ht (R'.le (Nat.le_succ B)) hl
theorem told_4 (Y : Rdy w A s) (R : Rp w.params s.heap g a hd B) (hB : B ≤ 99) (hh : hd n = true → (a true n).isSome = true)
    (k1 : ∀ s' g' l u, hd n = true → Aft w.params s s' g g' fp → g'.tm = g.tm → Rp w.params s'.heap g' (setA a true n none) (fun k => if k = n then false else hd k) (B+1) → s'.heap.get? l = some (lstO [.int n u]) → R0 (.ok (.ret (.ref l))) s')
    (k2 : ∀ s' g' l u, hd n = false → Aft w.params s s' g g' fp → g'.tm = g.tm → Rp w.params s'.heap g' a hd (B+1) → s'.heap.get? l = some (lstO [.int n u]) → R0 (.ok (.ret (.ref l))) s') :
    codeAny (model prog w) A (.call (.ref 137) ⟨[.ref (g.A1+150), .int 4 j1, .int n j2, .int v j3], []⟩) R0 s := by
  have hl0 := R.hds.hdl n
  cases hH : lk g.lH (100+n) with
  | none =>
    rw [hH] at hl0
    exact told4n Y R (by omega) hH fun s' g' l AF ht R' hl _ _ => k2 s' g' l _ hl0 AF ht (R'.le (Nat.le_succ B)) hl
  | some vh =>
  obtain ⟨yh, rfl⟩ := R.hds.hdk n vh hH
  have hyh := hH
  rw [hH] at hl0
  clear hH
  have hH : hd n = true := hl0
  have E := R.ent true n
  cases h1 : lk g.lM n with
  | none =>
    rw [show g.L true = g.lM from rfl, h1] at E
    have := hh hH
    rw [show a true n = none from E] at this
    cases this
  | some v0 =>
    rw [show g.L true = g.lM from rfl, h1] at E
    obtain ⟨T, I, e, x, y, li, ni, t1, i1, rfl, er, t3, i3, ⟨y', hw⟩, hwh, tl, il⟩ := E
    obtain ⟨T', rfl⟩ := up150 t1
    obtain ⟨I', rfl⟩ := up150 i1
    have Q := R.que e
    cases h2 : lk g.lQ e with
    | none => rw [h2] at Q; exact absurd er (Q true n x)
    | some vq =>
      rw [h2] at Q
      obtain ⟨q, lq, nq, q1, rfl, q3, q4, q5, q6, q7⟩ := Q
      obtain ⟨q', rfl⟩ := up150 q1
      have J := q7 true
      cases h3 : lk lq nM with
      | none => rw [show lk lq (nm true) = none from h3] at J; exact absurd er (J n x)
      | some u =>
        rw [show lk lq (nm true) = some u from h3] at J
        obtain ⟨r, lr, nr, r1, rfl, r3, r4, r5, r6, r7⟩ := J
        obtain ⟨r', rfl⟩ := up150 r1
        obtain ⟨zh, hz⟩ := hwh rfl
        exact told4h Y R (by omega) er h1 t3 i3 hw tl il h2 q3 q4 q5 q6 q7 h3 r3 r4 r5 r6 r7 hz hyh fun s' g' l u AF ht R' hl _ _ => k1 s' g' l u hH AF ht (R'.le (Nat.le_succ B)) hl
end
end Mine

end
/-! HD1 -/
section
open PySem PySem.W PySem.W.X PyProof.Rows
namespace Mine
section
variable {prog : Program} {w : World} {A : Around} {s : Shared} {R0 : Result → Shared → Prop} {n v now : Int} {j1 j2 j3 j5 : Nat} {D nT : Nat} {lT : TL} {f : Hf} {B : Nat} {X : Nat → Prop}
theorem Hp.le' {prog : Program} {w : World} {h : Heap} {D : Nat} {lT : TL} {nT : Nat} {f : Hf} {B B' : Nat} {X : Nat → Prop} (H : Hp prog w h D lT nT f B X) (hB : B ≤ B') : Hp prog w h D lT nT f B' X := ⟨H.o, H.nd, Nat.le_trans H.le hB, H.keys, H.sep, H.vals, H.val, H.far⟩
def Liv (f : Hf) (sg n now : Int) : Prop := ∃ x e, f sg n = some (x, e) ∧ now ≤ e
theorem want_0 (Y : Rdy w A s) (H : Hp prog w s.heap D lT nT f B X) (hX : ∀ x, s.heap.objs.size ≤ x → ¬ X x) (hB : B ≤ 99)
    (k1 : ∀ s' lT' nT' l u, ¬ Liv f 0 n now → AftW w.params s s' D → Hp prog w s'.heap D lT' nT' (setF f 0 n (some (v, now+600))) (B+1) X → s'.heap.get? l = some (lstO [.int n u]) → R0 (.ok (.ret (.ref l))) s')
    (k2 : ∀ s' lT' nT' l, Liv f 0 n now → AftW w.params s s' D → Hp prog w s'.heap D lT' nT' f (B+1) X → s'.heap.get? l = some (lstO []) → R0 (.ok (.ret (.ref l))) s') :
    codeAny (model prog w) A (.call (.ref 144) ⟨[.ref (D+150), .int now j5, .int 0 j1, .int n j2, .int v j3], []⟩) R0 s := by
  have V := H.val 0 n
  cases h1 : lk lT [0, n] with
  | none =>
    rw [h1] at V
    have hno : ¬ Liv f 0 n now := fun ⟨x, e, h, _⟩ => by rw [show f 0 n = none from V] at h; cases h
    exact want_w0a Y H hX (by omega) h1 (fun s' lT' nT' l u AW H' hl _ => k1 s' lT' nT' l u hno AW H' hl)
  | some vv =>
    rw [h1] at V
    obtain ⟨V, x, e, y, y', v1, rfl, v3, er⟩ := V
    obtain ⟨V', rfl⟩ := up150 v1
    by_cases hle : now ≤ e
    · exact want_w0t Y H hX (by omega) h1 v3 hle (fun s' lT' nT' l AW H' hl _ => k2 s' lT' nT' l ⟨x, e, er, hle⟩ AW (H'.le' (Nat.le_succ B)) hl)
    · have hno : ¬ Liv f 0 n now := fun ⟨x', e', h, h'⟩ => by rw [er] at h; cases h; exact hle h'
      exact want_w0x Y H hX (by omega) h1 v3 (by omega) (fun s' lT' nT' l u AW H' hl _ => k1 s' lT' nT' l u hno AW H' hl)
theorem want_1 (Y : Rdy w A s) (H : Hp prog w s.heap D lT nT f B X) (hX : ∀ x, s.heap.objs.size ≤ x → ¬ X x) (hB : B ≤ 99)
    (k1 : ∀ s' lT' nT' l x e u, f 0 n = some (x, e) → now ≤ e → AftW w.params s s' D → Hp prog w s'.heap D lT' nT' (setF f 0 n none) (B+1) X → s'.heap.get? l = some (lstO [.int x u]) → R0 (.ok (.ret (.ref l))) s')
    (k2 : ∀ s' lT' nT' l, ¬ Liv f 0 n now → AftW w.params s s' D → Hp prog w s'.heap D lT' nT' f (B+1) X → s'.heap.get? l = some (lstO []) → R0 (.ok (.ret (.ref l))) s') :
    codeAny (model prog w) A (.call (.ref 144) ⟨[.ref (D+150), .int now j5, .int 1 j1, .int n j2, .int v j3], []⟩) R0 s := by
  have V := H.val 0 n
  cases h1 : lk lT [0, n] with
  | none =>
    rw [h1] at V
    have hno : ¬ Liv f 0 n now := fun ⟨x, e, h, _⟩ => by rw [show f 0 n = none from V] at h; cases h
    exact want_w1a Y H hX (by omega) h1 (fun s' lT' nT' l AW H' hl _ => k2 s' lT' nT' l hno AW (H'.le' (Nat.le_succ B)) hl)
  | some vv =>
    rw [h1] at V
    obtain ⟨V, x, e, y, y', v1, rfl, v3, er⟩ := V
    obtain ⟨V', rfl⟩ := up150 v1
    by_cases hle : now ≤ e
    · exact want_w1t Y H hX (by omega) h1 v3 hle (fun s' lT' nT' l u AW H' hl _ => k1 s' lT' nT' l x e u er hle AW (H'.le' (Nat.le_succ B)) hl)
    · have hno : ¬ Liv f 0 n now := fun ⟨x', e', h, h'⟩ => by rw [er] at h; cases h; exact hle h'
      exact want_w1x Y H hX (by omega) h1 v3 (by omega) (fun s' lT' nT' l AW H' hl _ => k2 s' lT' nT' l hno AW (H'.le' (Nat.le_succ B)) hl)
theorem want_2 (Y : Rdy w A s) (H : Hp prog w s.heap D lT nT f B X) (hX : ∀ x, s.heap.objs.size ≤ x → ¬ X x) (hB : B ≤ 99)
    (k1 : ∀ s' lT' nT' l u, ¬ Liv f 1 n now → AftW w.params s s' D → Hp prog w s'.heap D lT' nT' (setF f 1 n (some (v, now+600))) (B+1) X → s'.heap.get? l = some (lstO [.int n u]) → R0 (.ok (.ret (.ref l))) s')
    (k2 : ∀ s' lT' nT' l, Liv f 1 n now → AftW w.params s s' D → Hp prog w s'.heap D lT' nT' f (B+1) X → s'.heap.get? l = some (lstO []) → R0 (.ok (.ret (.ref l))) s') :
    codeAny (model prog w) A (.call (.ref 144) ⟨[.ref (D+150), .int now j5, .int 2 j1, .int n j2, .int v j3], []⟩) R0 s := by
  have V := H.val 1 n
  cases h1 : lk lT [1, n] with
  | none =>
    rw [h1] at V
    have hno : ¬ Liv f 1 n now := fun ⟨x, e, h, _⟩ => by rw [show f 1 n = none from V] at h; cases h
    exact want_w2a Y H hX (by omega) h1 (fun s' lT' nT' l u AW H' hl _ => k1 s' lT' nT' l u hno AW H' hl)
  | some vv =>
    rw [h1] at V
    obtain ⟨V, x, e, y, y', v1, rfl, v3, er⟩ := V
    obtain ⟨V', rfl⟩ := up150 v1
    by_cases hle : now ≤ e
    · exact want_w2t Y H hX (by omega) h1 v3 hle (fun s' lT' nT' l AW H' hl _ => k2 s' lT' nT' l ⟨x, e, er, hle⟩ AW (H'.le' (Nat.le_succ B)) hl)
    · have hno : ¬ Liv f 1 n now := fun ⟨x', e', h, h'⟩ => by rw [er] at h; cases h; exact hle h'
      exact want_w2x Y H hX (by omega) h1 v3 (by omega) (fun s' lT' nT' l u AW H' hl _ => k1 s' lT' nT' l u hno AW H' hl)
theorem want_3 (Y : Rdy w A s) (H : Hp prog w s.heap D lT nT f B X) (hX : ∀ x, s.heap.objs.size ≤ x → ¬ X x) (hB : B ≤ 99)
    (k1 : ∀ s' lT' nT' l x e u, f 1 n = some (x, e) → now ≤ e → AftW w.params s s' D → Hp prog w s'.heap D lT' nT' (setF f 1 n none) (B+1) X → s'.heap.get? l = some (lstO [.int x u]) → R0 (.ok (.ret (.ref l))) s')
    (k2 : ∀ s' lT' nT' l, ¬ Liv f 1 n now → AftW w.params s s' D → Hp prog w s'.heap D lT' nT' f (B+1) X → s'.heap.get? l = some (lstO []) → R0 (.ok (.ret (.ref l))) s') :
    codeAny (model prog w) A (.call (.ref 144) ⟨[.ref (D+150), .int now j5, .int 3 j1, .int n j2, .int v j3], []⟩) R0 s := by
  have V := H.val 1 n
  cases h1 : lk lT [1, n] with
  | none =>
    rw [h1] at V
    have hno : ¬ Liv f 1 n now := fun ⟨x, e, h, _⟩ => by rw [show f 1 n = none from V] at h; cases h
    exact want_w3a Y H hX (by omega) h1 (fun s' lT' nT' l AW H' hl _ => k2 s' lT' nT' l hno AW (H'.le' (Nat.le_succ B)) hl)
  | some vv =>
    rw [h1] at V
    obtain ⟨V, x, e, y, y', v1, rfl, v3, er⟩ := V
    obtain ⟨V', rfl⟩ := up150 v1
    by_cases hle : now ≤ e
    · exact want_w3t Y H hX (by omega) h1 v3 hle (fun s' lT' nT' l u AW H' hl _ => k1 s' lT' nT' l x e u er hle AW (H'.le' (Nat.le_succ B)) hl)
    · have hno : ¬ Liv f 1 n now := fun ⟨x', e', h, h'⟩ => by rw [er] at h; cases h; exact hle h'
      exact want_w3x Y H hX (by omega) h1 v3 (by omega) (fun s' lT' nT' l AW H' hl _ => k2 s' lT' nT' l hno AW (H'.le' (Nat.le_succ B)) hl)
theorem want_4 (Y : Rdy w A s) (H : Hp prog w s.heap D lT nT f B X) (hX : ∀ x, s.heap.objs.size ≤ x → ¬ X x) (hB : B ≤ 99)
    (k1 : ∀ s' lT' nT' l u, Liv f 1 n now → AftW w.params s s' D → Hp prog w s'.heap D lT' nT' (setF f 1 n none) (B+1) X → s'.heap.get? l = some (lstO [.int n u]) → R0 (.ok (.ret (.ref l))) s')
    (k2 : ∀ s' lT' nT' l u, ¬ Liv f 1 n now → AftW w.params s s' D → Hp prog w s'.heap D lT' nT' f (B+1) X → s'.heap.get? l = some (lstO [.int n u]) → R0 (.ok (.ret (.ref l))) s') :
    codeAny (model prog w) A (.call (.ref 144) ⟨[.ref (D+150), .int now j5, .int 4 j1, .int n j2, .int v j3], []⟩) R0 s := by
  have V := H.val 1 n
  cases h1 : lk lT [1, n] with
  | none =>
    rw [h1] at V
    have hno : ¬ Liv f 1 n now := fun ⟨x, e, h, _⟩ => by rw [show f 1 n = none from V] at h; cases h
    exact want_w4a Y H hX (by omega) h1 (fun s' lT' nT' l u AW H' hl _ => k2 s' lT' nT' l u hno AW (H'.le' (Nat.le_succ B)) hl)
  | some vv =>
    rw [h1] at V
    obtain ⟨V, x, e, y, y', v1, rfl, v3, er⟩ := V
    obtain ⟨V', rfl⟩ := up150 v1
    by_cases hle : now ≤ e
    · exact want_w4t Y H hX (by omega) h1 v3 hle (fun s' lT' nT' l u AW H' hl _ => k1 s' lT' nT' l u ⟨x, e, er, hle⟩ AW (H'.le' (Nat.le_succ B)) hl)
    · have hno : ¬ Liv f 1 n now := fun ⟨x', e', h, h'⟩ => by rw [er] at h; cases h; exact hle h'
      exact want_w4x Y H hX (by omega) h1 v3 (by omega) (fun s' lT' nT' l u AW H' hl _ => k2 s' lT' nT' l u hno AW (H'.le' (Nat.le_succ B)) hl)
end
/-! time goes on -/
section
variable {prog : Program} {w : World} {A : Around} {s : Shared} {g : Cch} {a : Ab} {hd : Int → Bool} {B : Nat} {R0 : Result → Shared → Prop} {fp : Nat → Prop}
theorem inn_cases {h : Heap} {e : Int} {b : Bool} {v : Option Value} (hr : ∀ k, (a b k).isSome = true → 0 ≤ k ∧ k < 3) (I : InnO h g a B e b v) : (v = none ∧ ∀ k, k ∈ ([] : List Int) ↔ ∃ x, a b k = some (x, e)) ∨
    (∃ (r nr : Nat), v = some (.ref (r+150)) ∧ h.get? (r+150) = some (idct [] nr) ∧ g.lab (r+150) = some (.r e b) ∧ ([] : List Int).Nodup ∧ ∀ k, k ∈ ([] : List Int) ↔ ∃ x, a b k = some (x, e)) ∨
    (∃ (r nr : Nat) (a1 : Int) (t1 : Nat) (u1 : Value), v = some (.ref (r+150)) ∧ h.get? (r+150) = some (idct [(a1, t1, u1)] nr) ∧ g.lab (r+150) = some (.r e b) ∧ ([a1] : List Int).Nodup ∧ ∀ k, k ∈ ([a1] : List Int) ↔ ∃ x, a b k = some (x, e)) ∨
    (∃ (r nr : Nat) (a1 a2 : Int) (t1 t2 : Nat) (u1 u2 : Value), v = some (.ref (r+150)) ∧ h.get? (r+150) = some (idct [(a1, t1, u1), (a2, t2, u2)] nr) ∧ g.lab (r+150) = some (.r e b) ∧ ([a1, a2] : List Int).Nodup ∧ ∀ k, k ∈ ([a1, a2] : List Int) ↔ ∃ x, a b k = some (x, e)) ∨
    (∃ (r nr : Nat) (a1 a2 a3 : Int) (t1 t2 t3 : Nat) (u1 u2 u3 : Value), v = some (.ref (r+150)) ∧ h.get? (r+150) = some (idct [(a1, t1, u1), (a2, t2, u2), (a3, t3, u3)] nr) ∧ g.lab (r+150) = some (.r e b) ∧ ([a1, a2, a3] : List Int).Nodup ∧ ∀ k, k ∈ ([a1, a2, a3] : List Int) ↔ ∃ x, a b k = some (x, e)) := by
  cases v with
  | none => exact .inl ⟨rfl, fun k => ⟨fun h => absurd h (List.not_mem_nil), fun ⟨x, h⟩ => absurd h (I k x)⟩⟩
  | some u =>
    obtain ⟨r, lr, nr, r1, rfl, r3, r4, r5, r6, r7⟩ := I
    obtain ⟨r', rfl⟩ := up150 r1
    have hk : ∀ k, k ∈ lr.map (·.1) ↔ ∃ x, a b k = some (x, e) := fun k => lk_isSome.symm.trans (r7 k)
    have h3 : ∀ k, k ∈ lr.map (·.1) → 0 ≤ k ∧ k < 3 := fun k hm => by
      obtain ⟨x, hx⟩ := (hk k).mp hm
      exact hr k (by rw [hx]; rfl)
    match lr, r3, r5, hk, h3 with
    | [], r3, r5, hk, _ => exact .inr (.inl ⟨r', nr, rfl, r3, r4, r5, hk⟩)
    | [(a1, t1, u1)], r3, r5, hk, _ => exact .inr (.inr (.inl ⟨r', nr, a1, t1, u1, rfl, r3, r4, r5, hk⟩))
    | [(a1, t1, u1), (a2, t2, u2)], r3, r5, hk, _ => exact .inr (.inr (.inr (.inl ⟨r', nr, a1, a2, t1, t2, u1, u2, rfl, r3, r4, r5, hk⟩)))
    | [(a1, t1, u1), (a2, t2, u2), (a3, t3, u3)], r3, r5, hk, _ => exact .inr (.inr (.inr (.inr ⟨r', nr, a1, a2, a3, t1, t2, t3, u1, u2, u3, rfl, r3, r4, r5, hk⟩)))
    | x1 :: x2 :: x3 :: x4 :: rr, _, r5, _, h3 =>
      exfalso
      simp only [List.map_cons, List.nodup_cons, List.mem_cons, not_or] at r5 h3
      have b1 := h3 x1.1 (.inl rfl)
      have b2 := h3 x2.1 (.inr (.inl rfl))
      have b3 := h3 x3.1 (.inr (.inr (.inl rfl)))
      have b4 := h3 x4.1 (.inr (.inr (.inr (.inl rfl))))
      have c12 := r5.1.1
      have c13 := r5.1.2.1
      have c14 := r5.1.2.2.1
      have c23 := r5.2.1.1
      have c24 := r5.2.1.2.1
      have c34 := r5.2.2.1.1
      omega
theorem expire_1 (Y : Rdy w A s) (R : Rp w.params s.heap g a hd B) (hB : B ≤ 100)
    (k : ∀ s' g', Aft w.params s s' g g' fp → g'.tm = g.tm + 1 → Rp w.params s'.heap g' (expA a g.tm) hd B → R0 (.ok (.ret .none)) s') :
    codeAny (model prog w) A (.call (.ref 115) ⟨[.ref (g.A1+150)], []⟩) R0 s := by
  cases h2 : lk g.lQ g.tm with
  | none => exact exp_ex Y R hB h2 k
  | some vq =>
    have Q := R.que g.tm
    rw [h2] at Q
    obtain ⟨q, lq, nq, q1, rfl, q3, q4, q5, q6, q7⟩ := Q
    obtain ⟨q', rfl⟩ := up150 q1
    have IS := inn_cases (fun k => R.hds.rng false k) (q7 false)
    have IM := inn_cases (fun k => R.hds.rng true k) (q7 true)
    rcases IS with ⟨hvS, hkS⟩ | ⟨rS, nS, hvS, hgS, hlS, hnS, hkS⟩ | ⟨rS, nS, Sa1, St1, Su1, hvS, hgS, hlS, hnS, hkS⟩ | ⟨rS, nS, Sa1, Sa2, St1, St2, Su1, Su2, hvS, hgS, hlS, hnS, hkS⟩ | ⟨rS, nS, Sa1, Sa2, Sa3, St1, St2, St3, Su1, Su2, Su3, hvS, hgS, hlS, hnS, hkS⟩
    · rcases IM with ⟨hvM, hkM⟩ | ⟨rM, nM, hvM, hgM, hlM, hnM, hkM⟩ | ⟨rM, nM, Ma1, Mt1, Mu1, hvM, hgM, hlM, hnM, hkM⟩ | ⟨rM, nM, Ma1, Ma2, Mt1, Mt2, Mu1, Mu2, hvM, hgM, hlM, hnM, hkM⟩ | ⟨rM, nM, Ma1, Ma2, Ma3, Mt1, Mt2, Mt3, Mu1, Mu2, Mu3, hvM, hgM, hlM, hnM, hkM⟩
      · exact exp_enn Y R hB h2 q3 q4 hvS hvM hkS hkM k
      · exact exp_en0 Y R hB h2 q3 q4 hvS hvM hgM hlM hnM hkS hkM k
      · exact exp_en1 Y R hB h2 q3 q4 hvS hvM hgM hlM hnM hkS hkM k
      · exact exp_en2 Y R hB h2 q3 q4 hvS hvM hgM hlM hnM hkS hkM k
      · exact exp_en3 Y R hB h2 q3 q4 hvS hvM hgM hlM hnM hkS hkM k
    · rcases IM with ⟨hvM, hkM⟩ | ⟨rM, nM, hvM, hgM, hlM, hnM, hkM⟩ | ⟨rM, nM, Ma1, Mt1, Mu1, hvM, hgM, hlM, hnM, hkM⟩ | ⟨rM, nM, Ma1, Ma2, Mt1, Mt2, Mu1, Mu2, hvM, hgM, hlM, hnM, hkM⟩ | ⟨rM, nM, Ma1, Ma2, Ma3, Mt1, Mt2, Mt3, Mu1, Mu2, Mu3, hvM, hgM, hlM, hnM, hkM⟩
      · exact exp_e0n Y R hB h2 q3 q4 hvS hgS hlS hnS hvM hkS hkM k
      · exact exp_e00 Y R hB h2 q3 q4 hvS hgS hlS hnS hvM hgM hlM hnM hkS hkM k
      · exact exp_e01 Y R hB h2 q3 q4 hvS hgS hlS hnS hvM hgM hlM hnM hkS hkM k
      · exact exp_e02 Y R hB h2 q3 q4 hvS hgS hlS hnS hvM hgM hlM hnM hkS hkM k
      · exact exp_e03 Y R hB h2 q3 q4 hvS hgS hlS hnS hvM hgM hlM hnM hkS hkM k
    · rcases IM with ⟨hvM, hkM⟩ | ⟨rM, nM, hvM, hgM, hlM, hnM, hkM⟩ | ⟨rM, nM, Ma1, Mt1, Mu1, hvM, hgM, hlM, hnM, hkM⟩ | ⟨rM, nM, Ma1, Ma2, Mt1, Mt2, Mu1, Mu2, hvM, hgM, hlM, hnM, hkM⟩ | ⟨rM, nM, Ma1, Ma2, Ma3, Mt1, Mt2, Mt3, Mu1, Mu2, Mu3, hvM, hgM, hlM, hnM, hkM⟩
      · exact exp_e1n Y R hB h2 q3 q4 hvS hgS hlS hnS hvM hkS hkM k
      · exact exp_e10 Y R hB h2 q3 q4 hvS hgS hlS hnS hvM hgM hlM hnM hkS hkM k
      · exact exp_e11 Y R hB h2 q3 q4 hvS hgS hlS hnS hvM hgM hlM hnM hkS hkM k
      · exact exp_e12 Y R hB h2 q3 q4 hvS hgS hlS hnS hvM hgM hlM hnM hkS hkM k
      · exact exp_e13 Y R hB h2 q3 q4 hvS hgS hlS hnS hvM hgM hlM hnM hkS hkM k
    · rcases IM with ⟨hvM, hkM⟩ | ⟨rM, nM, hvM, hgM, hlM, hnM, hkM⟩ | ⟨rM, nM, Ma1, Mt1, Mu1, hvM, hgM, hlM, hnM, hkM⟩ | ⟨rM, nM, Ma1, Ma2, Mt1, Mt2, Mu1, Mu2, hvM, hgM, hlM, hnM, hkM⟩ | ⟨rM, nM, Ma1, Ma2, Ma3, Mt1, Mt2, Mt3, Mu1, Mu2, Mu3, hvM, hgM, hlM, hnM, hkM⟩
      · exact exp_e2n Y R hB h2 q3 q4 hvS hgS hlS hnS hvM hkS hkM k
      · exact exp_e20 Y R hB h2 q3 q4 hvS hgS hlS hnS hvM hgM hlM hnM hkS hkM k
      · exact exp_e21 Y R hB h2 q3 q4 hvS hgS hlS hnS hvM hgM hlM hnM hkS hkM k
      · exact exp_e22 Y R hB h2 q3 q4 hvS hgS hlS hnS hvM hgM hlM hnM hkS hkM k
      · exact exp_e23 Y R hB h2 q3 q4 hvS hgS hlS hnS hvM hgM hlM hnM hkS hkM k
    · rcases IM with ⟨hvM, hkM⟩ | ⟨rM, nM, hvM, hgM, hlM, hnM, hkM⟩ | ⟨rM, nM, Ma1, Mt1, Mu1, hvM, hgM, hlM, hnM, hkM⟩ | ⟨rM, nM, Ma1, Ma2, Mt1, Mt2, Mu1, Mu2, hvM, hgM, hlM, hnM, hkM⟩ | ⟨rM, nM, Ma1, Ma2, Ma3, Mt1, Mt2, Mt3, Mu1, Mu2, Mu3, hvM, hgM, hlM, hnM, hkM⟩
      · exact exp_e3n Y R hB h2 q3 q4 hvS hgS hlS hnS hvM hkS hkM k
      · exact exp_e30 Y R hB h2 q3 q4 hvS hgS hlS hnS hvM hgM hlM hnM hkS hkM k
      · exact exp_e31 Y R hB h2 q3 q4 hvS hgS hlS hnS hvM hgM hlM hnM hkS hkM k
      · exact exp_e32 Y R hB h2 q3 q4 hvS hgS hlS hnS hvM hgM hlM hnM hkS hkM k
      · exact exp_e33 Y R hB h2 q3 q4 hvS hgS hlS hnS hvM hgM hlM hnM hkS hkM k
end
end Mine

end
/-! HL0 -/
section
open PySem PySem.W PySem.W.X PyProof.Rows
namespace Mine
theorem Rp.move {P : Params} {h h' : Heap} {g g' : Cch} {a : Ab} {hd : Int → Bool} {B : Nat} (R : Rp P h g a hd B) (e : { g with lab := g'.lab } = g') (K : ∀ x o r, g.lab x = some r → h.get? x = some o → h'.get? x = some o ∧ g'.lab x = some r) : Rp P h' g' a hd B := by
  have O := R.obs
  have L0 := O.labs
  simp only [List.map_cons, List.map_nil, List.cons.injEq, and_true] at L0
  rw [← e]
  have e' : ({ g with lab := g'.lab } : Cch).lab = g'.lab := rfl
  refine R.step (Z := []) (Nat.le_refl B) (fun x o r hl _ hx => K x o r hl hx) ⟨(K _ _ _ L0.1 O.o0).1, (K _ _ _ L0.2.1 O.o1).1, (K _ _ _ L0.2.2.1 O.o2).1, (K _ _ _ L0.2.2.2.1 O.o3).1, (K _ _ _ L0.2.2.2.2.1 O.o4).1, (K _ _ _ L0.2.2.2.2.2 O.o5).1, ?_, O.nd, O.ndH, O.ndQ, O.le, O.leH, O.leQ⟩ ⟨R.hds.hdl, R.hds.hdk, R.hds.hda, R.hds.rng⟩ (fun b k => .inl ⟨rfl, rfl, by simp, by simp⟩) (fun e => .inl ⟨rfl, fun _ _ _ => Iff.rfl, by simp, by simp⟩)
  simp only [List.map_cons, List.map_nil, List.cons.injEq, and_true]
  exact ⟨(K _ _ _ L0.1 O.o0).2, (K _ _ _ L0.2.1 O.o1).2, (K _ _ _ L0.2.2.1 O.o2).2, (K _ _ _ L0.2.2.2.1 O.o3).2, (K _ _ _ L0.2.2.2.2.1 O.o4).2, (K _ _ _ L0.2.2.2.2.2 O.o5).2⟩
def Cch.clear (g : Cch) (h : Heap) : Cch := { g with lab := fun x => match h.get? x with | some _ => g.lab x | none => none }
theorem Rp.clear {P : Params} {h : Heap} {g : Cch} {a : Ab} {hd : Int → Bool} {B : Nat} (R : Rp P h g a hd B) : Rp P h (g.clear h) a hd B :=
  R.move rfl fun x o r hl hx => ⟨hx, by show (match h.get? x with | some _ => g.lab x | none => none) = _; rw [hx]; exact hl⟩
theorem clear_high {g : Cch} {h : Heap} {x : Nat} (hx : h.objs.size ≤ x) : (g.clear h).lab x = none := by
  show (match h.get? x with | some _ => g.lab x | none => none) = none
  cases q : h.get? x with
  | none => rfl
  | some o => exact absurd (Heap.lt_size q) (Nat.not_lt.mpr hx)
theorem clear_none {g : Cch} {h : Heap} {x : Nat} (hx : g.lab x = none) : (g.clear h).lab x = none := by
  show (match h.get? x with | some _ => g.lab x | none => none) = none
  cases h.get? x <;> simp [hx]
/-- the cache's addresses -/
def Own (g : Cch) : Nat → Prop := fun x => g.lab x ≠ none
theorem Hp.re {prog : Program} {w : World} {h : Heap} {D : Nat} {lT : TL} {nT : Nat} {f : Hf} {B : Nat} {X X' : Nat → Prop} (H : Hp prog w h D lT nT f B X) (hX : ∀ x o, h.get? x = some o → X' x → X x) : Hp prog w h D lT nT f B X' :=
  ⟨H.o, H.nd, H.le, H.keys, H.sep, H.vals, H.val, fun x hx => by
    obtain ⟨kv, a1, _⟩ := H.keys x hx
    obtain ⟨V, kv', e1, e2⟩ := H.vals x hx
    exact ⟨fun q => (H.far x hx).1 (hX _ _ a1 q), fun V' hV q => by rw [e1] at hV; injection hV with hV; subst hV; exact (H.far x hx).2 _ e1 (hX _ _ e2 q)⟩⟩
theorem Hp.after {prog : Program} {w : World} {s s' : Shared} {g g' : Cch} {fp : Nat → Prop} {D : Nat} {lT : TL} {nT : Nat} {f : Hf} {B : Nat} (H : Hp prog w s.heap D lT nT f B (Own g)) (hd0 : g.lab (D+150) = none) (AF : Aft w.params s s' g g' fp)
    (hfd : ¬ fp (D+150)) (hft : ∀ x xs, s.heap.get? x = some (tupO xs) → ¬ fp x) : Hp prog w s'.heap D lT nT f B (Own g') ∧ g'.lab (D+150) = none := by
  have nn : ∀ {x}, ¬ Own g x → g.lab x = none := fun h => Classical.byContradiction h
  refine ⟨⟨AF.keep _ _ H.o hd0 hfd, H.nd, H.le, fun x hx => ?_, H.sep, fun x hx => ?_, fun a n => ?_, fun x hx => ⟨?_, fun V hV => ?_⟩⟩, ?_⟩
  · obtain ⟨kv, a1, a2⟩ := H.keys x hx
    exact ⟨kv, AF.keep _ _ a1 (nn (H.far x hx).1) (hft _ _ a1), a2⟩
  · obtain ⟨V, kv, e1, e2⟩ := H.vals x hx
    exact ⟨V, kv, e1, AF.keep _ _ e2 (nn ((H.far x hx).2 V e1)) (hft _ _ e2)⟩
  · have Q := H.val a n
    cases hl : lk lT [a, n] with
    | none => rw [hl] at Q; exact Q
    | some v =>
      rw [hl] at Q
      obtain ⟨V, x, e, y, y', q1, rfl, q3, q4⟩ := Q
      obtain ⟨t, ht⟩ := mem_of_lk' hl
      exact ⟨V, x, e, y, y', q1, rfl, AF.keep _ _ q3 (nn ((H.far _ ht).2 V rfl)) (hft _ _ q3), q4⟩
  · obtain ⟨kv, a1, a2⟩ := H.keys x hx
    show ¬ g'.lab x.2.1 ≠ none
    rw [AF.lab _ (Heap.lt_size a1)]
    exact (H.far x hx).1
  · obtain ⟨V', kv, e1, e2⟩ := H.vals x hx
    have e1' := e1
    rw [hV] at e1
    injection e1 with e1
    subst e1
    show ¬ g'.lab V ≠ none
    rw [AF.lab _ (Heap.lt_size e2)]
    exact (H.far x hx).2 V e1'
  · rw [AF.lab _ (Heap.lt_size H.o)]; exact hd0
theorem Rp.afterW {w : World} {s s' : Shared} {g : Cch} {a : Ab} {hd : Int → Bool} {B D : Nat} (R : Rp w.params s.heap g a hd B) (hD : g.lab (D+150) = none) (AW : AftW w.params s s' D) : Rp w.params s'.heap g a hd B :=
  R.move rfl fun x o r hl hx => ⟨AW.keep x o hx fun q => (by rw [q, hD] at hl; cases hl), hl⟩
end Mine

end
/-! HL1 -/
section
open PySem PySem.W PySem.W.X PyProof.Rows
namespace Mine
/-! the two, plainly -/
def sd : Bool → Int
  | false => 0
  | true => 1
structure Rel (a : Ab) (hd : Int → Bool) (f : Hf) (now : Int) : Prop where
  to : ∀ b k x e, a b k = some (x, e) → f (sd b) k = some (x, e) ∧ now ≤ e
  of : ∀ b k x e, f (sd b) k = some (x, e) → now ≤ e → a b k = some (x, e)
  hdl : ∀ k, hd k = true → (f 1 k).isSome = true
def putD (hd : Int → Bool) (n : Int) (c : Bool) : Int → Bool := fun k => if k = n then c else hd k
inductive Tell (a : Ab) (hd : Int → Bool) (n v tm : Int) : Int → Ab → (Int → Bool) → List Int → Prop
  | push0 : a false n = none → Tell a hd n v tm 0 (setA a false n (some (v, tm+600))) hd [n]
  | dup0 : (a false n).isSome = true → Tell a hd n v tm 0 a hd []
  | pop1 (x e : Int) : a false n = some (x, e) → Tell a hd n v tm 1 (setA a false n none) hd [x]
  | miss1 : a false n = none → Tell a hd n v tm 1 a hd []
  | push2 : a true n = none → Tell a hd n v tm 2 (setA a true n (some (v, tm+600))) (putD hd n true) [n]
  | dup2 : (a true n).isSome = true → Tell a hd n v tm 2 a hd []
  | pop3 (x e : Int) : a true n = some (x, e) → Tell a hd n v tm 3 (setA a true n none) (putD hd n false) [x]
  | miss3 : a true n = none → Tell a hd n v tm 3 a hd []
  | go4 : hd n = true → Tell a hd n v tm 4 (setA a true n none) (putD hd n false) [n]
  | no4 : hd n = false → Tell a hd n v tm 4 a hd [n]
inductive Want (f : Hf) (n v now : Int) : Int → Hf → List Int → Prop
  | set0 : ¬ Liv f 0 n now → Want f n v now 0 (setF f 0 n (some (v, now+600))) [n]
  | has0 : Liv f 0 n now → Want f n v now 0 f []
  | pop1 (x e : Int) : f 0 n = some (x, e) → now ≤ e → Want f n v now 1 (setF f 0 n none) [x]
  | no1 : ¬ Liv f 0 n now → Want f n v now 1 f []
  | set2 : ¬ Liv f 1 n now → Want f n v now 2 (setF f 1 n (some (v, now+600))) [n]
  | has2 : Liv f 1 n now → Want f n v now 2 f []
  | pop3 (x e : Int) : f 1 n = some (x, e) → now ≤ e → Want f n v now 3 (setF f 1 n none) [x]
  | no3 : ¬ Liv f 1 n now → Want f n v now 3 f []
  | pop4 : Liv f 1 n now → Want f n v now 4 (setF f 1 n none) [n]
  | no4 : ¬ Liv f 1 n now → Want f n v now 4 f [n]
section
variable {a a' : Ab} {hd hd' : Int → Bool} {f f' : Hf} {n v now : Int}
theorem Rel.live (R : Rel a hd f now) (b : Bool) : Liv f (sd b) n now ↔ (a b n).isSome = true := by
  constructor
  · rintro ⟨x, e, h, hle⟩
    rw [R.of b n x e h hle]; rfl
  · intro h
    obtain ⟨⟨x, e⟩, hx⟩ := Option.isSome_iff_exists.mp h
    exact ⟨x, e, R.to b n x e hx⟩
theorem sd_inj {b c : Bool} (h : sd b = sd c) : b = c := by cases b <;> cases c <;> first | rfl | cases h
theorem Rel.set (R : Rel a hd f now) (b : Bool) {r : Option (Int × Int)} (hr : ∀ x e, r = some (x, e) → now ≤ e) (hh : ∀ k, hd' k = true → (setF f (sd b) n r 1 k).isSome = true) : Rel (setA a b n r) hd' (setF f (sd b) n r) now := by
  refine ⟨fun c k x e h => ?_, fun c k x e h hle => ?_, hh⟩
  · by_cases hc : c = b ∧ k = n
    · obtain ⟨rfl, rfl⟩ := hc
      rw [setA_self] at h
      rw [setF_self]
      exact ⟨h, hr x e h⟩
    · rw [setA_ne _ _ hc] at h
      rw [setF_ne _ _ fun q => hc ⟨sd_inj q.1, q.2⟩]
      exact R.to c k x e h
  · by_cases hc : c = b ∧ k = n
    · obtain ⟨rfl, rfl⟩ := hc
      rw [setF_self] at h
      rw [setA_self]
      exact h
    · rw [setF_ne _ _ fun q => hc ⟨sd_inj q.1, q.2⟩] at h
      rw [setA_ne _ _ hc]
      exact R.of c k x e h hle
/-- both books say the same -/
theorem both (R : Rel a hd f now) {kd : Int} {res res' : List Int} (hg : kd = 4 → hd n = true → (a true n).isSome = true) (ha : ∀ k, (a true k).isSome = true → hd k = true) (T : Tell a hd n v now kd a' hd' res) (W : Want f n v now kd f' res') : res = res' ∧ Rel a' hd' f' now := by
  have L0 := R.live (n := n) false
  have L1 := R.live (n := n) true
  have hh0 : ∀ (r : Option (Int × Int)) k, hd k = true → (setF f 0 n r 1 k).isSome = true := fun r k h => by
    rw [setF_ne _ _ (by simp)]; exact R.hdl k h
  have hhT : ∀ (p : Int × Int) k, putD hd n true k = true → (setF f 1 n (some p) 1 k).isSome = true := fun p k h => by
    by_cases hk : k = n
    · subst hk; rw [setF_self]; rfl
    · rw [setF_ne _ _ fun q => hk q.2]
      have : hd k = true := by simpa [putD, hk] using h
      exact R.hdl k this
  have hhF : ∀ k, putD hd n false k = true → (setF f 1 n none 1 k).isSome = true := fun k h => by
    by_cases hk : k = n
    · subst hk; simp [putD] at h
    · rw [setF_ne _ _ fun q => hk q.2]
      have : hd k = true := by simpa [putD, hk] using h
      exact R.hdl k this
  have non : ∀ b, a b n = none → ¬ Liv f (sd b) n now := fun b h q => by have := (R.live b).mp q; rw [h] at this; cases this
  have yes : ∀ b x e, a b n = some (x, e) → Liv f (sd b) n now := fun b x e h => (R.live b).mpr (by rw [h]; rfl)
  cases T with
  | push0 h => cases W with
    | set0 h' => exact ⟨rfl, R.set false (fun x e q => by cases q; omega) (hh0 _)⟩
    | has0 h' => exact absurd h' (non false h)
  | dup0 h => cases W with
    | set0 h' => exact absurd (L0.mpr h) h'
    | has0 h' => exact ⟨rfl, R⟩
  | pop1 x e h => cases W with
    | pop1 x' e' h' hle => have q := (show f 0 n = some (x, e) from (R.to false n x e h).1).symm.trans h'; cases q; exact ⟨rfl, R.set false (fun x e q => nomatch q) (hh0 _)⟩
    | no1 h' => exact absurd (yes false x e h) h'
  | miss1 h => cases W with
    | pop1 x' e' h' hle => exact absurd ⟨x', e', h', hle⟩ (non false h)
    | no1 h' => exact ⟨rfl, R⟩
  | push2 h => cases W with
    | set2 h' => exact ⟨rfl, R.set true (fun x e q => by cases q; omega) (hhT _)⟩
    | has2 h' => exact absurd h' (non true h)
  | dup2 h => cases W with
    | set2 h' => exact absurd (L1.mpr h) h'
    | has2 h' => exact ⟨rfl, R⟩
  | pop3 x e h => cases W with
    | pop3 x' e' h' hle => have q := (show f 1 n = some (x, e) from (R.to true n x e h).1).symm.trans h'; cases q; exact ⟨rfl, R.set true (fun x e q => nomatch q) hhF⟩
    | no3 h' => exact absurd (yes true x e h) h'
  | miss3 h => cases W with
    | pop3 x' e' h' hle => exact absurd ⟨x', e', h', hle⟩ (non true h)
    | no3 h' => exact ⟨rfl, R⟩
  | go4 h => cases W with
    | pop4 h' => exact ⟨rfl, R.set true (fun x e q => nomatch q) hhF⟩
    | no4 h' => exact absurd (L1.mpr (hg rfl h)) h'
  | no4 h => cases W with
    | pop4 h' => have := ha n (L1.mp h'); rw [h] at this; cases this
    | no4 h' => exact ⟨rfl, R⟩
/-- time goes on by one -/
theorem Rel.tick (R : Rel a hd f now) : Rel (expA a now) hd f (now + 1) := by
  refine ⟨fun b k x e h => ?_, fun b k x e h hle => ?_, R.hdl⟩
  · by_cases he : e = now
    · subst he; exact absurd h (expA_no b k x)
    · have := R.to b k x e ((expA_iff he b k x).mp h)
      exact ⟨this.1, by omega⟩
  · exact (expA_iff (by omega) b k x).mpr (R.of b k x e h (by omega))
end
section
variable {prog : Program} {w : World} {A : Around} {s : Shared} {g : Cch} {a : Ab} {hd : Int → Bool} {B : Nat} {n v now : Int} {j1 j2 j3 j5 : Nat} {fp : Nat → Prop} {base : Heap} {es : List Env} {D nT : Nat} {lT : TL} {f : Hf} {X : Nat → Prop}
theorem tell_all (Y : Rdy w A s) (Z : Rb A s g fp base es) (R : Rp w.params s.heap g a hd B) (hB : B ≤ 99) (hn : 0 ≤ n ∧ n < 3) {kd : Int} (hk : 0 ≤ kd ∧ kd ≤ 4) (hg : kd = 4 → hd n = true → (a true n).isSome = true) :
    codeAny (model prog w) A (.call (.ref 137) ⟨[.ref (g.A1+150), .int kd j1, .int n j2, .int v j3], []⟩) (fun r s' => ∃ l g' a' hd' res xs, r = .ok (.ret (.ref l)) ∧ Aft w.params s s' g g' fp ∧ g'.tm = g.tm ∧ Rp w.params s'.heap g' a' hd' (B+1) ∧ s'.heap.get? l = some (lstO xs) ∧ IntsAre xs res ∧ Tell a hd n v g.tm kd a' hd' res) s := by
  have : kd = 0 ∨ kd = 1 ∨ kd = 2 ∨ kd = 3 ∨ kd = 4 := by omega
  rcases this with rfl | rfl | rfl | rfl | rfl
  · exact told_0 Y Z R hB hn (fun s' g' l h AF ht R' hl => ⟨l, g', _, _, _, _, rfl, AF, ht, R', hl, .cons _ _ .nil, .push0 h⟩) (fun s' g' l h AF ht R' hl => ⟨l, g', _, _, _, _, rfl, AF, ht, R', hl, .nil, .dup0 h⟩)
  · exact told_1 Y Z R hB hn (fun s' g' l x e u h AF ht R' hl => ⟨l, g', _, _, _, _, rfl, AF, ht, R', hl, .cons _ _ .nil, .pop1 x e h⟩) (fun s' g' l h AF ht R' hl => ⟨l, g', _, _, _, _, rfl, AF, ht, R', hl, .nil, .miss1 h⟩)
  · exact told_2 Y Z R hB hn (fun s' g' l h AF ht R' hl => ⟨l, g', _, _, _, _, rfl, AF, ht, R', hl, .cons _ _ .nil, .push2 h⟩) (fun s' g' l h AF ht R' hl => ⟨l, g', _, _, _, _, rfl, AF, ht, R', hl, .nil, .dup2 h⟩)
  · exact told_3 Y Z R hB hn (fun s' g' l x e u h AF ht R' hl => ⟨l, g', _, _, _, _, rfl, AF, ht, R', hl, .cons _ _ .nil, .pop3 x e h⟩) (fun s' g' l h AF ht R' hl => ⟨l, g', _, _, _, _, rfl, AF, ht, R', hl, .nil, .miss3 h⟩)
  · exact told_4 Y R hB (hg rfl) (fun s' g' l u h AF ht R' hl => ⟨l, g', _, _, _, _, rfl, AF, ht, R', hl, .cons _ _ .nil, .go4 h⟩) (fun s' g' l u h AF ht R' hl => ⟨l, g', _, _, _, _, rfl, AF, ht, R', hl, .cons _ _ .nil, .no4 h⟩)
theorem want_all (Y : Rdy w A s) (H : Hp prog w s.heap D lT nT f B X) (hX : ∀ x, s.heap.objs.size ≤ x → ¬ X x) (hB : B ≤ 99) {kd : Int} (hk : 0 ≤ kd ∧ kd ≤ 4) :
    codeAny (model prog w) A (.call (.ref 144) ⟨[.ref (D+150), .int now j5, .int kd j1, .int n j2, .int v j3], []⟩) (fun r s' => ∃ l lT' nT' f' res xs, r = .ok (.ret (.ref l)) ∧ AftW w.params s s' D ∧ Hp prog w s'.heap D lT' nT' f' (B+1) X ∧ s'.heap.get? l = some (lstO xs) ∧ IntsAre xs res ∧ Want f n v now kd f' res) s := by
  have : kd = 0 ∨ kd = 1 ∨ kd = 2 ∨ kd = 3 ∨ kd = 4 := by omega
  rcases this with rfl | rfl | rfl | rfl | rfl
  · exact want_0 Y H hX hB (fun s' lT' nT' l u h AW H' hl => ⟨l, lT', nT', _, _, _, rfl, AW, H', hl, .cons _ _ .nil, .set0 h⟩) (fun s' lT' nT' l h AW H' hl => ⟨l, lT', nT', _, _, _, rfl, AW, H', hl, .nil, .has0 h⟩)
  · exact want_1 Y H hX hB (fun s' lT' nT' l x e u h hle AW H' hl => ⟨l, lT', nT', _, _, _, rfl, AW, H', hl, .cons _ _ .nil, .pop1 x e h hle⟩) (fun s' lT' nT' l h AW H' hl => ⟨l, lT', nT', _, _, _, rfl, AW, H', hl, .nil, .no1 h⟩)
  · exact want_2 Y H hX hB (fun s' lT' nT' l u h AW H' hl => ⟨l, lT', nT', _, _, _, rfl, AW, H', hl, .cons _ _ .nil, .set2 h⟩) (fun s' lT' nT' l h AW H' hl => ⟨l, lT', nT', _, _, _, rfl, AW, H', hl, .nil, .has2 h⟩)
  · exact want_3 Y H hX hB (fun s' lT' nT' l x e u h hle AW H' hl => ⟨l, lT', nT', _, _, _, rfl, AW, H', hl, .cons _ _ .nil, .pop3 x e h hle⟩) (fun s' lT' nT' l h AW H' hl => ⟨l, lT', nT', _, _, _, rfl, AW, H', hl, .nil, .no3 h⟩)
  · exact want_4 Y H hX hB (fun s' lT' nT' l u h AW H' hl => ⟨l, lT', nT', _, _, _, rfl, AW, H', hl, .cons _ _ .nil, .pop4 h⟩) (fun s' lT' nT' l u h AW H' hl => ⟨l, lT', nT', _, _, _, rfl, AW, H', hl, .cons _ _ .nil, .no4 h⟩)
end
end Mine

end
/-! HL2 -/
section
open PySem PySem.W PySem.W.X PyProof.Rows
namespace Mine
section
variable {prog : Program} {w : World} {A : Around} {s : Shared} {fp : Nat → Prop}
theorem mk_cache (Y : Rdy w A s) {Z : Nat} {o : Obj} (hz : s.heap.get? (Z+150) = some o) :
    codeAny (model prog w) A (.call (.ref 118) ⟨[], []⟩) (fun r s' => ∃ g, r = .ok (.ret (.ref (g.A1+150))) ∧ Rp w.params s'.heap g (fun _ _ => none) (fun _ => false) 0 ∧ g.tm = 0 ∧ TopIn w.params s'.heap ∧ (∀ x o, s.heap.get? x = some o → s'.heap.get? x = some o) ∧ (∀ x, x < s.heap.objs.size → g.lab x = none) ∧ (∀ x, s'.heap.objs.size ≤ x → g.lab x = none) ∧ s'.gens = s.gens ∧ s'.drawn = s.drawn ∧ s'.os = s.os) s := by
  have hlt : ∀ p ∈ [Z+150], 150 ≤ p ∧ p < s.heap.objs.size := lt_cons hz (by omega) lt_nil
  have W := wf_of (prog := prog) (w := w) (s := s) Y.tb Y.ti Y.sz hlt (by simp)
  have h150 := Y.sz
  have hM : topN s = s.heap.objs.size := by show s.heap.objs.size - 150 + 150 = _; omega
  refine run_code W Y.hh (Nat.le_refl _) Y.hd (Nat.le_refl _) (T := mk_T w.params true prog default [] 0 0 Z o) (sm := mk_S w.params true prog default [] (s.heap.objs.size - 150) s.toks Z o) rfl ?_ rfl (fun m hm => nomatch hm)
    (fun p bl => mk_ok w.params (w.params.followText "special-get-raises") prog p bl (s.heap.objs.size - 150) s.toks Z o) (fun p bl => xeq rfl rfl rfl) ?_
  · exact start_of _ _ _ (And.intro hz trivial)
  · intro s' T' R' hp
    have F := allGet R' hp
    obtain ⟨fz, fd, fi, fM, fS, fH, fQ, -⟩ := F
    let lb : Nat → Option Role := ext (fun _ => none) (topN s) (fun | 0 => some (.o 0) | 1 => some (.o 1) | 3 => some (.o 2) | 4 => some (.o 3) | 5 => some (.o 4) | 6 => some (.o 5) | _ => none)
    have hx : ∀ i, lb (topN s + i) = (fun | 0 => some (.o 0) | 1 => some (.o 1) | 3 => some (.o 2) | 4 => some (.o 3) | 5 => some (.o 4) | 6 => some (.o 5) | _ => none : Nat → Option Role) i := fun i => ext_new _ _ _ i
    have ad : ∀ i, topN s + i - 150 + 150 = topN s + i := fun i => by omega
    let g : Cch := { A0 := topN s + 0 - 150, A1 := topN s + 1 - 150, A2 := topN s + 3 - 150, A3 := topN s + 4 - 150, A4 := topN s + 5 - 150, A5 := topN s + 6 - 150, k0 := s.toks + 2, k1 := s.toks + 4, k2 := s.toks + 6, k3 := s.toks + 8, k4 := s.toks + 11, ti := s.toks + 9, tm := 0, lM := [], lS := [], lH := [], lQ := [], eM := 0, eS := 0, eH := 0, eQ := 0, lab := lb }
    have nod : ∀ b, g.L b = [] := fun b => by cases b <;> rfl
    have keep : ∀ x o, s.heap.get? x = some o → s'.heap.get? x = some o := fun x o' h => by
      by_cases q : x = Z+150
      · subst q; rw [hz] at h; cases h; exact fz
      · exact R'.keep x o' h (by show x ∉ [Z+150]; simp [q])
    refine ⟨g, ?_, ⟨⟨?_, ?_, ?_, ?_, ?_, ?_, ?_, fun b => by rw [nod]; exact List.nodup_nil, List.nodup_nil, List.nodup_nil, fun b => by rw [nod]; exact Nat.le_refl _, Nat.le_refl _, Nat.le_refl _⟩, fun b k => by rw [nod]; exact rfl, fun e b k x => by simp, ⟨fun k => rfl, fun k v h => (by cases h), fun k h => (by cases h), fun b k h => (by cases h)⟩⟩, rfl, R'.top, keep, fun x hx' => ?_, fun x hx' => ?_, R'.gens, R'.drawn, R'.os⟩
    · show _ = Except.ok (Flow.ret (Value.ref (topN s + 1 - 150 + 150)))
      rw [ad]
    · show s'.heap.get? (topN s + 0 - 150 + 150) = some (cdict w.params _ _ _ _ _ (topN s + 3 - 150 + 150) (topN s + 4 - 150 + 150) (topN s + 5 - 150 + 150) (topN s + 6 - 150 + 150) 0 _)
      rw [ad, ad, ad, ad, ad]
      exact fd
    · show s'.heap.get? (topN s + 1 - 150 + 150) = some (instO (topN s + 0 - 150 + 150))
      rw [ad, ad]
      exact fi
    · show s'.heap.get? (topN s + 3 - 150 + 150) = _
      rw [ad]; exact fM
    · show s'.heap.get? (topN s + 4 - 150 + 150) = _
      rw [ad]; exact fS
    · show s'.heap.get? (topN s + 5 - 150 + 150) = _
      rw [ad]; exact fH
    · show s'.heap.get? (topN s + 6 - 150 + 150) = _
      rw [ad]; exact fQ
    · show [lb (topN s + 0 - 150 + 150), lb (topN s + 1 - 150 + 150), lb (topN s + 3 - 150 + 150), lb (topN s + 4 - 150 + 150), lb (topN s + 5 - 150 + 150), lb (topN s + 6 - 150 + 150)] = _
      rw [ad, ad, ad, ad, ad, ad, hx, hx, hx, hx, hx, hx]
      rfl
    · show lb x = none
      exact ext_old (N := topN s) (show x < topN s by rw [hM]; exact hx')
    · have hs : s'.heap.objs.size = topN s + 7 := R'.size
      obtain ⟨i, hi⟩ : ∃ i, x = topN s + (i + 7) := ⟨x - (topN s + 7), by omega⟩
      show lb x = none
      rw [hi, hx]
      rfl
end
end Mine

end
/-! HM0 -/
section
open PySem PySem.W PySem.W.X PyProof.Rows
namespace Mine
def nthS : List Stmt → Nat → Stmt
  | x :: _, 0 => x
  | _ :: r, n+1 => nthS r n
  | [], _ => .Pass default
def fdBody : Stmt → List Stmt
  | .FunctionDef _ _ b _ _ _ _ _ _ _ => b
  | _ => []
def fdScope : Stmt → Scope
  | .FunctionDef _ _ _ _ _ _ sc _ _ _ => sc
  | _ => default
def forBody : Stmt → List Stmt
  | .For _ _ b _ _ => b
  | _ => []
def ifBody : Stmt → List Stmt
  | .If _ b _ _ => b
  | _ => []
def ifTest : Stmt → Expr
  | .If t _ _ _ => t
  | _ => .Constant .none 0 default
def asgVal : Stmt → Expr
  | .Assign _ v _ => v
  | _ => .Constant .none 0 default
def lawFd : Stmt := nthS PySem.Challenge.pw_fh0033_01.main.body 13
def lawB : List Stmt := fdBody lawFd
def lawSc : Scope := fdScope lawFd
def loopB : List Stmt := forBody (nthS lawB 4)
abbrev lawV (L fa : Addr) (cd : Value) : Env := envOf (Str.ofString "law") lawSc L fa cd
theorem law_k (L fa : Addr) (cd : Value) : (lawV L fa cd).scope.kind = .function := by kernel_rfl
theorem law_one (L fa : Addr) (cd : Value) : (lawV L fa cd).kindOf "one" = some .local := by kernel_rfl
theorem law_drawn (L fa : Addr) (cd : Value) : (lawV L fa cd).kindOf "drawn" = some .local := by kernel_rfl
theorem law_kept (L fa : Addr) (cd : Value) : (lawV L fa cd).kindOf "kept" = some .local := by kernel_rfl
theorem law_held (L fa : Addr) (cd : Value) : (lawV L fa cd).kindOf "held" = some .local := by kernel_rfl
theorem law_now (L fa : Addr) (cd : Value) : (lawV L fa cd).kindOf "now" = some .local := by kernel_rfl
theorem law_passed (L fa : Addr) (cd : Value) : (lawV L fa cd).kindOf "passed" = some .local := by kernel_rfl
theorem law_good (L fa : Addr) (cd : Value) : (lawV L fa cd).kindOf "good" = some .local := by kernel_rfl
theorem law_kind (L fa : Addr) (cd : Value) : (lawV L fa cd).kindOf "kind" = some .local := by kernel_rfl
theorem law_number (L fa : Addr) (cd : Value) : (lawV L fa cd).kindOf "number" = some .local := by kernel_rfl
theorem law_value (L fa : Addr) (cd : Value) : (lawV L fa cd).kindOf "value" = some .local := by kernel_rfl
theorem law_turn (L fa : Addr) (cd : Value) : (lawV L fa cd).kindOf "turn" = some .local := by kernel_rfl
theorem law_gone (L fa : Addr) (cd : Value) : (lawV L fa cd).kindOf "gone" = some .local := by kernel_rfl
theorem law_len (L fa : Addr) (cd : Value) : (lawV L fa cd).kindOf "len" = some .globalImplicit := by kernel_rfl
theorem law_USUAL (L fa : Addr) (cd : Value) : (lawV L fa cd).kindOf "_LAW_USUAL" = some .globalImplicit := by kernel_rfl
theorem law_Cache (L fa : Addr) (cd : Value) : (lawV L fa cd).kindOf "Cache" = some .globalImplicit := by kernel_rfl
theorem law_range (L fa : Addr) (cd : Value) : (lawV L fa cd).kindOf "range" = some .globalImplicit := by kernel_rfl
theorem law_TURNS (L fa : Addr) (cd : Value) : (lawV L fa cd).kindOf "_LAW_TURNS" = some .globalImplicit := by kernel_rfl
theorem law_told (L fa : Addr) (cd : Value) : (lawV L fa cd).kindOf "_law_told" = some .globalImplicit := by kernel_rfl
theorem law_wanted (L fa : Addr) (cd : Value) : (lawV L fa cd).kindOf "_law_wanted" = some .globalImplicit := by kernel_rfl
/-! what stays while an expression is reckoned -/
structure Stp (s s' : Shared) : Prop where
  keep : ∀ x o, s.heap.get? x = some o → s'.heap.get? x = some o
  gens : s'.gens = s.gens
  os : s'.os = s.os
theorem Stp.refl (s : Shared) : Stp s s := ⟨fun _ _ h => h, rfl, rfl⟩
theorem Stp.trans {s s' s'' : Shared} (x : Stp s s') (y : Stp s' s'') : Stp s s'' := ⟨fun a o h => y.keep a o (x.keep a o h), y.gens.trans x.gens, y.os.trans x.os⟩
theorem Stp.tok {s s' : Shared} (x : Stp s s') (t : Nat) : Stp s { s' with toks := t } := ⟨x.keep, x.gens, x.os⟩
theorem Stp.push {s s' : Shared} (x : Stp s s') (o : Obj) : Stp s { s' with heap := s'.heap.push o } := ⟨fun a q h => Heap.get?_push_of_some _ (x.keep a q h), x.gens, x.os⟩
theorem Stp.ns {s s' : Shared} (x : Stp s s') {a : Addr} {m : Str → Option Value} (h : s.heap.Ns a m) : s'.heap.Ns a m := h.keeps x.keep
def IsI (z : Int) (v : Value) : Prop := ∃ t, v = .int z t
section
variable (prog : Program) (w : World) (A : Around) (env : Env) (m : Str → Option Value)
def Ev (e : Expr) (P : Value → Prop) : Prop := ∀ (E : Value → Shared → Prop) (s : Shared) (Q : Value → Shared → Prop), s.heap.Ns env.locals m → (∀ v s', P v → Stp s s' → Q v s') → wpAny (model prog w) A (eval e env) Q E s
def Et (e : Expr) (b : Bool) : Prop := ∀ (E : Value → Shared → Prop) (s : Shared) (Q : Bool → Shared → Prop), s.heap.Ns env.locals m → (∀ s', Stp s s' → Q b s') → wpAny (model prog w) A (isTrue e env (eval e env)) Q E s
end
section
variable {prog : Program} {w : World} {A : Around} {env : Env} {m : Str → Option Value}
theorem Ev.name {x : Str} {pos : Pos} {v : Value} {P : Value → Prop} (hk : env.scope.kind = .function) (hl : env.kindOf x = some .local) (hv : m x = some v) (hP : P v) (hd : (x == ("__debug__" : Str)) = false := by decide) : Ev prog w A env m (.Name x pos) P :=
  fun E s Q hn h => wpAny_Name (wpAny_loadName_local hk hl hn hv (h v s hP (.refl s))) hd
theorem Ev.cint {i : Int} {k : Nat} {pos : Pos} : Ev prog w A env m (.Constant (.int i) k pos) (IsI i) :=
  fun E s Q hn h => wpAny_Constant_int (h _ _ ⟨_, rfl⟩ ((Stp.refl s).tok _))
theorem Ev.bin {l r : Expr} {op : Operator} {pos : Pos} {a b c : Int} (hl : Ev prog w A env m l (IsI a)) (hr : Ev prog w A env m r (IsI b))
    (ho : ∀ (E : Value → Shared → Prop) (s : Shared) (Q : Value → Shared → Prop) t u, Q (.int c s.toks) { s with toks := s.toks + 1 } → wpAny (model prog w) A (binaryOp op (.int a t) (.int b u)) Q E s) : Ev prog w A env m (.BinOp l op r pos) (IsI c) :=
  fun E s Q hn h => wpAny_BinOp (hl E s _ hn fun v s1 ⟨t, hv⟩ S1 => hr E s1 _ (S1.ns hn) fun v' s2 ⟨u, hv'⟩ S2 => by
    subst hv; subst hv'
    exact ho E s2 Q t u (h _ _ ⟨_, rfl⟩ ((S1.trans S2).tok _)))
theorem Ev.mod {l r : Expr} {pos : Pos} {a b : Int} (hb : b ≠ 0) (hl : Ev prog w A env m l (IsI a)) (hr : Ev prog w A env m r (IsI b)) : Ev prog w A env m (.BinOp l .Mod r pos) (IsI (a.fmod b)) :=
  hl.bin hr fun E s Q t u h => mod_int' hb h
theorem Ev.fdiv {l r : Expr} {pos : Pos} {a b : Int} (hb : b ≠ 0) (hp : Builtin.divisionGoesByPylong a b = false) (hl : Ev prog w A env m l (IsI a)) (hr : Ev prog w A env m r (IsI b)) : Ev prog w A env m (.BinOp l .FloorDiv r pos) (IsI (a.fdiv b)) :=
  hl.bin hr fun E s Q t u h => floordiv_int hb h (.inl hp)
theorem Et.lt {l r : Expr} {pos : Pos} {a b : Int} (hl : Ev prog w A env m l (IsI a)) (hr : Ev prog w A env m r (IsI b)) (hm : behindInMarks .Lt r = false := by with_unfolding_all rfl) : Et prog w A env m (.Compare l [.Lt] [r] pos) (decide (a < b)) :=
  fun E s Q hn h => wpAny_isTrue_Compare1 (hl E s _ hn fun v s1 ⟨t, hv⟩ S1 => hr E s1 _ (S1.ns hn) fun v' s2 ⟨u, hv'⟩ S2 => by
    subst hv; subst hv'
    exact wpAny_lt_int (wpAny_truthy_bool (h _ (S1.trans S2)))) hm
theorem Et.eq {l r : Expr} {pos : Pos} {a b : Int} (hl : Ev prog w A env m l (IsI a)) (hr : Ev prog w A env m r (IsI b)) (hm : behindInMarks .Eq r = false := by with_unfolding_all rfl) : Et prog w A env m (.Compare l [.Eq] [r] pos) (a == b) :=
  fun E s Q hn h => wpAny_isTrue_Compare1 (hl E s _ hn fun v s1 ⟨t, hv⟩ S1 => hr E s1 _ (S1.ns hn) fun v' s2 ⟨u, hv'⟩ S2 => by
    subst hv; subst hv'
    exact PyProof.Rows.eq_int (wpAny_truthy_bool (h _ (S1.trans S2)))) hm
theorem Et.and {x y : Expr} {pos : Pos} {a b : Bool} (hx : Et prog w A env m x a) (hy : a = true → Et prog w A env m y b) : Et prog w A env m (.BoolOp .And [x, y] pos) (a && b) :=
  fun E s Q hn h => isTrue_and (hx E s _ hn fun s1 S1 => by
    cases a with
    | false => exact h s1 S1
    | true => exact isTrue_and (hy rfl E s1 _ (S1.ns hn) fun s2 S2 => by
        cases b with
        | false => exact h s2 (S1.trans S2)
        | true => exact isTrue_and_nil (h s2 (S1.trans S2))))
theorem Et.or {x y : Expr} {pos : Pos} {a b : Bool} (hx : Et prog w A env m x a) (hy : a = false → Et prog w A env m y b) : Et prog w A env m (.BoolOp .Or [x, y] pos) (a || b) :=
  fun E s Q hn h => isTrue_or (hx E s _ hn fun s1 S1 => by
    cases a with
    | true => exact h s1 S1
    | false => exact isTrue_or (hy rfl E s1 _ (S1.ns hn) fun s2 S2 => by
        cases b with
        | true => exact h s2 (S1.trans S2)
        | false => exact isTrue_or_nil (h s2 (S1.trans S2))))
theorem Et.not {x : Expr} {pos : Pos} {a : Bool} (hx : Et prog w A env m x a) : Et prog w A env m (.UnaryOp .Not x pos) (!a) :=
  fun E s Q hn h => isTrue_not (hx E s _ hn fun s1 S1 => h s1 S1)
theorem Et.nameB {x : Str} {pos : Pos} {b : Bool} (hk : env.scope.kind = .function) (hl : env.kindOf x = some .local) (hv : m x = some (.bool b)) (hd : (x == ("__debug__" : Str)) = false := by decide) : Et prog w A env m (.Name x pos) b :=
  fun E s Q hn h => isTrue_plain (wpAny_Name (wpAny_loadName_local hk hl hn hv (wpAny_truthy_bool (h s (.refl s)))) hd)
/-- a name is written -/
theorem stn {x : Str} {v : Value} {E : Value → Shared → Prop} {s : Shared} {Q : Unit → Shared → Prop} (hk : env.scope.kind = .function) (hl : env.kindOf x = some .local) (hn : s.heap.Ns env.locals m)
    (h : ∀ h', h'.Ns env.locals (fun y => if y = x then some v else m y) → Heap.SameBut env.locals s.heap h' → Q () { s with heap := h', toks := s.toks + 1 }) : wpAny (model prog w) A (storeName env x v) Q E s :=
  wpAny_storeName_local hl hn h (by rw [hk]; rfl)
end
end Mine

end
/-! Usu -/
noncomputable section
open PySem PySem.W PySem.W.X PyProof.Rows
namespace Mine
def us_S (P : Params) (b : Bool) (prog : Program) (p : Pos) (bl : List (Code × Pos)) (N t0 : Nat) (Z : Nat) (o : Obj) : List Sm := []
def us_T (P : Params) (b : Bool) (prog : Program) (p : Pos) (bl : List (Code × Pos)) (N t0 : Nat) (Z : Nat) (o : Obj) : Tab := [some o]
def us_X (P : Params) (b : Bool) (prog : Program) (p : Pos) (bl : List (Code × Pos)) (N t0 : Nat) (Z : Nat) (o : Obj) : Out Flow := (run ⟨prog, swP P b, Mine.hz.ktop_302 P, N+150, t0, [Z+150]⟩ 100000).c (.call (.ref 130) ⟨[], []⟩) p bl none 0 0 2 (us_S P b prog p bl N t0 Z o) (us_T P b prog p bl N t0 Z o) 0 0 []
def us_L (P : Params) (b : Bool) (prog : Program) (p : Pos) (bl : List (Code × Pos)) (N t0 : Nat) (Z : Nat) (o : Obj) := look [0, 2] (us_X P b prog p bl N t0 Z o)
def us_R (P : Params) (b : Bool) (prog : Program) (p : Pos) (bl : List (Code × Pos)) (N t0 : Nat) (Z : Nat) (o : Obj) : Option (Except Value Flow × List (Option Obj) × Nat × Nat × List Ob) := some ((.ok (.ret (.ref (N+150+1)))), [some o, some (lstO [(.int 18 (t0+0)), (.int 56 (t0+1)), (.int 41 (t0+2)), (.int 5 (t0+3)), (.int 0 (t0+4)), (.int 7 (t0+5)), (.int 2 (t0+6)), (.int 23 (t0+7)), (.int 3 (t0+8)), (.int 9 (t0+9)), (.int 13 (t0+10)), (.int 43 (t0+11)), (.int 22 (t0+12)), (.int 1 (t0+13))])], 2, 14, obsOf (us_X P b prog p bl N t0 Z o))
theorem us_L0 : @us_L = us_L := rfl
theorem us_R0 : @us_R = us_R := rfl
lay_z Mine.us_L Mine.us_R
name_z usLZ for Mine.us_L by Mine.us_L0
name_z usRZ for Mine.us_R by Mine.us_R0
theorem us_ok (P : Params) (b : Bool) (prog : Program) (p : Pos) (bl : List (Code × Pos)) (N t0 : Nat) (Z : Nat) (o : Obj) : us_L P b prog p bl N t0 Z o = us_R P b prog p bl N t0 Z o := by
  rw [PySem.W.ZFast.usLZ_eq, PySem.W.ZFast.usRZ_eq]
  cases b <;> kernel_rfl!

def gm_S (P : Params) (b : Bool) (prog : Program) (cur : Code) (p : Pos) (bl : List (Code × Pos)) (N t0 : Nat) (pl : Sem Bool) (Z : Nat) (o : Obj) : List Sm := []
def gm_T (P : Params) (b : Bool) (prog : Program) (cur : Code) (p : Pos) (bl : List (Code × Pos)) (N t0 : Nat) (pl : Sem Bool) (Z : Nat) (o : Obj) : Tab := [some o]
def gm_X (P : Params) (b : Bool) (prog : Program) (cur : Code) (p : Pos) (bl : List (Code × Pos)) (N t0 : Nat) (pl : Sem Bool) (Z : Nat) (o : Obj) : Out (Value × List Value) := (run ⟨prog, swP P b, Mine.hz.ktop_302 P, N+150, t0, [Z+150]⟩ 100000).t (Value × List Value) (getMethod (.ref 118) "expire_caches" pl) cur p bl none 0 0 0 (gm_S P b prog cur p bl N t0 pl Z o) (gm_T P b prog cur p bl N t0 pl Z o) 0 0 []
def gm_L (P : Params) (b : Bool) (prog : Program) (cur : Code) (p : Pos) (bl : List (Code × Pos)) (N t0 : Nat) (pl : Sem Bool) (Z : Nat) (o : Obj) := look [0] (gm_X P b prog cur p bl N t0 pl Z o)
def gm_R (P : Params) (b : Bool) (prog : Program) (cur : Code) (p : Pos) (bl : List (Code × Pos)) (N t0 : Nat) (pl : Sem Bool) (Z : Nat) (o : Obj) : Option (Except Value (Value × List Value) × List (Option Obj) × Nat × Nat × List Ob) := some ((.ok ((.ref 115), [])), [some o], 0, 1, obsOf (gm_X P b prog cur p bl N t0 pl Z o))
theorem gm_L0 : @gm_L = gm_L := rfl
theorem gm_R0 : @gm_R = gm_R := rfl
lay_z Mine.gm_L Mine.gm_R
name_z gmLZ for Mine.gm_L by Mine.gm_L0
name_z gmRZ for Mine.gm_R by Mine.gm_R0
theorem gm_ok (P : Params) (b : Bool) (prog : Program) (cur : Code) (p : Pos) (bl : List (Code × Pos)) (N t0 : Nat) (pl : Sem Bool) (Z : Nat) (o : Obj) : gm_L P b prog cur p bl N t0 pl Z o = gm_R P b prog cur p bl N t0 pl Z o := by
  rw [PySem.W.ZFast.gmLZ_eq, PySem.W.ZFast.gmRZ_eq]
  cases b <;> kernel_rfl!

end Mine

end
/-! HM1 -/
section
open PySem PySem.W PySem.W.X PyProof.Rows
namespace Mine
/-! the top's names -/
noncomputable def obT (P : Params) (a : Nat) : Obj := match (Mine.hz.ktop_302 P).get a with
  | some o => o
  | none => default
noncomputable def esT (P : Params) (a : Nat) : List DictEntry := match (obT P a).data with
  | .dict es _ => es.toList
  | _ => []
noncomputable def epT (P : Params) (a : Nat) : Nat := match (obT P a).data with
  | .dict _ n => n
  | _ => 0
theorem ka3 (P : Params) : (Mine.hz.ktop_302 P).get 3 = some (obT P 3) := by kernel_rfl
theorem ka3d (P : Params) : (obT P 3).data = .dict (esT P 3).toArray (epT P 3) := by kernel_rfl
theorem ka3s (P : Params) : ((esT P 3).all fun e => isStrKey e.key) = true := by kernel_rfl
theorem ka0 (P : Params) : (Mine.hz.ktop_302 P).get 0 = some (obT P 0) := by kernel_rfl
theorem ka0d (P : Params) : (obT P 0).data = .dict (esT P 0).toArray (epT P 0) := by kernel_rfl
theorem ka0s (P : Params) : ((esT P 0).all fun e => isStrKey e.key) = true := by kernel_rfl
theorem strKeys_of {l : List DictEntry} (h : (l.all fun e => isStrKey e.key) = true) : StrKeys l.toArray := by
  intro e he
  have := List.all_eq_true.mp h e (by simpa using he)
  cases hk : e.key <;> rw [hk] at this <;> first | exact ⟨_, _, rfl⟩ | cases this
theorem ns3 {P : Params} {h : Heap} (H : TopIn P h) : h.Ns mainGlobals (nsFind (esT P 3).toArray) := ⟨_, _, _, H 3 _ (ka3 P), ka3d P, strKeys_of (ka3s P), fun _ => rfl⟩
theorem ns0 {P : Params} {h : Heap} (H : TopIn P h) : h.Ns builtinsNs (nsFind (esT P 0).toArray) := ⟨_, _, _, H 0 _ (ka0 P), ka0d P, strKeys_of (ka0s P), fun _ => rfl⟩
theorem gl_Cache (P : Params) : nsFind (esT P 3).toArray "Cache" = some (.ref 118) := by kernel_rfl
theorem gl_TURNS (P : Params) : nsFind (esT P 3).toArray "_LAW_TURNS" = some (.ref 123) := by kernel_rfl
theorem gl_USUAL (P : Params) : nsFind (esT P 3).toArray "_LAW_USUAL" = some (.ref 130) := by kernel_rfl
theorem gl_told (P : Params) : nsFind (esT P 3).toArray "_law_told" = some (.ref 137) := by kernel_rfl
theorem gl_wanted (P : Params) : nsFind (esT P 3).toArray "_law_wanted" = some (.ref 144) := by kernel_rfl
theorem gl_len (P : Params) : nsFind (esT P 3).toArray "len" = none := by kernel_rfl
theorem gl_range (P : Params) : nsFind (esT P 3).toArray "range" = none := by kernel_rfl
theorem bl_len (P : Params) : nsFind (esT P 0).toArray "len" = some (.builtin "len") := by kernel_rfl
theorem bl_range (P : Params) : nsFind (esT P 0).toArray "range" = some (.type "range") := by kernel_rfl
/-! the top's objects -/
theorem top_size {P : Params} {h : Heap} (H : TopIn P h) : 150 ≤ h.objs.size := by
  obtain ⟨o, ho⟩ := Option.isSome_iff_exists.mp (kt_149 P)
  exact Heap.lt_size (H _ _ ho)
def isFn : Data → Bool
  | .func _ => true
  | _ => false
theorem k130 (P : Params) : (Mine.hz.ktop_302 P).get 130 = some (obT P 130) := by kernel_rfl
theorem k137 (P : Params) : (Mine.hz.ktop_302 P).get 137 = some (obT P 137) := by kernel_rfl
theorem k144 (P : Params) : (Mine.hz.ktop_302 P).get 144 = some (obT P 144) := by kernel_rfl
theorem k115 (P : Params) : (Mine.hz.ktop_302 P).get 115 = some (obT P 115) := by kernel_rfl
theorem d130 (P : Params) : isFn (obT P 130).data = true := by kernel_rfl
theorem d137 (P : Params) : isFn (obT P 137).data = true := by kernel_rfl
theorem d144 (P : Params) : isFn (obT P 144).data = true := by kernel_rfl
theorem d115 (P : Params) : isFn (obT P 115).data = true := by kernel_rfl
theorem fn_of {d : Data} (h : isFn d = true) : ∃ fd, d = .func fd := by
  cases d <;> first | exact ⟨_, rfl⟩ | cases h
theorem k123 (P : Params) : (Mine.hz.ktop_302 P).get 123 = some (obT P 123) := by kernel_rfl
def seqOf : Data → List Value
  | .seq xs _ => xs.toList
  | _ => []
def intOf : Value → Int
  | .int i _ => i
  | _ => 0
def tokOf : Value → Nat
  | .int _ t => t
  | _ => 0
noncomputable def trnT (P : Params) (i : Nat) : Nat := tokOf ((seqOf (obT P 123).data).getD i .none)
def seqN : Data → Nat
  | .seq _ n => n
  | _ => 0
theorem turns_d (P : Params) : (obT P 123).data = .seq [.int 1 (trnT P 0), .int 200 (trnT P 1), .int 599 (trnT P 2), .int 601 (trnT P 3)].toArray (seqN (obT P 123).data) := by kernel_rfl
theorem turns_c (P : Params) : (obT P 123).cls = .type "list" := by kernel_rfl
theorem turns_at {P : Params} {h : Heap} (H : TopIn P h) : ∃ vs, h.IsList 123 (List.toArray vs) ∧ IntsAre vs [1, 200, 599, 601] :=
  ⟨_, ⟨_, H 123 _ (k123 P), turns_c P, _, turns_d P⟩, .cons _ _ (.cons _ _ (.cons _ _ (.cons _ _ .nil)))⟩
theorem TopIn.stp {P : Params} {s s' : Shared} (H : TopIn P s.heap) (S : Stp s s') : TopIn P s'.heap := fun b o e => S.keep _ _ (H b o e)
/-! names of the top in the law -/
section
variable {prog : Program} {w : World} {A : Around} {E : Value → Shared → Prop} {s : Shared} {L fa : Addr} {cd : Value}
theorem g_name {x : Str} {pos : Pos} {v : Value} {Q : Value → Shared → Prop} (H : TopIn w.params s.heap) (hx : (lawV L fa cd).kindOf x = some .globalImplicit) (hv : nsFind (esT w.params 3).toArray x = some v) (h : Q v s)
    (hd : (x == ("__debug__" : Str)) = false := by decide) : wpAny (model prog w) A (eval (.Name x pos) (lawV L fa cd)) Q E s :=
  Calls.Name_function_global (law_k L fa cd) hx (Calls.loadGlobal_global (ns3 H) hv h) hd
theorem b_name {x : Str} {pos : Pos} {v : Value} {Q : Value → Shared → Prop} (H : TopIn w.params s.heap) (hx : (lawV L fa cd).kindOf x = some .globalImplicit) (hm : nsFind (esT w.params 3).toArray x = none) (hv : nsFind (esT w.params 0).toArray x = some v) (h : Q v s)
    (hd : (x == ("__debug__" : Str)) = false := by decide) : wpAny (model prog w) A (eval (.Name x pos) (lawV L fa cd)) Q E s :=
  Calls.Name_function_global (law_k L fa cd) hx (Calls.loadGlobal_builtin (ns3 H) hm (ns0 H) hv h) hd
end
/-! _LAW_USUAL() -/
def usual : List Int := [18, 56, 41, 5, 0, 7, 2, 23, 3, 9, 13, 43, 22, 1]
section
variable {prog : Program} {w : World} {A : Around} {s : Shared}
theorem us_call (Y : Rdy w A s) {Z : Nat} {o : Obj} (hz : s.heap.get? (Z+150) = some o) :
    codeAny (model prog w) A (.call (.ref 130) ⟨[], []⟩) (fun r s' => ∃ l vs, r = .ok (.ret (.ref l)) ∧ s'.heap.IsList l (List.toArray vs) ∧ IntsAre vs usual ∧ Stp s s') s := by
  have hlt : ∀ p ∈ [Z+150], 150 ≤ p ∧ p < s.heap.objs.size := lt_cons hz (by omega) lt_nil
  have W := wf_of (prog := prog) (w := w) (s := s) Y.tb Y.ti Y.sz hlt (by simp)
  refine run_code W Y.hh (Nat.le_refl _) Y.hd (Nat.le_refl _) (T := us_T w.params true prog default [] 0 0 Z o) (sm := us_S w.params true prog default [] (s.heap.objs.size - 150) s.toks Z o) rfl ?_ rfl (fun m hm => nomatch hm)
    (fun p bl => us_ok w.params (w.params.followText "special-get-raises") prog p bl (s.heap.objs.size - 150) s.toks Z o) (fun p bl => xeq rfl rfl rfl) ?_
  · exact start_of _ _ _ (And.intro hz trivial)
  · intro s' T' R' hp
    have F := allGet R' hp
    obtain ⟨fz, fl, -⟩ := F
    refine ⟨_, _, rfl, ⟨_, fl, rfl, _, rfl⟩, ?_, fun x o h => ?_, R'.gens, R'.os⟩
    · exact .cons _ _ (.cons _ _ (.cons _ _ (.cons _ _ (.cons _ _ (.cons _ _ (.cons _ _ (.cons _ _ (.cons _ _ (.cons _ _ (.cons _ _ (.cons _ _ (.cons _ _ (.cons _ _ .nil)))))))))))))
    · by_cases q : x = Z+150
      · subst q; rw [hz] at h; cases h; exact fz
      · exact R'.keep x o h (by show x ∉ [Z+150]; simp [q])
theorem gm_call {E : Value → Shared → Prop} {Q : Value × List Value → Shared → Prop} (Y : Rdy w A s) {Z : Nat} {o : Obj} (hz : s.heap.get? (Z+150) = some o) (pl : Sem Bool)
    (h : ∀ s', Stp s s' → Q (.ref 115, []) s') : wpAny (model prog w) A (getMethod (.ref 118) "expire_caches" pl) Q E s := by
  have hlt : ∀ p ∈ [Z+150], 150 ≤ p ∧ p < s.heap.objs.size := lt_cons hz (by omega) lt_nil
  have W := wf_of (prog := prog) (w := w) (s := s) Y.tb Y.ti Y.sz hlt (by simp)
  refine tree_run (C := cxOf prog w s [Z+150]) (s₀ := s) (X := fun _ => False) (D := A.depth) (U := A.units) W (cxP ..) (fun _ f => f.elim) (by have := Y.hd; omega) Y.hh (Nat.le_refl _) (Nat.le_refl _)
    (T := gm_T w.params true prog (.block [] default) default [] 0 0 pl Z o) (sm := fun cur bl => gm_S w.params true prog cur default bl (s.heap.objs.size - 150) s.toks pl Z o) (Rep.start W rfl rfl (start_of _ _ _ (And.intro hz trivial))) rfl (fun Γ hΓ m hm => nomatch hm)
    (fun cur p bl => Done.of_lookX (gm_ok w.params (w.params.followText "special-get-raises") prog cur p bl (s.heap.objs.size - 150) s.toks pl Z o) (xeqT rfl rfl rfl rfl) fun s' T' p1 R' hp => ?_)
  have F := allGet R' hp
  obtain ⟨fz, -⟩ := F
  refine h s' ⟨fun x o h => ?_, R'.gens, R'.os⟩
  by_cases q : x = Z+150
  · subst q; rw [hz] at h; cases h; exact fz
  · exact R'.keep x o h (by show x ∉ [Z+150]; simp [q])
end
end Mine

end
/-! HM2 -/
section
open PySem PySem.W PySem.W.X PyProof.Rows
namespace Mine
/-- the state between the law's steps -/
structure Cr (prog : Program) (w : World) (L D K : Nat) (g : Cch) (a : Ab) (hd : Int → Bool) (f : Hf) (B : Nat) (now : Int) (m : Str → Option Value) (s : Shared) : Prop where
  tb : TopB w.params
  ti : TopIn w.params s.heap
  ns : s.heap.Ns L m
  L0 : 150 ≤ L
  LD : L ≠ D + 150
  rp : Rp w.params s.heap g a hd B
  hp : ∃ lT nT, Hp prog w s.heap D lT nT f B (Own g)
  gL : g.lab L = none
  gD : g.lab (D+150) = none
  rel : Rel a hd f now
  tm : g.tm = now
  gK : g.A1 = K
/-- what the steps leave alone -/
structure Chg (L D : Nat) (g : Cch) (s : Shared) (g' : Cch) (s' : Shared) : Prop where
  keep : ∀ x o, x ≠ L → x ≠ D+150 → g.lab x = none → s.heap.get? x = some o → s'.heap.get? x = some o ∧ g'.lab x = none
  gens : s'.gens = s.gens
  os : s'.os = s.os
theorem Chg.refl (L D : Nat) (g : Cch) (s : Shared) : Chg L D g s g s := ⟨fun _ _ _ _ h1 h2 => ⟨h2, h1⟩, rfl, rfl⟩
theorem Chg.trans {L D : Nat} {g g' g'' : Cch} {s s' s'' : Shared} (x : Chg L D g s g' s') (y : Chg L D g' s' g'' s'') : Chg L D g s g'' s'' :=
  ⟨fun z o h1 h2 h3 h4 => let ⟨a, b⟩ := x.keep z o h1 h2 h3 h4; y.keep z o h1 h2 b a, y.gens.trans x.gens, y.os.trans x.os⟩
theorem Stp.chg {L D : Nat} {g : Cch} {s s' : Shared} (S : Stp s s') : Chg L D g s g s' := ⟨fun x o _ _ h1 h2 => ⟨S.keep x o h2, h1⟩, S.gens, S.os⟩
theorem Chg.put {L D : Nat} {g : Cch} {s : Shared} {h' : Heap} {t : Nat} (hs : Heap.SameBut L s.heap h') : Chg L D g s g { s with heap := h', toks := t } :=
  ⟨fun x o h1 _ h3 h4 => ⟨(hs.2 x h1).trans h4, h3⟩, rfl, rfl⟩
section
variable {prog : Program} {w : World} {L D K : Nat} {g : Cch} {a : Ab} {hd : Int → Bool} {f : Hf} {B : Nat} {now : Int} {m m' : Str → Option Value} {s s' : Shared}
theorem Hp.but {lT : TL} {nT : Nat} {X : Nat → Prop} (H : Hp prog w s.heap D lT nT f B X) {z : Nat} (hzD : z ≠ D+150) (hzt : ∀ xs, s.heap.get? z ≠ some (tupO xs)) (hk : ∀ x o, x ≠ z → s.heap.get? x = some o → s'.heap.get? x = some o) : Hp prog w s'.heap D lT nT f B X := by
  have ht : ∀ x xs, s.heap.get? x = some (tupO xs) → s'.heap.get? x = some (tupO xs) := fun x xs h => hk x _ (fun q => by subst q; exact hzt _ h) h
  refine ⟨hk _ _ (Ne.symm hzD) H.o, H.nd, H.le, fun x hx => let ⟨kv, a, b⟩ := H.keys x hx; ⟨kv, ht _ _ a, b⟩, H.sep, fun x hx => let ⟨V, kv, a, b⟩ := H.vals x hx; ⟨V, kv, a, ht _ _ b⟩, fun a n => ?_, H.far⟩
  have Q := H.val a n
  cases hl : lk lT [a, n] with
  | none => rw [hl] at Q; exact Q
  | some v =>
    rw [hl] at Q
    obtain ⟨V, x, e, y, y', q1, q2, q3, q4⟩ := Q
    exact ⟨V, x, e, y, y', q1, q2, ht _ _ q3, q4⟩
theorem Cr.but (C : Cr prog w L D K g a hd f B now m s) {z : Nat} (hz : g.lab z = none) (hz0 : 150 ≤ z) (hzD : z ≠ D+150) (hzt : ∀ xs, s.heap.get? z ≠ some (tupO xs)) (hk : ∀ x o, x ≠ z → s.heap.get? x = some o → s'.heap.get? x = some o) (hn : s'.heap.Ns L m') : Cr prog w L D K g a hd f B now m' s' := by
  obtain ⟨lT, nT, H⟩ := C.hp
  refine ⟨C.tb, fun b o e => hk b o (fun q => ?_) (C.ti b o e), hn, C.L0, C.LD, C.rp.move rfl fun x o r hl hx => ⟨hk x o (fun q => by rw [q, hz] at hl; cases hl) hx, hl⟩, ⟨lT, nT, H.but hzD hzt hk⟩, C.gL, C.gD, C.rel, C.tm, C.gK⟩
  have := C.tb b o e
  omega
theorem Cr.stp (C : Cr prog w L D K g a hd f B now m s) (S : Stp s s') : Cr prog w L D K g a hd f B now m s' := by
  obtain ⟨o, es, ep, ho, hdt, _⟩ := C.ns
  exact C.but C.gL C.L0 C.LD (fun xs h => by rw [ho] at h; cases h; cases hdt) (fun x o _ h => S.keep x o h) (S.ns C.ns)
theorem Cr.put (C : Cr prog w L D K g a hd f B now m s) {h' : Heap} {t : Nat} (hn : h'.Ns L m') (hs : Heap.SameBut L s.heap h') : Cr prog w L D K g a hd f B now m' { s with heap := h', toks := t } := by
  obtain ⟨o, es, ep, ho, hdt, _⟩ := C.ns
  exact C.but C.gL C.L0 C.LD (fun xs h => by rw [ho] at h; cases h; cases hdt) (fun x o hx h => (hs.2 x hx).trans h) hn
theorem Cr.Llt (C : Cr prog w L D K g a hd f B now m s) : L < s.heap.objs.size := C.ns.lt
theorem Cr.le (C : Cr prog w L D K g a hd f B now m s) {B' : Nat} (h : B ≤ B') : Cr prog w L D K g a hd f B' now m s := by
  obtain ⟨lT, nT, H⟩ := C.hp
  exact ⟨C.tb, C.ti, C.ns, C.L0, C.LD, C.rp.le h, ⟨lT, nT, H.le' h⟩, C.gL, C.gD, C.rel, C.tm, C.gK⟩
end
/-! the law's names -/
structure LV (K D : Nat) (now ps : Int) (m : Str → Option Value) : Prop where
  kept : m "kept" = some (.ref (K+150))
  held : m "held" = some (.ref (D+150))
  now : ∃ t, m "now" = some (.int now t)
  passed : ∃ t, m "passed" = some (.int ps t)
  good : m "good" = some (.bool true)
structure KV (k n v : Int) (m : Str → Option Value) : Prop where
  kind : ∃ t, m "kind" = some (.int k t)
  number : ∃ t, m "number" = some (.int n t)
  value : ∃ t, m "value" = some (.int v t)
abbrev upS (m : Str → Option Value) (x : Str) (v : Value) : Str → Option Value := fun y => if y = x then some v else m y
theorem upS_self (m : Str → Option Value) (x : Str) (v : Value) : upS m x v x = some v := if_pos rfl
theorem upS_ne {m : Str → Option Value} {x y : Str} {v : Value} (h : y ≠ x) : upS m x v y = m y := if_neg h
theorem LV.other {K D : Nat} {now ps : Int} {m : Str → Option Value} (V : LV K D now ps m) {x : Str} {v : Value} (h : ("kept" : Str) ≠ x ∧ ("held" : Str) ≠ x ∧ ("now" : Str) ≠ x ∧ ("passed" : Str) ≠ x ∧ ("good" : Str) ≠ x) : LV K D now ps (upS m x v) :=
  ⟨(upS_ne h.1).trans V.kept, (upS_ne h.2.1).trans V.held, let ⟨t, e⟩ := V.now; ⟨t, (upS_ne h.2.2.1).trans e⟩, let ⟨t, e⟩ := V.passed; ⟨t, (upS_ne h.2.2.2.1).trans e⟩, (upS_ne h.2.2.2.2).trans V.good⟩
theorem KV.other {k n u : Int} {m : Str → Option Value} (V : KV k n u m) {x : Str} {v : Value} (h : ("kind" : Str) ≠ x ∧ ("number" : Str) ≠ x ∧ ("value" : Str) ≠ x) : KV k n u (upS m x v) :=
  ⟨let ⟨t, e⟩ := V.kind; ⟨t, (upS_ne h.1).trans e⟩, let ⟨t, e⟩ := V.number; ⟨t, (upS_ne h.2.1).trans e⟩, let ⟨t, e⟩ := V.value; ⟨t, (upS_ne h.2.2).trans e⟩⟩
theorem LV.now' {K D : Nat} {now ps : Int} {m : Str → Option Value} (V : LV K D now ps m) {z : Int} {t : Nat} : LV K D z ps (upS m "now" (.int z t)) :=
  ⟨(upS_ne (by decide)).trans V.kept, (upS_ne (by decide)).trans V.held, ⟨t, upS_self ..⟩, let ⟨t, e⟩ := V.passed; ⟨t, (upS_ne (by decide)).trans e⟩, (upS_ne (by decide)).trans V.good⟩
theorem LV.passed' {K D : Nat} {now ps : Int} {m : Str → Option Value} (V : LV K D now ps m) {z : Int} {t : Nat} : LV K D now z (upS m "passed" (.int z t)) :=
  ⟨(upS_ne (by decide)).trans V.kept, (upS_ne (by decide)).trans V.held, let ⟨t, e⟩ := V.now; ⟨t, (upS_ne (by decide)).trans e⟩, ⟨t, upS_self ..⟩, (upS_ne (by decide)).trans V.good⟩
theorem LV.good' {K D : Nat} {now ps : Int} {m : Str → Option Value} (V : LV K D now ps m) : LV K D now ps (upS m "good" (.bool true)) :=
  ⟨(upS_ne (by decide)).trans V.kept, (upS_ne (by decide)).trans V.held, let ⟨t, e⟩ := V.now; ⟨t, (upS_ne (by decide)).trans e⟩, let ⟨t, e⟩ := V.passed; ⟨t, (upS_ne (by decide)).trans e⟩, upS_self ..⟩
end Mine

end
/-! HM3 -/
section
open PySem PySem.W PySem.W.X PyProof.Rows
namespace Mine
structure LA (A : Around) (L fa : Nat) (cd : Value) : Prop where
  hh : A.handled = none
  hd : A.depth + 300 < recursionLimit
  hu : A.units + 402 < cLine
  fr : A.frames = some [lawV L fa cd]
theorem Stp.ext {s s1 : Shared} (S : Stp s s1) {h' : Heap} (he : Heap.ExtBut s1.heap.objs.size s1.heap h') : Stp s { s1 with heap := h' } :=
  ⟨fun x o h => he x o (Nat.ne_of_lt (Heap.lt_size (S.keep x o h))) (S.keep x o h), S.gens, S.os⟩
section
variable {prog : Program} {w : World} {A : Around} {L D K fa : Nat} {cd : Value} {g : Cch} {a : Ab} {hd : Int → Bool} {f : Hf} {B : Nat} {now ps : Int} {m : Str → Option Value} {s : Shared} {E : Value → Shared → Prop}
theorem Cr.rdy (C : Cr prog w L D K g a hd f B now m s) (Y : LA A L fa cd) : Rdy w A s := ⟨Y.hh, by have := Y.hd; omega, Y.hu, C.tb, C.ti, top_size C.ti⟩
theorem items3 {env : Env} {pos : Pos} {e1 e2 e3 : Expr} {P1 P2 P3 : Value → Prop} {Q : List Value → Shared → Prop} (h1 : Ev prog w A env m e1 P1) (h2 : Ev prog w A env m e2 P2) (h3 : Ev prog w A env m e3 P3) (hn : s.heap.Ns env.locals m)
    (x1 : starEach [e1, e2, e3] env = (false, eval e1 env) :: starEach [e2, e3] env) (x2 : starEach [e2, e3] env = (false, eval e2 env) :: starEach [e3] env) (x3 : starEach [e3] env = (false, eval e3 env) :: starEach [] env)
    (h : ∀ v1 v2 v3 s', P1 v1 → P2 v2 → P3 v3 → Stp s s' → Q [v1, v2, v3] s') : wpAny (model prog w) A (spliced (backTo pos (starEach [e1, e2, e3] env))) Q E s :=
  wpAny_items_cons (h1 E s _ hn fun v1 s1 p1 S1 => wpAny_items_cons (h2 E s1 _ (S1.ns hn) fun v2 s2 p2 S2 => wpAny_items_cons (h3 E s2 _ ((S1.trans S2).ns hn) fun v3 s3 p3 S3 => wpAny_items_nil (h v1 v2 v3 s3 p1 p2 p3 ((S1.trans S2).trans S3))) x3) x2) x1
theorem loop_form : loopB = [nthS loopB 0, nthS loopB 1, nthS loopB 2, nthS loopB 3] := by kernel_rfl
/-- kind, number, value = .. -/
theorem s1_ok (C : Cr prog w L D K g a hd f B now m s) (V : LV K D now ps m) (Y : LA A L fa cd) {z : Int} {t : Nat} (h1 : m "one" = some (.int z t)) (hz : 0 ≤ z ∧ z < 65536) {Q : Flow → Shared → Prop}
    (k : ∀ m' s', Cr prog w L D K g a hd f B now m' s' → LV K D now ps m' → KV (z.fmod 6) ((z.fdiv 6).fmod 3) (z.fdiv 18) m' → Chg L D g s g s' → Q .next s') : wpAny (model prog w) A (exec (nthS loopB 0) (lawV L fa cd)) Q E s := by
  have e1 : ∀ pos, Ev prog w A (lawV L fa cd) m (.Name "one" pos) (IsI z) := fun pos => Ev.name (law_k ..) (law_one ..) h1 ⟨t, rfl⟩
  refine Assign_Tuple_swapped (names := ["kind", "number", "value"]) (wpAny_Tuple (items3 (P1 := IsI (z.fmod 6)) (P2 := IsI ((z.fdiv 6).fmod 3)) (P3 := IsI (z.fdiv 18)) ?_ ?_ ?_ C.ns rfl rfl rfl fun v1 v2 v3 s1 p1 p2 p3 S1 => ⟨Nat.le_trans (Nat.le_refl 3) (by decide), ?_⟩)) (by kernel_rfl) (by kernel_rfl)
  · exact Ev.mod (by decide) (e1 _) Ev.cint
  · exact Ev.mod (by decide) (Ev.fdiv (by decide) (PyProof.noPylong_small (by decide)) (e1 _) Ev.cint) Ev.cint
  · exact Ev.fdiv (by decide) (PyProof.noPylong_small (by decide)) (e1 _) Ev.cint
  obtain ⟨t1, rfl⟩ := p1
  obtain ⟨t2, rfl⟩ := p2
  obtain ⟨t3, rfl⟩ := p3
  have C1 := C.stp (S1.push { cls := .type "tuple", data := .seq [Value.int (z.fmod 6) t1, .int ((z.fdiv 6).fmod 3) t2, .int (z.fdiv 18) t3].toArray })
  refine unpackItems_tuple (items := [Value.int (z.fmod 6) t1, .int ((z.fdiv 6).fmod 3) t2, .int (z.fdiv 18) t3].toArray) Y.hh ⟨_, Heap.get?_push_size _ rfl, rfl, _, rfl⟩ fun h' he => ?_
  have S2 := (S1.push { cls := .type "tuple", data := .seq [Value.int (z.fmod 6) t1, .int ((z.fdiv 6).fmod 3) t2, .int (z.fdiv 18) t3].toArray }).ext he
  have C2 := C.stp S2
  refine wpAny_assignInOrder_more (wpAny_bindName (stn (law_k ..) (law_value ..) C2.ns fun h3 n3 e3 => ?_))
  have C3 := C2.put (t := s1.toks + 1) n3 e3
  refine wpAny_assignInOrder_more (wpAny_bindName (stn (law_k ..) (law_number ..) C3.ns fun h4 n4 e4 => ?_))
  have C4 := C3.put (t := s1.toks + 1 + 1) n4 e4
  refine wpAny_assignInOrder_more (wpAny_bindName (stn (law_k ..) (law_kind ..) C4.ns fun h5 n5 e5 => ?_))
  have C5 := C4.put (t := s1.toks + 1 + 1 + 1) n5 e5
  refine wpAny_assignInOrder_none (k _ _ C5 ?_ ?_ ?_)
  · exact ((V.other (by decide)).other (by decide)).other (by decide)
  · exact ⟨⟨t1, upS_self ..⟩, ⟨t2, (upS_ne (by decide)).trans (upS_self ..)⟩, ⟨t3, (upS_ne (by decide)).trans ((upS_ne (by decide)).trans (upS_self ..))⟩⟩
  · exact ((S2.chg.trans (.put e3)).trans (.put e4)).trans (.put e5)
end
end Mine

end
/-! HM4 -/
section
open PySem PySem.W PySem.W.X PyProof.Rows
namespace Mine
section
variable {prog : Program} {w : World} {A : Around} {L D K fa : Nat} {cd : Value} {g : Cch} {a : Ab} {hd : Int → Bool} {f : Hf} {B : Nat} {now ps : Int} {m : Str → Option Value} {s : Shared} {E : Value → Shared → Prop}
theorem items2 {env : Env} {pos : Pos} {e1 e2 : Expr} {P1 P2 : Value → Prop} {Q : List Value → Shared → Prop} (h1 : Ev prog w A env m e1 P1) (h2 : Ev prog w A env m e2 P2) (hn : s.heap.Ns env.locals m)
    (x1 : starEach [e1, e2] env = (false, eval e1 env) :: starEach [e2] env) (x2 : starEach [e2] env = (false, eval e2 env) :: starEach [] env)
    (h : ∀ v1 v2 s', P1 v1 → P2 v2 → Stp s s' → Q [v1, v2] s') : wpAny (model prog w) A (spliced (backTo pos (starEach [e1, e2] env))) Q E s :=
  wpAny_items_cons (h1 E s _ hn fun v1 s1 p1 S1 => wpAny_items_cons (h2 E s1 _ (S1.ns hn) fun v2 s2 p2 S2 => wpAny_items_nil (h v1 v2 s2 p1 p2 (S1.trans S2))) x2) x1
/-- (1, n) -/
theorem tup_1n {env : Env} {n : Int} {e1 e2 : Expr} {k : Nat} {pos : Pos} {Q : Value → Shared → Prop} (h1 : Ev prog w A env m e1 (IsI 1)) (h2 : Ev prog w A env m e2 (IsI n)) (hn : s.heap.Ns env.locals m)
    (x1 : starEach [e1, e2] env = (false, eval e1 env) :: starEach [e2] env) (x2 : starEach [e2] env = (false, eval e2 env) :: starEach [] env)
    (h : ∀ T s', Stp s s' → (tk2 prog w).is s'.heap [1, n] T → Q (.ref T) s') : wpAny (model prog w) A (eval (.Tuple [e1, e2] k pos) env) Q E s :=
  wpAny_Tuple (items2 h1 h2 hn x1 x2 fun v1 v2 s1 p1 p2 S1 => ⟨Nat.le_trans (Nat.le_refl 2) (by decide), by
    obtain ⟨t1, rfl⟩ := p1
    obtain ⟨t2, rfl⟩ := p2
    exact h _ _ (S1.push _) ⟨_, _, _, Heap.get?_push_size _ rfl, rfl, rfl, .cons (intKind_is ..) (.cons (intKind_is ..) .nil)⟩⟩)
/-- an item of a thing that may be a temporary one -/
theorem tail_T {value slice : Expr} {o i : Value} {T id : String} {l : List Value} {Q : Value → Shared → Prop} (hT : s.TypeIs o T) (hl : typeLookup (.type T) "__getitem__" = pure (some (.builtin id)))
    (h : wpAny (model prog w) A (getItem o i) Q E s) (hs : subscripted slice false o i = operate l (getItem o i)) : wpAny (model prog w) A (subscriptTail value slice o i) Q E s := by
  have go : wpAny (model prog w) A (operate l (getItem o i) >>= fun r => letTemporaryGo value o r >>= fun _ => pure r) Q E s :=
    wpAny_bind (wpAny_operating (wpAny_mono h (fun r s' h' => wpAny_bind (wpAny_letTemporaryGo (wpAny_pure h'))) fun _ _ e => e))
  rw [← hs] at go
  unfold subscriptTail
  rw [getitemInPython_of_ne hT.not_modules]
  exact wpAny_bind (wpAny_bind (wpAny_specialOf hT hl (wpAny_pure go)))
theorem Hp.dict {lT : TL} {nT : Nat} {X : Nat → Prop} (H : Hp prog w s.heap D lT nT f B X) : s.heap.DictOfH (tk2 prog w) (D+150) lT :=
  dictOfT H.o (fun x hx => let ⟨kv, a, b⟩ := H.keys x hx; ⟨_, _, _, a, rfl, rfl, b⟩) H.nd
def gn (f : Hf) (n now : Int) : Bool := match f 1 n with
  | some (_, e) => decide (e < now)
  | none => false
theorem s3_ok (C : Cr prog w L D K g a hd f B now m s) (V : LV K D now ps m) (Y : LA A L fa cd) {k n v : Int} (N : KV k n v m) {Q : Flow → Shared → Prop}
    (k1 : ∀ m' s', Cr prog w L D K g a hd f B now m' s' → LV K D now ps m' → KV k n v m' → m' "gone" = some (.bool (gn f n now)) → Chg L D g s g s' → Q .next s') : wpAny (model prog w) A (exec (nthS loopB 2) (lawV L fa cd)) Q E s := by
  obtain ⟨tn, hnum⟩ := N.number
  obtain ⟨tw, hnow⟩ := V.now
  have hu : A.in1.units < cLine := by have := Y.hu; show A.units + 1 < _; omega
  have hsm : (D + 150 == sysModules) = false := by
    have : D + 150 ≠ 1 := by omega
    simp [sysModules]
  have eN : ∀ pos, Ev prog w A (lawV L fa cd) m (.Name "number" pos) (IsI n) := fun pos => Ev.name (law_k ..) (law_number ..) hnum ⟨tn, rfl⟩
  have eW : ∀ pos, Ev prog w A (lawV L fa cd) m (.Name "now" pos) (IsI now) := fun pos => Ev.name (law_k ..) (law_now ..) hnow ⟨tw, rfl⟩
  have eH : ∀ pos, Ev prog w A (lawV L fa cd) m (.Name "held" pos) (fun v => v = .ref (D+150)) := fun pos => Ev.name (law_k ..) (law_held ..) V.held rfl
  have fin : ∀ s1, Stp s s1 → wpAny (model prog w) A (storeName (lawV L fa cd) "gone" (.bool (gn f n now))) (fun _ => Q .next) E s1 := fun s1 S1 =>
    stn (law_k ..) (law_gone ..) (S1.ns C.ns) fun h' hn' hs' => k1 _ _ ((C.stp S1).put hn' hs') (V.other (by decide)) (N.other (by decide)) (upS_self ..) (S1.chg.trans (.put hs'))
  refine wpAny_Assign_Name (BoolOp_and (wpAny_Compare1 (tup_1n Ev.cint (eN _) C.ns rfl rfl fun T s1 S1 hT => eH _ E s1 _ (S1.ns C.ns) fun v s2 hv S2 => ?_))) (by kernel_rfl)
  subst hv
  have S12 := S1.trans S2
  obtain ⟨lT, nT, H⟩ := (C.stp S12).hp
  have hT2 : (tk2 prog w).is s2.heap [1, n] T := let ⟨o, its, q, h1, h2⟩ := hT; ⟨o, its, q, S2.keep _ _ h1, h2⟩
  refine wpAny_in_heap (knd := tk2 prog w) (k := [1, n]) hu hT2 hsm H.dict ?_
  have HV := H.val 1 n
  have e0 := atKey_lk lT [1, n]
  cases hk : atKey lT [1, n] with
  | none =>
    rw [hk] at e0
    rw [← e0] at HV
    have hf : f 1 n = none := HV
    refine wpAny_truthy_bool ?_
    have hg : gn f n now = false := by unfold gn; rw [hf]
    have := fin _ (S12.tok (s2.toks + (tk2 prog w).draws [1, n]))
    rw [hg] at this
    exact this
  | some p =>
    rw [hk] at e0
    rw [← e0] at HV
    obtain ⟨Vv, x, e, y, y', v1, v2, v3, er⟩ := HV
    have hg : gn f n now = decide (e < now) := by unfold gn; rw [er]
    refine wpAny_truthy_bool ?_
    have S3 := S12.tok (s2.toks + (tk2 prog w).draws [1, n])
    refine BoolOp_one (wpAny_Compare1 (Subscript_ (Subscript_ (eH _ E _ _ (S3.ns C.ns) fun v s4 hv S4 => ?_))))
    subst hv
    have S14 := S3.trans S4
    refine tup_1n Ev.cint (eN _) (S14.ns C.ns) rfl rfl fun T' s5 S5 hT' => ?_
    have S15 := S14.trans S5
    obtain ⟨lT5, nT5, H5⟩ : ∃ lT5 nT5, lT5 = lT ∧ Hp prog w s5.heap D lT5 nT5 f B (Own g) := by
      obtain ⟨o, es, ep, ho, hdt, _⟩ := (C.stp S12).ns
      exact ⟨lT, nT, rfl, H.but (z := L) C.LD (fun xs h => by rw [ho] at h; cases h; cases hdt) fun z o _ h => S5.keep _ _ (S4.keep _ _ h)⟩
    obtain ⟨rfl, H5⟩ := H5
    refine tail_T (T := "dict") H5.dict.typeIs slot_dict_getitem.lookup (wpAny_getItem_heap (knd := tk2 prog w) (k := [1, n]) hu hT' H5.dict hk ?_) (by with_unfolding_all rfl)
    have S6 := S15.tok (s5.toks + (tk2 prog w).draws [1, n])
    refine Ev.cint E _ _ (S6.ns C.ns) fun v s7 hv S7 => ?_
    obtain ⟨t7, rfl⟩ := hv
    have S17 := S6.trans S7
    have e2 : p.2 = .ref Vv := by simpa using v2
    rw [e2]
    have v7 : s7.heap.get? Vv = some (tupO [.int x y, .int e y']) := S7.keep _ _ (S5.keep _ _ (S4.keep _ _ v3))
    refine tail_T (T := "tuple") ⟨_, v7, rfl⟩ slot_tuple_getitem.lookup (getItem_tuple (j := 1) ⟨_, v7, rfl, _, rfl⟩ (by decide) (by decide) (by rfl) rfl ?_) (by with_unfolding_all rfl)
    refine eW _ E _ _ (S17.ns C.ns) fun v s8 hv S8 => ?_
    obtain ⟨t8, rfl⟩ := hv
    refine PyProof.Rows.lt_int ?_
    rw [← hg]
    exact fin _ (S17.trans S8)
end
end Mine

end
/-! HM5 -/
section
open PySem PySem.W PySem.W.X PyProof.Rows
namespace Mine
section
variable {prog : Program} {w : World} {A : Around} {L D K fa : Nat} {cd : Value} {g : Cch} {a : Ab} {hd : Int → Bool} {f : Hf} {B : Nat} {now ps : Int} {m : Str → Option Value} {s : Shared} {E : Value → Shared → Prop}
theorem clear_own {g : Cch} {h : Heap} {x : Nat} (hx : h.objs.size ≤ x) : ¬ Own (g.clear h) x := fun q => q (clear_high hx)
theorem Cr.clear (C : Cr prog w L D K g a hd f B now m s) : Cr prog w L D K (g.clear s.heap) a hd f B now m s := by
  obtain ⟨lT, nT, H⟩ := C.hp
  refine ⟨C.tb, C.ti, C.ns, C.L0, C.LD, C.rp.clear, ⟨lT, nT, H.re fun x o hx q => ?_⟩, clear_none C.gL, clear_none C.gD, C.rel, C.tm, C.gK⟩
  intro q'
  exact q (clear_none q')
theorem Chg.clear (L D : Nat) (g : Cch) (s : Shared) : Chg L D g s (g.clear s.heap) s := ⟨fun x o _ _ h1 h2 => ⟨h2, clear_none h1⟩, rfl, rfl⟩
abbrev fpL (L : Nat) : Nat → Prop := fun x => x = L
theorem ns_keepF {h h' : Heap} {L : Nat} {m : Str → Option Value} (hn : h.Ns L m) (hk : ∀ o, h.get? L = some o → (∀ vs, o.data ≠ .fields vs) → ∃ sl, h'.get? L = some { o with slots := sl }) : h'.Ns L m := by
  obtain ⟨o, es, ep, ho, hdt, r⟩ := hn
  obtain ⟨sl, hs⟩ := hk o ho fun vs q => by rw [hdt] at q; cases q
  exact ⟨_, es, ep, hs, hdt, r⟩
/-- expire_caches(kept) -/
theorem expire_step (C : Cr prog w L D K g a hd f B now m s) (hB : B ≤ 100) (Y : LA A L fa cd) {R0 : Result → Shared → Prop}
    (k : ∀ g' s', Cr prog w L D K g' (expA a now) hd f B (now + 1) m s' → Chg L D g s g' s' → R0 (.ok (.ret .none)) s') :
    codeAny (model prog w) A (.call (.ref 115) ⟨[.ref (K+150)], []⟩) R0 s := by
  obtain ⟨lT, nT, H⟩ := C.hp
  have z := expire_1 (prog := prog) (fp := fpL L) (R0 := R0) (C.rdy Y) C.rp hB fun s' g' AF ht R' => by
    obtain ⟨H', hD'⟩ := H.after C.gD AF (Ne.symm C.LD) fun x xs hx q => by
      obtain ⟨o, es, ep, ho, hdt, _⟩ := C.ns
      rw [show x = L from q, ho] at hx
      cases hx; cases hdt
    rw [C.tm] at ht R'
    have gL' : g'.lab L = none := (AF.lab _ C.ns.lt).trans C.gL
    refine k g' s' ⟨C.tb, AF.top, ns_keepF C.ns fun o ho hf => AF.keepF L o ho C.gL hf, C.L0, C.LD, R', ⟨lT, nT, H'⟩, gL', hD', C.rel.tick, ht, AF.A1.trans C.gK⟩ ⟨fun x o h1 h2 h3 h4 => ⟨AF.keep x o h4 h3 h1, (AF.lab x (Heap.lt_size h4)).trans h3⟩, AF.gens, AF.os⟩
  rw [C.gK] at z
  exact z
/-- Cache.expire_caches(kept), as a statement -/
theorem expire_stmt (C : Cr prog w L D K g a hd f B now m s) (hB : B ≤ 100) (Y : LA A L fa cd) (hkept : m "kept" = some (.ref (K+150))) {Q : Flow → Shared → Prop}
    (k : ∀ g' s', Cr prog w L D K g' (expA a now) hd f B (now + 1) m s' → Chg L D g s g' s' → Q .next s') :
    wpAny (model prog w) A (exec (nthS (forBody (nthS (ifBody (nthS loopB 1)) 1)) 0) (lawV L fa cd)) Q E s := by
  refine wpAny_Expr_any ?_ (by kernel_rfl) (by kernel_rfl)
  show wpAny _ _ (eval (.Call (.Attribute (.Name "Cache" _) "expire_caches" _) [.Name "kept" _] [] _) (lawV L fa cd)) _ _ _
  rw [arm_eval_Call]
  refine wpAny_bind (m := eval (.Name "Cache" _) (lawV L fa cd)) (g_name C.ti (law_Cache ..) (gl_Cache _) (wpAny_bind (wpAny_standAt ?_)))
  unfold methodCall
  have hz : s.heap.get? (K+150) = some (instO (g.A0+150)) := by have := C.rp.obs.o1; rw [C.gK] at this; exact this
  refine wpAny_bind (wpAny_holding ?_)
  refine gm_call (C.rdy Y) hz _ fun s1 S1 => ?_
  refine wpAny_bind (wpAny_pure ?_)
  obtain ⟨fd, hfd⟩ := fn_of (d115 w.params)
  have eK : ∀ pos, Ev prog w A (lawV L fa cd) m (.Name "kept" pos) (fun v => v = .ref (K+150)) := fun pos => Ev.name (law_k ..) (law_kept ..) hkept rfl
  refine Calls.callWith_function (o := obT w.params 115) (fd := fd) (Calls.evalArgs_plain (Calls.spliced_cons (eK _ E s1 _ (S1.ns C.ns) fun v s2 hv S2 => Calls.spliced_nil ⟨⟨(C.stp (S1.trans S2)).ti _ _ (k115 _), hfd⟩, ?_⟩)))
  subst hv
  have C2 := C.stp (S1.trans S2)
  refine wpAny_call (expire_step C2 hB Y fun g' s' C' H' => ?_)
  exact k g' s' C' ((S1.trans S2).chg.trans H')
end
end Mine

end
/-! HM6 -/
section
open PySem PySem.W PySem.W.X PyProof.Rows
namespace Mine
def trn (v : Int) : Int := ([1, 200, 599, 601] : List Int).getD (v.fmod 4).toNat 0
theorem trn_pos (v : Int) : 1 ≤ trn v ∧ trn v ≤ 601 := by
  have h0 := Int.fmod_nonneg_of_pos v (show (0:Int) < 4 by decide)
  have h1 := Int.fmod_lt_of_pos v (show (0:Int) < 4 by decide)
  unfold trn
  have : (v.fmod 4).toNat = 0 ∨ (v.fmod 4).toNat = 1 ∨ (v.fmod 4).toNat = 2 ∨ (v.fmod 4).toNat = 3 := by omega
  rcases this with h | h | h | h <;> rw [h] <;> decide
theorem Chg.but {L D : Nat} {g g' : Cch} {s s' : Shared} (X : Chg L D g s g' s') {z : Nat} (hz : ∀ x o, s.heap.get? x = some o → x ≠ z) {h' : Heap} {t : Nat} (hs : Heap.SameBut z s'.heap h') : Chg L D g s g' { s' with heap := h', toks := t } :=
  ⟨fun x o h1 h2 h3 h4 => let ⟨a, b⟩ := X.keep x o h1 h2 h3 h4; ⟨(hs.2 x (hz x o h4)).trans a, b⟩, X.gens, X.os⟩
section
variable {prog : Program} {w : World} {A : Around} {L D K fa : Nat} {cd : Value} {g : Cch} {a : Ab} {hd : Int → Bool} {f : Hf} {B : Nat} {now ps : Int} {m : Str → Option Value} {s : Shared} {E : Value → Shared → Prop}
/-- _LAW_TURNS[value % 4] -/
theorem turns_ev (ti : TopIn w.params s.heap) (hn : s.heap.Ns L m) {v : Int} (hv : ∃ t, m "value" = some (.int v t)) {p1 p2 p3 p4 : Pos} {kk : Nat} {Q : Value → Shared → Prop}
    (h : ∀ t s', Stp s s' → Q (.int (trn v) t) s') : wpAny (model prog w) A (eval (.Subscript (.Name "_LAW_TURNS" p1) (.BinOp (.Name "value" p2) .Mod (.Constant (.int 4) kk p3) p4) p3') (lawV L fa cd)) Q E s := by
  obtain ⟨tv, hv⟩ := hv
  have h0 := Int.fmod_nonneg_of_pos v (show (0:Int) < 4 by decide)
  have h1 := Int.fmod_lt_of_pos v (show (0:Int) < 4 by decide)
  refine Subscript_ (g_name ti (law_TURNS ..) (gl_TURNS _) ?_)
  refine Ev.mod (a := v) (b := 4) (by decide) (Ev.name (law_k L fa cd) (law_value ..) hv ⟨tv, rfl⟩) Ev.cint E s _ hn fun x s1 hx S1 => ?_
  obtain ⟨tx, rfl⟩ := hx
  obtain ⟨vs, hl, hi⟩ := turns_at (ti.stp S1)
  exact item_list_ints hl hi h0 (by simpa using h1) (by omega) (fun t => h t s1 S1)
theorem turns_ok (C : Cr prog w L D K g a hd f B now m s) (hB : B ≤ 100) (Y : LA A L fa cd) (V : LV K D now ps m) {k n v : Int} (N : KV k n v m) {Q : Flow → Shared → Prop}
    (k1 : ∀ g' a' m' s', Cr prog w L D K g' a' hd f B (now + trn v) m' s' → LV K D now ps m' → KV k n v m' → Chg L D g s g' s' → Q .next s') :
    wpAny (model prog w) A (exec (nthS (ifBody (nthS loopB 1)) 1) (lawV L fa cd)) Q E s := by
  have hT := trn_pos v
  refine wpAny_For (wpAny_Call_NameR (b_name C.ti (law_range ..) (gl_range _) (bl_range _) (PyProof.Rows.callWith_type1 (wpAny_items_cons (turns_ev C.ti C.ns N.value fun t s1 S1 => wpAny_items_nil ?_))))) (by intro _; rfl)
  refine call_range_1 ?_
  have S2 := (S1.push { cls := .type "range", data := .fields #[.int 0 s1.toks, .int (trn v) t, .int 1 (s1.toks + 1)] }).tok (s1.toks + 1 + 1)
  have C2 := (C.stp S2).clear
  generalize hs2 : ({ s1 with heap := s1.heap.push { cls := .type "range", data := .fields #[.int 0 s1.toks, .int (trn v) t, .int 1 (s1.toks + 1)] }, toks := s1.toks + 1 + 1 } : Shared) = s2
  have hr : IsRange s2.heap s1.heap.objs.size 0 (trn v) 1 s1.toks t (s1.toks + 1) := by rw [← hs2]; exact Heap.get?_push_size _ rfl
  have S2' : Stp s s2 := by rw [← hs2]; exact S2
  have C2' : Cr prog w L D K (g.clear s2.heap) a hd f B now m s2 := by rw [← hs2]; exact C2
  clear C2 S2
  refine wpAny_pyIter_range hr (small_one (by omega) (by omega) (by omega) (by omega)) ?_
  have hsz : Builtin.Range.rangeSize 0 (trn v) 1 = trn v := by rw [rangeSize_one, if_pos (by omega)]; omega
  rw [hsz]
  generalize hit : s2.heap.objs.size = it
  have hfr : ∀ x o, s.heap.get? x = some o → x ≠ it := fun x o h => by rw [← hit]; exact Nat.ne_of_lt (Heap.lt_size (S2'.keep _ _ h))
  have itL : it ≠ L := fun q => absurd C2'.ns.lt (by rw [← q, hit]; exact Nat.lt_irrefl _)
  have it150 : 150 ≤ it := by rw [← hit]; exact top_size C2'.ti
  have itD : it ≠ D + 150 := fun q => by
    obtain ⟨lT, nT, H⟩ := C2'.hp
    exact absurd (Heap.lt_size H.o) (by rw [← q, hit]; exact Nat.lt_irrefl _)
  have itl : (g.clear s2.heap).lab it = none := clear_high (by omega)
  refine codeAny_forLoop (I := fun j s' => ∃ (i : Nat) (g' : Cch) (a' : Ab) (m' : Str → Option Value), (i : Int) ≤ trn v ∧ j = (trn v).toNat - i ∧ Cr prog w L D K g' a' hd f B (now + i) m' s' ∧ LV K D now ps m' ∧ KV k n v m' ∧ Chg L D g s g' s' ∧ IsRangeIter s'.heap it i (trn v - i) 1 ∧ g'.lab it = none) ?_ (trn v).toNat ?_ (by intro _; rfl)
  · rintro j s3 ⟨i, g', a', m', hi, hj, C3, V3, N3, X3, I3, l3⟩
    have hzt : ∀ xs, s3.heap.get? it ≠ some (tupO xs) := fun xs q => by
      rw [show s3.heap.get? it = _ from I3] at q
      have h := congrArg Obj.data (Option.some.inj q)
      cases h
    by_cases hlt : (i : Int) < trn v
    · refine wpAny_pyNext_range_item I3 (by omega) fun h' hI' hs' => ?_
      have C4 : Cr prog w L D K g' a' hd f B (now + i) m' { s3 with heap := h', toks := s3.toks + 1 } := C3.but l3 it150 itD hzt (fun x o hx h => (hs'.2 x hx).trans h) (C3.ns.sameBut hs' (Ne.symm itL))
      refine wpAny_assign_Name (stn (law_k ..) (law_turn ..) C4.ns fun h5 n5 e5 => ?_)
      have C5 := C4.put (t := s3.toks + 1 + 1) n5 e5
      refine wpAny_execs_cons (expire_stmt C5 hB Y ((V3.other (x := "turn") (v := .int i s3.toks) (by decide)).kept) fun g6 s6 C6 X6 => wpAny_execs_nil ?_)
      have I5 : h5.get? it = _ := (e5.2 it itL).trans hI'
      obtain ⟨I6, l6⟩ := X6.keep it _ itL itD l3 I5
      refine ⟨j - 1, by omega, i + 1, g6, expA a' (now + i), upS m' "turn" (.int i s3.toks), by omega, by omega, ?_, V3.other (x := "turn") (by decide), N3.other (x := "turn") (by decide), ((X3.but hfr hs').trans (.put e5)).trans X6, ?_, l6⟩
      · have : now + (i : Int) + 1 = now + ((i + 1 : Nat) : Int) := by omega
        rw [← this]
        exact C6
      · have e1 : ((i + 1 : Nat) : Int) = (i : Int) + 1 := by omega
        have e2 : trn v - ((i + 1 : Nat) : Int) = trn v - i - 1 := by omega
        show s6.heap.get? it = _
        rw [e1, show trn v - ((i : Int) + 1) = trn v - i - 1 by omega]
        exact I6
    · have hi' : (i : Int) = trn v := by omega
      refine wpAny_pyNext_range_end Y.hh I3 (by omega) fun h' he => ?_
      have C4 : Cr prog w L D K g' a' hd f B (now + i) m' { s3 with heap := h' } := C3.but l3 it150 itD hzt (fun x o hx h => he x o hx h) (C3.ns.extBut he (Ne.symm itL))
      refine wpAny_execs_nil ?_
      rw [hi'] at C4
      exact k1 _ _ _ _ C4 V3 N3 ⟨fun x o h1 h2 h3 h4 => let ⟨a, b⟩ := X3.keep x o h1 h2 h3 h4; ⟨he x o (hfr x o h4) a, b⟩, X3.gens, X3.os⟩
  · subst hit
    have S3 := S2'.push { cls := .type "range_iterator", data := .fields #[rawInt 0, rawInt (trn v), rawInt 1] }
    have C3 : Cr prog w L D K (g.clear s2.heap) a hd f B now m { s2 with heap := s2.heap.push { cls := .type "range_iterator", data := .fields #[rawInt 0, rawInt (trn v), rawInt 1] } } := C2'.stp ((Stp.refl s2).push _)
    refine ⟨0, _, _, _, by omega, by omega, by simpa using C3, V, N, ⟨fun x o h1 h2 h3 h4 => ⟨S3.keep x o h4, clear_none h3⟩, S3.gens, S3.os⟩, ?_, itl⟩
    have := Heap.get?_push_size s2.heap (o := { cls := .type "range_iterator", data := .fields #[rawInt 0, rawInt (trn v), rawInt 1] }) rfl
    simpa using this
end
end Mine

end
/-! HM7 -/
section
open PySem PySem.W PySem.W.X PyProof.Rows
namespace Mine
section
variable {prog : Program} {w : World} {A : Around} {L D K fa : Nat} {cd : Value} {g : Cch} {a : Ab} {hd : Int → Bool} {f : Hf} {B : Nat} {now ps : Int} {m : Str → Option Value} {s : Shared} {E : Value → Shared → Prop}
theorem s2_ok (C : Cr prog w L D K g a hd f B now m s) (hB : B ≤ 100) (Y : LA A L fa cd) (V : LV K D now ps m) {k n v : Int} (N : KV k n v m) {Q : Flow → Shared → Prop}
    (k1 : ∀ g' a' now' ps' m' s', Cr prog w L D K g' a' hd f B now' m' s' → LV K D now' ps' m' → KV k n v m' → Chg L D g s g' s' → Q .next s') :
    wpAny (model prog w) A (exec (nthS loopB 1) (lawV L fa cd)) Q E s := by
  obtain ⟨tk, hk⟩ := N.kind
  obtain ⟨tp, hp⟩ := V.passed
  refine wpAny_If (Et.and (Et.eq (a := k) (b := 5) (Ev.name (law_k L fa cd) (law_kind ..) hk ⟨tk, rfl⟩) Ev.cint) (fun _ => Et.lt (a := ps) (b := 2) (Ev.name (law_k ..) (law_passed ..) hp ⟨tp, rfl⟩) Ev.cint) E s _ C.ns fun s1 S1 => ?_)
  have C1 := C.stp S1
  cases hb : ((k == 5) && decide (ps < 2)) with
  | false => exact wpAny_execs_nil (k1 g a now ps m s1 C1 V N S1.chg)
  | true =>
    refine wpAny_execs_cons (wpAny_AugAssign_Name (wpAny_loadName_local (law_k L fa cd) (law_passed ..) C1.ns hp (Ev.cint (i := 1) E s1 _ C1.ns fun x s2 hx S2 => ?_)))
    obtain ⟨tx, rfl⟩ := hx
    have C2 := C1.stp S2
    refine wpAny_iadd_int ?_
    have C3 := C2.stp ((Stp.refl s2).tok (s2.toks + 1))
    refine stn (law_k ..) (law_passed ..) C3.ns fun h4 n4 e4 => ?_
    have C4 := C3.put (t := s2.toks + 1 + 1) n4 e4
    have X4 : Chg L D g s g { s2 with heap := h4, toks := s2.toks + 1 + 1 } := (S1.trans S2).chg.trans (.put e4)
    refine wpAny_execs_cons (turns_ok C4 hB Y (V.passed' (z := ps + 1) (t := s2.toks)) (N.other (x := "passed") (by decide)) fun g5 a5 m5 s5 C5 V5 N5 X5 => ?_)
    obtain ⟨t5, h5⟩ := V5.now
    refine wpAny_execs_cons (wpAny_AugAssign_Name (wpAny_loadName_local (law_k L fa cd) (law_now ..) C5.ns h5 (turns_ev C5.ti C5.ns N5.value fun t6 s6 S6 => ?_)))
    have C6 := C5.stp S6
    refine wpAny_iadd_int ?_
    have C7 := C6.stp ((Stp.refl s6).tok (s6.toks + 1))
    refine stn (law_k ..) (law_now ..) C7.ns fun h8 n8 e8 => wpAny_execs_nil ?_
    have C8 := C7.put (t := s6.toks + 1 + 1) n8 e8
    exact k1 _ _ _ _ _ _ C8 (V5.now' (z := now + trn v) (t := s6.toks)) (N5.other (x := "now") (by decide)) (((X4.trans X5).trans S6.chg).trans (.put e8))
end
end Mine

end
/-! HM8 -/
section
open PySem PySem.W PySem.W.X PyProof.Rows
namespace Mine
/-- a heap without the object at L -/
def lose (h : Heap) (L : Nat) : Heap := h.update L (fun o => { o with data := .freed })
theorem lose_self (h : Heap) (L : Nat) : (lose h L).get? L = none := by
  obtain ⟨objs, l⟩ := h
  have e : (objs.modify L (fun o : Obj => { o with data := .freed }))[L]? = (objs[L]?).map (fun o : Obj => { o with data := .freed }) := by
    rw [Array.getElem?_modify, if_pos rfl]
  show (match (objs.modify L (fun o : Obj => { o with data := .freed }))[L]? with
    | some ⟨_, _, .freed, _⟩ => none
    | o => o) = none
  rw [e]
  cases objs[L]? <;> rfl
theorem lose_other {h : Heap} {L x : Nat} (hx : x ≠ L) : (lose h L).get? x = h.get? x := Heap.get?_update_other _ _ (Ne.symm hx)
section
variable {prog : Program} {w : World} {A : Around} {L D K fa : Nat} {cd : Value} {g : Cch} {a : Ab} {hd : Int → Bool} {f : Hf} {B : Nat} {now ps : Int} {m : Str → Option Value} {s : Shared} {E : Value → Shared → Prop}
theorem Cr.rb (C : Cr prog w L D K g a hd f B now m s) (Y : LA A L fa cd) : Rb A s g (fpL L) (lose s.heap L) [lawV L fa cd] := by
  refine ⟨Y.hd, fun b o hb => ?_, ⟨?_, ?_, trivial⟩, Y.fr, fun x o hx hq => (lose_other hq).trans hx, fun x hx => ?_⟩
  · by_cases q : b = L
    · rw [q, lose_self] at hb; cases hb
    · exact (lose_other q).symm.trans hb
  · rw [law_k]; decide
  · obtain ⟨o, es, ep, ho, hdt, _⟩ := C.ns
    exact ⟨L, o, rfl, lose_self .., ho, fun vs q => by rw [hdt] at q; cases q⟩
  · have hx : x = L := hx
    subst hx
    exact ⟨C.gL, C.L0⟩
end
end Mine

end
/-! HM9 -/
section
open PySem PySem.W PySem.W.X PyProof.Rows
namespace Mine
section
variable {prog : Program} {w : World} {A : Around} {L D K fa : Nat} {cd : Value} {g : Cch} {a : Ab} {hd : Int → Bool} {f : Hf} {B : Nat} {now ps : Int} {m : Str → Option Value} {s : Shared} {E : Value → Shared → Prop}
theorem gone_live (C : Cr prog w L D K g a hd f B now m s) {n : Int} (hg : gn f n now = false) (h : hd n = true) : (a true n).isSome = true := by
  obtain ⟨⟨x, e⟩, hx⟩ := Option.isSome_iff_exists.mp (C.rel.hdl n h)
  have : ¬ e < now := by
    unfold gn at hg
    rw [hx] at hg
    simpa using hg
  rw [C.rel.of true n x e hx (by omega)]
  rfl
/-- told, then wanted -/
theorem pair_ok (C : Cr prog w L D K g a hd f B now m s) (hB : B ≤ 98) (Y : LA A L fa cd) {k n v : Int} {j1 j2 j3 : Nat} (hk : 0 ≤ k ∧ k ≤ 4) (hn : 0 ≤ n ∧ n < 3) (hg : k = 4 → gn f n now = false) {R0 : Result → Shared → Prop}
    (k1 : ∀ l g1 s1, s1.heap.Ns L m → TopIn w.params s1.heap → Chg L D g s g1 s1 → (∀ s2, Stp s1 s2 → ∀ (R2 : Result → Shared → Prop) (i1 i2 i3 i4 : Nat), (∀ l' xs xs' res g' a' hd' f' s3, Cr prog w L D K g' a' hd' f' (B+1) now m s3 → Chg L D g s g' s3 →
        s3.heap.get? l = some (lstO xs) → s3.heap.get? l' = some (lstO xs') → IntsAre xs res → IntsAre xs' res → R2 (.ok (.ret (.ref l'))) s3) →
        codeAny (model prog w) A (.call (.ref 144) ⟨[.ref (D+150), .int now i4, .int k i1, .int n i2, .int v i3], []⟩) R2 s2) → R0 (.ok (.ret (.ref l))) s1) :
    codeAny (model prog w) A (.call (.ref 137) ⟨[.ref (K+150), .int k j1, .int n j2, .int v j3], []⟩) R0 s := by
  obtain ⟨lT, nT, H⟩ := C.hp
  have z := tell_all (prog := prog) (v := v) (j1 := j1) (j2 := j2) (j3 := j3) (C.rdy Y) (C.rb Y) C.rp (by omega) hn hk fun h4 hh => gone_live C (hg h4) hh
  rw [C.gK] at z
  refine codeAny_mono z fun r s1 hr => ?_
  obtain ⟨l, g1, a1, hd1, res, xs, rfl, AF, ht, R1, hl, hxs, TL⟩ := hr
  obtain ⟨H1, hD1⟩ := H.after C.gD AF (Ne.symm C.LD) fun x xs hx q => by
    obtain ⟨o, es, ep, ho, hdt, _⟩ := C.ns
    rw [show x = L from q, ho] at hx
    cases hx; cases hdt
  have gL1 : g1.lab L = none := (AF.lab _ C.ns.lt).trans C.gL
  have ns1 : s1.heap.Ns L m := ns_keepF C.ns fun o ho hf => AF.keepF L o ho C.gL hf
  have X1 : Chg L D g s g1 s1 := ⟨fun x o h1 h2 h3 h4 => ⟨AF.keep x o h4 h3 h1, (AF.lab x (Heap.lt_size h4)).trans h3⟩, AF.gens, AF.os⟩
  refine k1 l g1 s1 ns1 AF.top X1 fun s2 S2 R2 i1 i2 i3 i4 k2 => ?_
  have ns2 := S2.ns ns1
  have nt : ∀ xs, s1.heap.get? L ≠ some (tupO xs) := fun xs h => by
    obtain ⟨o, es, ep, ho, hdt, _⟩ := ns1
    rw [ho] at h; cases h; cases hdt
  have H2 : Hp prog w s2.heap D lT nT f B (Own g1) := H1.but (z := L) C.LD nt fun x o _ h => S2.keep x o h
  have R2' : Rp w.params s2.heap g1 a1 hd1 (B+1) := R1.move rfl fun x o r hl hx => ⟨S2.keep x o hx, hl⟩
  have H3 : Hp prog w s2.heap D lT nT f (B+1) (Own (g1.clear s2.heap)) := (H2.re fun x o hx q q' => q (clear_none q')).le' (Nat.le_succ B)
  have TI2 : TopIn w.params s2.heap := fun b o e => S2.keep _ _ (AF.top b o e)
  have Y2 : Rdy w A s2 := ⟨Y.hh, by have := Y.hd; omega, Y.hu, C.tb, TI2, top_size TI2⟩
  refine codeAny_mono (want_all (prog := prog) (w := w) (A := A) (s := s2) (n := n) (v := v) (now := now) (j1 := i1) (j2 := i2) (j3 := i3) (j5 := i4) Y2 (H2.re fun x o hx (q : Own (g1.clear s2.heap) x) q' => q (clear_none q')) (fun x hx => clear_own hx) (by omega) hk) fun r s3 hr => ?_
  obtain ⟨l', lT', nT', f', res', xs', rfl, AW, H4, hl', hxs', TW⟩ := hr
  rw [C.tm] at TL ht
  obtain ⟨rfl, rel'⟩ := both C.rel (fun h4 hh => gone_live C (hg h4) hh) C.rp.hds.hda TL TW
  have R3 : Rp w.params s3.heap (g1.clear s2.heap) a1 hd1 (B+1) := R2'.clear.afterW (clear_none hD1) AW
  refine k2 l' xs xs' res (g1.clear s2.heap) a1 hd1 f' s3 ⟨C.tb, AW.top, ?_, C.L0, C.LD, R3, ⟨lT', nT', H4⟩, clear_none gL1, clear_none hD1, rel', ht, AF.A1.trans C.gK⟩ (X1.trans ⟨fun x o h1 h2 h3 h4 => ⟨AW.keep x o (S2.keep x o h4) h2, clear_none h3⟩, AW.gens.trans S2.gens, AW.os.trans S2.os⟩) ?_ hl' hxs hxs'
  · obtain ⟨o, es, ep, ho, r⟩ := ns2
    exact ⟨o, es, ep, AW.keep _ _ ho C.LD, r⟩
  · refine AW.keep _ _ (S2.keep _ _ hl) fun q => ?_
    have := H1.o
    rw [← q, hl] at this
    have := congrArg Obj.data (Option.some.inj this)
    cases this
theorem s4_ok (C : Cr prog w L D K g a hd f B now m s) (hB : B ≤ 98) (Y : LA A L fa cd) (V : LV K D now ps m) {k n v : Int} (N : KV k n v m) (hk : 0 ≤ k) (hn : 0 ≤ n ∧ n < 3) (hgo : m "gone" = some (.bool (gn f n now))) {Q : Flow → Shared → Prop}
    (k1 : ∀ g' a' hd' f' m' s', Cr prog w L D K g' a' hd' f' (B+1) now m' s' → LV K D now ps m' → Chg L D g s g' s' → Q .next s') :
    wpAny (model prog w) A (exec (nthS loopB 3) (lawV L fa cd)) Q E s := by
  obtain ⟨tk, hkd⟩ := N.kind
  obtain ⟨tn, hnum⟩ := N.number
  obtain ⟨tv, hval⟩ := N.value
  obtain ⟨tw, hnow⟩ := V.now
  have eK : ∀ pos, Ev prog w A (lawV L fa cd) m (.Name "kind" pos) (fun x => x = .int k tk) := fun pos => Ev.name (law_k ..) (law_kind ..) hkd rfl
  have eN : ∀ pos, Ev prog w A (lawV L fa cd) m (.Name "number" pos) (fun x => x = .int n tn) := fun pos => Ev.name (law_k ..) (law_number ..) hnum rfl
  have eV : ∀ pos, Ev prog w A (lawV L fa cd) m (.Name "value" pos) (fun x => x = .int v tv) := fun pos => Ev.name (law_k ..) (law_value ..) hval rfl
  have eW : ∀ pos, Ev prog w A (lawV L fa cd) m (.Name "now" pos) (fun x => x = .int now tw) := fun pos => Ev.name (law_k ..) (law_now ..) hnow rfl
  have eC : ∀ pos, Ev prog w A (lawV L fa cd) m (.Name "kept" pos) (fun x => x = .ref (K+150)) := fun pos => Ev.name (law_k ..) (law_kept ..) V.kept rfl
  have eH : ∀ pos, Ev prog w A (lawV L fa cd) m (.Name "held" pos) (fun x => x = .ref (D+150)) := fun pos => Ev.name (law_k ..) (law_held ..) V.held rfl
  have eG : ∀ pos, Ev prog w A (lawV L fa cd) m (.Name "good" pos) (fun x => x = .bool true) := fun pos => Ev.name (law_k ..) (law_good ..) V.good rfl
  refine wpAny_If (Et.or (Et.lt (a := k) (b := 4) (Ev.name (law_k L fa cd) (law_kind ..) hkd ⟨tk, rfl⟩) Ev.cint) (fun _ => Et.and (Et.eq (a := k) (b := 4) (Ev.name (law_k ..) (law_kind ..) hkd ⟨tk, rfl⟩) Ev.cint) (fun _ => Et.not (Et.nameB (law_k ..) (law_gone ..) hgo))) E s _ C.ns fun s1 S1 => ?_)
  have C1 := C.stp S1
  cases hb : (decide (k < 4) || ((k == 4) && !gn f n now)) with
  | false => exact wpAny_execs_nil (k1 g a hd f m s1 (C1.le (Nat.le_succ B)) V S1.chg)
  | true =>
    have hk4 : 0 ≤ k ∧ k ≤ 4 := by
      simp only [Bool.or_eq_true, Bool.and_eq_true, decide_eq_true_eq, beq_iff_eq] at hb
      omega
    have hgg : k = 4 → gn f n now = false := fun h => by
      subst h
      simpa using hb
    refine wpAny_execs_cons (wpAny_Assign_Name (BoolOp_and (eG _ E s1 _ C1.ns fun x s2 hx S2 => ?_)) (by kernel_rfl))
    subst hx
    refine wpAny_truthy_bool (BoolOp_one (wpAny_Compare1 ?_))
    have C2 := C1.stp S2
    obtain ⟨fd, hfd⟩ := fn_of (d137 w.params)
    refine wpAny_Call_NameR (g_name C2.ti (law_told ..) (gl_told _) ?_)
    refine Calls.callWith_function (o := obT w.params 137) (fd := fd) (Calls.evalArgs_plain (Calls.spliced_cons (eC _ E s2 _ C2.ns fun x s3 hx S3 => Calls.spliced_cons (eK _ E s3 _ (S3.ns C2.ns) fun x' s4 hx' S4 => Calls.spliced_cons (eN _ E s4 _ ((S3.trans S4).ns C2.ns) fun x'' s5 hx'' S5 =>
      Calls.spliced_cons (eV _ E s5 _ (((S3.trans S4).trans S5).ns C2.ns) fun x''' s6 hx''' S6 => Calls.spliced_nil ?_))))))
    have S26 := ((S3.trans S4).trans S5).trans S6
    have C6 := C2.stp S26
    subst hx; subst hx'; subst hx''; subst hx'''
    refine ⟨⟨C6.ti _ _ (k137 _), hfd⟩, ?_⟩
    refine wpAny_call (pair_ok C6 hB Y hk4 hn hgg fun l g7 s7 ns7 ti7 X7 k7 => ?_)
    obtain ⟨fd', hfd'⟩ := fn_of (d144 w.params)
    refine wpAny_Call_NameR (g_name ti7 (law_wanted ..) (gl_wanted _) ?_)
    refine Calls.callWith_function (o := obT w.params 144) (fd := fd') (Calls.evalArgs_plain (Calls.spliced_cons (eH _ E s7 _ ns7 fun x s8 hx S8 => Calls.spliced_cons (eW _ E s8 _ (S8.ns ns7) fun x' s9 hx' S9 => Calls.spliced_cons (eK _ E s9 _ ((S8.trans S9).ns ns7) fun x'' s10 hx'' S10 =>
      Calls.spliced_cons (eN _ E s10 _ (((S8.trans S9).trans S10).ns ns7) fun x3 s11 hx3 S11 => Calls.spliced_cons (eV _ E s11 _ ((((S8.trans S9).trans S10).trans S11).ns ns7) fun x4 s12 hx4 S12 => Calls.spliced_nil ?_)))))))
    have S712 := (((S8.trans S9).trans S10).trans S11).trans S12
    subst hx; subst hx'; subst hx''; subst hx3; subst hx4
    refine ⟨⟨S712.keep _ _ (ti7 _ _ (k144 _)), hfd'⟩, ?_⟩
    refine wpAny_call (k7 s12 S712 _ _ _ _ _ fun l' xs xs' res g' a' hd' f' s13 C13 X13 hl hl' hi hi' => ?_)
    refine ke_eq_ints (xs := xs) (ys := xs') ⟨_, hl, rfl, _, rfl⟩ ⟨_, hl', rfl, _, rfl⟩ hi hi' (by have := Y.hu; omega) ?_
    rw [decide_eq_true (rfl : res = res)]
    refine stn (law_k ..) (law_good ..) C13.ns fun h14 n14 e14 => wpAny_execs_nil ?_
    have C14 := C13.put (t := s13.toks + 1) n14 e14
    exact k1 _ _ _ _ _ _ C14 V.good' ((((S1.trans S2).trans S26).chg.trans X13).trans (.put e14))
end
end Mine

end
/-! HN0 -/
section
open PySem PySem.W PySem.W.X PyProof.Rows
namespace Mine
section
variable {prog : Program} {w : World} {A : Around} {L D K fa : Nat} {cd : Value} {g : Cch} {a : Ab} {hd : Int → Bool} {f : Hf} {B : Nat} {now ps : Int} {m : Str → Option Value} {s : Shared} {E : Value → Shared → Prop}
/-- a turn -/
theorem turn_ok (C : Cr prog w L D K g a hd f B now m s) (hB : B ≤ 98) (Y : LA A L fa cd) (V : LV K D now ps m) {z : Int} {t : Nat} (h1 : m "one" = some (.int z t)) (hz : 0 ≤ z ∧ z < 65536) {Q : Flow → Shared → Prop}
    (k1 : ∀ g' a' hd' f' now' ps' m' s', Cr prog w L D K g' a' hd' f' (B+1) now' m' s' → LV K D now' ps' m' → Chg L D g s g' s' → Q .next s') :
    wpAny (model prog w) A (execs loopB (lawV L fa cd)) Q E s := by
  have k0 := Int.fmod_nonneg_of_pos z (show (0:Int) < 6 by decide)
  have n0 := Int.fmod_nonneg_of_pos (z.fdiv 6) (show (0:Int) < 3 by decide)
  have n1 := Int.fmod_lt_of_pos (z.fdiv 6) (show (0:Int) < 3 by decide)
  rw [loop_form]
  refine wpAny_execs_cons (s1_ok C V Y h1 hz fun m1 s1 C1 V1 N1 X1 => ?_)
  refine wpAny_execs_cons (s2_ok C1 (by omega) Y V1 N1 fun g2 a2 now2 ps2 m2 s2 C2 V2 N2 X2 => ?_)
  refine wpAny_execs_cons (s3_ok C2 V2 Y N2 fun m3 s3 C3 V3 N3 hg3 X3 => ?_)
  refine wpAny_execs_cons (s4_ok C3 hB Y V3 N3 k0 ⟨n0, n1⟩ hg3 fun g4 a4 hd4 f4 m4 s4 C4 V4 X4 => wpAny_execs_nil ?_)
  exact k1 _ _ _ _ _ _ _ _ C4 V4 (((X1.trans X2).trans X3).trans X4)
/-- the loop -/
theorem loop_ok (C : Cr prog w L D K g a hd f 0 now m s) (Y : LA A L fa cd) (V : LV K D now ps m) {dl : Nat} {vs : List Value} {ns : List Int} (hdr : m "drawn" = some (.ref dl)) (hl : s.heap.IsList dl vs.toArray) (hi : IntsAre vs ns) (hns : ∀ z ∈ ns, 0 ≤ z ∧ z < 65536) (hlen : ns.length ≤ 90)
    (dL : dl ≠ L) (dD : dl ≠ D + 150) (dlab : g.lab dl = none) {Q : Flow → Shared → Prop}
    (k1 : ∀ g' a' hd' f' now' ps' m' s', Cr prog w L D K g' a' hd' f' 90 now' m' s' → LV K D now' ps' m' → Chg L D g s g' s' → Q .next s') :
    wpAny (model prog w) A (exec (nthS lawB 4) (lawV L fa cd)) Q E s := by
  have hvl : vs.length = ns.length := hi.length
  have eD : ∀ pos, Ev prog w A (lawV L fa cd) m (.Name "drawn" pos) (fun x => x = .ref dl) := fun pos => Ev.name (law_k ..) (law_drawn ..) hdr rfl
  refine wpAny_For (eD _ E s _ C.ns fun x s1 hx S1 => ?_) (by intro _; rfl)
  subst hx
  have C1 := (C.stp S1).clear
  refine wpAny_pyIter_list (hl.at (S1.keep _)) ?_
  generalize hit : s1.heap.objs.size = it
  have hfr : ∀ x o, s.heap.get? x = some o → x ≠ it := fun x o h => by rw [← hit]; exact Nat.ne_of_lt (Heap.lt_size (S1.keep _ _ h))
  have itL : it ≠ L := fun q => absurd C1.ns.lt (by rw [← q, hit]; exact Nat.lt_irrefl _)
  have it150 : 150 ≤ it := by rw [← hit]; exact top_size C1.ti
  have itD : it ≠ D + 150 := fun q => by
    obtain ⟨lT, nT, H⟩ := C1.hp
    exact absurd (Heap.lt_size H.o) (by rw [← q, hit]; exact Nat.lt_irrefl _)
  have itl : (g.clear s1.heap).lab it = none := clear_high (by omega)
  have itd : dl ≠ it := by
    obtain ⟨o, ho, _⟩ := hl
    exact hfr _ _ ho
  refine codeAny_forLoop (I := fun j s' => ∃ (i : Nat) (g' : Cch) (a' : Ab) (hd' : Int → Bool) (f' : Hf) (now' ps' : Int) (m' : Str → Option Value), i ≤ ns.length ∧ j = ns.length - i ∧ Cr prog w L D K g' a' hd' f' i now' m' s' ∧ LV K D now' ps' m' ∧ Chg L D g s g' s' ∧ s'.heap.IsListIter it dl i ∧ s'.heap.IsList dl vs.toArray ∧ g'.lab it = none ∧ g'.lab dl = none) ?_ ns.length ?_ (by intro _; rfl)
  · rintro j s3 ⟨i, g', a', hd', f', now', ps', m', hi', hj, C3, V3, X3, I3, L3, l3, d3⟩
    have hzt : ∀ xs, s3.heap.get? it ≠ some (tupO xs) := fun xs q => by
      obtain ⟨o, ho, hc, hdt⟩ := I3
      rw [q] at ho
      cases ho
      cases hdt
    by_cases hlt : i < ns.length
    · obtain ⟨tz, hz⟩ := hi.get i (ns[i]) (List.getElem?_eq_getElem hlt)
      refine wpAny_pyNext_list_item I3 L3 (by simpa using hz) fun h' hI' hs' => ?_
      have C4 : Cr prog w L D K g' a' hd' f' i now' m' { s3 with heap := h' } := C3.but l3 it150 itD hzt (fun x o hx h => (hs'.2 x hx).trans h) (C3.ns.sameBut hs' (Ne.symm itL))
      refine wpAny_assign_Name (stn (law_k ..) (law_one ..) C4.ns fun h5 n5 e5 => ?_)
      have C5 := C4.put (t := s3.toks + 1) n5 e5
      refine turn_ok C5 (by omega) Y (V3.other (x := "one") (v := .int (ns[i]) tz) (by decide)) (upS_self ..) (hns _ (List.getElem_mem hlt)) fun g6 a6 hd6 f6 now6 ps6 m6 s6 C6 V6 X6 => ?_
      have X5 : Chg L D g s g' { s3 with heap := h5, toks := s3.toks + 1 } := (X3.but (t := s3.toks) hfr hs').trans (.put e5)
      obtain ⟨o5, ho5, r5⟩ := hI'
      have I5 : h5.get? it = some o5 := (e5.2 it itL).trans ho5
      obtain ⟨oL, hoL, rL⟩ := L3
      have L5 : h5.get? dl = some oL := (e5.2 dl dL).trans ((hs'.2 dl itd).trans hoL)
      obtain ⟨I6, l6⟩ := X6.keep it _ itL itD l3 I5
      obtain ⟨L6, d6⟩ := X6.keep dl _ dL dD d3 L5
      exact ⟨j - 1, by omega, i + 1, g6, a6, hd6, f6, now6, ps6, m6, by omega, by omega, C6, V6, X5.trans X6, ⟨o5, I6, r5⟩, ⟨oL, L6, rL⟩, l6, d6⟩
    · have hii : i = ns.length := by omega
      refine wpAny_pyNext_list_end Y.hh I3 L3 (by rw [List.getElem?_toArray, List.getElem?_eq_none (by omega)]) fun h' he => ?_
      have C4 : Cr prog w L D K g' a' hd' f' i now' m' { s3 with heap := h' } := C3.but l3 it150 itD hzt (fun x o hx h => he x o hx h) (C3.ns.extBut he (Ne.symm itL))
      refine wpAny_execs_nil ?_
      exact k1 _ _ _ _ _ _ _ _ (C4.le (by omega)) V3 ⟨fun x o h1 h2 h3 h4 => let ⟨a, b⟩ := X3.keep x o h1 h2 h3 h4; ⟨he x o (hfr x o h4) a, b⟩, X3.gens, X3.os⟩
  · subst hit
    have S3 := S1.push { cls := .type "list_iterator", data := .fields #[.ref dl, .int 0 0] }
    have C3 : Cr prog w L D K (g.clear s1.heap) a hd f 0 now m { s1 with heap := s1.heap.push { cls := .type "list_iterator", data := .fields #[.ref dl, .int 0 0] } } := C1.stp ((Stp.refl s1).push _)
    exact ⟨0, _, _, _, _, _, ps, _, by omega, by omega, C3, V, ⟨fun x o h1 h2 h3 h4 => ⟨S3.keep x o h4, clear_none h3⟩, S3.gens, S3.os⟩, ⟨_, Heap.get?_push_size _ rfl, rfl, rfl⟩, hl.at (S3.keep _), itl, clear_none dlab⟩
end
end Mine

end
/-! HN1 -/
section
open PySem PySem.W PySem.W.X PyProof.Rows
namespace Mine
def noA : Ab := fun _ _ => none
def noH : Int → Bool := fun _ => false
def noF : Hf := fun _ _ => none
section
variable {prog : Program} {w : World} {A : Around} {L fa : Nat} {cd : Value} {m : Str → Option Value} {s : Shared} {E : Value → Shared → Prop}
theorem hp_new {h : Heap} {D : Nat} {X : Nat → Prop} (ho : h.get? (D+150) = some (tdct thI [] 0)) : Hp prog w h D [] 0 noF 0 X :=
  ⟨ho, List.nodup_nil, Nat.le_refl _, fun x hx => (nomatch hx), fun x hx => (nomatch hx), fun x hx => (nomatch hx), fun a n => rfl, fun x hx => (nomatch hx)⟩
/-- kept, held = (Cache(), {}) -/
theorem st3_ok (Y : LA A L fa cd) (tb : TopB w.params) (ti : TopIn w.params s.heap) (KX : Frag.In (Mine.hz.heap_155 w.params) s.heap) (hn : s.heap.Ns L m) (L0 : 150 ≤ L) {Q : Flow → Shared → Prop}
    (k : ∀ (g : Cch) (D : Nat) s', Cr prog w L D g.A1 g noA noH noF 0 0 (upS (upS m "held" (.ref (D+150))) "kept" (.ref (g.A1+150))) s' → (∀ x o, x ≠ L → s.heap.get? x = some o → s'.heap.get? x = some o ∧ g.lab x = none ∧ x ≠ D+150) → s'.gens = s.gens → s'.os = s.os → Q .next s') :
    wpAny (model prog w) A (exec (nthS lawB 2) (lawV L fa cd)) Q E s := by
  have Yr : Rdy w A s := ⟨Y.hh, by have := Y.hd; omega, Y.hu, tb, ti, top_size ti⟩
  obtain ⟨oL, hoL⟩ : ∃ o, s.heap.get? L = some o := by obtain ⟨o, es, ep, ho, _⟩ := hn; exact ⟨o, ho⟩
  obtain ⟨Z, rfl⟩ := up150 L0
  refine Assign_Tuple_swapped (names := ["kept", "held"]) (wpAny_Tuple (wpAny_items_cons (wpAny_Call_NameR (g_name ti (law_Cache ..) (gl_Cache _) (callWith_K0 (K := Mine.hz.heap_155 w.params) KX (by kernel_rfl) ?_))) rfl)) (by kernel_rfl) (by kernel_rfl)
  refine wpAny_call (codeAny_mono (mk_cache (prog := prog) Yr hoL) fun r s1 hr => ?_)
  obtain ⟨g, rfl, R, tm, ti1, keep, lab1, lab2, gens, drawn, os⟩ := hr
  refine wpAny_items_cons (wpAny_Dict_empty (wpAny_items_nil ⟨Nat.le_trans (Nat.le_refl 2) (by decide), ?_⟩)) rfl
  have sz1 : 150 ≤ s1.heap.objs.size := top_size ti1
  obtain ⟨D, hD⟩ := up150 sz1
  rw [hD]
  have S1 : Stp s s1 := ⟨keep, gens, os⟩
  have S2 := (Stp.refl s1).push { cls := .type "dict", data := .dict #[] }
  have hdict : ({ s1 with heap := s1.heap.push { cls := .type "dict", data := .dict #[] } } : Shared).heap.get? (D+150) = some (tdct thI [] 0) := by rw [← hD]; exact Heap.get?_push_size _ rfl
  have S3 := S2.push { cls := .type "tuple", data := .seq [Value.ref (g.A1+150), .ref (D+150)].toArray }
  refine unpackItems_tuple (items := [Value.ref (g.A1+150), .ref (D+150)].toArray) Y.hh ⟨_, Heap.get?_push_size _ rfl, rfl, _, rfl⟩ fun h' he => ?_
  have S4 := S3.ext he
  have hdict' : h'.get? (D+150) = some (tdct thI [] 0) := (((Stp.refl _).push { cls := .type "tuple", data := .seq [Value.ref (g.A1+150), .ref (D+150)].toArray }).ext he).keep _ _ hdict
  have C4 : Cr prog w (Z+150) D g.A1 g noA noH noF 0 0 m { s1 with heap := h' } :=
    ⟨tb, ti1.stp S4, (S1.trans S4).ns hn, by omega, fun q => absurd (Heap.lt_size (keep _ _ hoL)) (by rw [hD, q]; exact Nat.lt_irrefl _), R.move rfl fun x o r hl hx => ⟨S4.keep x o hx, hl⟩, ⟨[], 0, hp_new hdict'⟩, lab1 _ hn.lt, lab2 _ (Nat.le_of_eq hD), ⟨fun b k x e h => (nomatch h), fun b k x e h => (nomatch h), fun k h => (nomatch h)⟩, tm, rfl⟩
  refine wpAny_assignInOrder_more (wpAny_bindName (stn (law_k ..) (law_held ..) C4.ns fun h5 n5 e5 => ?_))
  have C5 := C4.put (t := s1.toks + 1) n5 e5
  refine wpAny_assignInOrder_more (wpAny_bindName (stn (law_k ..) (law_kept ..) C5.ns fun h6 n6 e6 => ?_))
  have C6 := C5.put (t := s1.toks + 1 + 1) n6 e6
  refine wpAny_assignInOrder_none (k g D _ C6 (fun x o hx h => ⟨?_, lab1 x (Heap.lt_size h), ?_⟩) gens os)
  · exact (e6.2 x hx).trans ((e5.2 x hx).trans (S4.keep x o (keep x o h)))
  · exact Nat.ne_of_lt (by rw [← hD]; exact Heap.lt_size (keep x o h))
/-- now, passed, good = (0, 0, True) -/
theorem st4_ok {D K : Nat} {g : Cch} {a : Ab} {hd : Int → Bool} {f : Hf} {B : Nat} (C : Cr prog w L D K g a hd f B 0 m s) (Y : LA A L fa cd) (hk : m "kept" = some (.ref (K+150))) (hh : m "held" = some (.ref (D+150))) {dl : Nat} (hdr : m "drawn" = some (.ref dl)) {Q : Flow → Shared → Prop}
    (k : ∀ m' s', Cr prog w L D K g a hd f B 0 m' s' → LV K D 0 0 m' → m' "drawn" = some (.ref dl) → Chg L D g s g s' → Q .next s') :
    wpAny (model prog w) A (exec (nthS lawB 3) (lawV L fa cd)) Q E s := by
  have eB : ∀ c p, Ev prog w A (lawV L fa cd) m (.Constant (.bool true) c p) (fun x => x = .bool true) := fun c p E s Q hn h => wpAny_Constant_bool (h _ _ rfl (.refl s))
  refine Assign_Tuple (wpAny_Tuple (items3 (P1 := IsI 0) (P2 := IsI 0) (P3 := fun x => x = .bool true) Ev.cint Ev.cint (eB _ _) C.ns rfl rfl rfl fun v1 v2 v3 s1 p1 p2 p3 S1 => ⟨Nat.le_trans (Nat.le_refl 3) (by decide), ?_⟩)) (by kernel_rfl) (by kernel_rfl)
  obtain ⟨t1, rfl⟩ := p1
  obtain ⟨t2, rfl⟩ := p2
  subst p3
  refine wpAny_assign_Tuple (items := [Value.int 0 t1, .int 0 t2, .bool true].toArray) Y.hh ⟨_, Heap.get?_push_size _ rfl, rfl, _, rfl⟩ rfl rfl fun h' he => ?_
  have S2 := (S1.push { cls := .type "tuple", data := .seq [Value.int 0 t1, .int 0 t2, .bool true].toArray }).ext he
  have C2 := C.stp S2
  refine wpAny_assignInOrder_more (wpAny_assign_Name (stn (law_k ..) (law_now ..) C2.ns fun h3 n3 e3 => ?_))
  have C3 := C2.put (t := s1.toks + 1) n3 e3
  refine wpAny_assignInOrder_more (wpAny_assign_Name (stn (law_k ..) (law_passed ..) C3.ns fun h4 n4 e4 => ?_))
  have C4 := C3.put (t := s1.toks + 1 + 1) n4 e4
  refine wpAny_assignInOrder_more (wpAny_assign_Name (stn (law_k ..) (law_good ..) C4.ns fun h5 n5 e5 => ?_))
  have C5 := C4.put (t := s1.toks + 1 + 1 + 1) n5 e5
  refine wpAny_assignInOrder_none (k _ _ C5 ⟨?_, ?_, ⟨t1, ?_⟩, ⟨t2, ?_⟩, upS_self ..⟩ ?_ (((S2.chg.trans (.put e3)).trans (.put e4)).trans (.put e5)))
  · refine (if_neg (by decide)).trans ?_
    refine (if_neg (by decide)).trans ?_
    refine (if_neg (by decide)).trans ?_
    exact hk
  · refine (if_neg (by decide)).trans ?_
    refine (if_neg (by decide)).trans ?_
    refine (if_neg (by decide)).trans ?_
    exact hh
  · exact (upS_ne (by decide)).trans ((upS_ne (by decide)).trans (upS_self ..))
  · exact (upS_ne (by decide)).trans (upS_self ..)
  · refine (if_neg (by decide)).trans ?_
    refine (if_neg (by decide)).trans ?_
    refine (if_neg (by decide)).trans ?_
    exact hdr
theorem law_form : lawB = [nthS lawB 0, nthS lawB 1, nthS lawB 2, nthS lawB 3, nthS lawB 4, nthS lawB 5] := by kernel_rfl
/-- from the third statement on -/
theorem tail_ok (Y : LA A L fa cd) (tb : TopB w.params) (ti : TopIn w.params s.heap) (KX : Frag.In (Mine.hz.heap_155 w.params) s.heap) (hn : s.heap.Ns L m) (L0 : 150 ≤ L) {dl : Nat} {vs : List Value} {ns : List Int} (hdr : m "drawn" = some (.ref dl)) (hl : s.heap.IsList dl vs.toArray) (hi : IntsAre vs ns) (hns : ∀ z ∈ ns, 0 ≤ z ∧ z < 65536) (hlen : ns.length ≤ 90) (dL : dl ≠ L)
    {Q : Flow → Shared → Prop} (k : ∀ s', (∀ x o, x ≠ L → s.heap.get? x = some o → s'.heap.get? x = some o) → s'.gens = s.gens → s'.os = s.os → Q (.ret (.bool true)) s') :
    wpAny (model prog w) A (execs [nthS lawB 2, nthS lawB 3, nthS lawB 4, nthS lawB 5] (lawV L fa cd)) Q E s := by
  refine wpAny_execs_cons (st3_ok Y tb ti KX hn L0 fun g D s1 C1 X1 g1 o1 => ?_)
  refine wpAny_execs_cons (st4_ok C1 Y (upS_self ..) ((upS_ne (by decide)).trans (upS_self ..)) (dl := dl) ((upS_ne (by decide)).trans ((upS_ne (by decide)).trans hdr)) fun m2 s2 C2 V2 d2 X2 => ?_)
  obtain ⟨oD, hoD, rD⟩ := hl
  obtain ⟨k1, k2, k3⟩ := X1 dl oD dL hoD
  obtain ⟨k4, k5⟩ := X2.keep dl oD dL k3 k2 k1
  refine wpAny_execs_cons (loop_ok C2 Y V2 d2 ⟨oD, k4, rD⟩ hi hns hlen dL k3 k5 fun g3 a3 hd3 f3 now3 ps3 m3 s3 C3 V3 X3 => ?_)
  have eG : ∀ pos, Ev prog w A (lawV L fa cd) m3 (.Name "good" pos) (fun x => x = .bool true) := fun pos => Ev.name (law_k ..) (law_good ..) V3.good rfl
  refine wpAny_execs_cons (wpAny_Return_some (eG _ E s3 _ C3.ns fun x s4 hx S4 => ?_))
  subst hx
  refine k s4 (fun x o hx h => ?_) (S4.gens.trans (X3.gens.trans (X2.gens.trans g1))) (S4.os.trans (X3.os.trans (X2.os.trans o1)))
  obtain ⟨y1, y2, y3⟩ := X1 x o hx h
  obtain ⟨y4, y5⟩ := X2.keep x o hx y3 y2 y1
  obtain ⟨y6, y7⟩ := X3.keep x o hx y3 y5 y4
  exact S4.keep x o y6
end
end Mine

end
/-! HN2 -/
section
open PySem PySem.W PySem.W.X PyProof.Rows
namespace Mine
section
variable {prog : Program} {w : World} {A : Around} {L fa : Nat} {cd : Value} {m : Str → Option Value} {s : Shared} {E : Value → Shared → Prop} {h₀ : Heap}
theorem fr_stp {s' : Shared} (F : Fr h₀ L s.heap m) (S : Stp s s') : Fr h₀ L s'.heap m := ⟨S.ns F.ns, fun b o e => S.keep _ _ (F.keep b o e), F.above⟩
theorem add_ok {l b : Nat} {vs ws : List Value} (F : Fr h₀ L s.heap m) (hl : s.heap.IsList l vs.toArray) (hb : s.heap.IsList b ws.toArray) (hsz : vs.length + ws.length ≤ sizeLine) {Q : Shared → Prop}
    (h : ∀ d1 s', Fr h₀ L s'.heap (upS m "drawn" (.ref d1)) → s'.heap.IsList d1 (vs ++ ws).toArray → d1 ≠ L → s'.gens = s.gens → s'.os = s.os → Q s') :
    wpAny (model prog w) A (binaryOp .Add (.ref l) (.ref b)) (fun v s1 => wpAny (model prog w) A (storeName (lawV L fa cd) "drawn" v) (fun _ => Q) E s1) E s := by
  refine add_lists F (News.nil) hl hb (fun h' F6 N6 => ?_) hsz
  have hd6 : h'.get? s.heap.objs.size = some { cls := .type "list", data := .seq (vs ++ ws).toArray } := (N6 _ (List.mem_cons_self ..)).1
  have hne : s.heap.objs.size ≠ L := fun q => absurd F.ns.lt (by rw [← q]; exact Nat.lt_irrefl _)
  refine stn (law_k ..) (law_drawn ..) F6.ns fun h7 n7 e7 => ?_
  exact h _ _ (F6.set n7 e7) ⟨_, (e7.2 _ hne).trans hd6, rfl, _, rfl⟩ hne rfl rfl
theorem usual_len : usual.length = 14 := rfl
/-- drawn = drawn + _LAW_USUAL()[len(drawn):] -/
theorem st2_ok (Y : LA A L fa cd) (tb : TopB w.params) (F : Fr h₀ L s.heap m) (ti0 : TopIn w.params h₀) (KX0 : Frag.In (Mine.hz.heap_155 w.params) h₀) (L0 : 150 ≤ L) {d0 : Nat} {ys : List Value} {ns : List Int} (hdr : m "drawn" = some (.ref d0)) (hl : s.heap.IsList d0 ys.toArray) (hi : IntsAre ys ns) (hlen : ns.length ≤ 14)
    {Q : Flow → Shared → Prop} (k : ∀ d1 vs s', Fr h₀ L s'.heap (upS m "drawn" (.ref d1)) → s'.heap.IsList d1 (List.toArray vs) → IntsAre vs (ns ++ usual.drop ns.length) → d1 ≠ L → s'.gens = s.gens → s'.os = s.os → Q .next s') :
    wpAny (model prog w) A (exec (nthS lawB 1) (lawV L fa cd)) Q E s := by
  have hyl : ys.length = ns.length := hi.length
  have eD : ∀ pos, Ev prog w A (lawV L fa cd) m (.Name "drawn" pos) (fun x => x = .ref d0) := fun pos => Ev.name (law_k ..) (law_drawn ..) hdr rfl
  refine wpAny_Assign_Name (wpAny_BinOp (eD _ E s _ F.ns fun x s1 hx S1 => Subscript_ ?_)) (by kernel_rfl)
  subst hx
  have F1 := fr_stp F S1
  have ti1 : TopIn w.params s1.heap := fun b o e => F1.keep _ _ (ti0 b o e)
  obtain ⟨oL, hoL⟩ : ∃ o, s1.heap.get? L = some o := by obtain ⟨o, es, ep, ho, _⟩ := F1.ns; exact ⟨o, ho⟩
  obtain ⟨Z, hZ⟩ := up150 L0
  rw [hZ] at hoL
  have Yr : Rdy w A s1 := ⟨Y.hh, by have := Y.hd; omega, Y.hu, tb, ti1, top_size ti1⟩
  refine wpAny_Call_NameR (g_name ti1 (law_USUAL ..) (gl_USUAL _) (callWith_K0 (K := Mine.hz.heap_155 w.params) (KX0.keeps F1.keep) (by kernel_rfl) ?_))
  refine wpAny_call (codeAny_mono (us_call (prog := prog) Yr hoL) fun r s2 hr => ?_)
  obtain ⟨l, us, rfl, hlu, hiu, S2⟩ := hr
  have F2 := fr_stp F1 S2
  have ti2 : TopIn w.params s2.heap := fun b o e => F2.keep _ _ (ti0 b o e)
  refine wpAny_Slice ?_
  rw [evalPart_some]
  refine wpAny_Call_NameR (b_name ti2 (law_len ..) (gl_len _) (bl_len _) (Calls.callWith_builtin rfl (Calls.evalArgs_plain (Calls.spliced_cons (eD _ E s2 _ F2.ns fun x s3 hx S3 => Calls.spliced_nil ?_)))))
  subst hx
  have S13 := (S1.trans S2).trans S3
  refine Calls.call_len_list (hl.at (S13.keep _)) (by simp; omega) ?_
  rw [evalPart_none]
  refine wpAny_pure ?_
  refine wpAny_pure ?_
  have hul : us.toArray.size ≤ sizeLine := by
    have : us.length = 14 := hiu.length
    exact Nat.le_trans (show us.toArray.size ≤ 14 by simp [this]) (by decide)
  have hlu3 := hlu.at (S3.keep _)
  refine tail_T (T := "list") (hlu3.push _).typeIs list_getitem_lookup (wpAny_getItem_list_slice (hlu3.push _) (Heap.IsSliceOf.new ..) (.int _ _) .none .none (by simp) ?_ hul) (by with_unfolding_all rfl)
  have hpick : IntsAre (slicePick us.toArray (some ((ys.toArray.size : Nat) : Int)) none none).toList (usual.drop ns.length) := by
    have := slice_ints_from hiu (x := ((ys.toArray.size : Nat) : Int)) (by omega) (by rw [usual_len]; simp; omega)
    simpa [hyl] using this
  generalize slicePick us.toArray (some ((ys.toArray.size : Nat) : Int)) none none = pk at hpick ⊢
  have S4 := ((S13.tok (s3.toks + 1 + 1)).push { cls := .type "slice", data := .fields #[.int ys.toArray.size (s3.toks + 1), .none, .none] })
  have S5 := S4.push { cls := .type "list", data := .seq pk }
  have F5 := fr_stp F S5
  refine add_ok (vs := ys) (ws := pk.toList) F5 (hl.at (S5.keep _)) ⟨_, Heap.get?_push_size _ rfl, rfl, _, rfl⟩ ?_ fun d1 s' F' hl' hd' g' o' => k d1 _ s' F' hl' (hi.append hpick) hd' (g'.trans S5.gens) (o'.trans S5.os)
  rw [hpick.length, List.length_drop, usual_len]
  exact Nat.le_trans (show ys.length + (14 - ns.length) ≤ 28 by omega) (by decide)
theorem rest_ok (Y : LA A L fa cd) (tb : TopB w.params) (F : Fr h₀ L s.heap m) (ti0 : TopIn w.params h₀) (KX0 : Frag.In (Mine.hz.heap_155 w.params) h₀) (L0 : 150 ≤ L) {d0 : Nat} {ys : List Value} {ns : List Int} (hdr : m "drawn" = some (.ref d0)) (hl : s.heap.IsList d0 ys.toArray) (hi : IntsAre ys (ns.map fun z => z.fmod 65536)) (hlen : ns.length ≤ 14)
    {Q : Flow → Shared → Prop} (k : ∀ s', (∀ b o, h₀.get? b = some o → s'.heap.get? b = some o) → s'.gens = s.gens → s'.os = s.os → Q (.ret (.bool true)) s') :
    wpAny (model prog w) A (execs [nthS lawB 1, nthS lawB 2, nthS lawB 3, nthS lawB 4, nthS lawB 5] (lawV L fa cd)) Q E s := by
  refine wpAny_execs_cons (st2_ok Y tb F ti0 KX0 L0 hdr hl hi (by simpa using hlen) fun d1 vs s1 F1 hl1 hi1 hd1 g1 o1 => ?_)
  refine tail_ok Y tb (fun b o e => F1.keep _ _ (ti0 b o e)) (KX0.keeps F1.keep) F1.ns L0 (upS_self ..) hl1 hi1 (fun z hz => ?_) ?_ hd1 fun s' kp g2 o2 => k s' (fun b o e => kp b o (Nat.ne_of_lt (Nat.lt_of_lt_of_le (Heap.lt_size e) F1.above)) (F1.keep b o e)) (g2.trans g1) (o2.trans o1)
  · rcases List.mem_append.mp hz with hz | hz
    · obtain ⟨y, _, rfl⟩ := List.mem_map.mp hz
      exact ⟨Int.fmod_nonneg_of_pos _ (by decide), Int.fmod_lt_of_pos _ (by decide)⟩
    · have : ∀ z ∈ usual, 0 ≤ z ∧ z < 65536 := by decide
      exact this z (List.mem_of_mem_drop hz)
  · simp only [List.length_append, List.length_map, List.length_drop, usual_len]
    omega
end
end Mine

end
section
open PySem PySem.W PySem.W.X PySem.W.ZRun PyProof.Rows
namespace Mine
/-- behind the first statement -/
def Drawn (s₁ : Shared) (ns : List Int) (s' : Shared) : Prop := ∃ (d0 : Nat) (ys : List Value) (m : Str → Option Value), Fr s₁.heap s₁.heap.objs.size s'.heap m ∧ m "drawn" = some (.ref d0) ∧ s'.heap.IsList d0 ys.toArray ∧ IntsAre ys ((ns.take 14).map fun z => z.fmod 65536) ∧ s'.gens = s₁.gens ∧ s'.os = s₁.os
def DrawnF (s₁ : Shared) (f : Flow) (s' : Shared) : Prop := f = .next ∧ ∃ ns, Drawn s₁ ns s'
theorem post_true (args ds : List WData) : PySem.Challenge.rw_fh0033_01.row.claim.post args (.bool true) ds = true := by kernel_rfl
theorem la_caller (L fa : Nat) (cd : Value) : LA (callerA.deeper (lawV L fa cd)) L fa cd := ⟨rfl, (by show 1 + claimMargin + 1 + 300 < recursionLimit; decide +kernel), (by show 4 + 3 + 402 < cLine; decide +kernel), rfl⟩

theorem law_holds : PySem.Challenge.rw_fh0033_01.Holds := by
  refine Mine.hz ?_
  k_fill
  intro w s₀ s₁ mg mb G y fa o pm cd doc dV kV ho hd hcd hD hmg hg args vals as L hpre hlay hrd hwl hlo
  obtain ⟨ZA, ZI, ZN, ZT⟩ := z_facts (fun P => by kernel_rfl) y
  have KX : Frag.In (Mine.hz.heap_155 w.params) s₁.heap := InK.keeps w s₀.heap s₁.heap ZI L.keeps
  have TI : TopIn w.params s₁.heap ∧ TopB w.params := top_gen ZA ZN L.keeps
  have X := (Ground.X G).1
  have V := (Ground.X G).2
  refine Ground.open G ?_
  intro T B D TE TW
  wrow_args hpre hlay hrd hwl hlo
  obtain ⟨hat, hsz⟩ := script_at L
  have htk := script_toks L ZT
  rw [ZN] at hat hsz
  subst hat
  first | refine callC_kw (enter_call ?_) | refine enter_call ?_
  w_top on
  w_call any ho hd hcd hD T F
  refine wpAny_execs_cons ?_
  refine wpAny_mono (Q := DrawnF s₁) ?_ (fun f s' h => ?_) (fun _ _ e => e)
  · k_drop
    k_steps
    all_goals (refine ⟨rfl, _, _, _, _, (by assumption), (if_pos rfl), ?_, (by assumption), rfl, rfl⟩)
    rename_i N9 _
    exact ⟨_, (N9 _ (List.mem_cons_self ..)).1, rfl, _, rfl⟩
  · obtain ⟨rfl, ns, d0, ys, m, F1, hdr, hl, hi, hg1, ho1⟩ := h
    refine rest_ok (la_caller _ _ _) TI.2 F1 TI.1 KX (Nat.le_trans (by decide) (Nat.le_of_eq hsz.symm)) hdr hl hi (by rw [List.length_take]; omega) fun s' kp g' o' => ?_
    exact GoodW.toG ⟨.inl ⟨_, .bool true, [], rfl, fun _ => rfl, .bool .., post_true _ _, fun _ => ⟨List.nodup_nil, fun a h => nomatch h⟩⟩, kp, o'.trans ho1, (g'.trans hg1).trans hg⟩
end Mine
end
theorem PySem.Challenge.cw_fh0033_01_holds : PySem.Challenge.rw_fh0033_01.Holds :=
  Mine.law_holds
