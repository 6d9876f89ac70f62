/-
  Regions by a plan: what only reads is taken first, what writes is carried out where nothing else can come up; one walk serves every order that the model may draw. For whatever program. No condition.
-/
import Derived.Test.YtdffddiaoheklaaTk
set_option linter.unusedSimpArgs false
set_option linter.unusedVariables false
namespace Go.Proofs.Ytdffddiaoheklaa
open Go

section
variable {P : Program} {ops : Array Oper} {Q : Exit → Act → World → Prop} {S : World → Prop}

/-- In state a, in every world that meets S, operation o leaves v in its temporary and does nothing else. -/
def Gives (P : Program) (ops : Array Oper) (S : World → Prop) (o : Oper) (v : Value) (a : Act) : Prop :=
  (Region.wanted o (yielded ops a.tmps) = true ∧ ∀ w, S w → (execOp a.eval o).run P w = .ok (.value v) w) ∨
  (Region.wanted o (yielded ops a.tmps) = false ∧ v = undef)

theorem Gives.wpOp {i : Nat} {o : Oper} {v : Value} {a : Act} (hi : ops[i]? = some o) (hy : Gives P ops S o v a)
    {K : Act → World → Prop} {w : World} (hS : S w) (h : K (a.put o.dst v) w) : wpOp P ops Q i K a w := by
  unfold Go.wpOp
  simp only [hi]
  rcases hy with ⟨hw, hv⟩ | ⟨hw, rfl⟩
  · rw [if_pos hw]; refine .inl ?_; unfold Oper.wp; rw [hv w hS]; exact h
  · rw [if_neg (by simp [hw])]; exact h

theorem Gives.same {o : Oper} {v : Value} {a a' : Act} (hy : Gives P ops S o v a) (he : execOp a'.eval o = execOp a.eval o)
    (hw : Region.wanted o (yielded ops a'.tmps) = Region.wanted o (yielded ops a.tmps)) : Gives P ops S o v a' := by
  unfold Gives at *
  rw [he, hw]; exact hy

/-- An operation that is apart from o: o's value may lie in its temporary before or behind it. -/
theorem wpOp_before {j : Nat} {oi oj : Oper} {v : Value} (hj : ops[j]? = some oj) (hap : oi.apart ops oj = true)
    (hsi : ∀ cs b, oi.op ≠ .select cs b) (hsj : ∀ cs b, oj.op ≠ .select cs b)
    (hQ : ∀ c a w, ¬ Q (.panic c) a w) {K : Act → World → Prop} {a : Act} {w : World}
    (hy : Gives P ops S oi v a) (h : wpOp P ops Q j K (a.put oi.dst v) w) :
    wpOp P ops Q j (fun a' w' => Gives P ops S oi v a' ∧ K (a'.put oi.dst v) w') a w := by
  obtain ⟨h1, h2, h3⟩ := Oper.apart_spec hap
  have keep : ∀ u, Gives P ops S oi v (a.put oj.dst u) := fun u =>
    hy.same (execOp_put oi hsi a oj.dst u h3) (wanted_put oi a oj.dst u h3)
  have keepD : ∀ d u, Gives P ops S oi v (({ a with defers := d :: a.defers } : Act).put oj.dst u) := fun d u =>
    (hy.same (a' := { a with defers := d :: a.defers }) rfl rfl).same (execOp_put oi hsi _ oj.dst u h3) (wanted_put oi _ oj.dst u h3)
  unfold wpOp at *
  simp only [hj] at *
  rw [wanted_put oj a oi.dst v h1] at h
  by_cases hw : Region.wanted oj (yielded ops a.tmps) = true
  · rw [if_pos hw] at h ⊢
    rcases h with h | ⟨hasks, hlets⟩
    · refine .inl ?_
      unfold Oper.wp at *
      rw [execOp_put oj hsj a oi.dst v h1] at h
      cases hr : (execOp a.eval oj).run P w with
      | ok n w' =>
        rw [hr] at h
        cases n with
        | value u => exact ⟨keep u, by have h' : K ((a.put oi.dst v).put oj.dst u) w' := h; rw [← Act.put_comm a v u h2]; exact h'⟩
        | skip => exact ⟨keep undef, by have h' : K ((a.put oi.dst v).put oj.dst undef) w' := h; rw [← Act.put_comm a v undef h2]; exact h'⟩
        | defer d =>
          have h' : K (({ a.put oi.dst v with defers := d :: (a.put oi.dst v).defers } : Act).put oj.dst undef) w' := h
          refine ⟨keepD d undef, ?_⟩
          rw [← Act.put_comm _ v undef h2, ← Act.put_defers]
          exact h'
        | enter f args =>
          refine Calls.mono h fun e w'' he => ?_
          cases e with
          | returned u => exact ⟨keep u, by have h' : K ((a.put oi.dst v).put oj.dst u) w'' := he; rw [← Act.put_comm a v u h2]; exact h'⟩
          | panicked c => exact (hQ _ _ _ he).elim
          | outgrown => exact he
        | row r args => exact Rows.mono h fun u w'' he => ⟨keep u, by have h' : K ((a.put oi.dst v).put oj.dst u) w'' := he; rw [← Act.put_comm a v u h2]; exact h'⟩
        | _ => exact h
      | halt x w' =>
        rw [hr] at h
        cases x with
        | panic u => exact (hQ _ _ _ h).elim
        | _ => exact h
    · exact .inr ⟨by unfold Oper.asks at *; rw [execOp_put oj hsj a oi.dst v h1] at hasks; exact hasks, hlets⟩
  · rw [if_neg hw] at h ⊢
    exact ⟨keep undef, by rw [← Act.put_comm a v undef h2]; exact h⟩

/-- Whatever order is picked from here on; S holds behind each operation that is carried out, but for the sink. -/
def wpS (P : Program) (ops : Array Oper) (Q : Exit → Act → World → Prop) (S : World → Prop) (sink : Option Nat) : Nat → Array Bool → Act → World → Prop
  | 0, listed, a, w => Region.ready .any ops listed = [] ∧ Q .normal a w
  | fuel + 1, listed, a, w =>
    (Region.ready .any ops listed = [] → Q .normal a w) ∧
    ∀ i ∈ Region.ready .any ops listed, wpOp P ops Q i (fun a' w' => (sink = some i ∨ S w') ∧ wpS P ops Q S sink fuel (listed.setIfInBounds i true) a' w') a w

theorem wpAny_of_wpS {sink : Option Nat} : ∀ (fuel : Nat) (listed : Array Bool) (a : Act) (w : World), wpS P ops Q S sink fuel listed a w → wpAny P .any ops Q fuel listed a w
  | 0, _, _, _, h => h
  | fuel + 1, _, _, _, h => ⟨h.1, fun i hi => wpOp_mono (fun a' w' h' => wpAny_of_wpS fuel _ a' w' h'.2) (h.2 i hi)⟩

/-- What has come up is closed under what it waited for. -/
def ClosedUp (ops : Array Oper) (listed : Array Bool) : Prop :=
  listed.size = ops.size ∧ ∀ j oj, ops[j]? = some oj → listed.getD j false = true → ∀ e ∈ oj.after, Region.binds .any e = true → listed.getD e.on false = true

theorem getD_tf {listed : Array Bool} {i : Nat} (h : listed.getD i true = false) : listed.getD i false = false := by
  rcases Nat.lt_or_ge i listed.size with h' | h'
  · simp [h'] at h ⊢; exact h
  · simp [Array.getElem?_eq_none h'] at h

theorem ClosedUp.set {listed : Array Bool} {i : Nat} (h : ClosedUp ops listed) (hi : i ∈ Region.ready .any ops listed) : ClosedUp ops (listed.setIfInBounds i true) := by
  obtain ⟨_, oi, hoi, hall⟩ := mem_ready.1 hi
  refine ⟨by simp [h.1], fun j oj hj hl e he hb => ?_⟩
  by_cases hij : i = j
  · subst hij
    obtain rfl : oj = oi := Option.some.inj (hj.symm.trans hoi)
    exact getD_set_true (hall e he hb)
  · rw [getD_set_ne false hij] at hl
    exact getD_set_true (h.2 j oj hj hl e he hb)

/-- The last operation waits, through others, for every other one. -/
def sinkOk (ops : Array Oper) (f : Nat) : Bool :=
  decide (f < ops.size) && (List.range ops.size).all fun i => i == f || (List.range ops.size).any fun j => decide (i < j) && decide (j ≤ f) &&
    match ops[j]? with
    | some oj => oj.after.any fun e => Region.binds .any e && e.on == i
    | none => false

theorem sink_waits {f : Nat} (hs : sinkOk ops f = true) {listed : Array Bool} (hc : ClosedUp ops listed) :
    ∀ d i, f - i = d → i < ops.size → i ≠ f → listed.getD i true = false → f ∉ Region.ready .any ops listed := by
  simp only [sinkOk, Bool.and_eq_true, decide_eq_true_eq, List.all_eq_true, List.mem_range, Bool.or_eq_true, beq_iff_eq] at hs
  obtain ⟨hf, hs⟩ := hs
  intro d
  induction d using Nat.strongRecOn with
  | _ d ih =>
    intro i hd hi hne hun hr
    obtain ⟨j, hjm, hj⟩ := List.any_eq_true.1 ((hs i hi).resolve_left hne)
    simp only [Bool.and_eq_true, decide_eq_true_eq] at hj
    obtain ⟨⟨hij, hjf⟩, hw⟩ := hj
    have hjs : j < ops.size := List.mem_range.1 hjm
    cases hoj : ops[j]? with
    | none => simp [hoj] at hw
    | some oj =>
      simp only [hoj] at hw
      obtain ⟨e, he, hb⟩ := Array.any_eq_true'.1 hw
      simp only [Bool.and_eq_true, beq_iff_eq] at hb
      by_cases hjf' : j = f
      · subst hjf'
        obtain ⟨_, of, hof, hall⟩ := mem_ready.1 hr
        obtain rfl : of = oj := Option.some.inj (hof.symm.trans hoj)
        have := hall e he hb.1
        rw [hb.2, getD_tf hun] at this
        cases this
      · cases hl : listed.getD j false with
        | true =>
          have := hc.2 j oj hoj hl e he hb.1
          rw [hb.2, getD_tf hun] at this
          cases this
        | false =>
          have hl' : listed.getD j true = false := by
            have : j < listed.size := by rw [hc.1]; exact hjs
            simp [this] at hl ⊢; exact hl
          exact ih (f - j) (by omega) j rfl hjs hjf' hl' hr

/-- AN OPERATION THAT MAY COME UP NOW MAY BE TAKEN FIRST. -/
theorem wpS_first {sink : Option Nat} (hsink : ∀ f, sink = some f → sinkOk ops f = true) {i : Nat} (hne : sink ≠ some i) {oi : Oper} {v : Value} (hi : ops[i]? = some oi)
    (hsel : ∀ (j : Nat) (o : Oper) cs b, ops[j]? = some o → o.op ≠ .select cs b) (hQ : ∀ c a w, ¬ Q (.panic c) a w) :
    ∀ (fuel : Nat) (listed : Array Bool) (a : Act) (w : World), ClosedUp ops listed →
      (∀ j oj, ops[j]? = some oj → j ≠ i → listed.getD j true = false → (∀ e ∈ oj.after, Region.binds .any e = true → e.on ≠ i) → oi.apart ops oj = true) →
      i ∈ Region.ready .any ops listed → Gives P ops S oi v a → S w →
      wpS P ops Q S sink fuel (listed.setIfInBounds i true) (a.put oi.dst v) w → wpS P ops Q S sink (fuel + 1) listed a w := by
  intro fuel
  induction fuel with
  | zero =>
    intro listed a w _ _ hr hy hS H
    refine ⟨fun h => (by rw [h] at hr; cases hr), fun j hj => ?_⟩
    by_cases hji : j = i
    · subst hji; exact hy.wpOp hi hS ⟨.inr hS, H⟩
    · have := ready_mono hj hji
      rw [H.1] at this
      cases this
  | succ fuel ih =>
    intro listed a w hc hfree hr hy hS H
    refine ⟨fun h => (by rw [h] at hr; cases hr), fun j hj => ?_⟩
    by_cases hji : j = i
    · subst hji; exact hy.wpOp hi hS ⟨.inr hS, H⟩
    · have h1 := H.2 j (ready_mono hj hji)
      obtain ⟨hjun, oj, hoj, hall⟩ := mem_ready.1 hj
      have hiun := (mem_ready.1 hr).1
      have his : i < ops.size := (Array.getElem?_eq_some_iff.1 hi).1
      have hjs : sink ≠ some j := fun hsj => sink_waits (hsink j hsj) hc _ i rfl his (fun e => hne (e ▸ hsj)) hiun hj
      have hnot : ∀ e ∈ oj.after, Region.binds .any e = true → e.on ≠ i := fun e he hb heq => by
        have h1 := hall e he hb
        rw [heq, getD_tf hiun] at h1
        cases h1
      have h2 := wpOp_before hoj (hfree j oj hoj hji hjun hnot) (fun cs b => hsel i oi cs b hi) (fun cs b => hsel j oj cs b hoj) hQ hy h1
      refine wpOp_mono (fun a' w' h3 => ?_) h2
      have hS' : S w' := h3.2.1.resolve_left hjs
      refine ⟨.inr hS', ih (listed.setIfInBounds j true) a' w' (hc.set hj) (fun k ok hk hki hun hno => ?_) (ready_mono hr (Ne.symm hji)) h3.1 hS' ?_⟩
      · refine hfree k ok hk hki ?_ hno
        by_cases hjk : j = k
        · subst hjk; exact hjun
        · rw [getD_set_ne true hjk] at hun; exact hun
      · rw [Array.setIfInBounds_comm _ _ hji]
        exact h3.2.2
end

/-! ### Plans -/
/-- (0, i, _): i is taken; (1, i, _): i is carried out; (2, i, j): i and j are carried out, in either order. -/
abbrev PlanL := List (Nat × Nat × Nat)

def planOk (ops : Array Oper) (sink : Option Nat) : PlanL → Array Bool → Bool
  | [], listed => (Region.ready .any ops listed).isEmpty
  | (0, i, _) :: r, listed => (Region.ready .any ops listed).contains i && Region.free .any ops listed i && (sink != some i) && planOk ops sink r (listed.setIfInBounds i true)
  | (1, i, _) :: r, listed => decide (Region.ready .any ops listed = [i]) && planOk ops sink r (listed.setIfInBounds i true)
  | (_ + 2, i, j) :: r, listed => decide (Region.ready .any ops listed = [i, j]) && decide (Region.ready .any ops (listed.setIfInBounds i true) = [j]) &&
      decide (Region.ready .any ops (listed.setIfInBounds j true) = [i]) && (sink != some i) && (sink != some j) && (i != j) && planOk ops sink r ((listed.setIfInBounds i true).setIfInBounds j true)
def planN : PlanL → Nat
  | [] => 0
  | (0, _, _) :: r => planN r + 1
  | (1, _, _) :: r => planN r + 1
  | (_ + 2, _, _) :: r => planN r + 1 + 1
def dstsOk (n : Nat) (ops : Array Oper) : Bool := ops.all fun o => match o.dst with | some d => decide (d < n) | none => true
def regOk (n : Nat) (ops : Array Oper) (sink : Option Nat) (pl : PlanL) : Bool :=
  Region.noSelect ops && dstsOk n ops && (match sink with | some f => sinkOk ops f | none => true) && decide (planN pl = ops.size) && planOk ops sink pl (Array.replicate ops.size false)

def bindO (o : Option Value) (k : Value → Prop) : Prop := ∃ v, o = some v ∧ k v
theorem bindO_some (v : Value) (k : Value → Prop) : bindO (some v) k = k v := by simp [bindO]
theorem bindO_congr {o o' : Option Value} {k : Value → Prop} (h : o = o') : bindO o k = bindO o' k := by rw [h]

/-- What an operation does that is carried out: it hands back a value (nothing: undef), or it is a call. -/
def DoOp (P : Program) (e : Env) (w : World) (o : Oper) (K : Value → World → Prop) : Prop :=
  match (execOp (ev e) o).run P w with
  | .ok (.value v) w' => K v w'
  | .ok .skip w' => K undef w'
  | .ok (.enter f args) w' => Calls P f args w' fun x w'' => ∃ v, x = .returned v ∧ K v w''
  | _ => False

def wantedE (ops : Array Oper) (e : Env) (g : Option (Nat × Bool)) : Prop :=
  match g with
  | none => True
  | some (j, want) => ∃ t, (ops[j]?).bind (·.dst) = some t ∧ e t = .bool want
def unwantedE (ops : Array Oper) (e : Env) (g : Option (Nat × Bool)) : Prop :=
  match g with
  | none => False
  | some (j, want) => ∃ t v, (ops[j]?).bind (·.dst) = some t ∧ e t = v ∧ v ≠ .bool want

def dstV (ops : Array Oper) (e : Env) (j : Nat) : Option Value := ((ops[j]?).bind (·.dst)).map e
def guardV (v : Option Value) (want : Bool) (yes no : Prop) : Prop :=
  match v with
  | some (.bool b) => if b = want then yes else no
  | some _ => no
  | none => False
def guardE (ops : Array Oper) (e : Env) (g : Option (Nat × Bool)) (yes no : Prop) : Prop :=
  match g with
  | none => yes
  | some (j, want) => guardV (dstV ops e j) want yes no
theorem guardE_cases {ops : Array Oper} {e : Env} {g : Option (Nat × Bool)} {yes no : Prop} (h : guardE ops e g yes no) : (wantedE ops e g ∧ yes) ∨ (unwantedE ops e g ∧ no) := by
  cases g with
  | none => exact .inl ⟨trivial, h⟩
  | some p =>
    obtain ⟨j, want⟩ := p
    have h' : guardV (dstV ops e j) want yes no := h
    cases ht : (ops[j]?).bind (·.dst) with
    | none => simp [dstV, ht, guardV] at h'
    | some t =>
      simp only [dstV, ht, Option.map_some, guardV] at h'
      cases hv : e t with
      | bool b =>
        simp only [hv] at h'
        by_cases hb : b = want
        · rw [if_pos hb] at h'; exact .inl ⟨⟨t, ht, by rw [hv, hb]⟩, h'⟩
        · rw [if_neg hb] at h'; exact .inr ⟨⟨t, _, ht, hv, fun hh => hb (by cases hh; rfl)⟩, h'⟩
      | _ => simp only [hv] at h'; exact .inr ⟨⟨t, _, ht, hv, by simp⟩, h'⟩

def withOp (ops : Array Oper) (i : Nat) (k : Oper → Prop) : Prop := ∃ o, ops[i]? = some o ∧ k o
/-- One operation is taken. -/
def TakeO (P : Program) (ops : Array Oper) (H : Hold) (K : Env → World → Prop) (e : Env) (w : World) (o : Oper) : Prop :=
  guardE ops e o.guard (bindO (tkOp P H e w o.op) fun v => K (updO e o.dst v) w) (K (updO e o.dst undef) w)
/-- One operation is carried out; C: what its step must keep. -/
def DoO (P : Program) (ops : Array Oper) (C : World → World → Prop) (K : Env → World → Prop) (e : Env) (w : World) (o : Oper) : Prop :=
  guardE ops e o.guard (DoOp P e w o fun v w' => C w w' ∧ K (updO e o.dst v) w') (K (updO e o.dst undef) w)
def DoAt (P : Program) (ops : Array Oper) (H : Hold) (sink : Option Nat) (i : Nat) (K : Env → World → Prop) (e : Env) (w : World) : Prop :=
  withOp ops i (DoO P ops (fun w w' => sink = some i ∨ keeps H w w') K e w)
def WPlan (P : Program) (ops : Array Oper) (H : Hold) (sink : Option Nat) (Q : Post) : PlanL → Env → World → Prop
  | [], e, w => Q .normal e w
  | (0, i, _) :: r, e, w => withOp ops i (TakeO P ops H (WPlan P ops H sink Q r) e w)
  | (1, i, _) :: r, e, w => DoAt P ops H sink i (WPlan P ops H sink Q r) e w
  | (_ + 2, i, j) :: r, e, w => DoAt P ops H sink i (DoAt P ops H sink j (WPlan P ops H sink Q r)) e w ∧ DoAt P ops H sink j (DoAt P ops H sink i (WPlan P ops H sink Q r)) e w

section
variable {P : Program} {ops : Array Oper} {n : Nat} {Q : Post}

theorem lift_panic (c : List PanicEntry) (a : Act) (w : World) : ¬ lift n Q (.panic c) a w := fun ⟨_, _, h, _⟩ => h

theorem wanted_of {e : Env} {a : Act} (ha : Fr n e a) {o : Oper} (hd : dstsOk n ops = true) (h : wantedE ops e o.guard) : Region.wanted o (yielded ops a.tmps) = true := by
  unfold Region.wanted
  cases hg : o.guard with
  | none => rfl
  | some p =>
    obtain ⟨j, want⟩ := p
    rw [hg] at h
    obtain ⟨t, ht, he⟩ := h
    have hlt : t < a.tmps.size := by
      cases hoj : ops[j]? with
      | none => simp [hoj] at ht
      | some oj =>
        simp [hoj] at ht
        have := Array.all_eq_true_iff_forall_mem.1 hd oj (Array.mem_of_getElem? hoj)
        simp [ht] at this
        rw [ha.size]; exact this
    have hv : a.tmps[t]? = some (.bool want) := by
      have := ha.get t
      simp [hlt] at this
      rw [Array.getElem?_eq_getElem hlt, this, he]
    simp [yielded, ht, hv]
theorem unwanted_of {e : Env} {a : Act} (ha : Fr n e a) {o : Oper} (hd : dstsOk n ops = true) (h : unwantedE ops e o.guard) : Region.wanted o (yielded ops a.tmps) = false := by
  unfold Region.wanted
  cases hg : o.guard with
  | none => rw [hg] at h; exact h.elim
  | some p =>
    obtain ⟨j, want⟩ := p
    rw [hg] at h
    obtain ⟨t, v, ht, he, hne⟩ := h
    have hlt : t < a.tmps.size := by
      cases hoj : ops[j]? with
      | none => simp [hoj] at ht
      | some oj =>
        simp [hoj] at ht
        have := Array.all_eq_true_iff_forall_mem.1 hd oj (Array.mem_of_getElem? hoj)
        simp [ht] at this
        rw [ha.size]; exact this
    have hv : a.tmps[t]? = some v := by
      have := ha.get t
      simp [hlt] at this
      rw [Array.getElem?_eq_getElem hlt, this, he]
    simp only [yielded, ht, Option.bind_some, hv]
    cases v with
    | bool b => simp; intro hb; exact hne (by rw [hb])
    | _ => rfl

theorem dst_lt (hd : dstsOk n ops = true) {i : Nat} {o : Oper} (ho : ops[i]? = some o) : ∀ t, o.dst = some t → t < n := fun t ht => by
  have := Array.all_eq_true_iff_forall_mem.1 hd o (Array.mem_of_getElem? ho)
  simpa [ht] using this

theorem wpOp_of_do {e : Env} {a : Act} (ha : Fr n e a) (hd : dstsOk n ops = true) {i : Nat} {o : Oper} (ho : ops[i]? = some o) {w : World} {K : Value → World → Prop} {K' : Act → World → Prop}
    (hw : Region.wanted o (yielded ops a.tmps) = true) (h : DoOp P e w o K) (hK : ∀ v w', K v w' → K' (a.put o.dst v) w') : wpOp P ops (lift n Q) i K' a w := by
  unfold wpOp
  simp only [ho]
  rw [if_pos hw]
  refine .inl ?_
  unfold Oper.wp
  rw [ha.eval]
  unfold DoOp at h
  cases hr : (execOp (ev e) o).run P w with
  | ok nx w' =>
    rw [hr] at h
    cases nx with
    | value v => exact hK _ _ h
    | skip => exact hK _ _ h
    | enter f args => exact Calls.mono h fun x w'' ⟨v, hx, hv⟩ => by subst hx; exact hK _ _ hv
    | _ => exact h.elim
  | halt x w' => rw [hr] at h; exact h.elim

theorem plan_last {sink : Option Nat} (hs : ∀ f, sink = some f → sinkOk ops f = true) {listed : Array Bool} (hc : ClosedUp ops listed) {j : Nat} (hr : j ∈ Region.ready .any ops listed)
    {r : PlanL} (hok : planOk ops sink r (listed.setIfInBounds j true) = true) (hsj : sink = some j) : r = [] := by
  have hs' := hs j hsj
  cases r with
  | nil => rfl
  | cons p r =>
    exfalso
    obtain ⟨b, k, k2⟩ := p
    have hkr : k ∈ Region.ready .any ops (listed.setIfInBounds j true) := by
      match b, hok with
      | 0, hok => simp only [planOk, Bool.and_eq_true] at hok; simpa using hok.1.1.1
      | 1, hok => simp only [planOk, Bool.and_eq_true, decide_eq_true_eq] at hok; rw [hok.1]; simp
      | b + 2, hok => simp only [planOk, Bool.and_eq_true, decide_eq_true_eq] at hok; rw [hok.1.1.1.1.1.1]; simp
    obtain ⟨hkun, ok, hok', _⟩ := mem_ready.1 hkr
    have hks : k < ops.size := (Array.getElem?_eq_some_iff.1 hok').1
    have hkj : j ≠ k := fun e => by
      subst e
      have : j < listed.size := by rw [hc.1]; exact hks
      simp [this] at hkun
    rw [getD_set_ne true hkj] at hkun
    exact sink_waits hs' hc _ k rfl hks (Ne.symm hkj) hkun hr

theorem wpOp_of_doAt {H : Hold} {sink : Option Nat} {e : Env} {a : Act} (ha : Fr n e a) (hd : dstsOk n ops = true) {i : Nat} {w : World} {K : Env → World → Prop} {K' : Act → World → Prop}
    (h : DoAt P ops H sink i K e w) (hK : ∀ e' a' w', Fr n e' a' → (sink = some i ∨ keeps H w w') → K e' w' → K' a' w') : wpOp P ops (lift n Q) i K' a w := by
  obtain ⟨o, ho, h⟩ := h
  rcases guardE_cases h with ⟨hw, hdo⟩ | ⟨hw, hrest⟩
  · exact wpOp_of_do ha hd ho (wanted_of ha hd hw) hdo fun v w' ⟨hkk, hrest⟩ => hK _ _ _ (ha.put (dst_lt hd ho) v) hkk hrest
  · unfold wpOp
    simp only [ho]
    rw [if_neg (by simp [unwanted_of ha hd hw])]
    exact hK _ _ _ (ha.put (dst_lt hd ho) undef) (.inr (keeps_refl _ _)) hrest

theorem wpS_of_plan {H : Hold} {sink : Option Nat} {w0 : World} (hsel : Region.noSelect ops = true) (hd : dstsOk n ops = true) (hs : ∀ f, sink = some f → sinkOk ops f = true)
    (hH : ∀ a b c, keeps H a b → keeps H b c → keeps H a c) :
    ∀ (pl : PlanL) (listed : Array Bool) (e : Env) (a : Act) (w : World), Fr n e a → ClosedUp ops listed → planOk ops sink pl listed = true → (keeps H w0 w ∨ pl = []) →
      WPlan P ops H sink Q pl e w → wpS P ops (lift n Q) (fun w' => keeps H w0 w') sink (planN pl) listed a w
  | [], listed, e, a, w, ha, _, hok, _, h => ⟨by simpa [planOk] using hok, e, ha, trivial, h⟩
  | (0, i, x) :: r, listed, e, a, w, ha, hc, hok, hk, h => by
    obtain ⟨o, ho, h⟩ := h
    simp only [planOk, Bool.and_eq_true, bne_iff_ne, ne_eq] at hok
    obtain ⟨⟨⟨hr, hf⟩, hne⟩, hok⟩ := hok
    have hr' : i ∈ Region.ready .any ops listed := by simpa using hr
    have hk' : keeps H w0 w := hk.resolve_right (by simp)
    have go : ∀ v, Gives P ops (fun w' => keeps H w0 w') o v a → WPlan P ops H sink Q r (updO e o.dst v) w →
        wpS P ops (lift n Q) (fun w' => keeps H w0 w') sink (planN r + 1) listed a w := fun v hg hw =>
      wpS_first hs hne ho (Region.noSelect_spec hsel) lift_panic (planN r) listed a w hc (Region.free_spec ho hf) hr' hg hk'
        (wpS_of_plan hsel hd hs hH r _ _ _ _ (ha.put (dst_lt hd ho) v) (hc.set hr') hok (.inl hk') hw)
    rcases guardE_cases h with ⟨hw, v, hv, hrest⟩ | ⟨hw, hrest⟩
    · refine go v (.inl ⟨wanted_of ha hd hw, fun w' hk2 => ?_⟩) hrest
      rw [ha.eval]
      exact tk_sound hv fun b hb => (keeps_reads hk2 hb).trans (keeps_reads hk' hb).symm
    · exact go undef (.inr ⟨unwanted_of ha hd hw, rfl⟩) hrest
  | (1, i, x) :: r, listed, e, a, w, ha, hc, hok, hk, h => by
    simp only [planOk, Bool.and_eq_true, decide_eq_true_eq] at hok
    obtain ⟨hr, hok⟩ := hok
    have hr' : i ∈ Region.ready .any ops listed := by rw [hr]; simp
    have hk' : keeps H w0 w := hk.resolve_right (by simp)
    refine ⟨fun h0 => (by rw [h0] at hr; cases hr), fun j hj => ?_⟩
    obtain rfl : j = i := by rw [hr] at hj; simpa using hj
    refine wpOp_of_doAt ha hd h fun e' a' w' ha' hkk hrest => ⟨hkk.imp id (hH _ _ _ hk'), ?_⟩
    exact wpS_of_plan hsel hd hs hH r _ _ _ _ ha' (hc.set hr') hok (hkk.elim (fun h => .inr (plan_last hs hc hr' hok h)) fun h => .inl (hH _ _ _ hk' h)) hrest
  | (b + 2, i, j) :: r, listed, e, a, w, ha, hc, hok, hk, h => by
    simp only [planOk, Bool.and_eq_true, decide_eq_true_eq, bne_iff_ne, ne_eq] at hok
    obtain ⟨⟨⟨⟨⟨⟨hr, hri⟩, hrj⟩, hsi⟩, hsj⟩, hij⟩, hok⟩ := hok
    have hk' : keeps H w0 w := hk.resolve_right (by simp)
    have key : ∀ (i j : Nat), i ∈ Region.ready .any ops listed → Region.ready .any ops (listed.setIfInBounds i true) = [j] → sink ≠ some i → sink ≠ some j →
        planOk ops sink r ((listed.setIfInBounds i true).setIfInBounds j true) = true → DoAt P ops H sink i (DoAt P ops H sink j (WPlan P ops H sink Q r)) e w →
        wpOp P ops (lift n Q) i (fun a' w' => (sink = some i ∨ keeps H w0 w') ∧ wpS P ops (lift n Q) (fun w' => keeps H w0 w') sink (planN r + 1) (listed.setIfInBounds i true) a' w') a w := by
      intro i j hi hj hsi hsj hok h
      refine wpOp_of_doAt ha hd h fun e1 a1 w1 ha1 hk1 h1 => ?_
      have hk1' := hH _ _ _ hk' (hk1.resolve_left hsi)
      refine ⟨.inr hk1', fun h0 => (by rw [h0] at hj; cases hj), fun k hkr => ?_⟩
      obtain rfl : k = j := by rw [hj] at hkr; simpa using hkr
      refine wpOp_of_doAt ha1 hd h1 fun e2 a2 w2 ha2 hk2 h2 => ?_
      have hk2' := hH _ _ _ hk1' (hk2.resolve_left hsj)
      exact ⟨.inr hk2', wpS_of_plan hsel hd hs hH r _ _ _ _ ha2 ((hc.set hi).set hkr) hok (.inl hk2') h2⟩
    have hmi : i ∈ Region.ready .any ops listed := by rw [hr]; simp
    have hmj : j ∈ Region.ready .any ops listed := by rw [hr]; simp
    refine ⟨fun h0 => (by rw [h0] at hr; cases hr), fun k hkr => ?_⟩
    rw [hr] at hkr
    rcases List.mem_cons.1 hkr with rfl | hkr
    · exact key k j hmi hri hsi hsj hok h.1
    · obtain rfl : k = j := by simpa using hkr
      exact key k i hmj hrj hsj hsi (by rw [Array.setIfInBounds_comm _ _ (Ne.symm hij)]; exact hok) h.2

theorem keeps_trans (H : Hold) (a b c : World) (h1 : keeps H a b) (h2 : keeps H b c) : keeps H a c := by
  match H, h1, h2 with
  | none, h1, h2 => exact Eq.trans (show c = b from h2) (show b = a from h1)
  | some none, h1, h2 => exact Eq.trans (show c.heap = b.heap from h2) (show b.heap = a.heap from h1)
  | some (some _), h1, h2 => exact fun x hx => (h2 x hx).trans (h1 x hx)

/-- A REGION THAT DRAWS ITS ORDER, BY A PLAN. -/
theorem W_draw (H : Hold) (sink : Option Nat) (pl : PlanL) {id : Nat} {e : Env} {w : World} (hm : P.follows .mixedOrders = true) 
    (hok : regOk n ops sink pl = true) (h : WPlan P ops H sink Q pl e w.drew) : W P n (.region id ops true) Q e w := by
  intro a ha
  simp only [regOk, Bool.and_eq_true, decide_eq_true_eq] at hok
  obtain ⟨⟨⟨⟨hsel, hd⟩, hs⟩, hlen⟩, hok⟩ := hok
  refine wp_region_any hm ?_
  have hc : ClosedUp ops (Array.replicate ops.size false) := ⟨by simp, fun j oj _ hl => by
    rcases Nat.lt_or_ge j ops.size with h | h
    · simp [h] at hl
    · simp [h] at hl⟩
  have := wpS_of_plan (w0 := w.drew) hsel hd (fun f hf => by subst hf; exact hs) (keeps_trans H) pl _ e a w.drew ha hc hok (.inl (keeps_refl _ _)) h
  rw [hlen] at this
  exact wpAny_of_wpS _ _ _ _ this

/-- A REGION IN THE ORDER OF THE TEXT. -/
def WText (P : Program) (ops : Array Oper) (Q : Post) : List Bool → List Oper → Env → World → Prop
  | _, [], e, w => Q .normal e w
  | true :: bs, o :: r, e, w => TakeO P ops none (WText P ops Q bs r) e w o
  | false :: bs, o :: r, e, w => DoO P ops (fun _ _ => True) (WText P ops Q bs r) e w o
  | [], _ :: _, _, _ => False
theorem wpList_of_text (hd : dstsOk n ops = true) : ∀ (l : List Oper) (bs : List Bool) (e : Env) (a : Act) (w : World), (∀ o ∈ l, o ∈ ops) → Fr n e a → WText P ops Q bs l e w → wpList P ops (lift n Q) l a w
  | [], bs, e, a, w, _, ha, h => by
    have h' : Q .normal e w := by cases bs with
      | nil => exact h
      | cons b bs => cases b <;> exact h
    exact ⟨e, ha, trivial, h'⟩
  | o :: r, [], e, a, w, _, _, h => h.elim
  | o :: r, b :: bs, e, a, w, hl, ha, h => by
    obtain ⟨i, hi, rfl⟩ := Array.mem_iff_getElem.1 (hl o (by simp))
    have ho : ops[i]? = some ops[i] := Array.getElem?_eq_getElem hi
    have ih := fun e a w => wpList_of_text hd r bs e a w (fun o ho => hl o (by simp [ho]))
    have unw : unwantedE ops e ops[i].guard → WText P ops Q bs r (updO e ops[i].dst undef) w → wpList P ops (lift n Q) (ops[i] :: r) a w := fun hw hrest => by
      unfold wpList
      rw [if_neg (by simp [unwanted_of ha hd hw])]
      exact ih _ _ _ (ha.put (dst_lt hd ho) undef) hrest
    cases b with
    | true =>
      rcases guardE_cases h with ⟨hw, v, hv, hrest⟩ | ⟨hw, hrest⟩
      · unfold wpList
        rw [if_pos (wanted_of ha hd hw)]
        refine .inl ?_
        unfold Oper.wp
        rw [ha.eval, tk_sound hv fun _ _ => rfl]
        exact ih _ _ _ (ha.put (dst_lt hd ho) v) hrest
      · exact unw hw hrest
    | false =>
      rcases guardE_cases h with ⟨hw, hdo⟩ | ⟨hw, hrest⟩
      · have hk := wpOp_of_do (Q := Q) (K' := wpList P ops (lift n Q) r) ha hd ho (wanted_of ha hd hw) hdo fun v w' hrest => ih _ _ _ (ha.put (dst_lt hd ho) v) hrest.2
        unfold wpOp at hk
        simp only [ho] at hk
        unfold wpList
        exact hk
      · exact unw hw hrest
theorem W_text (bs : List Bool) {id : Nat} {l : List Oper} {e : Env} {w : World} (hd : dstsOk n l.toArray = true) (h : WText P l.toArray Q bs l e w) : W P n (.region id l.toArray false) Q e w :=
  fun a ha => wp_region_list (by simpa using wpList_of_text (ops := l.toArray) hd l bs e a w (fun o ho => by simpa using ho) ha h)
end

/-! ### What simp needs -/
section
variable {P : Program} {ops : Array Oper} {H : Hold} {sink : Option Nat} {Q : Post} {e : Env} {w : World}
theorem withOp_zero (o : Oper) (l : List Oper) (k : Oper → Prop) : withOp (o :: l).toArray 0 k = k o := by simp [withOp]
theorem withOp_succ (o : Oper) (l : List Oper) (i : Nat) (k : Oper → Prop) : withOp (o :: l).toArray (i + 1) k = withOp l.toArray i k := by simp [withOp]
theorem guardE_none (yes no : Prop) : guardE ops e none yes no = yes := rfl
theorem guardE_some (j : Nat) (want : Bool) (yes no : Prop) : guardE ops e (some (j, want)) yes no = guardV (dstV ops e j) want yes no := rfl
theorem guardV_congr {v v' : Option Value} {want : Bool} {yes no : Prop} (h : v = v') : guardV v want yes no = guardV v' want yes no := by rw [h]
theorem guardV_tt (yes no : Prop) : guardV (some (.bool true)) true yes no = yes := id (Eq.trans rfl rfl)
theorem guardV_ff (yes no : Prop) : guardV (some (.bool false)) false yes no = yes := id (Eq.trans rfl rfl)
theorem guardV_tf (yes no : Prop) : guardV (some (.bool true)) false yes no = no := id (Eq.trans rfl rfl)
theorem guardV_ft (yes no : Prop) : guardV (some (.bool false)) true yes no = no := id (Eq.trans rfl rfl)
theorem guardV_undef (want : Bool) (yes no : Prop) : guardV (some undef) want yes no = no := id (Eq.trans rfl rfl)
theorem dstV_zero (o : Oper) (l : List Oper) : dstV (o :: l).toArray e 0 = o.dst.map e := by simp [dstV]
theorem dstV_succ (o : Oper) (l : List Oper) (j : Nat) : dstV (o :: l).toArray e (j + 1) = dstV l.toArray e j := by simp [dstV]
theorem WPlan_nil : WPlan P ops H sink Q [] e w = Q .normal e w := id (Eq.trans rfl rfl)
theorem WPlan_take (i x : Nat) (r : PlanL) : WPlan P ops H sink Q ((0, i, x) :: r) e w = withOp ops i (TakeO P ops H (WPlan P ops H sink Q r) e w) := id (Eq.trans rfl rfl)
theorem take_none {K : Env → World → Prop} (d : Option Nat) (op : Op) (ty : Nat) (pos : String) (af : Array Edge) :
    TakeO P ops H K e w ⟨d, op, ty, pos, af, none⟩ = bindO (tkOp P H e w op) fun v => K (updO e d v) w := id (Eq.trans rfl rfl)
theorem take_some {K : Env → World → Prop} (d : Option Nat) (op : Op) (ty : Nat) (pos : String) (af : Array Edge) (j : Nat) (want : Bool) :
    TakeO P ops H K e w ⟨d, op, ty, pos, af, some (j, want)⟩ = guardV (dstV ops e j) want (bindO (tkOp P H e w op) fun v => K (updO e d v) w) (K (updO e d undef) w) := id (Eq.trans rfl rfl)
theorem do_some {C : World → World → Prop} {K : Env → World → Prop} (d : Option Nat) (op : Op) (ty : Nat) (pos : String) (af : Array Edge) (j : Nat) (want : Bool) :
    DoO P ops C K e w ⟨d, op, ty, pos, af, some (j, want)⟩ = guardV (dstV ops e j) want (DoO P ops C K e w ⟨d, op, ty, pos, af, none⟩) (K (updO e d undef) w) := id (Eq.trans rfl rfl)
theorem WPlan_do (i x : Nat) (r : PlanL) : WPlan P ops H sink Q ((1, i, x) :: r) e w = DoAt P ops H sink i (WPlan P ops H sink Q r) e w := id (Eq.trans rfl rfl)
theorem WPlan_fork (i j : Nat) (r : PlanL) : WPlan P ops H sink Q ((2, i, j) :: r) e w =
    (DoAt P ops H sink i (DoAt P ops H sink j (WPlan P ops H sink Q r)) e w ∧ DoAt P ops H sink j (DoAt P ops H sink i (WPlan P ops H sink Q r)) e w) := id (Eq.trans rfl rfl)
theorem DoAt_eq (i : Nat) (K : Env → World → Prop) : DoAt P ops H sink i K e w = withOp ops i (DoO P ops (fun w w' => sink = some i ∨ keeps H w w') K e w) := id (Eq.trans rfl rfl)
theorem DoO_intro {C : World → World → Prop} {K : Env → World → Prop} {d : Option Nat} {op : Op} {ty : Nat} {pos : String} {af : Array Edge} (h : DoOp P e w ⟨d, op, ty, pos, af, none⟩ fun v w' => C w w' ∧ K (updO e d v) w') :
    DoO P ops C K e w ⟨d, op, ty, pos, af, none⟩ := h
theorem WText_nil (bs : List Bool) : WText P ops Q bs [] e w = Q .normal e w := by cases bs with
  | nil => rfl
  | cons b bs => cases b <;> rfl
theorem WText_take (bs : List Bool) (o : Oper) (r : List Oper) : WText P ops Q (true :: bs) (o :: r) e w = TakeO P ops none (WText P ops Q bs r) e w o := id (Eq.trans rfl rfl)
theorem WText_do (bs : List Bool) (o : Oper) (r : List Oper) : WText P ops Q (false :: bs) (o :: r) e w = DoO P ops (fun _ _ => True) (WText P ops Q bs r) e w o := id (Eq.trans rfl rfl)
end
attribute [congr] guardV_congr bindO_congr
/-! ### Operations for which all others wait -/
def waitsOn (ops : Array Oper) (j i : Nat) : Bool :=
  match ops[j]? with
  | some oj => oj.after.any fun e => Region.binds .any e && e.on == i
  | none => false
/-- All operations before f are waited for by f, all behind it wait for f. -/
def barOk (ops : Array Oper) (f : Nat) : Bool :=
  decide (f < ops.size) && (List.range ops.size).all fun i => i == f ||
    (decide (i < f) && (List.range ops.size).any fun j => decide (i < j) && decide (j ≤ f) && waitsOn ops j i) ||
    (decide (f < i) && (List.range ops.size).any fun j => decide (f ≤ j) && decide (j < i) && waitsOn ops i j)
theorem waitsOn_spec {ops : Array Oper} {j i : Nat} (h : waitsOn ops j i = true) : ∃ oj, ops[j]? = some oj ∧ ∃ e ∈ oj.after, Region.binds .any e = true ∧ e.on = i := by
  unfold waitsOn at h
  cases hoj : ops[j]? with
  | none => simp [hoj] at h
  | some oj =>
    simp only [hoj] at h
    obtain ⟨e, he, hb⟩ := Array.any_eq_true'.1 h
    simp only [Bool.and_eq_true, beq_iff_eq] at hb
    exact ⟨oj, rfl, e, he, hb⟩
theorem bar_spec {ops : Array Oper} {f : Nat} (h : barOk ops f = true) {i : Nat} (hi : i < ops.size) (hne : i ≠ f) :
    (i < f ∧ ∃ j, i < j ∧ j ≤ f ∧ waitsOn ops j i = true) ∨ (f < i ∧ ∃ j, f ≤ j ∧ j < i ∧ waitsOn ops i j = true) := by
  simp only [barOk, Bool.and_eq_true, decide_eq_true_eq, List.all_eq_true, List.mem_range, Bool.or_eq_true, beq_iff_eq] at h
  rcases h.2 i hi with (h1 | ⟨h1, h2⟩) | ⟨h1, h2⟩
  · exact (hne h1).elim
  · obtain ⟨j, _, hj⟩ := List.any_eq_true.1 h2
    simp only [Bool.and_eq_true, decide_eq_true_eq] at hj
    exact .inl ⟨h1, j, hj.1.1, hj.1.2, hj.2⟩
  · obtain ⟨j, _, hj⟩ := List.any_eq_true.1 h2
    simp only [Bool.and_eq_true, decide_eq_true_eq] at hj
    exact .inr ⟨h1, j, hj.1.1, hj.1.2, hj.2⟩
theorem waits_listed {ops : Array Oper} {listed : Array Bool} (hc : ClosedUp ops listed) {i j : Nat} (hi : i ∈ Region.ready .any ops listed ∨ listed.getD i false = true) (h : waitsOn ops i j = true) : listed.getD j false = true := by
  obtain ⟨oi, hoi, e, he, hb, rfl⟩ := waitsOn_spec h
  rcases hi with hi | hi
  · obtain ⟨_, o, ho, hall⟩ := mem_ready.1 hi
    obtain rfl : o = oi := Option.some.inj (ho.symm.trans hoi)
    exact hall e he hb
  · exact hc.2 i oi hoi hi e he hb
theorem listed_unready {ops : Array Oper} {listed : Array Bool} {f : Nat} (h : listed.getD f false = true) : f ∉ Region.ready .any ops listed := fun hr => by
  have := getD_tf (mem_ready.1 hr).1
  rw [h] at this; cases this
theorem bar_ahead {ops : Array Oper} {f : Nat} (hb : barOk ops f = true) {listed : Array Bool} (hc : ClosedUp ops listed) :
    ∀ d i, f - i = d → i < ops.size → i < f → listed.getD i false = false → f ∉ Region.ready .any ops listed := by
  intro d
  induction d using Nat.strongRecOn with
  | _ d ih =>
    intro i hd hi hlt hun hr
    rcases bar_spec hb hi (Nat.ne_of_lt hlt) with ⟨_, j, h1, h2, h3⟩ | ⟨h1, _⟩
    · by_cases hjf : j = f
      · subst hjf
        have := waits_listed hc (.inl hr) h3
        rw [hun] at this; cases this
      · cases hl : listed.getD j false with
        | true =>
          have := waits_listed hc (.inr hl) h3
          rw [hun] at this; cases this
        | false =>
          have hjs : j < ops.size := by obtain ⟨oj, hoj, _⟩ := waitsOn_spec h3; exact (Array.getElem?_eq_some_iff.1 hoj).1
          exact ih (f - j) (by omega) j rfl hjs (by omega) hl hr
    · omega
theorem bar_behind {ops : Array Oper} {f : Nat} (hb : barOk ops f = true) {listed : Array Bool} (hc : ClosedUp ops listed) :
    ∀ i, i < ops.size → f < i → (i ∈ Region.ready .any ops listed ∨ listed.getD i false = true) → listed.getD f false = true := by
  intro i
  induction i using Nat.strongRecOn with
  | _ i ih =>
    intro hi hlt hr
    rcases bar_spec hb hi (Nat.ne_of_gt hlt) with ⟨h1, _⟩ | ⟨_, j, h1, h2, h3⟩
    · omega
    · have hl := waits_listed hc hr h3
      by_cases hjf : j = f
      · subst hjf; exact hl
      · exact ih j h2 (by omega) (by omega) (.inr hl)
section
variable {P : Program} {ops : Array Oper} {Q : Exit → Act → World → Prop} {R : World → World → Prop}
/-- Whatever order is picked from here on; what is taken ahead is reckoned in the world w0, which changes at an operation for which all others wait. -/
def wpX (P : Program) (ops : Array Oper) (Q : Exit → Act → World → Prop) (R : World → World → Prop) : Nat → Array Bool → World → Act → World → Prop
  | 0, listed, _, a, w => Region.ready .any ops listed = [] ∧ Q .normal a w
  | fuel + 1, listed, w0, a, w =>
    (Region.ready .any ops listed = [] → Q .normal a w) ∧
    ∀ i ∈ Region.ready .any ops listed, wpOp P ops Q i (fun a' w' => (barOk ops i = true ∧ wpX P ops Q R fuel (listed.setIfInBounds i true) w' a' w') ∨ (R w0 w' ∧ wpX P ops Q R fuel (listed.setIfInBounds i true) w0 a' w')) a w
theorem wpAny_of_wpX : ∀ (fuel : Nat) (listed : Array Bool) (w0 : World) (a : Act) (w : World), wpX P ops Q R fuel listed w0 a w → wpAny P .any ops Q fuel listed a w
  | 0, _, _, _, _, h => h
  | fuel + 1, _, _, _, _, h => ⟨h.1, fun i hi => wpOp_mono (fun a' w' h' => h'.elim (fun h => wpAny_of_wpX fuel _ _ a' w' h.2) fun h => wpAny_of_wpX fuel _ _ a' w' h.2) (h.2 i hi)⟩
theorem wpX_first {w0 : World} {i : Nat} {oi : Oper} {v : Value} (hi : ops[i]? = some oi)
    (hsel : ∀ (j : Nat) (o : Oper) cs b, ops[j]? = some o → o.op ≠ .select cs b) (hQ : ∀ c a w, ¬ Q (.panic c) a w) :
    ∀ (fuel : Nat) (listed : Array Bool) (a : Act) (w : World), ClosedUp ops listed →
      (∀ j oj, ops[j]? = some oj → j ≠ i → listed.getD j true = false → (∀ e ∈ oj.after, Region.binds .any e = true → e.on ≠ i) → oi.apart ops oj = true) →
      i ∈ Region.ready .any ops listed → Gives P ops (R w0) oi v a → R w0 w →
      wpX P ops Q R fuel (listed.setIfInBounds i true) w0 (a.put oi.dst v) w → wpX P ops Q R (fuel + 1) listed w0 a w := by
  intro fuel
  induction fuel with
  | zero =>
    intro listed a w _ _ hr hy hS H
    refine ⟨fun h => (by rw [h] at hr; cases hr), fun j hj => ?_⟩
    by_cases hji : j = i
    · subst hji; exact hy.wpOp hi hS (.inr ⟨hS, H⟩)
    · have := ready_mono hj hji
      rw [H.1] at this
      cases this
  | succ fuel ih =>
    intro listed a w hc hfree hr hy hS H
    refine ⟨fun h => (by rw [h] at hr; cases hr), fun j hj => ?_⟩
    by_cases hji : j = i
    · subst hji; exact hy.wpOp hi hS (.inr ⟨hS, H⟩)
    · have h1 := H.2 j (ready_mono hj hji)
      obtain ⟨hjun, oj, hoj, hall⟩ := mem_ready.1 hj
      have hiun := (mem_ready.1 hr).1
      have his : i < ops.size := (Array.getElem?_eq_some_iff.1 hi).1
      have hnot : ∀ e ∈ oj.after, Region.binds .any e = true → e.on ≠ i := fun e he hb heq => by
        have h1 := hall e he hb
        rw [heq, getD_tf hiun] at h1
        cases h1
      have h2 := wpOp_before hoj (hfree j oj hoj hji hjun hnot) (fun cs b => hsel i oi cs b hi) (fun cs b => hsel j oj cs b hoj) hQ hy h1
      refine wpOp_mono (fun a' w' h3 => ?_) h2
      rcases h3.2 with ⟨hb, _⟩ | ⟨hS', hrest⟩
      · exfalso
        rcases Nat.lt_or_ge i j with hij | hij
        · exact bar_ahead hb hc _ i rfl his hij (getD_tf hiun) hj
        · exact listed_unready (bar_behind hb hc i his (by omega) (.inl hr)) hj
      · refine .inr ⟨hS', ih (listed.setIfInBounds j true) a' w' (hc.set hj) (fun k ok hk hki hun hno => ?_) (ready_mono hr (Ne.symm hji)) h3.1 hS' ?_⟩
        · refine hfree k ok hk hki ?_ hno
          by_cases hjk : j = k
          · subst hjk; exact hjun
          · rw [getD_set_ne true hjk] at hun; exact hun
        · rw [Array.setIfInBounds_comm _ _ hji]
          exact hrest
end
/-- A plan with branches: an operation is taken; is carried out; is carried out, and all others wait for it or it for them; two may come up. -/
inductive PT where
  | nil
  | take (i : Nat) (r : PT)
  | act (i : Nat) (r : PT)
  | bar (i : Nat) (r : PT)
  | split (i : Nat) (r : PT) (j : Nat) (s : PT)
def ptOk (ops : Array Oper) : PT → Array Bool → Bool
  | .nil, listed => (Region.ready .any ops listed).isEmpty
  | .take i r, listed => (Region.ready .any ops listed).contains i && Region.free .any ops listed i && ptOk ops r (listed.setIfInBounds i true)
  | .act i r, listed => decide (Region.ready .any ops listed = [i]) && ptOk ops r (listed.setIfInBounds i true)
  | .bar i r, listed => decide (Region.ready .any ops listed = [i]) && barOk ops i && ptOk ops r (listed.setIfInBounds i true)
  | .split i r j s, listed => decide (Region.ready .any ops listed = [i, j]) && ptOk ops r (listed.setIfInBounds i true) && ptOk ops s (listed.setIfInBounds j true)
def ptN : PT → Nat → Bool
  | .nil, n => n == 0
  | .take _ r, n => n != 0 && ptN r (n - 1)
  | .act _ r, n => n != 0 && ptN r (n - 1)
  | .bar _ r, n => n != 0 && ptN r (n - 1)
  | .split _ r _ s, n => n != 0 && ptN r (n - 1) && ptN s (n - 1)
def regOkF (n : Nat) (ops : Array Oper) (pl : PT) : Bool :=
  Region.noSelect ops && dstsOk n ops && ptN pl ops.size && ptOk ops pl (Array.replicate ops.size false)
def DoB (P : Program) (ops : Array Oper) (i : Nat) (K : Env → World → Prop) (e : Env) (w : World) : Prop :=
  withOp ops i (DoO P ops (fun _ _ => True) K e w)
def WPT (P : Program) (ops : Array Oper) (H : Hold) (Q : Post) : PT → Env → World → Prop
  | .nil, e, w => Q .normal e w
  | .take i r, e, w => withOp ops i (TakeO P ops H (WPT P ops H Q r) e w)
  | .act i r, e, w => DoAt P ops H none i (WPT P ops H Q r) e w
  | .bar i r, e, w => DoB P ops i (WPT P ops H Q r) e w
  | .split i r j s, e, w => DoAt P ops H none i (WPT P ops H Q r) e w ∧ DoAt P ops H none j (WPT P ops H Q s) e w
section
variable {P : Program} {ops : Array Oper} {n : Nat} {Q : Post}
theorem wpOp_of_doB {e : Env} {a : Act} (ha : Fr n e a) (hd : dstsOk n ops = true) {i : Nat} {w : World} {K : Env → World → Prop} {K' : Act → World → Prop}
    (h : DoB P ops i K e w) (hK : ∀ e' a' w', Fr n e' a' → K e' w' → K' a' w') : wpOp P ops (lift n Q) i K' a w := by
  obtain ⟨o, ho, h⟩ := h
  rcases guardE_cases h with ⟨hw, hdo⟩ | ⟨hw, hrest⟩
  · exact wpOp_of_do ha hd ho (wanted_of ha hd hw) hdo fun v w' ⟨_, hrest⟩ => hK _ _ _ (ha.put (dst_lt hd ho) v) hrest
  · unfold wpOp
    simp only [ho]
    rw [if_neg (by simp [unwanted_of ha hd hw])]
    exact hK _ _ _ (ha.put (dst_lt hd ho) undef) hrest
theorem wpX_of_plan {H : Hold} (hsel : Region.noSelect ops = true) (hd : dstsOk n ops = true) (hH : ∀ a b c, keeps H a b → keeps H b c → keeps H a c) :
    ∀ (pl : PT) (k : Nat) (listed : Array Bool) (w0 : World) (e : Env) (a : Act) (w : World), ptN pl k = true → Fr n e a → ClosedUp ops listed → ptOk ops pl listed = true → keeps H w0 w →
      WPT P ops H Q pl e w → wpX P ops (lift n Q) (keeps H) k listed w0 a w
  | .nil, k, listed, w0, e, a, w, hn, ha, _, hok, _, h => by
    obtain rfl : k = 0 := by simpa [ptN] using hn
    exact ⟨by simpa [ptOk] using hok, e, ha, trivial, h⟩
  | .take i r, 0, listed, w0, e, a, w, hn, ha, hc, hok, hk, h => by simp [ptN] at hn
  | .act i r, 0, listed, w0, e, a, w, hn, ha, hc, hok, hk, h => by simp [ptN] at hn
  | .bar i r, 0, listed, w0, e, a, w, hn, ha, hc, hok, hk, h => by simp [ptN] at hn
  | .split i r j s, 0, listed, w0, e, a, w, hn, ha, hc, hok, hk, h => by simp [ptN] at hn
  | .take i r, k + 1, listed, w0, e, a, w, hn, ha, hc, hok, hk, h => by
    obtain ⟨o, ho, h⟩ := h
    have hn' : ptN r k = true := by simpa [ptN] using hn
    simp only [ptOk, Bool.and_eq_true] at hok
    obtain ⟨⟨hr, hf⟩, hok⟩ := hok
    have hr' : i ∈ Region.ready .any ops listed := by simpa using hr
    have go : ∀ v, Gives P ops (keeps H w0) o v a → WPT P ops H Q r (updO e o.dst v) w →
        wpX P ops (lift n Q) (keeps H) (k + 1) listed w0 a w := fun v hg hw =>
      wpX_first ho (Region.noSelect_spec hsel) lift_panic k listed a w hc (Region.free_spec ho hf) hr' hg hk
        (wpX_of_plan hsel hd hH r k _ _ _ _ _ hn' (ha.put (dst_lt hd ho) v) (hc.set hr') hok hk hw)
    rcases guardE_cases h with ⟨hw, v, hv, hrest⟩ | ⟨hw, hrest⟩
    · refine go v (.inl ⟨wanted_of ha hd hw, fun w' hk2 => ?_⟩) hrest
      rw [ha.eval]
      exact tk_sound hv fun b hb => (keeps_reads hk2 hb).trans (keeps_reads hk hb).symm
    · exact go undef (.inr ⟨unwanted_of ha hd hw, rfl⟩) hrest
  | .act i r, k + 1, listed, w0, e, a, w, hn, ha, hc, hok, hk, h => by
    have hn' : ptN r k = true := by simpa [ptN] using hn
    simp only [ptOk, Bool.and_eq_true, decide_eq_true_eq] at hok
    obtain ⟨hr, hok⟩ := hok
    have hr' : i ∈ Region.ready .any ops listed := by rw [hr]; simp
    refine ⟨fun h0 => (by rw [h0] at hr; cases hr), fun j hj => ?_⟩
    obtain rfl : j = i := by rw [hr] at hj; simpa using hj
    refine wpOp_of_doAt ha hd h fun e' a' w' ha' hkk hrest => ?_
    have hk1 := hH _ _ _ hk (hkk.resolve_left (by simp))
    exact .inr ⟨hk1, wpX_of_plan hsel hd hH r k _ _ _ _ _ hn' ha' (hc.set hr') hok hk1 hrest⟩
  | .bar i r, k + 1, listed, w0, e, a, w, hn, ha, hc, hok, hk, h => by
    have hn' : ptN r k = true := by simpa [ptN] using hn
    simp only [ptOk, Bool.and_eq_true, decide_eq_true_eq] at hok
    obtain ⟨⟨hr, hb⟩, hok⟩ := hok
    have hr' : i ∈ Region.ready .any ops listed := by rw [hr]; simp
    refine ⟨fun h0 => (by rw [h0] at hr; cases hr), fun j hj => ?_⟩
    obtain rfl : j = i := by rw [hr] at hj; simpa using hj
    refine wpOp_of_doB ha hd h fun e' a' w' ha' hrest => .inl ⟨hb, ?_⟩
    exact wpX_of_plan hsel hd hH r k _ _ _ _ _ hn' ha' (hc.set hr') hok (keeps_refl _ _) hrest
  | .split i r j s, k + 1, listed, w0, e, a, w, hn, ha, hc, hok, hk, h => by
    have hn' : ptN r k = true ∧ ptN s k = true := by simpa [ptN] using hn
    simp only [ptOk, Bool.and_eq_true, decide_eq_true_eq] at hok
    obtain ⟨⟨hr, hok1⟩, hok2⟩ := hok
    have hi' : i ∈ Region.ready .any ops listed := by rw [hr]; simp
    have hj' : j ∈ Region.ready .any ops listed := by rw [hr]; simp
    refine ⟨fun h0 => (by rw [h0] at hr; cases hr), fun m hm => ?_⟩
    rw [hr] at hm
    rcases List.mem_cons.1 hm with rfl | hm
    · refine wpOp_of_doAt ha hd h.1 fun e' a' w' ha' hkk hrest => ?_
      have hk1 := hH _ _ _ hk (hkk.resolve_left (by simp))
      exact .inr ⟨hk1, wpX_of_plan hsel hd hH r k _ _ _ _ _ hn'.1 ha' (hc.set hi') hok1 hk1 hrest⟩
    · obtain rfl : m = j := by simpa using hm
      refine wpOp_of_doAt ha hd h.2 fun e' a' w' ha' hkk hrest => ?_
      have hk1 := hH _ _ _ hk (hkk.resolve_left (by simp))
      exact .inr ⟨hk1, wpX_of_plan hsel hd hH s k _ _ _ _ _ hn'.2 ha' (hc.set hj') hok2 hk1 hrest⟩
/-- A region that draws its order, by a plan with branches. -/
theorem W_free (H : Hold) (pl : PT) {id : Nat} {e : Env} {w : World} (hm : P.follows .mixedOrders = true)
    (hok : regOkF n ops pl = true) (h : WPT P ops H Q pl e w.drew) : W P n (.region id ops true) Q e w := by
  intro a ha
  simp only [regOkF, Bool.and_eq_true] at hok
  obtain ⟨⟨⟨hsel, hd⟩, hlen⟩, hok⟩ := hok
  refine wp_region_any hm ?_
  have hc : ClosedUp ops (Array.replicate ops.size false) := ⟨by simp, fun j oj _ hl => by
    rcases Nat.lt_or_ge j ops.size with h | h
    · simp [h] at hl
    · simp [h] at hl⟩
  exact wpAny_of_wpX _ _ _ _ _ (wpX_of_plan hsel hd (keeps_trans H) pl _ _ w.drew e a w.drew hlen ha hc hok (keeps_refl _ _) h)
end
theorem rgf :
    (∀ {P : Program} {ops : Array Oper} {H : Hold} {Q : Post} {e : Env} {w : World}, WPT P ops H Q .nil e w = Q Exit.normal e w) ∧
    (∀ {P : Program} {ops : Array Oper} {H : Hold} {Q : Post} {e : Env} {w : World} (i : Nat) (r : PT), WPT P ops H Q (.take i r) e w = withOp ops i (TakeO P ops H (WPT P ops H Q r) e w)) ∧
    (∀ {P : Program} {ops : Array Oper} {H : Hold} {Q : Post} {e : Env} {w : World} (i : Nat) (r : PT), WPT P ops H Q (.act i r) e w = DoAt P ops H none i (WPT P ops H Q r) e w) ∧
    (∀ {P : Program} {ops : Array Oper} {H : Hold} {Q : Post} {e : Env} {w : World} (i : Nat) (r : PT), WPT P ops H Q (.bar i r) e w = DoB P ops i (WPT P ops H Q r) e w) ∧
    (∀ {P : Program} {ops : Array Oper} {H : Hold} {Q : Post} {e : Env} {w : World} (i j : Nat) (r s : PT), WPT P ops H Q (.split i r j s) e w = (DoAt P ops H none i (WPT P ops H Q r) e w ∧ DoAt P ops H none j (WPT P ops H Q s) e w)) ∧
    (∀ {P : Program} {ops : Array Oper} {e : Env} {w : World} (i : Nat) (K : Env → World → Prop), DoB P ops i K e w = withOp ops i (DoO P ops (fun _ _ => True) K e w)) :=
  ⟨id (Eq.trans rfl rfl), fun _ _ => id (Eq.trans rfl rfl), fun _ _ => id (Eq.trans rfl rfl), fun _ _ => id (Eq.trans rfl rfl), fun _ _ _ _ => id (Eq.trans rfl rfl), fun _ _ => id (Eq.trans rfl rfl)⟩
end Go.Proofs.Ytdffddiaoheklaa
