/-
  The moves of an iterator with what they keep. No condition.
-/
import Derived.Test.YtanmjbkbdmeckaaZA
import Derived.Test.YtanmjbkbdmeckaaZ21fb5494
import Derived.Test.YtanmjbkbdmeckaaZ0b558072
import Derived.Test.YtanmjbkbdmeckaaZ9de258df
/-
  What the moves of an iterator over a list return. Plain lists; no program. No condition.
-/
set_option linter.unusedSimpArgs false
set_option linter.unusedVariables false
namespace Go.Proofs.Ytanmjbkbdmeckaa
section
variable {α : Type}
/-- A move: 1 last, 2 next, 3 back, 4 and 5 to a key's place, any other one first. -/
def stepI (X : List α) (pl : α → Nat) (s : Option Nat) (mv : Int × α) : Option Nat :=
  if mv.1 = 2 then s.bind fun i => if i + 1 < X.length then some (i + 1) else none
  else if mv.1 = 3 then s.bind fun i => if 0 < i then some (i - 1) else none
  else if mv.1 = 1 then (if 0 < X.length then some (X.length - 1) else none)
  else if mv.1 = 4 ∨ mv.1 = 5 then (if pl mv.2 < X.length then some (pl mv.2) else none)
  else (if 0 < X.length then some 0 else none)
def toldI (X : List α) (s : Option Nat) (mv : Int × α) : Bool := if mv.1 = 2 ∨ mv.1 = 3 then s.isSome || X.isEmpty else true
def foI (X : List α) (s : Option Nat) : Option α := s.bind fun i => X[i]?
def nextI (X : List α) (pl : α → Nat) (a : Option Nat × List (Option α × Bool)) (mv : Int × α) : Option Nat × List (Option α × Bool) :=
  (stepI X pl a.1 mv, a.2 ++ [(foI X (stepI X pl a.1 mv), toldI X a.1 mv)])
def runI (X : List α) (pl : α → Nat) (ms : List (Int × α)) : Option Nat × List (Option α × Bool) := ms.foldl (nextI X pl) (none, [])
theorem runI_snoc (X : List α) (pl : α → Nat) (ms : List (Int × α)) (mv : Int × α) : runI X pl (ms ++ [mv]) = nextI X pl (runI X pl ms) mv := by
  unfold runI; rw [List.foldl_append]; rfl
theorem runI_succ (X : List α) (pl : α → Nat) {ms : List (Int × α)} {i : Nat} {mv : Int × α} (h : ms[i]? = some mv) : runI X pl (ms.take (i + 1)) = nextI X pl (runI X pl (ms.take i)) mv := by
  rw [List.take_add_one, h]; exact runI_snoc X pl _ mv
theorem nextI_length (X : List α) (pl : α → Nat) (ms : List (Int × α)) (a : Option Nat × List (Option α × Bool)) : (ms.foldl (nextI X pl) a).2.length = a.2.length + ms.length := by
  induction ms generalizing a with
  | nil => rfl
  | cons mv ms ih => rw [List.foldl_cons, ih]; simp [nextI]; omega
theorem runI_length (X : List α) (pl : α → Nat) (ms : List (Int × α)) : (runI X pl ms).2.length = ms.length := by
  unfold runI; rw [nextI_length]; simp
theorem stepI_lt {X : List α} {pl : α → Nat} {s : Option Nat} {mv : Int × α} (hs : ∀ k, s = some k → k < X.length) {k : Nat} (h : stepI X pl s mv = some k) : k < X.length := by
  unfold stepI at h
  cases s with
  | none =>
    simp only [Option.bind_none] at h
    repeat' split at h
    all_goals first | omega | (simp only [Option.some.injEq, reduceCtorEq] at h <;> omega)
  | some i =>
    have := hs i rfl
    simp only [Option.bind_some] at h
    repeat' split at h
    all_goals first | omega | (simp only [Option.some.injEq, reduceCtorEq] at h <;> omega)
theorem stepI_2 {X : List α} {pl : α → Nat} {s : Option Nat} {mv : Int × α} (h : mv.1 = 2) : stepI X pl s mv = s.bind fun i => if i + 1 < X.length then some (i + 1) else none := by unfold stepI; rw [if_pos h]
theorem stepI_3 {X : List α} {pl : α → Nat} {s : Option Nat} {mv : Int × α} (h : mv.1 = 3) : stepI X pl s mv = s.bind fun i => if 0 < i then some (i - 1) else none := by unfold stepI; rw [if_neg (show ¬ mv.1 = 2 by omega), if_pos h]
theorem stepI_1 {X : List α} {pl : α → Nat} {s : Option Nat} {mv : Int × α} (h : mv.1 = 1) : stepI X pl s mv = if 0 < X.length then some (X.length - 1) else none := by unfold stepI; rw [if_neg (show ¬ mv.1 = 2 by omega), if_neg (show ¬ mv.1 = 3 by omega), if_pos h]
theorem stepI_4 {X : List α} {pl : α → Nat} {s : Option Nat} {mv : Int × α} (h : mv.1 = 4 ∨ mv.1 = 5) : stepI X pl s mv = if pl mv.2 < X.length then some (pl mv.2) else none := by
  unfold stepI; rw [if_neg (show ¬ mv.1 = 2 by omega), if_neg (show ¬ mv.1 = 3 by omega), if_neg (show ¬ mv.1 = 1 by omega), if_pos h]
theorem stepI_0 {X : List α} {pl : α → Nat} {s : Option Nat} {mv : Int × α} (h : ¬ mv.1 = 1 ∧ ¬ mv.1 = 2 ∧ ¬ mv.1 = 3 ∧ ¬ mv.1 = 4 ∧ ¬ mv.1 = 5) : stepI X pl s mv = if 0 < X.length then some 0 else none := by
  unfold stepI; rw [if_neg h.2.1, if_neg h.2.2.1, if_neg h.1, if_neg (show ¬ (mv.1 = 4 ∨ mv.1 = 5) by omega)]
theorem toldI_r {X : List α} {s : Option Nat} {mv : Int × α} (h : mv.1 = 2 ∨ mv.1 = 3) : toldI X s mv = (s.isSome || X.isEmpty) := by unfold toldI; rw [if_pos h]
/-- Answers that agree where they are told. -/
def Agree (P : List (Option α)) (R : List (Option α × Bool)) : Prop := P.length = R.length ∧ ∀ (i : Nat) (p : Option α) (r : Option α × Bool), P[i]? = some p → R[i]? = some r → r.2 = true → p = r.1
theorem Agree.nil : Agree ([] : List (Option α)) [] := ⟨rfl, fun i p r h => by simp at h⟩
theorem Agree.snoc {P : List (Option α)} {R : List (Option α × Bool)} {p q : Option α} {t : Bool} (h : Agree P R) (hp : t = true → p = q) : Agree (P ++ [p]) (R ++ [(q, t)]) := by
  refine ⟨by simp [h.1], fun i a r h1 h2 h3 => ?_⟩
  rcases Nat.lt_trichotomy i P.length with hi | hi | hi
  · rw [List.getElem?_append_left hi] at h1
    rw [List.getElem?_append_left (by rw [← h.1]; exact hi)] at h2
    exact h.2 i a r h1 h2 h3
  · subst hi
    rw [List.getElem?_append_right (Nat.le_refl _)] at h1
    rw [List.getElem?_append_right (by rw [h.1]; exact Nat.le_refl _)] at h2
    simp only [Nat.sub_self, List.getElem?_cons_zero, Option.some.injEq] at h1
    simp only [h.1, Nat.sub_self, List.getElem?_cons_zero, Option.some.injEq] at h2
    subst h1 h2
    exact hp h3
  · rw [List.getElem?_eq_none (by simp; omega)] at h1
    cases h1
/-- Where an iterator may go from where it stands: a move from nowhere is known for an empty list alone. -/
def Goes (X : List α) (pl : α → Nat) (p : Option Nat) (mv : Int × α) (p' : Option Nat) : Prop :=
  (∀ k, p' = some k → k < X.length) ∧ (toldI X p mv = true → p' = stepI X pl p mv)
theorem Goes.agree {X : List α} {pl : α → Nat} {s p p' : Option Nat} {mv : Int × α} (hs : ∀ k, s = some k → p = some k) (h : Goes X pl p mv p') :
    (∀ k, stepI X pl s mv = some k → p' = some k) ∧ (toldI X s mv = true → foI X p' = foI X (stepI X pl s mv)) := by
  have key : toldI X s mv = true → p' = stepI X pl s mv := by
    intro ht
    cases s with
    | none =>
      by_cases hm : mv.1 = 2 ∨ mv.1 = 3
      · have hX : X = [] := by
          unfold toldI at ht; rw [if_pos hm] at ht
          simpa using ht
        subst hX
        have h1 := h.2 (by unfold toldI; rw [if_pos hm]; simp)
        cases p' with
        | some k => exact absurd (h.1 k rfl) (by simp)
        | none =>
          unfold stepI
          rcases hm with hm | hm
          · rw [if_pos hm]; rfl
          · rw [if_neg (by omega), if_pos hm]; rfl
      · have h1 := h.2 (by unfold toldI; rw [if_neg hm])
        rw [h1]
        unfold stepI
        rw [if_neg (fun g => hm (.inl g)), if_neg (fun g => hm (.inr g)), if_neg (fun g => hm (.inl g)), if_neg (fun g => hm (.inr g))]
    | some k =>
      have hp := hs k rfl
      subst hp
      exact h.2 ht
  refine ⟨fun k hk => ?_, fun ht => by rw [key ht]⟩
  have : toldI X s mv = true := by
    unfold toldI
    by_cases hm : mv.1 = 2 ∨ mv.1 = 3
    · rw [if_pos hm]
      cases s with
      | some k => rfl
      | none =>
        exfalso
        unfold stepI at hk
        rcases hm with hm | hm
        · rw [if_pos hm] at hk; cases hk
        · rw [if_neg (by omega), if_pos hm] at hk; cases hk
    · rw [if_neg hm]
  rw [key this]; exact hk
end
end Go.Proofs.Ytanmjbkbdmeckaa
/-
  The greatest item of a tree of whatever values. No condition.
-/
set_option linter.unusedSimpArgs false
set_option linter.unusedVariables false
namespace Go.Proofs.Ytanmjbkbdmeckaa
open Go Go.Proofs
theorem weave_getLast {cs : List (List It)} {ks : List It} {c : List It} (hl : cs.length = ks.length + 1) (hc : cs[ks.length]? = some c) (hne : 0 < c.length) : (weave cs ks).getLast? = c.getLast? := by
  have key : ∀ (n : Nat) (cs : List (List It)) (ks : List It), ks.length = n → cs.length = ks.length + 1 → cs[ks.length]? = some c → ∃ A, weave cs ks = A ++ c := by
    intro n
    induction n with
    | zero =>
      intro cs ks h0 hl hc
      obtain rfl : ks = [] := List.eq_nil_of_length_eq_zero h0
      match cs, hl with
      | [d], _ => simp at hc; subst hc; exact ⟨[], rfl⟩
    | succ n ih =>
      intro cs ks h0 hl hc
      match cs, ks, hl with
      | d :: cs, k :: ks, hl =>
        obtain ⟨A, hA⟩ := ih cs ks (by simpa using h0) (by simpa using hl) (by simpa using hc)
        exact ⟨d ++ k :: A, by rw [weave_cons, hA]; simp⟩
  obtain ⟨A, hA⟩ := key _ cs ks rfl hl hc
  rw [hA, List.getLast?_append]
  cases c with
  | nil => simp at hne
  | cons x c => simp [List.getLast?_cons]
set_option maxHeartbeats 800000 in
set_option maxRecDepth 8000 in
theorem maxMut_any (B m d : Nat) (iso : Int) (ord : List Int) (xs : List It) (hd : 2 ≤ d) (hd' : d ≤ 128) (F : Nat → Nat → Prop) (mu : Bool) (w : World) (hM : TreeAt B ord w m d iso xs F) :
    CallK Try.prog 141 #[ptr m, .bool mu] w fun v w' => v = .tuple #[itO xs.getLast?, .bool xs.getLast?.isSome] ∧ Ext noF w w' := by
  refine calls_of_W [.tmp 4, .tmp 5] Try.func141 rfl Try.ntmps141 Try.results141 (by simp) fun e he => ?_
  have e0 : e 0 = ptr m := he 0 _ rfl
  have e1 : e 1 = .bool mu := he 1 _ rfl
  clear he
  refine W_sq fun K hK => (W_text [true, true] (by kernel_rfl) ?_); simp only [↓List.toList_toArray, ↓rgd, ↓rgf, ↓reduceIte, Nat.reduceEqDiff, rg, ow_141]
  refine hK _ _ ?_; clear hK K
  refine W_seq ?_
  refine W_sq fun K hK => (W_text [true, true, false] (by kernel_rfl) ?_); simp only [↓List.toList_toArray, ↓rgd, ↓rgf, ↓reduceIte, Nat.reduceEqDiff, rg, ow_141, e0, e1]
  refine do_call fn_118 (by simp only [evt, evc, upd_eq, Nat.reduceEqDiff, ↓reduceIte, maT, maC, maN, isnN, isnS] <;> rfl) (lock_any _ _ w) ?_
  rintro _ w1 ⟨rfl, hw1⟩
  obtain rfl : w = w1 := hw1
  refine ⟨trivial, ?_⟩
  simp only [↓List.toList_toArray, ↓rgd, ↓rgf, ↓reduceIte, Nat.reduceEqDiff, rg, ow_141]
  refine hK _ _ ?_; clear hK K
  refine W_false (by simp only [evt, evc, upd_eq, Nat.reduceEqDiff, ↓reduceIte, ntT, ntF] <;> rfl) (W_skip ?_)
  show W _ _ _ _ _ _
  refine W_seq ?_
  rcases hM.root with ⟨rfl, hr⟩ | ⟨h, b, hr, ht⟩
  · have hz := zIt_at hM.cfg
    refine W_sq fun K hK => (W_text [true, true, true, true, true] (by kernel_rfl) ?_); simp only [↓List.toList_toArray, ↓rgd, ↓rgf, ↓reduceIte, Nat.reduceEqDiff, rg, ow_141, e0, ptr_eq, hr]
    refine hK _ _ ?_; clear hK K
    refine W_true (by simp only [evt, evc, upd_eq, Nat.reduceEqDiff, ↓reduceIte, ntT, ntF] <;> rfl) ?_
    refine W_sq fun K hK => (W_text [true, true, true, true, true, true] (by kernel_rfl) ?_); simp only [↓List.toList_toArray, ↓rgd, ↓rgf, ↓reduceIte, Nat.reduceEqDiff, rg, ow_141, e0, ptr_eq, hz]
    refine hK _ _ ?_; clear hK K
    refine W_ret ?_
    simp only [andThen_ret]
    exact endQ_2 (by simp only [upd_eq, Nat.reduceEqDiff, ↓reduceIte] <;> rfl) (by simp only [upd_eq, Nat.reduceEqDiff, ↓reduceIte] <;> rfl) ⟨rfl, Ext.refl _ _⟩
  · refine W_sq fun K hK => (W_text [true, true, true, true, true] (by kernel_rfl) ?_); simp only [↓List.toList_toArray, ↓rgd, ↓rgf, ↓reduceIte, Nat.reduceEqDiff, rg, ow_141, e0, ptr_eq, hr]
    refine hK _ _ ?_; clear hK K
    refine W_false (by simp only [evt, evc, upd_eq, Nat.reduceEqDiff, ↓reduceIte, ntT, ntF] <;> rfl) (W_skip ?_)
    show W _ _ _ _ _ _
    refine W_sq fun K hK => (W_text [true, true, true, true, true, false, true] (by kernel_rfl) ?_); simp only [↓List.toList_toArray, ↓rgd, ↓rgf, ↓reduceIte, Nat.reduceEqDiff, rg, ow_141, e0, e1, ptr_eq]
    refine do_call fn_121 (by simp only [evt, evc, upd_eq, Nat.reduceEqDiff, ↓reduceIte, maT, maC, maN, isnN, isnS] <;> rfl) (isoLoad_any m m 2 b mu iso w hM.cfg.iso hr ht.iso0.1) ?_
    rintro _ w1 ⟨rfl, r1⟩
    refine ⟨trivial, ?_⟩
    simp only [↓List.toList_toArray, ↓rgd, ↓rgf, ↓reduceIte, Nat.reduceEqDiff, rg, ow_141]
    refine hK _ _ ?_; clear hK K
    refine W_block (W_loop (fun mm e w' => ∃ (lo b : Nat) (ys : List It) (F : Nat → Nat → Prop), Tr E iso (d - 1) (2 * d - 1) mm w' lo b ys F ∧ 1 ≤ lo ∧ ys.getLast? = xs.getLast? ∧ Ext noF w w' ∧ e 0 = ptr m ∧ e 1 = .bool mu ∧ e 6 = ptr b)
      h ⟨1, b, xs, F, ht.ext r1.ext (fun _ _ _ h => h), Nat.le_refl _, rfl, r1.ext, by simp only [upd_eq, Nat.reduceEqDiff, ↓reduceIte]; exact e0, by simp only [upd_eq, Nat.reduceEqDiff, ↓reduceIte]; exact e1, by simp only [upd_eq, Nat.reduceEqDiff, ↓reduceIte]⟩ ?_)
    clear e0 e1 e hr ht r1
    rintro mm e w' ⟨lo, b, ys, F', ht, hlo, hl, X, e0, e1, e6⟩
    have hi0 := X.rd hM.cfg.iso (fun h => h)
    refine W_block (W_seq ?_)
    obtain ⟨bi, oi, cap, ks, ch, ho, h1, h2, _, ⟨rfl, rfl, rfl, hF⟩ | ⟨h', bc, ba, oa, capc, cs, rfl, rfl, n⟩⟩ := ht.open
    · refine W_sq fun K hK => (W_text [true, false] (by kernel_rfl) ?_); simp only [↓List.toList_toArray, ↓rgd, ↓rgf, ↓reduceIte, Nat.reduceEqDiff, rg, ow_141, e6]
      refine do_call fn_122 (by simp only [evt, evc, upd_eq, Nat.reduceEqDiff, ↓reduceIte, maT, maC, maN, isnN, isnS] <;> rfl) (leaf_any b none w' ho.h3) ?_
      rintro _ w' ⟨rfl, rfl⟩
      refine ⟨trivial, ?_⟩
      simp only [↓List.toList_toArray, ↓rgd, ↓rgf, ↓reduceIte, Nat.reduceEqDiff, rg, ow_141]
      refine hK _ _ ?_; clear hK K
      refine W_true (by simp only [evt, evc, upd_eq, Nat.reduceEqDiff, ↓reduceIte, ntT, ntF] <;> rfl) ?_
      obtain ⟨x, hx⟩ : ∃ x, ys[ys.length - 1]? = some x := ⟨_, List.getElem?_eq_getElem (by omega)⟩
      have hk := it_at ho.row hx
      have q := wsub1 ys.length (by omega) (by omega)
      have hi : ys.length - 1 < ys.length := by omega
      refine W_sq fun K hK => (W_draw (some none) none [(0, 0, 0), (0, 1, 0), (0, 2, 0), (0, 3, 0), (0, 4, 0), (0, 5, 0), (0, 6, 0), (0, 7, 0), (0, 8, 0), (0, 9, 0), (0, 10, 0), (0, 11, 0), (0, 12, 0), (0, 13, 0)] mixed (by kernel_rfl) ?_); simp only [↓List.toList_toArray, ↓rgd, ↓rgf, ↓reduceIte, Nat.reduceEqDiff, rg, ow_141, e6, ptr_eq, ho.h2, q, hi, hk]
      refine hK _ _ ?_; clear hK K
      refine W_ret ?_
      simp only [andThen_ret, inBlk_ret]
      have hlast : xs.getLast? = some x := by rw [← hl, List.getLast?_eq_getElem?]; exact hx
      exact endQ_2 (by simp only [upd_eq, Nat.reduceEqDiff, ↓reduceIte] <;> rfl) (by simp only [upd_eq, Nat.reduceEqDiff, ↓reduceIte] <;> rfl) ⟨by rw [hlast]; rfl, X.tr (Ext.dr _ _ _)⟩
    · have hcl := n.len
      obtain ⟨c, hc⟩ : ∃ c, cs[ks.length]? = some c := ⟨_, List.getElem?_eq_getElem (by omega)⟩
      have hcm := List.mem_of_getElem? hc
      refine W_sq fun K hK => (W_text [true, false] (by kernel_rfl) ?_); simp only [↓List.toList_toArray, ↓rgd, ↓rgf, ↓reduceIte, Nat.reduceEqDiff, rg, ow_141, e6]
      refine do_call fn_122 (by simp only [evt, evc, upd_eq, Nat.reduceEqDiff, ↓reduceIte, maT, maC, maN, isnN, isnS] <;> rfl) (leaf_any b (some ⟨bc, 0, none⟩) w' ho.h3) ?_
      rintro _ w' ⟨rfl, rfl⟩
      refine ⟨trivial, ?_⟩
      simp only [↓List.toList_toArray, ↓rgd, ↓rgf, ↓reduceIte, Nat.reduceEqDiff, rg, ow_141]
      refine hK _ _ ?_; clear hK K
      refine W_false (by simp only [evt, evc, upd_eq, Nat.reduceEqDiff, ↓reduceIte, ntT, ntF] <;> rfl) (W_skip ?_)
      show W _ _ _ _ _ _
      have hc0 := n.kids.c0
      rw [List.length_map] at hc0
      have hcr : rd w' ba (oa + (cs.length - 1)) = some (ptr c.b) := ptr_at n.kids.row (by rw [List.getElem?_map, show cs.length - 1 = ks.length by omega, hc]; rfl)
      have q2 := wsub1 cs.length (by omega) (by omega)
      have hlc : cs.length - 1 < cs.length := by omega
      refine W_rg fun K hK => (W_draw (some none) none [(0, 0, 0), (0, 1, 0), (0, 2, 0), (0, 3, 0), (0, 4, 0), (0, 5, 0), (0, 6, 0), (0, 7, 0), (0, 8, 0), (0, 9, 0), (0, 10, 0), (0, 11, 0), (0, 12, 0), (0, 13, 0), (0, 14, 0), (0, 15, 0), (0, 16, 0), (1, 17, 0), (0, 18, 0)] mixed (by kernel_rfl) ?_); simp only [↓List.toList_toArray, ↓rgd, ↓rgf, ↓reduceIte, Nat.reduceEqDiff, rg, ow_141, e0, e1, e6, ptr_eq, ho.h3, hc0, q2, hlc]
      refine do_call fn_121 (by simp only [evt, evc, upd_eq, Nat.reduceEqDiff, ↓reduceIte, maT, maC, maN, isnN, isnS] <;> rfl) (isoLoad_any m ba (oa + (cs.length - 1)) c.b mu iso _ hi0 hcr (n.sub c hcm).iso0.1) ?_
      rintro _ w2 ⟨rfl, r2⟩
      refine ⟨.inr (keeps_ro r2), ?_⟩
      simp only [↓List.toList_toArray, ↓rgd, ↓rgf, ↓reduceIte, Nat.reduceEqDiff, rg, ow_141]
      refine hK _ _ ?_; clear hK K
      have R : RO w' w2 := (RO.dr _ _).tr r2
      refine ⟨h', by omega, d - 1, c.b, c.xs, c.F, (n.sub c hcm).ext R.ext (fun _ _ _ h => h), by omega, ?_, X.tr R.ext, by simp only [upd_eq, Nat.reduceEqDiff, ↓reduceIte]; exact e0, by simp only [upd_eq, Nat.reduceEqDiff, ↓reduceIte]; exact e1, by simp only [upd_eq, Nat.reduceEqDiff, ↓reduceIte]⟩
      rw [← hl, n.eq]
      exact (weave_getLast (by simpa using hcl) (by rw [List.getElem?_map, hc]; rfl) ((n.sub c hcm).pos (by omega))).symm
set_option maxHeartbeats 800000 in
set_option maxRecDepth 8000 in
theorem maxG_any (B m d : Nat) (iso : Int) (ord : List Int) (xs : List It) (hd : 2 ≤ d) (hd' : d ≤ 128) (F : Nat → Nat → Prop) (w : World) (hM : TreeAt B ord w m d iso xs F) :
    CallK Try.prog 111 #[ptr m] w fun v w' => v = .tuple #[itO xs.getLast?, .bool xs.getLast?.isSome] ∧ Ext noF w w' := by
  refine calls_of_W [.tmp 2, .tmp 3] Try.func111 rfl Try.ntmps111 Try.results111 (by simp) fun e he => ?_
  have e0 : e 0 = ptr m := he 0 _ rfl
  clear he
  refine W_sq fun K hK => (W_text [true, true] (by kernel_rfl) ?_); simp only [↓List.toList_toArray, ↓rgd, ↓rgf, ↓reduceIte, Nat.reduceEqDiff, rg, ow_111]
  refine hK _ _ ?_; clear hK K
  refine W_sq fun K hK => (W_text [true, false, true, true, true, true] (by kernel_rfl) ?_); simp only [↓List.toList_toArray, ↓rgd, ↓rgf, ↓reduceIte, Nat.reduceEqDiff, rg, ow_111, e0]
  refine do_call fn_141 (by simp only [evt, evc, upd_eq, Nat.reduceEqDiff, ↓reduceIte, maT, maC, maN, isnN, isnS] <;> rfl) (maxMut_any B m d iso ord xs hd hd' F false w hM) ?_
  rintro _ w1 ⟨rfl, X1⟩
  refine ⟨trivial, ?_⟩
  simp only [↓List.toList_toArray, ↓rgd, ↓rgf, ↓reduceIte, Nat.reduceEqDiff, rg, ow_111]
  refine hK _ _ ?_; clear hK K
  exact W_ret (endQ_2 (by simp only [upd_eq, Nat.reduceEqDiff, ↓reduceIte] <;> rfl) (by simp only [upd_eq, Nat.reduceEqDiff, ↓reduceIte] <;> rfl) ⟨rfl, X1⟩)
end Go.Proofs.Ytanmjbkbdmeckaa
/-
  The greatest item of a tree of whatever values, wrapped. No condition.
-/
set_option linter.unusedSimpArgs false
set_option linter.unusedVariables false
namespace Go.Proofs.Ytanmjbkbdmeckaa
open Go Go.Proofs
set_option maxHeartbeats 800000 in
set_option maxRecDepth 8000 in
theorem maxT_any (t B m d : Nat) (iso : Int) (ord : List Int) (xs : List It) (hd : 2 ≤ d) (hd' : d ≤ 128) (F : Nat → Nat → Prop) (w : World) (ht : BAt w t m) (hM : TreeAt B ord w m d iso xs F) :
    CallK Try.prog 76 #[ptr t] w fun v w' => v = itO xs.getLast? ∧ Ext noF w w' := by
  refine calls_of_W [.tmp 2] Try.func76 rfl Try.ntmps76 Try.results76 (by simp) fun e he => ?_
  have e0 : e 0 = ptr t := he 0 _ rfl
  clear he
  refine W_sq fun K hK => (W_text [true] (by kernel_rfl) ?_); simp only [↓List.toList_toArray, ↓rgd, ↓rgf, ↓reduceIte, Nat.reduceEqDiff, rg, ow_76]
  refine hK _ _ ?_; clear hK K
  refine W_sq fun K hK => (W_text [true, true, true, true, false, true, true, true, true, true] (by kernel_rfl) ?_); simp only [↓List.toList_toArray, ↓rgd, ↓rgf, ↓reduceIte, Nat.reduceEqDiff, rg, ow_76, e0, ptr_eq, show rd w t 0 = some (ptr m) from ht]
  refine do_call fn_111 (by simp only [evt, evc, upd_eq, Nat.reduceEqDiff, ↓reduceIte, maT, maC, maN, isnN, isnS] <;> rfl) (maxG_any B m d iso ord xs hd hd' F w hM) ?_
  rintro _ w1 ⟨rfl, h1⟩
  refine ⟨trivial, ?_⟩
  simp only [↓List.toList_toArray, ↓rgd, ↓rgf, ↓reduceIte, Nat.reduceEqDiff, rg, ow_76]
  refine hK _ _ ?_; clear hK K
  refine W_seq ?_
  cases hh : xs.getLast?.isSome with
  | true =>
    refine W_sq fun K hK => (W_text [true, true] (by kernel_rfl) ?_); simp only [↓List.toList_toArray, ↓rgd, ↓rgf, ↓reduceIte, Nat.reduceEqDiff, rg, ow_76, hh]
    refine hK _ _ ?_; clear hK K
    refine W_false (by simp only [evt, evc, upd_eq, Nat.reduceEqDiff, ↓reduceIte, ntT, ntF] <;> rfl) (W_skip ?_)
    show W _ _ _ _ _ _
    refine W_sq fun K hK => (W_text [true, true] (by kernel_rfl) ?_); simp only [↓List.toList_toArray, ↓rgd, ↓rgf, ↓reduceIte, Nat.reduceEqDiff, rg, ow_76]
    refine hK _ _ ?_; clear hK K
    exact W_ret (endQ_1 (by simp only [upd_eq, Nat.reduceEqDiff, ↓reduceIte] <;> rfl) ⟨rfl, h1⟩)
  | false =>
    refine W_sq fun K hK => (W_text [true, true] (by kernel_rfl) ?_); simp only [↓List.toList_toArray, ↓rgd, ↓rgf, ↓reduceIte, Nat.reduceEqDiff, rg, ow_76, hh]
    refine hK _ _ ?_; clear hK K
    refine W_true (by simp only [evt, evc, upd_eq, Nat.reduceEqDiff, ↓reduceIte, ntT, ntF] <;> rfl) ?_
    refine W_sq fun K hK => (W_text [true] (by kernel_rfl) ?_); simp only [↓List.toList_toArray, ↓rgd, ↓rgf, ↓reduceIte, Nat.reduceEqDiff, rg, ow_76]
    refine hK _ _ ?_; clear hK K
    refine W_ret ?_
    simp only [andThen_ret]
    exact endQ_1 (by simp only [upd_eq, Nat.reduceEqDiff, ↓reduceIte] <;> rfl) ⟨(itO_none hh).symm, h1⟩
end Go.Proofs.Ytanmjbkbdmeckaa
/-
  Replies: whatever value was found, as an item and whether there was one. No condition.
-/
set_option linter.unusedSimpArgs false
set_option linter.unusedVariables false
namespace Go.Proofs.Ytanmjbkbdmeckaa
open Go Go.Proofs
def foO (x : Option It) : It × Bool := (x.getD (0, 0), x.isSome)
theorem bu_fo (x : It) : buildV Try.prog 43 [(0, iV x), (1, .bool true)] = some (foV (x, true)) := by kernel_rfl
theorem bu_fo0 : buildV Try.prog 43 [] = some (foV ((0, 0), false)) := by kernel_rfl
theorem oc_fo (x : It × Bool) : oc (foV x).cells.toList := Ef.one x
theorem z_fo : zK Try.prog 43 = some [.int .i64 0, .int .i64 0, .bool false] := by kernel_rfl
theorem ld_fo {w : World} {b : Nat} {x : It × Bool} (h : Row w b 0 (Ef.cel x)) : loadV w ⟨b, 0, none⟩ (some 3) = some (foV x) := h.rdA 3 (by simp [Ef])
set_option maxHeartbeats 800000 in
set_option maxRecDepth 8000 in
theorem found_any (x : Option It) (w : World) : CallK Try.prog 54 #[itO x] w fun v w' => v = foV (foO x) ∧ Ext noF w w' := by
  refine calls_of_W [.cell 2 43] Try.func54 rfl Try.ntmps54 Try.results54 (by simp) fun e he => ?_
  have e0 : e 0 = itO x := he 0 _ rfl
  clear he
  refine W_sq fun K hK => (W_text [false] (by kernel_rfl) ?_); simp only [↓List.toList_toArray, ↓rgd, ↓rgf, ↓reduceIte, Nat.reduceEqDiff, rg, ow_54]
  refine do_alloc z_fo fun w2 n2 => ⟨trivial, ?_⟩
  simp only [↓List.toList_toArray, ↓rgd, ↓rgf, ↓reduceIte, Nat.reduceEqDiff, rg, ow_54]
  refine hK _ _ ?_; clear hK K
  refine W_seq ?_
  cases x with
  | some x =>
    replace e0 : e 0 = itV x := e0
    refine W_sq fun K hK => (W_text [true, true] (by kernel_rfl) ?_); simp only [↓List.toList_toArray, ↓rgd, ↓rgf, ↓reduceIte, Nat.reduceEqDiff, rg, ow_54, e0, eq_any]
    refine hK _ _ ?_; clear hK K
    refine W_false (by simp only [evt, evc, upd_eq, Nat.reduceEqDiff, ↓reduceIte, ntT, ntF] <;> rfl) (W_skip ?_)
    show W _ _ _ _ _ _
    refine W_sq fun K hK => (W_text [true, true, true, false] (by kernel_rfl) ?_); simp only [↓List.toList_toArray, ↓rgd, ↓rgf, ↓reduceIte, Nat.reduceEqDiff, rg, ow_54, e0, tas_any, bu_fo]
    refine do_store (v := foV (x, true)) (by simp only [evt, evc, upd_eq, Nat.reduceEqDiff, ↓reduceIte, ntT, ntF] <;> rfl) (by simp only [evt, evc, upd_eq, Nat.reduceEqDiff, ↓reduceIte, ntT, ntF] <;> rfl) sz_43 rfl n2.wok (by decide) (oc_fo _) fun w3 x3 r3 s3 => ⟨trivial, ?_⟩
    simp only [↓List.toList_toArray, ↓rgd, ↓rgf, ↓reduceIte, Nat.reduceEqDiff, rg, ow_54]
    refine hK _ _ ?_; clear hK K
    refine W_ret ?_
    exact endQ_c (by simp only [upd_eq, Nat.reduceEqDiff, ↓reduceIte]) ld_43 (ld_fo r3) ⟨rfl, noF_of n2.ext x3 fun y o hy h => by simp only [rng] at h; omega⟩
  | none =>
    replace e0 : e 0 = zV := e0
    refine W_sq fun K hK => (W_text [true, true] (by kernel_rfl) ?_); simp only [↓List.toList_toArray, ↓rgd, ↓rgf, ↓reduceIte, Nat.reduceEqDiff, rg, ow_54, e0, eq_anyN]
    refine hK _ _ ?_; clear hK K
    refine W_true (by simp only [evt, evc, upd_eq, Nat.reduceEqDiff, ↓reduceIte, ntT, ntF] <;> rfl) ?_
    refine W_sq fun K hK => (W_text [true, false] (by kernel_rfl) ?_); simp only [↓List.toList_toArray, ↓rgd, ↓rgf, ↓reduceIte, Nat.reduceEqDiff, rg, ow_54, bu_fo0]
    refine do_store (v := foV ((0, 0), false)) (by simp only [evt, evc, upd_eq, Nat.reduceEqDiff, ↓reduceIte, ntT, ntF] <;> rfl) (by simp only [evt, evc, upd_eq, Nat.reduceEqDiff, ↓reduceIte, ntT, ntF] <;> rfl) sz_43 rfl n2.wok (by decide) (oc_fo _) fun w3 x3 r3 s3 => ⟨trivial, ?_⟩
    simp only [↓List.toList_toArray, ↓rgd, ↓rgf, ↓reduceIte, Nat.reduceEqDiff, rg, ow_54]
    refine hK _ _ ?_; clear hK K
    refine W_ret ?_
    simp only [andThen_ret]
    exact endQ_c (by simp only [upd_eq, Nat.reduceEqDiff, ↓reduceIte]) ld_43 (ld_fo r3) ⟨rfl, noF_of n2.ext x3 fun y o hy h => by simp only [rng] at h; omega⟩
end Go.Proofs.Ytanmjbkbdmeckaa
/-
  What is found at an index; a list with an element taken away. No condition.
-/
set_option linter.unusedSimpArgs false
set_option linter.unusedVariables false
namespace Go.Proofs.Ytanmjbkbdmeckaa
open Go Go.Proofs
theorem ni_i : noInt Try.prog 25 = true := by kernel_rfl
/-- The item at an index, and whether there is one. -/
def nth (l : List It) (i : Int) : Option It := if 0 ≤ i then l[i.toNat]? else none
theorem nth_none {xs : List It} {i : Int} (h : i < 0 ∨ (xs.length : Int) ≤ i) : nth xs i = none := by
  unfold nth
  split
  · exact List.getElem?_eq_none (by omega)
  · rfl
theorem bu_fo1 (x : It) : buildV Try.prog 43 [(0, iV x), (1, .bool true)] = some (foV (x, true)) := bu_fo x
/-- A list without an item, and the item. -/
def cutL (l : List It) (i : Int) : List It := if 0 ≤ i then l.eraseIdx i.toNat else l
theorem cutL_out {l : List It} {i : Int} (h : i < 0 ∨ (l.length : Int) ≤ i) : cutL l i = l := by
  unfold cutL
  split
  · exact List.eraseIdx_of_length_le (by omega)
  · rfl
set_option maxHeartbeats 1000000 in
set_option maxRecDepth 8000 in
theorem cut_any (l : List It) (lv : Value) (ix : Int) (w : World) (hl : SlI w lv l) (hbig : l.length ≤ 2147483648) :
    CallK Try.prog 110 #[lv, .int .i64 ix] w fun v w' => ∃ sv, v = .tuple #[sv, foV (foO (nth l ix))] ∧ SlI w' sv (cutL l ix) ∧ Ext noF w w' := by
  obtain ⟨a, c, hlv⟩ := hl.shape
  refine calls_of_W [.tmp 4, .cell 5 43] Try.func110 rfl Try.ntmps110 Try.results110 (by simp) fun e he => ?_
  have e0 : e 0 = .slice a l.length c := by rw [← hlv]; exact he 0 _ rfl
  have e1 : e 1 = .int .i64 ix := he 1 _ rfl
  clear he
  refine W_sq fun K hK => (W_text [true, false] (by kernel_rfl) ?_); simp only [↓List.toList_toArray, ↓rgd, ↓rgf, ↓reduceIte, Nat.reduceEqDiff, rg, ow_110]
  refine do_alloc z_fo fun w1 n1 => ⟨trivial, ?_⟩
  simp only [↓List.toList_toArray, ↓rgd, ↓rgf, ↓reduceIte, Nat.reduceEqDiff, rg, ow_110]
  refine hK _ _ ?_; clear hK K
  have s1 := n1.size
  have out : (ix < 0 ∨ (l.length : Int) ≤ ix) → nth l ix = none ∧ cutL l ix = l := fun h => ⟨nth_none h, cutL_out h⟩
  refine W_seq ?_
  by_cases h1 : ix < 0
  · have t1 : decide (ix < 0) = true := by simp [h1]
    refine W_sq fun K hK => (W_text [true, true, true, true, true, true, true, true] (by kernel_rfl) ?_); simp only [↓List.toList_toArray, ↓rgd, ↓rgf, ↓reduceIte, Nat.reduceEqDiff, rg, ow_110, e0, e1, t1]
    refine hK _ _ ?_; clear hK K
    refine W_true (by simp only [evt, evc, upd_eq, Nat.reduceEqDiff, ↓reduceIte, ntT, ntF] <;> rfl) ?_
    refine W_sq fun K hK => (W_text [true, true, true, false] (by kernel_rfl) ?_); simp only [↓List.toList_toArray, ↓rgd, ↓rgf, ↓reduceIte, Nat.reduceEqDiff, rg, ow_110, e0, bu_fo0]
    refine do_store (v := foV ((0, 0), false)) (by simp only [evt, evc, upd_eq, Nat.reduceEqDiff, ↓reduceIte, ntT, ntF] <;> rfl) (by simp only [evt, evc, upd_eq, Nat.reduceEqDiff, ↓reduceIte, ntT, ntF] <;> rfl) sz_43 rfl n1.wok (by decide) (oc_fo _) fun w3 x3 r3 s3 => ⟨trivial, ?_⟩
    simp only [↓List.toList_toArray, ↓rgd, ↓rgf, ↓reduceIte, Nat.reduceEqDiff, rg, ow_110]
    refine hK _ _ ?_; clear hK K
    refine W_ret ?_
    simp only [andThen_ret]
    have X3 := noF_of n1.ext x3 fun y o hy h => by simp only [rng] at h; omega
    rw [(out (.inl h1)).1, (out (.inl h1)).2]
    exact endQ_tc (by simp only [upd_eq, Nat.reduceEqDiff, ↓reduceIte] <;> rfl) (by simp only [upd_eq, Nat.reduceEqDiff, ↓reduceIte]) ld_43 (ld_fo r3) ⟨_, rfl, by rw [← hlv]; exact hl.ext0 X3, X3⟩
  have t1 : decide (ix < 0) = false := by simp; omega
  by_cases h2 : (l.length : Int) ≤ ix
  · have t2 : decide ((l.length : Int) ≤ ix) = true := by simp [h2]
    refine W_sq fun K hK => (W_text [true, true, true, true, true, true, true, true] (by kernel_rfl) ?_); simp only [↓List.toList_toArray, ↓rgd, ↓rgf, ↓reduceIte, Nat.reduceEqDiff, rg, ow_110, e0, e1, t1, t2]
    refine hK _ _ ?_; clear hK K
    refine W_true (by simp only [evt, evc, upd_eq, Nat.reduceEqDiff, ↓reduceIte, ntT, ntF] <;> rfl) ?_
    refine W_sq fun K hK => (W_text [true, true, true, false] (by kernel_rfl) ?_); simp only [↓List.toList_toArray, ↓rgd, ↓rgf, ↓reduceIte, Nat.reduceEqDiff, rg, ow_110, e0, bu_fo0]
    refine do_store (v := foV ((0, 0), false)) (by simp only [evt, evc, upd_eq, Nat.reduceEqDiff, ↓reduceIte, ntT, ntF] <;> rfl) (by simp only [evt, evc, upd_eq, Nat.reduceEqDiff, ↓reduceIte, ntT, ntF] <;> rfl) sz_43 rfl n1.wok (by decide) (oc_fo _) fun w3 x3 r3 s3 => ⟨trivial, ?_⟩
    simp only [↓List.toList_toArray, ↓rgd, ↓rgf, ↓reduceIte, Nat.reduceEqDiff, rg, ow_110]
    refine hK _ _ ?_; clear hK K
    refine W_ret ?_
    simp only [andThen_ret]
    have X3 := noF_of n1.ext x3 fun y o hy h => by simp only [rng] at h; omega
    rw [(out (.inr h2)).1, (out (.inr h2)).2]
    exact endQ_tc (by simp only [upd_eq, Nat.reduceEqDiff, ↓reduceIte] <;> rfl) (by simp only [upd_eq, Nat.reduceEqDiff, ↓reduceIte]) ld_43 (ld_fo r3) ⟨_, rfl, by rw [← hlv]; exact hl.ext0 X3, X3⟩
  have t2 : decide ((l.length : Int) ≤ ix) = false := by simp; omega
  refine W_sq fun K hK => (W_text [true, true, true, true, true, true, true, true] (by kernel_rfl) ?_); simp only [↓List.toList_toArray, ↓rgd, ↓rgf, ↓reduceIte, Nat.reduceEqDiff, rg, ow_110, e0, e1, t1, t2]
  refine hK _ _ ?_; clear hK K
  refine W_false (by simp only [evt, evc, upd_eq, Nat.reduceEqDiff, ↓reduceIte, ntT, ntF] <;> rfl) (W_skip ?_)
  show W _ _ _ _ _ _
  obtain ⟨i, rfl⟩ : ∃ i : Nat, ix = i := ⟨ix.toNat, by omega⟩
  have hi : i < l.length := by omega
  obtain ⟨x, hx⟩ : ∃ x, l[i]? = some x := ⟨_, List.getElem?_eq_getElem hi⟩
  have hn : nth l (i : Int) = some x := by simp [nth, hx]
  obtain ⟨sv1, hs1, hsl1⟩ := sl_hi (hl.ext0 n1.ext) i (by omega)
  obtain ⟨sv2, hs2, hsl2⟩ := sl_lo (hl.ext0 n1.ext) (i + 1) (by omega)
  rw [hlv] at hs1 hs2
  have q1 := wadd1 i (by omega)
  obtain ⟨lb, lo, rfl, row⟩ := (hl.ext0 n1.ext).at hlv hi
  have ixx := iV_at row hx
  have hlb : lb < w1.heap.size := (hl.ext0 n1.ext).lt hlv
  have M1 : readsB (some (some [lb])) lb = true := by simp [readsB]
  refine W_sq fun K hK => (W_draw (some (some [lb])) (some 16) [(0, 1, 0), (0, 2, 0), (0, 3, 0), (0, 5, 0), (0, 6, 0), (0, 7, 0), (0, 8, 0), (0, 10, 0), (0, 11, 0), (0, 12, 0), (0, 13, 0), (0, 14, 0), (1, 0, 0), (1, 4, 0), (1, 9, 0), (0, 15, 0), (1, 16, 0)] mixed (by kernel_rfl) ?_); simp only [↓List.toList_toArray, ↓rgd, ↓rgf, ↓reduceIte, Nat.reduceEqDiff, rg, ow_110, e0, e1, hs1, hs2, q1, hi, ixx, bu_fo1, M1]
  refine do_bsl rfl bs_i0 fun w2 n2 => ⟨.inr (keeps_on n2.ext fun y hy => ⟨?_, fun _ h => h⟩), ?_⟩
  · rw [sz_dr]
    simp only [List.mem_cons, List.not_mem_nil, or_false] at hy
    omega
  simp only [↓List.toList_toArray, ↓rgd, ↓rgf, ↓reduceIte, Nat.reduceEqDiff, rg, ow_110, e0, e1, hs1, hs2, q1, hi, ixx, bu_fo1]
  have n2 := n2.od
  have s2 := n2.size
  have hv2 : SlV w2 2 (.slice (some ⟨w1.heap.size, 0, none⟩) 0 0) 0 [] := ⟨rfl, .inr ⟨_, 0, 0, rfl, Nat.le_refl _, Row.nil _ _ _, n2.wok.R (Nat.le_refl _)⟩⟩
  refine do_append (by simp only [evt, evc, upd_eq, Nat.reduceEqDiff, ↓reduceIte, ntT, ntF] <;> rfl) (by simp only [evt, evc, upd_eq, Nat.reduceEqDiff, ↓reduceIte, ntT, ntF] <;> rfl) el_i rfl ni_i hv2 (hsl1.ext0 n2.ext) (by omega) (by decide) (flat_oc Ei _) fun v3 w3 a3 => ?_
  obtain ⟨hS3, hg3, x3⟩ := app_since (B := w1.heap.size) a3 (fun b o n c h => by simp only [Value.slice.injEq, Option.some.injEq, Addr.mk.injEq] at h; omega) (by omega)
  refine ⟨.inr (keeps_on x3 fun y hy => ?_), ?_⟩
  · simp only [List.mem_cons, List.not_mem_nil, or_false] at hy
    exact ⟨by omega, fun o h => by omega⟩
  simp only [↓List.toList_toArray, ↓rgd, ↓rgf, ↓reduceIte, Nat.reduceEqDiff, rg, ow_110, e0, e1, hs1, hs2, q1, hi, ixx, bu_fo1]
  have s3 := x3.size
  have hsl2' : SlV w3 2 sv2 (l.length - (i + 1)) (flat Ei (l.drop (i + 1))) := (hsl2.ext0 n2.ext).ext x3 fun b o c h k hk g => by
    have := hsl2.lt h
    omega
  refine do_append (by simp only [evt, evc, upd_eq, Nat.reduceEqDiff, ↓reduceIte, ntT, ntF] <;> rfl) (by simp only [evt, evc, upd_eq, Nat.reduceEqDiff, ↓reduceIte, ntT, ntF] <;> rfl) el_i rfl ni_i hS3 hsl2' (by omega) (by decide) (flat_oc Ei _) fun v4 w4 a4 => ?_
  obtain ⟨hS4, hg4, x4⟩ := app_since (B := w1.heap.size) a4 hg3 (by omega)
  refine ⟨.inr (keeps_on x4 fun y hy => ?_), ?_⟩
  · simp only [List.mem_cons, List.not_mem_nil, or_false] at hy
    exact ⟨by omega, fun o h => by omega⟩
  simp only [↓List.toList_toArray, ↓rgd, ↓rgf, ↓reduceIte, Nat.reduceEqDiff, rg, ow_110, e0, e1, hs1, hs2, q1, hi, ixx, bu_fo1]
  have s4 := x4.size
  have X4 : Ext (fun y _ => w.heap.size ≤ y) w w4 := ((n1.ext.mono (G := fun y _ => w.heap.size ≤ y) fun _ _ _ h => h.elim).tr (n2.ext.mono fun _ _ _ h => h.elim)).tr ((x3.tr x4).mono fun y o _ h => by omega)
  refine do_store (v := foV (x, true)) (by simp only [evt, evc, upd_eq, Nat.reduceEqDiff, ↓reduceIte, ntT, ntF] <;> rfl) (by simp only [evt, evc, upd_eq, Nat.reduceEqDiff, ↓reduceIte, ntT, ntF] <;> rfl) sz_43 rfl (x4.wok (x3.wok (n2.ext.wok n1.wok))) (by decide) (oc_fo _) fun w5 x5 r5 s5 => ⟨.inl trivial, ?_⟩
  simp only [↓List.toList_toArray, ↓rgd, ↓rgf, ↓reduceIte, Nat.reduceEqDiff, rg, ow_110]
  refine hK _ _ ?_; clear hK K
  refine W_ret ?_
  rw [hn]
  refine endQ_tc (by simp only [upd_eq, Nat.reduceEqDiff, ↓reduceIte] <;> rfl) (by simp only [upd_eq, Nat.reduceEqDiff, ↓reduceIte]) ld_43 (ld_fo r5) ⟨_, rfl, ?_, noF_of (Ext.refl _ _) (X4.tr (x5.mono fun y o _ h => by simp only [rng] at h; show w.heap.size ≤ y; omega)) fun y o hy h => by omega⟩
  have he : cutL l (i : Int) = l.take i ++ l.drop (i + 1) := by simp [cutL, List.eraseIdx_eq_take_drop_succ]
  have hln : (cutL l (i : Int)).length = 0 + i + (l.length - (i + 1)) := by rw [he, List.length_append, List.length_take, List.length_drop]; omega
  rw [SlI, hln, he, flat_append]
  have := hS4.ext x5 fun b o c h k hk g => by
    have := hg4 _ _ _ _ h
    simp only [rng] at g
    omega
  simpa using this
set_option maxHeartbeats 400000 in
set_option maxRecDepth 8000 in
theorem sat_any (l : List It) (lv : Value) (ix : Int) (w : World) (hl : SlI w lv l) (hbig : l.length ≤ 2147483648) :
    CallK Try.prog 77 #[lv, .int .i64 ix] w fun v w' => v = foV (foO (nth l ix)) ∧ Ext noF w w' := by
  refine calls_of_W [.cell 4 43] Try.func77 rfl Try.ntmps77 Try.results77 (by simp) fun e he => ?_
  have e0 : e 0 = lv := he 0 _ rfl
  have e1 : e 1 = .int .i64 ix := he 1 _ rfl
  clear he
  refine W_sq fun K hK => (W_text [false] (by kernel_rfl) ?_); simp only [↓List.toList_toArray, ↓rgd, ↓rgf, ↓reduceIte, Nat.reduceEqDiff, rg, ow_77]
  refine do_alloc z_fo fun w1 n1 => ⟨trivial, ?_⟩
  simp only [↓List.toList_toArray, ↓rgd, ↓rgf, ↓reduceIte, Nat.reduceEqDiff, rg, ow_77]
  refine hK _ _ ?_; clear hK K
  have s1 := n1.size
  refine W_sq fun K hK => (W_text [true, true, false, true, true, true, false, true, false] (by kernel_rfl) ?_); simp only [↓List.toList_toArray, ↓rgd, ↓rgf, ↓reduceIte, Nat.reduceEqDiff, rg, ow_77, e0, e1]
  refine do_call fn_110 (by simp only [evt, evc, upd_eq, Nat.reduceEqDiff, ↓reduceIte, maT, maC, maN, isnN, isnS] <;> rfl) (cut_any l lv ix w1 (hl.ext0 n1.ext) hbig) ?_
  rintro _ w2 ⟨sv, rfl, _, X2⟩
  refine ⟨trivial, ?_⟩
  simp only [↓List.toList_toArray, ↓rgd, ↓rgf, ↓reduceIte, Nat.reduceEqDiff, rg, ow_77]
  refine do_alloc z_fo fun w3 n3 => ⟨trivial, ?_⟩
  simp only [↓List.toList_toArray, ↓rgd, ↓rgf, ↓reduceIte, Nat.reduceEqDiff, rg, ow_77]
  have s2 := X2.size
  have s3 := n3.size
  refine do_store (v := foV (foO (nth l ix))) (by simp only [evt, evc, upd_eq, Nat.reduceEqDiff, ↓reduceIte, ntT, ntF] <;> rfl) (by simp only [evt, evc, upd_eq, Nat.reduceEqDiff, ↓reduceIte, ntT, ntF] <;> rfl) sz_43 rfl n3.wok (by decide) (oc_fo _) fun w4 x4 r4 s4 => ⟨trivial, ?_⟩
  simp only [↓List.toList_toArray, ↓rgd, ↓rgf, ↓reduceIte, Nat.reduceEqDiff, rg, ow_77]
  refine hK _ _ ?_; clear hK K
  have ld : rdA w4 w2.heap.size 0 3 = some (foV (foO (nth l ix))) := (show Row w4 w2.heap.size 0 (Ef.cel (foO (nth l ix))) from r4).rdA 3 (by simp [Ef])
  refine W_sq fun K hK => (W_text [true, false] (by kernel_rfl) ?_); simp only [↓List.toList_toArray, ↓rgd, ↓rgf, ↓reduceIte, Nat.reduceEqDiff, rg, ow_77, ld]
  refine do_store (v := foV (foO (nth l ix))) (by simp only [evt, evc, upd_eq, Nat.reduceEqDiff, ↓reduceIte, ntT, ntF] <;> rfl) (by simp only [evt, evc, upd_eq, Nat.reduceEqDiff, ↓reduceIte, ntT, ntF] <;> rfl) sz_43 rfl (x4.wok (n3.ext.wok (X2.wok n1.wok))) (by decide) (oc_fo _) fun w5 x5 r5 s5 => ⟨trivial, ?_⟩
  simp only [↓List.toList_toArray, ↓rgd, ↓rgf, ↓reduceIte, Nat.reduceEqDiff, rg, ow_77]
  refine hK _ _ ?_; clear hK K
  refine W_ret ?_
  refine endQ_c (by simp only [upd_eq, Nat.reduceEqDiff, ↓reduceIte]) ld_43 (ld_fo r5) ⟨rfl, ?_⟩
  have X4 : Ext noF w w4 := noF_of ((n1.ext.tr X2).tr n3.ext) x4 fun y o hy h => by simp only [rng] at h; omega
  exact noF_of X4 x5 fun y o hy h => by simp only [rng] at h; omega
end Go.Proofs.Ytanmjbkbdmeckaa
/-
  Replies kept in a list. No condition.
-/
set_option linter.unusedSimpArgs false
set_option linter.unusedVariables false
namespace Go.Proofs.Ytanmjbkbdmeckaa
open Go Go.Proofs
theorem nth_first (l : List It) : nth l 0 = l.head? := by
  unfold nth
  rw [if_pos (Int.le_refl _), List.head?_eq_getElem?]
  rfl
theorem el_fo : elK Try.prog 38 = some (43, 3, 24, [.int .i64 0, .int .i64 0, .bool false]) := by kernel_rfl
theorem ni_fo : noInt Try.prog 38 = true := by kernel_rfl
theorem bs_fo1 (x : It × Bool) : bsV Try.prog 38 1 [(0, foV x)] = some (43, Ef.cel x) := by kernel_rfl
/-- A list that is made of replies, in new memory. -/
structure Outs (B : Nat) (v : Value) (l : List (It × Bool)) (w : World) : Prop where
  sl : SlV w 3 v l.length (flat Ef l)
  si : since B v
theorem Outs.ext {B : Nat} {v : Value} {l : List (It × Bool)} {w w' : World} (h : Outs B v l w) (x : Ext noF w w') : Outs B v l w' := ⟨h.sl.ext0 x, h.si⟩
theorem Outs.nil (B : Nat) (w : World) : Outs B (.slice none 0 0) [] w := ⟨⟨rfl, .inl ⟨rfl, rfl⟩⟩, fun b o n c h => by cases h⟩
theorem Outs.app {B : Nat} {v v' : Value} {l : List (It × Bool)} {x : It × Bool} {w w' : World} (h : Outs B v l w) (a : AppRes w 3 v l.length 1 (flat Ef l) (Ef.cel x) v' w') (hB : B ≤ w.heap.size) : Outs B v' (l ++ [x]) w' ∧ Ext (fun y _ => B ≤ y) w w' := by
  obtain ⟨h1, h2, h3⟩ := app_since a h.si hB
  refine ⟨⟨?_, h2⟩, h3⟩
  rw [List.length_append, List.length_singleton, flat_append, flat_one]
  exact h1
theorem Outs.extB {B : Nat} {v : Value} {l : List (It × Bool)} {w w' : World} {G : Nat → Nat → Prop} (h : Outs B v l w) (x : Ext G w w') (hG : ∀ y o, G y o → y < B) : Outs B v l w' :=
  ⟨h.sl.ext x fun b o cap hv j _ g => by have := h.si _ _ _ _ hv; have := hG _ _ g; omega, h.si⟩
theorem take_snoc {α : Type} {l : List α} {i : Nat} {x : α} (h : l[i]? = some x) : l.take (i + 1) = l.take i ++ [x] := by rw [List.take_add_one, h]; rfl
end Go.Proofs.Ytanmjbkbdmeckaa
/-
  Handing on the items of a tree in their order. No condition.
-/
set_option linter.unusedSimpArgs false
set_option linter.unusedVariables false
namespace Go.Proofs.Ytanmjbkbdmeckaa
open Go Go.Proofs
/-- A function that is handed items: S says what the world is behind the items that were handed on; go tells whether it wants more; it changes nothing outside G. -/
def Cb (f : Value) (G : Nat → Nat → Prop) (S : List It → World → Prop) (go : List It → Bool) : Prop :=
  (∃ g first cap, f = .func (.func g) first cap ∧ isFn Try.prog g = true ∧ ∀ done x w, S done w → done.length < 4294967295 →
    CallK Try.prog g (first ++ #[itV x] ++ cap) w fun v w' => v = .bool (go (done ++ [x])) ∧ S (done ++ [x]) w' ∧ Ext G w w') ∧
  ∀ done w w', S done w → Ext noF w w' → S done w'
set_option maxHeartbeats 400000 in
set_option maxRecDepth 8000 in
theorem nodeScan_any (m : Nat) (iso : Int) (mn mx : Nat) (f : Value) (G : Nat → Nat → Prop) (S : List It → World → Prop) (go : List It → Bool) (C : Cb f G S go) (hm : ∀ o, ¬ G m o) (mu : Bool) :
    ∀ (h b lo pc po : Nat) (xs : List It) (F : Nat → Nat → Prop) (done : List It) (w : World), Tr E iso mn mx h w lo b xs F → rd w m 0 = some (.int .u64 iso) → rd w pc po = some (ptr b) → (∀ y o o', F y o → ¬ G y o') → S done w →
      done.length + xs.length ≤ 4294967295 →
    CallK Try.prog 163 #[ptr m, .pointer (some ⟨pc, po, none⟩), f, .bool mu] w fun v w' => v = .bool (hand go done xs).2 ∧ S (hand go done xs).1 w' ∧ Ext G w w' := by
  obtain ⟨⟨g, first, cap0, rfl, hg, hcall⟩, hSx⟩ := C
  intro h
  induction h with
  | zero =>
    intro b lo pc po xs F done w ht h0 hp hG hS hbig
    obtain ⟨bi, oi, cap, ho, h1, h2, hF⟩ := ht
    refine calls_of_W [.tmp 8] Try.func163 rfl Try.ntmps163 Try.results163 (by simp) fun e he => ?_
    have e0 : e 0 = ptr m := he 0 _ rfl
    have e1 : e 1 = .pointer (some ⟨pc, po, none⟩) := he 1 _ rfl
    have e2 : e 2 = .func (.func g) first cap0 := he 2 _ rfl
    have e3 : e 3 = .bool mu := he 3 _ rfl
    clear he
    refine W_sq fun K hK => (W_text [true] (by kernel_rfl) ?_); simp only [↓List.toList_toArray, ↓rgd, ↓rgf, ↓reduceIte, Nat.reduceEqDiff, rg, ow_163]
    refine hK _ _ ?_; clear hK K
    refine W_sq fun K hK => (W_text [true, true, true, false, true] (by kernel_rfl) ?_); simp only [↓List.toList_toArray, ↓rgd, ↓rgf, ↓reduceIte, Nat.reduceEqDiff, rg, ow_163, e0, e1, e3]
    refine do_call fn_121 (by simp only [evt, evc, upd_eq, Nat.reduceEqDiff, ↓reduceIte, maT, maC, maN, isnN, isnS] <;> rfl) (isoLoad_any m pc po b mu iso w h0 hp ho.h0) ?_
    rintro _ w1 ⟨rfl, r1⟩
    refine ⟨trivial, ?_⟩
    simp only [↓List.toList_toArray, ↓rgd, ↓rgf, ↓reduceIte, Nat.reduceEqDiff, rg, ow_163]
    refine hK _ _ ?_; clear hK K
    have x1 : Ext noF w w1 := r1.ext
    have o1 := ho.ext x1 fun _ _ _ h => h
    have S1 := hSx _ _ _ hS x1
    refine W_seq ?_
    refine W_sq fun K hK => (W_text [true, false] (by kernel_rfl) ?_); simp only [↓List.toList_toArray, ↓rgd, ↓rgf, ↓reduceIte, Nat.reduceEqDiff, rg, ow_163]
    refine do_call fn_122 (by simp only [evt, evc, upd_eq, Nat.reduceEqDiff, ↓reduceIte, maT, maC, maN, isnN, isnS] <;> rfl) (leaf_any b none w1 o1.h3) ?_
    rintro _ _ ⟨rfl, rfl⟩
    refine ⟨trivial, ?_⟩
    simp only [↓List.toList_toArray, ↓rgd, ↓rgf, ↓reduceIte, Nat.reduceEqDiff, rg, ow_163]
    refine hK _ _ ?_; clear hK K
    refine W_true (by simp only [evt, evc, upd_eq, Nat.reduceEqDiff, ↓reduceIte, ntT, ntF] <;> rfl) (W_seq ?_)
    refine W_sq fun K hK => (W_text [true] (by kernel_rfl) ?_); simp only [↓List.toList_toArray, ↓rgd, ↓rgf, ↓reduceIte, Nat.reduceEqDiff, rg, ow_163]
    refine hK _ _ ?_; clear hK K
    refine W_block (W_loop (fun mm e w' => ∃ (i : Nat) (d : List It), mm = xs.length - i ∧ i ≤ xs.length ∧ hand go done xs = hand go d (xs.drop i) ∧ d.length + (xs.length - i) ≤ 4294967295 ∧ S d w' ∧ Ext G w w' ∧ e 2 = .func (.func g) first cap0 ∧ e 9 = ptr b ∧ e 10 = .int .i64 i)
      xs.length ⟨0, done, by simp, by simp, by simp, by omega, S1, x1.mono fun _ _ _ h => h.elim, ?_, ?_, ?_⟩ ?_)
    · simp only [upd_eq, Nat.reduceEqDiff, ↓reduceIte]; exact e2
    · simp only [upd_eq, Nat.reduceEqDiff, ↓reduceIte]
    · simp only [upd_eq, Nat.reduceEqDiff, ↓reduceIte]; rfl
    · clear e0 e1 e2 e3 e S1 o1
      rintro mm e w' ⟨i, d, rfl, hi, hh, hdl, hS', X, e2, e9, e10⟩
      have o' := ho.ext X fun y o h => hG y o o ((hF y o).2 h)
      have hb2 := o'.h2
      refine W_seq ?_
      by_cases hlt : i < xs.length
      · have ht := lt_tt i xs.length hlt
        refine W_sq fun K hK => (W_text [true, true, true, true, true, true, true] (by kernel_rfl) ?_); simp only [↓List.toList_toArray, ↓rgd, ↓rgf, ↓reduceIte, Nat.reduceEqDiff, rg, ow_163, e9, e10, ptr_eq, hb2, ht]
        refine hK _ _ ?_; clear hK K
        refine W_true (by simp only [evt, evc, upd_eq, Nat.reduceEqDiff, ↓reduceIte, ntT, ntF] <;> rfl) (W_skip ?_)
        show W _ _ _ _ _ _
        refine W_seq (W_block ?_)
        obtain ⟨x, hx⟩ : ∃ x, xs[i]? = some x := ⟨_, List.getElem?_eq_getElem hlt⟩
        have hk := it_at o'.row hx
        have hd : xs.drop i = x :: xs.drop (i + 1) := by rw [List.drop_eq_getElem_cons hlt, (List.getElem?_eq_some_iff.1 hx).2]
        refine W_sq fun K hK => (W_text [true, true, true, true, true, true, true, true, false, true] (by kernel_rfl) ?_); simp only [↓List.toList_toArray, ↓rgd, ↓rgf, ↓reduceIte, Nat.reduceEqDiff, rg, ow_163, e2, e9, e10, ptr_eq, hb2, hlt, hk]
        refine do_callv (by simp only [evt, evc, upd_eq, Nat.reduceEqDiff, ↓reduceIte, ntT, ntF] <;> rfl) hg rfl (by simp only [evt, upd_eq, Nat.reduceEqDiff, ↓reduceIte, maT, maC, maN]; exact hcall d x _ hS' (by omega)) ?_
        rintro _ w2 ⟨rfl, hS2, x2⟩
        refine ⟨trivial, ?_⟩
        simp only [↓List.toList_toArray, ↓rgd, ↓rgf, ↓reduceIte, Nat.reduceEqDiff, rg, ow_163]
        refine hK _ _ ?_; clear hK K
        cases hgo : go (d ++ [x]) with
        | true =>
          refine W_false (by simp only [evt, evc, upd_eq, Nat.reduceEqDiff, ↓reduceIte, ntT, ntF] <;> rfl) (W_skip ?_)
          show W _ _ _ _ _ _
          have q1 := wadd1 i (by omega)
          refine W_rg fun K hK => (W_text [true, true, true] (by kernel_rfl) ?_); simp only [↓List.toList_toArray, ↓rgd, ↓rgf, ↓reduceIte, Nat.reduceEqDiff, rg, ow_163, e10, q1]
          refine hK _ _ ?_; clear hK K
          refine ⟨_, ?_, i + 1, d ++ [x], rfl, hlt, by rw [hh, hd, hand_yes go hgo], by simp; omega, hS2, X.tr x2, ?_, ?_, ?_⟩
          · omega
          · simp only [upd_eq, Nat.reduceEqDiff, ↓reduceIte]; exact e2
          · simp only [upd_eq, Nat.reduceEqDiff, ↓reduceIte]; exact e9
          · simp only [upd_eq, Nat.reduceEqDiff, ↓reduceIte]
        | false =>
          refine W_true (by simp only [evt, evc, upd_eq, Nat.reduceEqDiff, ↓reduceIte, ntT, ntF] <;> rfl) ?_
          refine W_sq fun K hK => (W_text [true] (by kernel_rfl) ?_); simp only [↓List.toList_toArray, ↓rgd, ↓rgf, ↓reduceIte, Nat.reduceEqDiff, rg, ow_163]
          refine hK _ _ ?_; clear hK K
          refine W_ret ?_
          simp only [andThen_ret, inBlk_ret]
          refine endQ_1 (by simp only [upd_eq, Nat.reduceEqDiff, ↓reduceIte] <;> rfl) ?_
          rw [hh, hd, hand_no go hgo]
          exact ⟨rfl, hS2, X.tr x2⟩
      · obtain rfl : i = xs.length := by omega
        have ht := lt_ff xs.length xs.length (by omega)
        refine W_sq fun K hK => (W_text [true, true, true, true, true, true, true] (by kernel_rfl) ?_); simp only [↓List.toList_toArray, ↓rgd, ↓rgf, ↓reduceIte, Nat.reduceEqDiff, rg, ow_163, e9, e10, ptr_eq, hb2, ht]
        refine hK _ _ ?_; clear hK K
        refine W_false (by simp only [evt, evc, upd_eq, Nat.reduceEqDiff, ↓reduceIte, ntT, ntF] <;> rfl) (W_exit ?_)
        simp only [andThen_exit, inBlk_exit, ↓reduceIte]
        show W _ _ _ _ _ _
        refine W_sq fun K hK => (W_text [true] (by kernel_rfl) ?_); simp only [↓List.toList_toArray, ↓rgd, ↓rgf, ↓reduceIte, Nat.reduceEqDiff, rg, ow_163]
        refine hK _ _ ?_; clear hK K
        refine W_ret ?_
        simp only [andThen_ret]
        refine endQ_1 (by simp only [upd_eq, Nat.reduceEqDiff, ↓reduceIte] <;> rfl) ?_
        rw [hh, List.drop_length, hand_nil]
        exact ⟨rfl, hS', X⟩
  | succ h ih =>
    intro b lo pc po xs F done w ht h0 hp hG hS hbig
    obtain ⟨bi, oi, cap, bc, ba, oa, capc, ks, cs, ho, hk, h1, h2, hcs, rfl, hT, hA, hF⟩ := ht
    have hGo : ∀ y o, ownF E b bi oi cap y o → ∀ o', ¬ G y o' := fun y o g o' => hG y o o' ((hF y o).2 (.inl g))
    have hGk : ∀ y o, kidF bc ba oa capc y o → ∀ o', ¬ G y o' := fun y o g o' => hG y o o' ((hF y o).2 (.inr (.inl g)))
    have hGc : ∀ c ∈ cs, ∀ y o o', c.F y o → ¬ G y o' := fun c hc y o o' g => hG y o o' ((hF y o).2 (.inr (.inr ⟨c, hc, g⟩)))
    have hwl := weave_length (cs.map Kid.xs) ks (by simpa using hcs)
    have hks : ks.length < 4611686018427387904 := by omega
    refine calls_of_W [.tmp 8] Try.func163 rfl Try.ntmps163 Try.results163 (by simp) fun e he => ?_
    have e0 : e 0 = ptr m := he 0 _ rfl
    have e1 : e 1 = .pointer (some ⟨pc, po, none⟩) := he 1 _ rfl
    have e2 : e 2 = .func (.func g) first cap0 := he 2 _ rfl
    have e3 : e 3 = .bool mu := he 3 _ rfl
    clear he
    refine W_sq fun K hK => (W_text [true] (by kernel_rfl) ?_); simp only [↓List.toList_toArray, ↓rgd, ↓rgf, ↓reduceIte, Nat.reduceEqDiff, rg, ow_163]
    refine hK _ _ ?_; clear hK K
    refine W_sq fun K hK => (W_text [true, true, true, false, true] (by kernel_rfl) ?_); simp only [↓List.toList_toArray, ↓rgd, ↓rgf, ↓reduceIte, Nat.reduceEqDiff, rg, ow_163, e0, e1, e3]
    refine do_call fn_121 (by simp only [evt, evc, upd_eq, Nat.reduceEqDiff, ↓reduceIte, maT, maC, maN, isnN, isnS] <;> rfl) (isoLoad_any m pc po b mu iso w h0 hp ho.h0) ?_
    rintro _ w1 ⟨rfl, r1⟩
    refine ⟨trivial, ?_⟩
    simp only [↓List.toList_toArray, ↓rgd, ↓rgf, ↓reduceIte, Nat.reduceEqDiff, rg, ow_163]
    refine hK _ _ ?_; clear hK K
    have x1 : Ext noF w w1 := r1.ext
    have o1 := ho.ext x1 fun _ _ _ h => h
    have S1 := hSx _ _ _ hS x1
    refine W_seq ?_
    refine W_sq fun K hK => (W_text [true, false] (by kernel_rfl) ?_); simp only [↓List.toList_toArray, ↓rgd, ↓rgf, ↓reduceIte, Nat.reduceEqDiff, rg, ow_163]
    refine do_call fn_122 (by simp only [evt, evc, upd_eq, Nat.reduceEqDiff, ↓reduceIte, maT, maC, maN, isnN, isnS] <;> rfl) (leaf_any b (some ⟨bc, 0, none⟩) w1 o1.h3) ?_
    rintro _ _ ⟨rfl, rfl⟩
    refine ⟨trivial, ?_⟩
    simp only [↓List.toList_toArray, ↓rgd, ↓rgf, ↓reduceIte, Nat.reduceEqDiff, rg, ow_163]
    refine hK _ _ ?_; clear hK K
    refine W_false (by simp only [evt, evc, upd_eq, Nat.reduceEqDiff, ↓reduceIte, ntT, ntF] <;> rfl) (W_skip ?_)
    show W _ _ _ _ _ _
    refine W_seq ?_
    refine W_sq fun K hK => (W_text [true] (by kernel_rfl) ?_); simp only [↓List.toList_toArray, ↓rgd, ↓rgf, ↓reduceIte, Nat.reduceEqDiff, rg, ow_163]
    refine hK _ _ ?_; clear hK K
    refine W_block (W_loop (fun mm e w' => ∃ (i : Nat) (d : List It), mm = ks.length - i ∧ i ≤ ks.length ∧ hand go done (weave (cs.map Kid.xs) ks) = hand go d (weave ((cs.map Kid.xs).drop i) (ks.drop i)) ∧ d.length + (weave ((cs.map Kid.xs).drop i) (ks.drop i)).length ≤ 4294967295 ∧ S d w' ∧ Ext G w w' ∧
        e 0 = ptr m ∧ e 2 = .func (.func g) first cap0 ∧ e 3 = .bool mu ∧ e 9 = ptr b ∧ e 11 = .int .i64 i)
      ks.length ⟨0, done, by simp, by simp, by simp, by simpa using hbig, S1, x1.mono fun _ _ _ h => h.elim, ?_, ?_, ?_, ?_, ?_⟩ ?_)
    · simp only [upd_eq, Nat.reduceEqDiff, ↓reduceIte]; exact e0
    · simp only [upd_eq, Nat.reduceEqDiff, ↓reduceIte]; exact e2
    · simp only [upd_eq, Nat.reduceEqDiff, ↓reduceIte]; exact e3
    · simp only [upd_eq, Nat.reduceEqDiff, ↓reduceIte]
    · simp only [upd_eq, Nat.reduceEqDiff, ↓reduceIte]; rfl
    · clear e0 e1 e2 e3 e S1 o1
      rintro mm e w' ⟨i, d, rfl, hi, hh, hdl, hS', X, e0, e2, e3, e9, e11⟩
      have o' := ho.ext X fun y o g => hGo y o g o
      have k' := hk.ext X fun y o g => hGk y o g o
      have hb2 := o'.h2
      have hb3 := o'.h3
      have hc0 := k'.c0
      have h0' := X.rd h0 (hm 0)
      have hci : ∀ i, i < cs.length → ∃ c, cs[i]? = some c ∧ rd w' ba (oa + i) = some (ptr c.b) := fun i hi => by
        refine ⟨cs[i], List.getElem?_eq_getElem hi, k'.row i _ ?_⟩
        rw [List.getElem?_map, List.getElem?_map, List.getElem?_eq_getElem hi]; rfl
      rw [List.length_map] at hc0
      refine W_seq ?_
      by_cases hlt : i < ks.length
      · have ht := lt_tt i ks.length hlt
        refine W_sq fun K hK => (W_text [true, true, true, true, true, true, true] (by kernel_rfl) ?_); simp only [↓List.toList_toArray, ↓rgd, ↓rgf, ↓reduceIte, Nat.reduceEqDiff, rg, ow_163, e9, e11, ptr_eq, hb2, ht]
        refine hK _ _ ?_; clear hK K
        refine W_true (by simp only [evt, evc, upd_eq, Nat.reduceEqDiff, ↓reduceIte, ntT, ntF] <;> rfl) (W_skip ?_)
        show W _ _ _ _ _ _
        refine W_seq (W_block (W_seq ?_))
        obtain ⟨c, hc, hcr⟩ := hci i (by omega)
        have hcm : c ∈ cs := List.mem_of_getElem? hc
        obtain ⟨x, hx⟩ : ∃ x, ks[i]? = some x := ⟨_, List.getElem?_eq_getElem hlt⟩
        have hlc : i < cs.length := by omega
        rw [weave_step (c := c.xs) (by rw [List.getElem?_map, hc]; rfl) hx] at hh hdl
        rw [List.length_append, List.length_cons] at hdl
        refine W_sq fun K hK => (W_text [true, true, true, true, true, true, true, true, true, true, true, false, true] (by kernel_rfl) ?_); simp only [↓List.toList_toArray, ↓rgd, ↓rgf, ↓reduceIte, Nat.reduceEqDiff, rg, ow_163, e0, e2, e3, e9, e11, ptr_eq, hb3, hc0, hlc]
        refine do_call fn_163 (by simp only [evt, evc, upd_eq, Nat.reduceEqDiff, ↓reduceIte, maT, maC, maN, isnN, isnS] <;> rfl) (ih c.b mn ba (oa + i) c.xs c.F d _ ((hT c hcm).ext X fun y o g => hGc c hcm y o o g) h0' hcr (hGc c hcm) hS' (by omega)) ?_
        rintro _ w2 ⟨rfl, hS2, x2⟩
        refine ⟨trivial, ?_⟩
        simp only [↓List.toList_toArray, ↓rgd, ↓rgf, ↓reduceIte, Nat.reduceEqDiff, rg, ow_163]
        refine hK _ _ ?_; clear hK K
        have X2 := X.tr x2
        cases hgo : (hand go d c.xs).2 with
        | false =>
          refine W_true (by simp only [evt, evc, upd_eq, Nat.reduceEqDiff, ↓reduceIte, ntT, ntF] <;> rfl) ?_
          refine W_sq fun K hK => (W_text [true] (by kernel_rfl) ?_); simp only [↓List.toList_toArray, ↓rgd, ↓rgf, ↓reduceIte, Nat.reduceEqDiff, rg, ow_163]
          refine hK _ _ ?_; clear hK K
          refine W_ret ?_
          simp only [andThen_ret, inBlk_ret]
          refine endQ_1 (by simp only [upd_eq, Nat.reduceEqDiff, ↓reduceIte] <;> rfl) ?_
          rw [hh, hand_off go hgo, hgo]
          exact ⟨rfl, hS2, X2⟩
        | true =>
          rw [hand_on go hgo] at hh
          have hd2 : (hand go d c.xs).1.length = d.length + c.xs.length := by rw [hand_true go hgo, List.length_append]
          refine W_false (by simp only [evt, evc, upd_eq, Nat.reduceEqDiff, ↓reduceIte, ntT, ntF] <;> rfl) (W_skip ?_)
          show W _ _ _ _ _ _
          have o2 := ho.ext X2 fun y o g => hGo y o g o
          have hb2 := o2.h2
          have hk2 := it_at o2.row hx
          refine W_sq fun K hK => (W_text [true, true, true, true, true, true, true, true, false, true] (by kernel_rfl) ?_); simp only [↓List.toList_toArray, ↓rgd, ↓rgf, ↓reduceIte, Nat.reduceEqDiff, rg, ow_163, e2, e9, e11, ptr_eq, hb2, hlt, hk2]
          refine do_callv (by simp only [evt, evc, upd_eq, Nat.reduceEqDiff, ↓reduceIte, ntT, ntF] <;> rfl) hg rfl (by simp only [evt, upd_eq, Nat.reduceEqDiff, ↓reduceIte, maT, maC, maN]; exact hcall _ x _ hS2 (by omega)) ?_
          rintro _ w3 ⟨rfl, hS3, x3⟩
          refine ⟨trivial, ?_⟩
          simp only [↓List.toList_toArray, ↓rgd, ↓rgf, ↓reduceIte, Nat.reduceEqDiff, rg, ow_163]
          refine hK _ _ ?_; clear hK K
          cases hgo2 : go ((hand go d c.xs).1 ++ [x]) with
          | true =>
            refine W_false (by simp only [evt, evc, upd_eq, Nat.reduceEqDiff, ↓reduceIte, ntT, ntF] <;> rfl) (W_skip ?_)
            show W _ _ _ _ _ _
            have q1 := wadd1 i (by omega)
            refine W_rg fun K hK => (W_text [true, true, true] (by kernel_rfl) ?_); simp only [↓List.toList_toArray, ↓rgd, ↓rgf, ↓reduceIte, Nat.reduceEqDiff, rg, ow_163, e11, q1]
            refine hK _ _ ?_; clear hK K
            refine ⟨_, ?_, i + 1, _, rfl, hlt, by rw [hh, hand_yes go hgo2], by rw [List.length_append, List.length_singleton]; omega, hS3, X2.tr x3, ?_, ?_, ?_, ?_, ?_⟩
            · omega
            · simp only [upd_eq, Nat.reduceEqDiff, ↓reduceIte]; exact e0
            · simp only [upd_eq, Nat.reduceEqDiff, ↓reduceIte]; exact e2
            · simp only [upd_eq, Nat.reduceEqDiff, ↓reduceIte]; exact e3
            · simp only [upd_eq, Nat.reduceEqDiff, ↓reduceIte]; exact e9
            · simp only [upd_eq, Nat.reduceEqDiff, ↓reduceIte]
          | false =>
            refine W_true (by simp only [evt, evc, upd_eq, Nat.reduceEqDiff, ↓reduceIte, ntT, ntF] <;> rfl) ?_
            refine W_sq fun K hK => (W_text [true] (by kernel_rfl) ?_); simp only [↓List.toList_toArray, ↓rgd, ↓rgf, ↓reduceIte, Nat.reduceEqDiff, rg, ow_163]
            refine hK _ _ ?_; clear hK K
            refine W_ret ?_
            simp only [andThen_ret, inBlk_ret]
            refine endQ_1 (by simp only [upd_eq, Nat.reduceEqDiff, ↓reduceIte] <;> rfl) ?_
            rw [hh, hand_no go hgo2]
            exact ⟨rfl, hS3, X2.tr x3⟩
      · obtain rfl : i = ks.length := by omega
        have ht := lt_ff ks.length ks.length (by omega)
        refine W_sq fun K hK => (W_text [true, true, true, true, true, true, true] (by kernel_rfl) ?_); simp only [↓List.toList_toArray, ↓rgd, ↓rgf, ↓reduceIte, Nat.reduceEqDiff, rg, ow_163, e9, e11, ptr_eq, hb2, ht]
        refine hK _ _ ?_; clear hK K
        refine W_false (by simp only [evt, evc, upd_eq, Nat.reduceEqDiff, ↓reduceIte, ntT, ntF] <;> rfl) (W_exit ?_)
        simp only [andThen_exit, inBlk_exit, ↓reduceIte]
        show W _ _ _ _ _ _
        obtain ⟨c, hc, hcr⟩ := hci ks.length (by omega)
        have hcm : c ∈ cs := List.mem_of_getElem? hc
        rw [weave_last (c := c.xs) (by simpa using hcs) (by rw [List.getElem?_map, hc]; rfl)] at hh hdl
        have hlc : cs.length - 1 < cs.length := by omega
        have hl1 : cs.length - 1 = ks.length := by omega
        have q1 := wsub1 cs.length (by omega) (by omega)
        have M1 : readsB (some (some [b, bc, ba])) b = true := by simp [readsB]
        have M2 : readsB (some (some [b, bc, ba])) bc = true := by simp [readsB]
        have M3 : readsB (some (some [b, bc, ba])) ba = true := by simp [readsB]
        refine W_sq fun K hK => (W_draw (some (some [b, bc, ba])) none [(0, 0, 0), (0, 1, 0), (0, 2, 0), (0, 3, 0), (0, 4, 0), (0, 5, 0), (0, 6, 0), (0, 7, 0), (0, 8, 0), (0, 9, 0), (0, 10, 0), (0, 11, 0), (0, 12, 0), (0, 13, 0), (0, 14, 0), (0, 15, 0), (0, 16, 0), (0, 17, 0), (1, 18, 0), (0, 19, 0)] mixed (by kernel_rfl) ?_); simp only [↓List.toList_toArray, ↓rgd, ↓rgf, ↓reduceIte, Nat.reduceEqDiff, rg, ow_163, e0, e2, e3, e9, ptr_eq, hb3, hc0, q1, hlc, M1, M2, M3]
        rw [hl1]
        refine do_call fn_163 (by simp only [evt, evc, upd_eq, Nat.reduceEqDiff, ↓reduceIte, maT, maC, maN, isnN, isnS] <;> rfl) (ih c.b mn ba (oa + ks.length) c.xs c.F d _ ((hT c hcm).ext (X.tr (Ext.dr _ _ _)) fun y o g => hGc c hcm y o o g) h0' hcr (hGc c hcm) (hSx _ _ _ hS' (Ext.dr _ _ _)) (by omega)) ?_
        rintro _ w2 ⟨rfl, hS2, x2⟩
        refine ⟨.inr (keeps_on x2 fun y hy => ?_), ?_⟩
        · rw [sz_dr]
          simp only [List.mem_cons, List.not_mem_nil, or_false] at hy
          rcases hy with rfl | rfl | rfl
          · exact ⟨wok_lt o'.wb, hGo _ 0 (.inl rfl)⟩
          · exact ⟨wok_lt k'.wc, hGk _ 0 (.inl rfl)⟩
          · exact ⟨wok_lt k'.wa, hGk _ oa (.inr ⟨rfl, by omega, by have := k'.le; rw [List.length_map] at this; omega⟩)⟩
        simp only [↓List.toList_toArray, ↓rgd, ↓rgf, ↓reduceIte, Nat.reduceEqDiff, rg, ow_163]
        refine hK _ _ ?_; clear hK K
        refine W_ret ?_
        refine endQ_1 (by simp only [upd_eq, Nat.reduceEqDiff, ↓reduceIte] <;> rfl) ?_
        rw [hh]
        exact ⟨rfl, hS2, X.tr x2.od⟩
set_option maxHeartbeats 400000 in
set_option maxRecDepth 8000 in
theorem scan_any (B m d : Nat) (ord : List Int) (iso : Int) (xs : List It) (F : Nat → Nat → Prop) (f : Value) (G : Nat → Nat → Prop) (S : List It → World → Prop) (go : List It → Bool) (C : Cb f G S go) (hm : ∀ o, ¬ G m o) (mu : Bool) (w : World)
    (hM : TreeAt B ord w m d iso xs F) (hG : ∀ y o o', F y o → ¬ G y o') (hS : S [] w) (hbig : xs.length ≤ 4294967295) :
    CallK Try.prog 135 #[ptr m, f, .bool mu] w fun _ w' => S (hand go [] xs).1 w' ∧ Ext G w w' := by
  refine calls_of_W [] Try.func135 rfl Try.ntmps135 Try.results135 (by simp) fun e he => ?_
  have e0 : e 0 = ptr m := he 0 _ rfl
  have e1 : e 1 = f := he 1 _ rfl
  have e2 : e 2 = .bool mu := he 2 _ rfl
  clear he
  refine W_seq ?_
  refine W_sq fun K hK => (W_text [true, true, false] (by kernel_rfl) ?_); simp only [↓List.toList_toArray, ↓rgd, ↓rgf, ↓reduceIte, Nat.reduceEqDiff, rg, ow_135, e0, e2]
  refine do_call fn_118 (by simp only [evt, evc, upd_eq, Nat.reduceEqDiff, ↓reduceIte, maT, maC, maN, isnN, isnS] <;> rfl) (lock_any _ _ w) ?_
  rintro _ _ ⟨rfl, rfl⟩
  refine ⟨trivial, ?_⟩
  simp only [↓List.toList_toArray, ↓rgd, ↓rgf, ↓reduceIte, Nat.reduceEqDiff, rg, ow_135]
  refine hK _ _ ?_; clear hK K
  refine W_false (by simp only [evt, evc, upd_eq, Nat.reduceEqDiff, ↓reduceIte, ntT, ntF] <;> rfl) (W_skip ?_)
  show W _ _ _ _ _ _
  refine W_seq ?_
  rcases hM.root with ⟨rfl, hr⟩ | ⟨h, b, hr, ht⟩
  · refine W_sq fun K hK => (W_text [true, true, true, true, true] (by kernel_rfl) ?_); simp only [↓List.toList_toArray, ↓rgd, ↓rgf, ↓reduceIte, Nat.reduceEqDiff, rg, ow_135, e0, ptr_eq, hr]
    refine hK _ _ ?_; clear hK K
    refine W_true (by simp only [evt, evc, upd_eq, Nat.reduceEqDiff, ↓reduceIte, ntT, ntF] <;> rfl) (W_ret ?_)
    simp only [andThen_ret]
    exact endQ_0 ⟨hS, Ext.refl _ _⟩
  · refine W_sq fun K hK => (W_text [true, true, true, true, true] (by kernel_rfl) ?_); simp only [↓List.toList_toArray, ↓rgd, ↓rgf, ↓reduceIte, Nat.reduceEqDiff, rg, ow_135, e0, ptr_eq, hr]
    refine hK _ _ ?_; clear hK K
    refine W_false (by simp only [evt, evc, upd_eq, Nat.reduceEqDiff, ↓reduceIte, ntT, ntF] <;> rfl) (W_skip ?_)
    show W _ _ _ _ _ _
    refine W_rg fun K hK => (W_text [true, true, true, true, true, true, false] (by kernel_rfl) ?_); simp only [↓List.toList_toArray, ↓rgd, ↓rgf, ↓reduceIte, Nat.reduceEqDiff, rg, ow_135, e0, e1, e2, ptr_eq]
    refine do_call fn_163 (by simp only [evt, evc, upd_eq, Nat.reduceEqDiff, ↓reduceIte, maT, maC, maN, isnN, isnS] <;> rfl) (nodeScan_any m iso (d - 1) (2 * d - 1) f G S go C hm mu h b 1 m 2 xs F [] w ht hM.cfg.iso hr hG hS (by simpa using hbig)) ?_
    rintro _ w1 ⟨rfl, hS1, X1⟩
    refine ⟨trivial, ?_⟩
    simp only [↓List.toList_toArray, ↓rgd, ↓rgf, ↓reduceIte, Nat.reduceEqDiff, rg, ow_135]
    refine hK _ _ ?_; clear hK K
    exact endQ_0n ⟨hS1, X1⟩
end Go.Proofs.Ytanmjbkbdmeckaa
/-
  Handing on the items of a tree backwards. No condition.
-/
set_option linter.unusedSimpArgs false
set_option linter.unusedVariables false
namespace Go.Proofs.Ytanmjbkbdmeckaa
open Go Go.Proofs
theorem ge_tt (i : Nat) (h : 0 < i) : decide (0 ≤ (i : Int) - 1) = true := by simp; omega
theorem ge_ff : decide (0 ≤ ((0 : Nat) : Int) - 1) = false := by decide
theorem int_pred (i : Nat) (h : 0 < i) : (i : Int) - 1 = ((i - 1 : Nat) : Int) := by omega
theorem pred_wrap (i : Nat) (h : i < 4611686018427387904) : IntKind.i64.wrap ((i : Int) - 1) = (i : Int) - 1 := IntWalk.i64_in _ (by omega)
set_option maxHeartbeats 1000000 in
set_option maxRecDepth 8000 in
theorem nodeRev_any (m : Nat) (iso : Int) (mn mx : Nat) (f : Value) (G : Nat → Nat → Prop) (S : List It → World → Prop) (go : List It → Bool) (C : Cb f G S go) (hm : ∀ o, ¬ G m o) (mu : Bool) :
    ∀ (h b lo pc po : Nat) (xs : List It) (F : Nat → Nat → Prop) (done : List It) (w : World), Tr E iso mn mx h w lo b xs F → rd w m 0 = some (.int .u64 iso) → rd w pc po = some (ptr b) → (∀ y o o', F y o → ¬ G y o') → S done w →
      done.length + xs.length ≤ 4294967295 →
    CallK Try.prog 165 #[ptr m, .pointer (some ⟨pc, po, none⟩), f, .bool mu] w fun v w' => v = .bool (hand go done xs.reverse).2 ∧ S (hand go done xs.reverse).1 w' ∧ Ext G w w' := by
  obtain ⟨⟨g, first, cap0, rfl, hg, hcall⟩, hSx⟩ := C
  intro h
  induction h with
  | zero =>
    intro b lo pc po xs F done w ht h0 hp hG hS hbig
    obtain ⟨bi, oi, cap, ho, h1, h2, hF⟩ := ht
    refine calls_of_W [.tmp 8] Try.func165 rfl Try.ntmps165 Try.results165 (by simp) fun e he => ?_
    have e0 : e 0 = ptr m := he 0 _ rfl
    have e1 : e 1 = .pointer (some ⟨pc, po, none⟩) := he 1 _ rfl
    have e2 : e 2 = .func (.func g) first cap0 := he 2 _ rfl
    have e3 : e 3 = .bool mu := he 3 _ rfl
    clear he
    refine W_sq fun K hK => (W_text [true] (by kernel_rfl) ?_); simp only [↓List.toList_toArray, ↓rgd, ↓rgf, ↓reduceIte, Nat.reduceEqDiff, rg, ow_165]
    refine hK _ _ ?_; clear hK K
    refine W_sq fun K hK => (W_text [true, true, true, false, true] (by kernel_rfl) ?_); simp only [↓List.toList_toArray, ↓rgd, ↓rgf, ↓reduceIte, Nat.reduceEqDiff, rg, ow_165, e0, e1, e3]
    refine do_call fn_121 (by simp only [evt, evc, upd_eq, Nat.reduceEqDiff, ↓reduceIte, maT, maC, maN, isnN, isnS] <;> rfl) (isoLoad_any m pc po b mu iso w h0 hp ho.h0) ?_
    rintro _ w1 ⟨rfl, r1⟩
    refine ⟨trivial, ?_⟩
    simp only [↓List.toList_toArray, ↓rgd, ↓rgf, ↓reduceIte, Nat.reduceEqDiff, rg, ow_165]
    refine hK _ _ ?_; clear hK K
    have x1 : Ext noF w w1 := r1.ext
    have o1 := ho.ext x1 fun _ _ _ h => h
    have S1 := hSx _ _ _ hS x1
    refine W_seq ?_
    refine W_sq fun K hK => (W_text [true, false] (by kernel_rfl) ?_); simp only [↓List.toList_toArray, ↓rgd, ↓rgf, ↓reduceIte, Nat.reduceEqDiff, rg, ow_165]
    refine do_call fn_122 (by simp only [evt, evc, upd_eq, Nat.reduceEqDiff, ↓reduceIte, maT, maC, maN, isnN, isnS] <;> rfl) (leaf_any b none w1 o1.h3) ?_
    rintro _ w2 ⟨rfl, hw2⟩
    obtain rfl : w1 = w2 := hw2.symm
    refine ⟨trivial, ?_⟩
    simp only [↓List.toList_toArray, ↓rgd, ↓rgf, ↓reduceIte, Nat.reduceEqDiff, rg, ow_165]
    refine hK _ _ ?_; clear hK K
    refine W_true (by simp only [evt, evc, upd_eq, Nat.reduceEqDiff, ↓reduceIte, ntT, ntF] <;> rfl) (W_seq ?_)
    have q0 := pred_wrap xs.length (by omega)
    have o1h := o1.h2
    refine W_sq fun K hK => (W_text [true, true, true, true, true, true, true] (by kernel_rfl) ?_); simp only [↓List.toList_toArray, ↓rgd, ↓rgf, ↓reduceIte, Nat.reduceEqDiff, rg, ow_165, ptr_eq, o1h, q0]
    refine hK _ _ ?_; clear hK K
    refine W_block (W_loop (fun mm e w' => ∃ (i : Nat) (d : List It), mm = i ∧ i ≤ xs.length ∧ hand go done xs.reverse = hand go d (xs.take i).reverse ∧ d.length + i ≤ 4294967295 ∧ S d w' ∧ Ext G w w' ∧ e 2 = .func (.func g) first cap0 ∧ e 9 = ptr b ∧ e 10 = .int .i64 ((i : Int) - 1))
      xs.length ⟨xs.length, done, rfl, Nat.le_refl _, by rw [List.take_length], by omega, S1, x1.mono fun _ _ _ h => h.elim, ?_, ?_, ?_⟩ ?_)
    · simp only [upd_eq, Nat.reduceEqDiff, ↓reduceIte]; exact e2
    · simp only [upd_eq, Nat.reduceEqDiff, ↓reduceIte]; rfl
    · simp only [upd_eq, Nat.reduceEqDiff, ↓reduceIte]
    · clear e0 e1 e2 e3 e S1 o1 o1h q0
      rintro mm e w' ⟨i, d, rfl, hi, hh, hdl, hS', X, e2, e9, e10⟩
      have o' := ho.ext X fun y o h => hG y o o ((hF y o).2 h)
      have hb2 := o'.h2
      refine W_seq ?_
      by_cases hlt : 0 < mm
      · have ht := ge_tt mm hlt
        refine W_sq fun K hK => (W_text [true, true] (by kernel_rfl) ?_); simp only [↓List.toList_toArray, ↓rgd, ↓rgf, ↓reduceIte, Nat.reduceEqDiff, rg, ow_165, e10, ht]
        refine hK _ _ ?_; clear hK K
        refine W_true (by simp only [evt, evc, upd_eq, Nat.reduceEqDiff, ↓reduceIte, ntT, ntF] <;> rfl) (W_skip ?_)
        show W _ _ _ _ _ _
        refine W_seq (W_block ?_)
        have hil : mm - 1 < xs.length := by omega
        obtain ⟨x, hx⟩ : ∃ x, xs[mm - 1]? = some x := ⟨_, List.getElem?_eq_getElem hil⟩
        have hk := it_at o'.row hx
        rw [take_rev hlt hx] at hh
        rw [int_pred mm hlt] at e10
        refine W_sq fun K hK => (W_text [true, true, true, true, true, true, true, true, false, true] (by kernel_rfl) ?_); simp only [↓List.toList_toArray, ↓rgd, ↓rgf, ↓reduceIte, Nat.reduceEqDiff, rg, ow_165, e2, e9, e10, ptr_eq, hb2, hil, hk]
        refine do_callv (by simp only [evt, evc, upd_eq, Nat.reduceEqDiff, ↓reduceIte, ntT, ntF] <;> rfl) hg rfl (by simp only [evt, upd_eq, Nat.reduceEqDiff, ↓reduceIte, maT, maC, maN]; exact hcall d x _ hS' (by omega)) ?_
        rintro _ w2 ⟨rfl, hS2, x2⟩
        refine ⟨trivial, ?_⟩
        simp only [↓List.toList_toArray, ↓rgd, ↓rgf, ↓reduceIte, Nat.reduceEqDiff, rg, ow_165]
        refine hK _ _ ?_; clear hK K
        cases hgo : go (d ++ [x]) with
        | true =>
          refine W_false (by simp only [evt, evc, upd_eq, Nat.reduceEqDiff, ↓reduceIte, ntT, ntF] <;> rfl) (W_skip ?_)
          show W _ _ _ _ _ _
          have q1 := pred_wrap (mm - 1) (by omega)
          refine W_rg fun K hK => (W_text [true, true, true] (by kernel_rfl) ?_); simp only [↓List.toList_toArray, ↓rgd, ↓rgf, ↓reduceIte, Nat.reduceEqDiff, rg, ow_165, e10, q1]
          refine hK _ _ ?_; clear hK K
          refine ⟨_, ?_, mm - 1, d ++ [x], rfl, by omega, by rw [hh, hand_yes go hgo], by simp; omega, hS2, X.tr x2, ?_, ?_, ?_⟩
          · omega
          · simp only [upd_eq, Nat.reduceEqDiff, ↓reduceIte]; exact e2
          · simp only [upd_eq, Nat.reduceEqDiff, ↓reduceIte]; exact e9
          · simp only [upd_eq, Nat.reduceEqDiff, ↓reduceIte]
        | false =>
          refine W_true (by simp only [evt, evc, upd_eq, Nat.reduceEqDiff, ↓reduceIte, ntT, ntF] <;> rfl) ?_
          refine W_sq fun K hK => (W_text [true] (by kernel_rfl) ?_); simp only [↓List.toList_toArray, ↓rgd, ↓rgf, ↓reduceIte, Nat.reduceEqDiff, rg, ow_165]
          refine hK _ _ ?_; clear hK K
          refine W_ret ?_
          simp only [andThen_ret, inBlk_ret]
          refine endQ_1 (by simp only [upd_eq, Nat.reduceEqDiff, ↓reduceIte] <;> rfl) ?_
          rw [hh, hand_no go hgo]
          exact ⟨rfl, hS2, X.tr x2⟩
      · obtain rfl : mm = 0 := by omega
        refine W_sq fun K hK => (W_text [true, true] (by kernel_rfl) ?_); simp only [↓List.toList_toArray, ↓rgd, ↓rgf, ↓reduceIte, Nat.reduceEqDiff, rg, ow_165, e10, ge_ff]
        refine hK _ _ ?_; clear hK K
        refine W_false (by simp only [evt, evc, upd_eq, Nat.reduceEqDiff, ↓reduceIte, ntT, ntF] <;> rfl) (W_exit ?_)
        simp only [andThen_exit, inBlk_exit, ↓reduceIte]
        show W _ _ _ _ _ _
        refine W_sq fun K hK => (W_text [true] (by kernel_rfl) ?_); simp only [↓List.toList_toArray, ↓rgd, ↓rgf, ↓reduceIte, Nat.reduceEqDiff, rg, ow_165]
        refine hK _ _ ?_; clear hK K
        refine W_ret ?_
        simp only [andThen_ret]
        refine endQ_1 (by simp only [upd_eq, Nat.reduceEqDiff, ↓reduceIte] <;> rfl) ?_
        rw [hh]
        exact ⟨rfl, hS', X⟩
  | succ h ih =>
    intro b lo pc po xs F done w ht h0 hp hG hS hbig
    obtain ⟨bi, oi, cap, bc, ba, oa, capc, ks, cs, ho, hk, h1, h2, hcs, rfl, hT, hA, hF⟩ := ht
    have hGo : ∀ y o, ownF E b bi oi cap y o → ∀ o', ¬ G y o' := fun y o g o' => hG y o o' ((hF y o).2 (.inl g))
    have hGk : ∀ y o, kidF bc ba oa capc y o → ∀ o', ¬ G y o' := fun y o g o' => hG y o o' ((hF y o).2 (.inr (.inl g)))
    have hGc : ∀ c ∈ cs, ∀ y o o', c.F y o → ¬ G y o' := fun c hc y o o' g => hG y o o' ((hF y o).2 (.inr (.inr ⟨c, hc, g⟩)))
    have hcs' : (cs.map Kid.xs).length = ks.length + 1 := by simpa using hcs
    have hwl := weave_length (cs.map Kid.xs) ks hcs'
    have hks : ks.length < 4611686018427387904 := by omega
    have hci : ∀ i, i < cs.length → ∃ c, cs[i]? = some c ∧ (cs.map Kid.xs)[i]? = some c.xs ∧ ∀ w', Ext G w w' → rd w' ba (oa + i) = some (ptr c.b) := fun i hi => by
      refine ⟨cs[i], List.getElem?_eq_getElem hi, by rw [List.getElem?_map, List.getElem?_eq_getElem hi]; rfl, fun w' X => (hk.ext X fun y o g => hGk y o g o).row i _ ?_⟩
      rw [List.getElem?_map, List.getElem?_map, List.getElem?_eq_getElem hi]; rfl
    refine calls_of_W [.tmp 8] Try.func165 rfl Try.ntmps165 Try.results165 (by simp) fun e he => ?_
    have e0 : e 0 = ptr m := he 0 _ rfl
    have e1 : e 1 = .pointer (some ⟨pc, po, none⟩) := he 1 _ rfl
    have e2 : e 2 = .func (.func g) first cap0 := he 2 _ rfl
    have e3 : e 3 = .bool mu := he 3 _ rfl
    clear he
    refine W_sq fun K hK => (W_text [true] (by kernel_rfl) ?_); simp only [↓List.toList_toArray, ↓rgd, ↓rgf, ↓reduceIte, Nat.reduceEqDiff, rg, ow_165]
    refine hK _ _ ?_; clear hK K
    refine W_sq fun K hK => (W_text [true, true, true, false, true] (by kernel_rfl) ?_); simp only [↓List.toList_toArray, ↓rgd, ↓rgf, ↓reduceIte, Nat.reduceEqDiff, rg, ow_165, e0, e1, e3]
    refine do_call fn_121 (by simp only [evt, evc, upd_eq, Nat.reduceEqDiff, ↓reduceIte, maT, maC, maN, isnN, isnS] <;> rfl) (isoLoad_any m pc po b mu iso w h0 hp ho.h0) ?_
    rintro _ w1 ⟨rfl, r1⟩
    refine ⟨trivial, ?_⟩
    simp only [↓List.toList_toArray, ↓rgd, ↓rgf, ↓reduceIte, Nat.reduceEqDiff, rg, ow_165]
    refine hK _ _ ?_; clear hK K
    have x1 : Ext noF w w1 := r1.ext
    have x1G : Ext G w w1 := x1.mono fun _ _ _ h => h.elim
    have o1 := ho.ext x1 fun _ _ _ h => h
    have k1 := hk.ext x1 fun _ _ _ h => h
    have S1 := hSx _ _ _ hS x1
    refine W_seq ?_
    refine W_sq fun K hK => (W_text [true, false] (by kernel_rfl) ?_); simp only [↓List.toList_toArray, ↓rgd, ↓rgf, ↓reduceIte, Nat.reduceEqDiff, rg, ow_165]
    refine do_call fn_122 (by simp only [evt, evc, upd_eq, Nat.reduceEqDiff, ↓reduceIte, maT, maC, maN, isnN, isnS] <;> rfl) (leaf_any b (some ⟨bc, 0, none⟩) w1 o1.h3) ?_
    rintro _ w2 ⟨rfl, hw2⟩
    obtain rfl : w1 = w2 := hw2.symm
    refine ⟨trivial, ?_⟩
    simp only [↓List.toList_toArray, ↓rgd, ↓rgf, ↓reduceIte, Nat.reduceEqDiff, rg, ow_165]
    refine hK _ _ ?_; clear hK K
    refine W_false (by simp only [evt, evc, upd_eq, Nat.reduceEqDiff, ↓reduceIte, ntT, ntF] <;> rfl) (W_skip ?_)
    show W _ _ _ _ _ _
    have hb3 := o1.h3
    have hc0 := k1.c0
    rw [List.length_map] at hc0
    have hlc : cs.length - 1 < cs.length := by omega
    have hl1 : cs.length - 1 = ks.length := by omega
    have q1 := wsub1 cs.length (by omega) (by omega)
    obtain ⟨c, hc, hcx, hcr⟩ := hci ks.length (by omega)
    have hcm : c ∈ cs := List.mem_of_getElem? hc
    have hfl := fr_length hcs' (Nat.le_refl _) hcx
    have hall : (weave (cs.map Kid.xs) ks).reverse = c.xs.reverse ++ (fr (cs.map Kid.xs) ks ks.length).reverse := by rw [fr_all hcs' hcx, List.reverse_append]
    refine W_seq ?_
    refine W_sq fun K hK => (W_free (some none) (.take 0 (.take 1 (.take 2 (.take 3 (.take 4 (.take 5 (.take 6 (.take 7 (.take 8 (.take 9 (.take 10 (.take 11 (.take 12 (.take 13 (.take 14 (.take 15 (.take 16 (.take 17 (.bar 18 (.take 19 .nil)))))))))))))))))))) mixed (by kernel_rfl) ?_); simp only [↓List.toList_toArray, ↓rgd, ↓rgf, ↓reduceIte, Nat.reduceEqDiff, rg, ow_165, e0, e2, e3, ptr_eq, hb3, hc0, q1, hlc]
    rw [hl1]
    refine do_call fn_165 (by simp only [evt, evc, upd_eq, Nat.reduceEqDiff, ↓reduceIte, maT, maC, maN, isnN, isnS] <;> rfl) (ih c.b mn ba (oa + ks.length) c.xs c.F done _ ((hT c hcm).ext (x1.tr (Ext.dr _ _ _)) fun _ _ _ h => h) (x1.rd h0 fun h => h) (hcr _ (x1G.tr (Ext.dr _ _ _))) (hGc c hcm) (hSx _ _ _ S1 (Ext.dr _ _ _)) (by omega)) ?_
    rintro _ w2 ⟨rfl, hS2, x2⟩
    refine ⟨trivial, ?_⟩
    simp only [↓List.toList_toArray, ↓rgd, ↓rgf, ↓reduceIte, Nat.reduceEqDiff, rg, ow_165]
    refine hK _ _ ?_; clear hK K
    have X2 := x1G.tr x2.od
    cases hgo : (hand go done c.xs.reverse).2 with
    | false =>
      refine W_true (by simp only [evt, evc, upd_eq, Nat.reduceEqDiff, ↓reduceIte, ntT, ntF] <;> rfl) ?_
      refine W_sq fun K hK => (W_text [true] (by kernel_rfl) ?_); simp only [↓List.toList_toArray, ↓rgd, ↓rgf, ↓reduceIte, Nat.reduceEqDiff, rg, ow_165]
      refine hK _ _ ?_; clear hK K
      refine W_ret ?_
      simp only [andThen_ret]
      refine endQ_1 (by simp only [upd_eq, Nat.reduceEqDiff, ↓reduceIte] <;> rfl) ?_
      rw [hall, hand_off go hgo, hgo]
      exact ⟨rfl, hS2, X2⟩
    | true =>
      have hall2 : hand go done (weave (cs.map Kid.xs) ks).reverse = hand go (hand go done c.xs.reverse).1 (fr (cs.map Kid.xs) ks ks.length).reverse := by rw [hall, hand_on go hgo]
      have hd2 : (hand go done c.xs.reverse).1.length = done.length + c.xs.length := by rw [hand_true go hgo, List.length_append, List.length_reverse]
      refine W_false (by simp only [evt, evc, upd_eq, Nat.reduceEqDiff, ↓reduceIte, ntT, ntF] <;> rfl) (W_skip ?_)
      simp only [andThen_normal]
      generalize (hand go done c.xs.reverse).1 = d1 at *
      have o2 := ho.ext X2 fun y o g => hGo y o g o
      have hb2 := o2.h2
      have q0 := pred_wrap ks.length hks
      refine W_seq (W_seq ?_)
      refine W_rg fun K hK => (W_text [true, true, true, true, true, true, true] (by kernel_rfl) ?_); simp only [↓List.toList_toArray, ↓rgd, ↓rgf, ↓reduceIte, Nat.reduceEqDiff, rg, ow_165, ptr_eq, hb2, q0]
      refine hK _ _ ?_; clear hK K
      show W _ _ _ _ _ _
      refine W_block (W_loop (fun mm e w' => ∃ (i : Nat) (d : List It), mm = i ∧ i ≤ ks.length ∧ hand go done (weave (cs.map Kid.xs) ks).reverse = hand go d (fr (cs.map Kid.xs) ks i).reverse ∧ d.length + (fr (cs.map Kid.xs) ks i).length ≤ 4294967295 ∧ S d w' ∧ Ext G w w' ∧
          e 0 = ptr m ∧ e 2 = .func (.func g) first cap0 ∧ e 3 = .bool mu ∧ e 9 = ptr b ∧ e 11 = .int .i64 ((i : Int) - 1))
        ks.length ⟨ks.length, d1, rfl, Nat.le_refl _, hall2, by omega, hS2, X2, ?_, ?_, ?_, ?_, ?_⟩ ?_)
      · simp only [upd_eq, Nat.reduceEqDiff, ↓reduceIte]; exact e0
      · simp only [upd_eq, Nat.reduceEqDiff, ↓reduceIte]; exact e2
      · simp only [upd_eq, Nat.reduceEqDiff, ↓reduceIte]; exact e3
      · simp only [upd_eq, Nat.reduceEqDiff, ↓reduceIte]; rfl
      · simp only [upd_eq, Nat.reduceEqDiff, ↓reduceIte]
      · clear e0 e1 e2 e3 e S1 o1 k1 hb2 o2 hb3 hc0 q0 q1 hall hall2 hS2 X2 x2 hd2 hgo
        rintro mm e w' ⟨i, d, rfl, hi, hh, hdl, hS', X, e0, e2, e3, e9, e11⟩
        have o' := ho.ext X fun y o g => hGo y o g o
        have hb2 := o'.h2
        refine W_seq ?_
        by_cases hlt : 0 < mm
        · have ht := ge_tt mm hlt
          refine W_sq fun K hK => (W_text [true, true] (by kernel_rfl) ?_); simp only [↓List.toList_toArray, ↓rgd, ↓rgf, ↓reduceIte, Nat.reduceEqDiff, rg, ow_165, e11, ht]
          refine hK _ _ ?_; clear hK K
          refine W_true (by simp only [evt, evc, upd_eq, Nat.reduceEqDiff, ↓reduceIte, ntT, ntF] <;> rfl) (W_skip ?_)
          show W _ _ _ _ _ _
          have hil : mm - 1 < ks.length := by omega
          have hlc2 : mm - 1 < cs.length := by omega
          obtain ⟨x, hx⟩ : ∃ x, ks[mm - 1]? = some x := ⟨_, List.getElem?_eq_getElem hil⟩
          obtain ⟨c2, hc2, hcx2, hcr2⟩ := hci (mm - 1) hlc2
          have hcm2 : c2 ∈ cs := List.mem_of_getElem? hc2
          have hst : fr (cs.map Kid.xs) ks mm = fr (cs.map Kid.xs) ks (mm - 1) ++ (c2.xs ++ [x]) := by
            have := fr_step hcx2 hx
            rwa [show mm - 1 + 1 = mm by omega] at this
          have hrv : (fr (cs.map Kid.xs) ks mm).reverse = x :: (c2.xs.reverse ++ (fr (cs.map Kid.xs) ks (mm - 1)).reverse) := by rw [hst]; simp
          rw [hrv] at hh
          rw [hst] at hdl
          simp only [List.length_append, List.length_singleton] at hdl
          have hkx := it_at o'.row hx
          rw [int_pred mm hlt] at e11
          refine W_seq (W_block (W_seq ?_))
          refine W_sq fun K hK => (W_text [true, true, true, true, true, true, true, true, false, true] (by kernel_rfl) ?_); simp only [↓List.toList_toArray, ↓rgd, ↓rgf, ↓reduceIte, Nat.reduceEqDiff, rg, ow_165, e2, e9, e11, ptr_eq, hb2, hil, hkx]
          refine do_callv (by simp only [evt, evc, upd_eq, Nat.reduceEqDiff, ↓reduceIte, ntT, ntF] <;> rfl) hg rfl (by simp only [evt, upd_eq, Nat.reduceEqDiff, ↓reduceIte, maT, maC, maN]; exact hcall d x _ hS' (by omega)) ?_
          rintro _ w3 ⟨rfl, hS3, x3⟩
          refine ⟨trivial, ?_⟩
          simp only [↓List.toList_toArray, ↓rgd, ↓rgf, ↓reduceIte, Nat.reduceEqDiff, rg, ow_165]
          refine hK _ _ ?_; clear hK K
          have X3 := X.tr x3
          have o3 := ho.ext X3 fun y o g => hGo y o g o
          have k3 := hk.ext X3 fun y o g => hGk y o g o
          have b3 := o3.h3
          have hbc := k3.c0
          rw [List.length_map] at hbc
          have hcr3 := hcr2 _ X3
          have h03 := X3.rd h0 (hm 0)
          cases hgo : go (d ++ [x]) with
          | true =>
            rw [hand_yes go hgo] at hh
            refine W_false (by simp only [evt, evc, upd_eq, Nat.reduceEqDiff, ↓reduceIte, ntT, ntF] <;> rfl) (W_skip ?_)
            show W _ _ _ _ _ _
            have q1 := pred_wrap (mm - 1) (by omega)
            refine W_sq fun K hK => (W_text [true, true, true, true, true, true, true, true, true, true, true, false, true] (by kernel_rfl) ?_); simp only [↓List.toList_toArray, ↓rgd, ↓rgf, ↓reduceIte, Nat.reduceEqDiff, rg, ow_165, e0, e2, e3, e9, e11, ptr_eq, b3, hbc, hlc2]
            refine do_call fn_165 (by simp only [evt, evc, upd_eq, Nat.reduceEqDiff, ↓reduceIte, maT, maC, maN, isnN, isnS] <;> rfl) (ih c2.b mn ba (oa + (mm - 1)) c2.xs c2.F (d ++ [x]) _ ((hT c2 hcm2).ext X3 fun y o g => hGc c2 hcm2 y o o g) h03 hcr3 (hGc c2 hcm2) hS3 (by rw [List.length_append, List.length_singleton]; omega)) ?_
            rintro _ w4 ⟨rfl, hS4, x4⟩
            refine ⟨trivial, ?_⟩
            simp only [↓List.toList_toArray, ↓rgd, ↓rgf, ↓reduceIte, Nat.reduceEqDiff, rg, ow_165]
            refine hK _ _ ?_; clear hK K
            cases hgo2 : (hand go (d ++ [x]) c2.xs.reverse).2 with
            | true =>
              rw [hand_on go hgo2] at hh
              have hd2 : (hand go (d ++ [x]) c2.xs.reverse).1.length = d.length + 1 + c2.xs.length := by rw [hand_true go hgo2]; simp only [List.length_append, List.length_singleton, List.length_reverse]
              refine W_false (by simp only [evt, evc, upd_eq, Nat.reduceEqDiff, ↓reduceIte, ntT, ntF] <;> rfl) (W_skip ?_)
              show W _ _ _ _ _ _
              refine W_rg fun K hK => (W_text [true, true, true] (by kernel_rfl) ?_); simp only [↓List.toList_toArray, ↓rgd, ↓rgf, ↓reduceIte, Nat.reduceEqDiff, rg, ow_165, e11, q1]
              refine hK _ _ ?_; clear hK K
              refine ⟨_, ?_, mm - 1, _, rfl, by omega, hh, by omega, hS4, X3.tr x4, ?_, ?_, ?_, ?_, ?_⟩
              · omega
              · simp only [upd_eq, Nat.reduceEqDiff, ↓reduceIte]; exact e0
              · simp only [upd_eq, Nat.reduceEqDiff, ↓reduceIte]; exact e2
              · simp only [upd_eq, Nat.reduceEqDiff, ↓reduceIte]; exact e3
              · simp only [upd_eq, Nat.reduceEqDiff, ↓reduceIte]; exact e9
              · simp only [upd_eq, Nat.reduceEqDiff, ↓reduceIte]
            | false =>
              refine W_true (by simp only [evt, evc, upd_eq, Nat.reduceEqDiff, ↓reduceIte, ntT, ntF] <;> rfl) ?_
              refine W_sq fun K hK => (W_text [true] (by kernel_rfl) ?_); simp only [↓List.toList_toArray, ↓rgd, ↓rgf, ↓reduceIte, Nat.reduceEqDiff, rg, ow_165]
              refine hK _ _ ?_; clear hK K
              refine W_ret ?_
              simp only [andThen_ret, inBlk_ret]
              refine endQ_1 (by simp only [upd_eq, Nat.reduceEqDiff, ↓reduceIte] <;> rfl) ?_
              rw [hh, hand_off go hgo2, hgo2]
              exact ⟨rfl, hS4, X3.tr x4⟩
          | false =>
            refine W_true (by simp only [evt, evc, upd_eq, Nat.reduceEqDiff, ↓reduceIte, ntT, ntF] <;> rfl) ?_
            refine W_sq fun K hK => (W_text [true] (by kernel_rfl) ?_); simp only [↓List.toList_toArray, ↓rgd, ↓rgf, ↓reduceIte, Nat.reduceEqDiff, rg, ow_165]
            refine hK _ _ ?_; clear hK K
            refine W_ret ?_
            simp only [andThen_ret, inBlk_ret]
            refine endQ_1 (by simp only [upd_eq, Nat.reduceEqDiff, ↓reduceIte] <;> rfl) ?_
            rw [hh, hand_no go hgo]
            exact ⟨rfl, hS3, X3⟩
        · obtain rfl : mm = 0 := by omega
          refine W_sq fun K hK => (W_text [true, true] (by kernel_rfl) ?_); simp only [↓List.toList_toArray, ↓rgd, ↓rgf, ↓reduceIte, Nat.reduceEqDiff, rg, ow_165, e11, ge_ff]
          refine hK _ _ ?_; clear hK K
          refine W_false (by simp only [evt, evc, upd_eq, Nat.reduceEqDiff, ↓reduceIte, ntT, ntF] <;> rfl) (W_exit ?_)
          simp only [andThen_exit, inBlk_exit, andThen_normal, ↓reduceIte]
          refine W_sq fun K hK => (W_text [true] (by kernel_rfl) ?_); simp only [↓List.toList_toArray, ↓rgd, ↓rgf, ↓reduceIte, Nat.reduceEqDiff, rg, ow_165]
          refine hK _ _ ?_; clear hK K
          refine W_ret ?_
          refine endQ_1 (by simp only [upd_eq, Nat.reduceEqDiff, ↓reduceIte] <;> rfl) ?_
          rw [hh]
          exact ⟨rfl, hS', X⟩
set_option maxHeartbeats 400000 in
set_option maxRecDepth 8000 in
theorem reverse_any (B m d : Nat) (ord : List Int) (iso : Int) (xs : List It) (F : Nat → Nat → Prop) (f : Value) (G : Nat → Nat → Prop) (S : List It → World → Prop) (go : List It → Bool) (C : Cb f G S go) (hm : ∀ o, ¬ G m o) (mu : Bool) (w : World)
    (hM : TreeAt B ord w m d iso xs F) (hG : ∀ y o o', F y o → ¬ G y o') (hS : S [] w) (hbig : xs.length ≤ 4294967295) :
    CallK Try.prog 138 #[ptr m, f, .bool mu] w fun _ w' => S (hand go [] xs.reverse).1 w' ∧ Ext G w w' := by
  refine calls_of_W [] Try.func138 rfl Try.ntmps138 Try.results138 (by simp) fun e he => ?_
  have e0 : e 0 = ptr m := he 0 _ rfl
  have e1 : e 1 = f := he 1 _ rfl
  have e2 : e 2 = .bool mu := he 2 _ rfl
  clear he
  refine W_seq ?_
  refine W_sq fun K hK => (W_text [true, true, false] (by kernel_rfl) ?_); simp only [↓List.toList_toArray, ↓rgd, ↓rgf, ↓reduceIte, Nat.reduceEqDiff, rg, ow_138, e0, e2]
  refine do_call fn_118 (by simp only [evt, evc, upd_eq, Nat.reduceEqDiff, ↓reduceIte, maT, maC, maN, isnN, isnS] <;> rfl) (lock_any _ _ w) ?_
  rintro _ _ ⟨rfl, rfl⟩
  refine ⟨trivial, ?_⟩
  simp only [↓List.toList_toArray, ↓rgd, ↓rgf, ↓reduceIte, Nat.reduceEqDiff, rg, ow_138]
  refine hK _ _ ?_; clear hK K
  refine W_false (by simp only [evt, evc, upd_eq, Nat.reduceEqDiff, ↓reduceIte, ntT, ntF] <;> rfl) (W_skip ?_)
  show W _ _ _ _ _ _
  refine W_seq ?_
  rcases hM.root with ⟨rfl, hr⟩ | ⟨h, b, hr, ht⟩
  · refine W_sq fun K hK => (W_text [true, true, true, true, true] (by kernel_rfl) ?_); simp only [↓List.toList_toArray, ↓rgd, ↓rgf, ↓reduceIte, Nat.reduceEqDiff, rg, ow_138, e0, ptr_eq, hr]
    refine hK _ _ ?_; clear hK K
    refine W_true (by simp only [evt, evc, upd_eq, Nat.reduceEqDiff, ↓reduceIte, ntT, ntF] <;> rfl) (W_ret ?_)
    simp only [andThen_ret]
    exact endQ_0 ⟨hS, Ext.refl _ _⟩
  · refine W_sq fun K hK => (W_text [true, true, true, true, true] (by kernel_rfl) ?_); simp only [↓List.toList_toArray, ↓rgd, ↓rgf, ↓reduceIte, Nat.reduceEqDiff, rg, ow_138, e0, ptr_eq, hr]
    refine hK _ _ ?_; clear hK K
    refine W_false (by simp only [evt, evc, upd_eq, Nat.reduceEqDiff, ↓reduceIte, ntT, ntF] <;> rfl) (W_skip ?_)
    show W _ _ _ _ _ _
    refine W_rg fun K hK => (W_text [true, true, true, true, true, true, false] (by kernel_rfl) ?_); simp only [↓List.toList_toArray, ↓rgd, ↓rgf, ↓reduceIte, Nat.reduceEqDiff, rg, ow_138, e0, e1, e2, ptr_eq]
    refine do_call fn_165 (by simp only [evt, evc, upd_eq, Nat.reduceEqDiff, ↓reduceIte, maT, maC, maN, isnN, isnS] <;> rfl) (nodeRev_any m iso (d - 1) (2 * d - 1) f G S go C hm mu h b 1 m 2 xs F [] w ht hM.cfg.iso hr hG hS (by simpa using hbig)) ?_
    rintro _ w1 ⟨rfl, hS1, X1⟩
    refine ⟨trivial, ?_⟩
    simp only [↓List.toList_toArray, ↓rgd, ↓rgf, ↓reduceIte, Nat.reduceEqDiff, rg, ow_138]
    refine hK _ _ ?_; clear hK K
    exact endQ_0n ⟨hS1, X1⟩
end Go.Proofs.Ytanmjbkbdmeckaa
/-
  Handing on the items of a tree backwards, from a key on. No condition.
-/
set_option linter.unusedSimpArgs false
set_option linter.unusedVariables false
namespace Go.Proofs.Ytanmjbkbdmeckaa
open Go Go.Proofs
set_option maxHeartbeats 1000000 in
set_option maxRecDepth 8000 in
theorem nodeDesc_any (m : Nat) (iso : Int) (mn mx : Nat) (B : Nat) (ord : List Int) (q : It) (hp : Option Nat) (f : Value) (G : Nat → Nat → Prop) (S : List It → World → Prop) (go : List It → Bool) (C : Cb f G S go) (hm : ∀ o, ¬ G m o) (hB : ∀ hb, hp = some hb → (m ≤ hb ∨ hb < B) ∧ ∀ o, G hb o) (hSh : ∀ done w w', S done w → Ext (hF hp) w w' → S done w') (hmn : 1 ≤ mn) (mu : Bool) :
    ∀ (h b lo pc po : Nat) (xs : List It) (F : Nat → Nat → Prop) (done : List It) (w : World) (dep : Nat), 1 ≤ lo → dep + h < 4611686018427387904 → Ls B m w ord → HOk hp w → Tr E iso mn mx h w lo b xs F → Asc O (rkI ord) xs → rd w m 0 = some (.int .u64 iso) → rd w pc po = some (ptr b) → (∀ y o o', F y o → ¬ G y o') → S done w →
      done.length + xs.length ≤ 4294967295 →
    CallK Try.prog 166 #[ptr m, .pointer (some ⟨pc, po, none⟩), itV q, hV hp, .int .i64 dep, f, .bool mu] w fun v w' => v = .bool (hand go done (xs.take (ub O (rkI ord) (rkI ord q) xs)).reverse).2 ∧ S (hand go done (xs.take (ub O (rkI ord) (rkI ord q) xs)).reverse).1 w' ∧ Ext G w w' := by
  have C0 := C
  obtain ⟨⟨g, first, cap0, rfl, hg, hcall⟩, hSx⟩ := C
  intro h
  induction h with
  | zero =>
    intro b lo pc po xs F done w dep hlo hdep hL hH ht ha h0 hpc hG hS hbig
    obtain ⟨bi, oi, cap, ho, h1, h2, hF⟩ := ht
    refine calls_of_W [.tmp 14] Try.func166 rfl Try.ntmps166 Try.results166 (by simp) fun e he => ?_
    have e0 : e 0 = ptr m := he 0 _ rfl
    have e1 : e 1 = .pointer (some ⟨pc, po, none⟩) := he 1 _ rfl
    have e2 : e 2 = itV q := he 2 _ rfl
    have e3 : e 3 = hV hp := he 3 _ rfl
    have e4 : e 4 = .int .i64 dep := he 4 _ rfl
    have e5 : e 5 = .func (.func g) first cap0 := he 5 _ rfl
    have e6 : e 6 = .bool mu := he 6 _ rfl
    clear he
    refine W_sq fun K0 hK => (W_text [true] (by kernel_rfl) ?_); simp only [↓List.toList_toArray, ↓rgd, ↓rgf, ↓reduceIte, Nat.reduceEqDiff, rg, ow_166]
    refine hK _ _ ?_; clear hK K0
    have x0 : Ext noF w w := Ext.refl _ _
    have s0 := x0.size
    refine W_sq fun K0 hK => (W_text [true, true, true, false, true] (by kernel_rfl) ?_); simp only [↓List.toList_toArray, ↓rgd, ↓rgf, ↓reduceIte, Nat.reduceEqDiff, rg, ow_166, e0, e1, e6]
    refine do_call fn_121 (by simp only [evt, evc, upd_eq, Nat.reduceEqDiff, ↓reduceIte, maT, maC, maN, isnN, isnS] <;> rfl) (isoLoad_any m pc po b mu iso w (x0.rd h0 fun h => h) (x0.rd hpc fun h => h) (x0.rd ho.h0 fun h => h)) ?_
    rintro _ w1 ⟨rfl, r1⟩
    refine ⟨trivial, ?_⟩
    simp only [↓List.toList_toArray, ↓rgd, ↓rgf, ↓reduceIte, Nat.reduceEqDiff, rg, ow_166]
    refine hK _ _ ?_; clear hK K0
    have x01 : Ext noF w w1 := r1.ext
    have x1 : Ext noF w w1 := x0.tr x01
    have s1 := x1.size
    have hbl := wok_lt ho.wb
    have hbil := wok_lt ho.wi
    have hbh : ∀ hb, hp = some hb → hb ≠ b := fun hb hh hE => hG b 0 0 ((hF _ _).2 (.inl rfl)) (by rw [← hE]; exact (hB hb hh).2 0)
    have hbx : ∀ o, ¬ Go.Proofs.Ytanmjbkbdmeckaa.hF hp w.heap.size o := fun o g => by
      have := wok_lt (hH _ g).wok; omega
    have hbF : ∀ y o, F y o → ¬ Go.Proofs.Ytanmjbkbdmeckaa.hF hp y o := fun y o hy hg => hG y o o hy ((hB y hg).2 o)
    have o1 := ho.ext x1 fun _ _ _ h => h
    refine W_sq fun K0 hK => (W_text [true, true, true, true, true, false, true, true, true, true, true] (by kernel_rfl) ?_); simp only [↓List.toList_toArray, ↓rgd, ↓rgf, ↓reduceIte, Nat.reduceEqDiff, rg, ow_166, e0, e3, e4, e2]
    refine do_call fn_174 (by simp only [evt, evc, upd_eq, Nat.reduceEqDiff, ↓reduceIte, maT, maC, maN, isnN, isnS] <;> rfl) (find_any B m b bi oi cap ord xs q none hp dep w1 (hL.ext0 x1) o1.h2 o1.h3 o1.row (by omega) (by omega) (by omega) ha (hH.ext0 x1) hbh) ?_
    rintro _ w2 ⟨rfl, r2, hH2⟩
    refine ⟨trivial, ?_⟩
    simp only [↓List.toList_toArray, ↓rgd, ↓rgf, ↓reduceIte, Nat.reduceEqDiff, rg, ow_166, srchG_eq]
    refine hK _ _ ?_; clear hK K0
    have x2 : Ext (Go.Proofs.Ytanmjbkbdmeckaa.hF hp) w w2 := (x1.trans r2 (fun _ _ g => g.elim) fun _ _ _ g => g)
    have x2G : Ext G w w2 := x2.mono fun y o _ g => (hB y g).2 o
    have o2 := ho.ext x2 fun y o h => hbF y o ((hF y o).2 h)
    have S2 := hSh _ _ _ hS x2
    have hlb := lb_le O (rkI ord) (rkI ord q) xs
    refine W_sqx fun K hK => ?_
    have hub := ub_le O (rkI ord) (rkI ord q) xs
    have hloop : ∀ e' : Env, e' 5 = .func (.func g) first cap0 → e' 15 = ptr b → e' 16 = .int .i64 ((ub O (rkI ord) (rkI ord q) xs : Nat) - 1 : Int) → K e' w2 := by
      intro e e5 e15 e16
      refine hK _ _ ?_; clear hK K
      refine W_seq ?_
      refine W_block (W_loop (fun mm e w' => ∃ (i : Nat) (d : List It), mm = i ∧ i ≤ xs.length ∧ hand go done (xs.take (ub O (rkI ord) (rkI ord q) xs)).reverse = hand go d (xs.take i).reverse ∧ d.length + i ≤ 4294967295 ∧ S d w' ∧ Ext G w w' ∧ e 5 = .func (.func g) first cap0 ∧ e 15 = ptr b ∧ e 16 = .int .i64 ((i : Int) - 1))
        (ub O (rkI ord) (rkI ord q) xs) ⟨_, done, rfl, hub, rfl, by omega, S2, x2G, e5, e15, e16⟩ ?_)
      clear e5 e15 e16 e S2 o2
      rintro mm e w' ⟨i, d, rfl, hi, hh, hdl, hS', X, e5, e15, e16⟩
      have o' := ho.ext X fun y o h => hG y o o ((hF y o).2 h)
      have hb2 := o'.h2
      have hb3 := o'.h3
      refine W_seq ?_
      by_cases hlt : 0 < mm
      · have ht := ge_tt mm hlt
        refine W_sq fun K0 hK => (W_text [true, true] (by kernel_rfl) ?_); simp only [↓List.toList_toArray, ↓rgd, ↓rgf, ↓reduceIte, Nat.reduceEqDiff, rg, ow_166, e16, ht]
        refine hK _ _ ?_; clear hK K0
        refine W_true (by simp only [evt, evc, upd_eq, Nat.reduceEqDiff, ↓reduceIte, ntT, ntF] <;> rfl) (W_skip ?_)
        show W _ _ _ _ _ _
        have hil : mm - 1 < xs.length := by omega
        obtain ⟨x, hx⟩ : ∃ x, xs[mm - 1]? = some x := ⟨_, List.getElem?_eq_getElem hil⟩
        have hk := it_at o'.row hx
        rw [take_rev hlt hx] at hh
        rw [int_pred mm hlt] at e16
        refine W_seq (W_block (W_seq ?_))
        refine W_sq fun K0 hK => (W_text [true, true, true, true, true, true, true, true, false, true] (by kernel_rfl) ?_); simp only [↓List.toList_toArray, ↓rgd, ↓rgf, ↓reduceIte, Nat.reduceEqDiff, rg, ow_166, e5, e15, e16, ptr_eq, hb2, hil, hk]
        refine do_callv (by simp only [evt, evc, upd_eq, Nat.reduceEqDiff, ↓reduceIte, ntT, ntF] <;> rfl) hg rfl (by simp only [evt, upd_eq, Nat.reduceEqDiff, ↓reduceIte, maT, maC, maN]; exact hcall d x _ hS' (by omega)) ?_
        rintro _ w3 ⟨rfl, hS3, x3⟩
        refine ⟨trivial, ?_⟩
        simp only [↓List.toList_toArray, ↓rgd, ↓rgf, ↓reduceIte, Nat.reduceEqDiff, rg, ow_166]
        refine hK _ _ ?_; clear hK K0
        have o3 := ho.ext (X.tr x3) fun y o h => hG y o o ((hF y o).2 h)
        have b3 := o3.h3
        cases hgo : go (d ++ [x]) with
        | true =>
          refine W_false (by simp only [evt, evc, upd_eq, Nat.reduceEqDiff, ↓reduceIte, ntT, ntF] <;> rfl) (W_skip ?_)
          show W _ _ _ _ _ _
          refine W_sq fun K0 hK => (W_text [true, false, true] (by kernel_rfl) ?_); simp only [↓List.toList_toArray, ↓rgd, ↓rgf, ↓reduceIte, Nat.reduceEqDiff, rg, ow_166, e15]
          refine do_call fn_122 (by simp only [evt, evc, upd_eq, Nat.reduceEqDiff, ↓reduceIte, maT, maC, maN, isnN, isnS] <;> rfl) (leaf_any b none w3 b3) ?_
          rintro _ w3 ⟨rfl, rfl⟩
          refine ⟨trivial, ?_⟩
          simp only [↓List.toList_toArray, ↓rgd, ↓rgf, ↓reduceIte, Nat.reduceEqDiff, rg, ow_166]
          refine hK _ _ ?_; clear hK K0
          refine W_false (by simp only [evt, evc, upd_eq, Nat.reduceEqDiff, ↓reduceIte, ntT, ntF] <;> rfl) (W_skip ?_)
          show W _ _ _ _ _ _
          have q1 := pred_wrap (mm - 1) (by omega)
          refine W_rg fun K0 hK => (W_text [true, true, true] (by kernel_rfl) ?_); simp only [↓List.toList_toArray, ↓rgd, ↓rgf, ↓reduceIte, Nat.reduceEqDiff, rg, ow_166, e16, q1]
          refine hK _ _ ?_; clear hK K0
          refine ⟨_, ?_, mm - 1, d ++ [x], rfl, by omega, by rw [hh, hand_yes go hgo], by simp; omega, hS3, X.tr x3, ?_, ?_, ?_⟩
          · omega
          · simp only [upd_eq, Nat.reduceEqDiff, ↓reduceIte]; exact e5
          · simp only [upd_eq, Nat.reduceEqDiff, ↓reduceIte]; exact e15
          · simp only [upd_eq, Nat.reduceEqDiff, ↓reduceIte]
        | false =>
          refine W_true (by simp only [evt, evc, upd_eq, Nat.reduceEqDiff, ↓reduceIte, ntT, ntF] <;> rfl) ?_
          refine W_sq fun K0 hK => (W_text [true] (by kernel_rfl) ?_); simp only [↓List.toList_toArray, ↓rgd, ↓rgf, ↓reduceIte, Nat.reduceEqDiff, rg, ow_166]
          refine hK _ _ ?_; clear hK K0
          refine W_ret ?_
          simp only [andThen_ret, inBlk_ret]
          refine endQ_1 (by simp only [upd_eq, Nat.reduceEqDiff, ↓reduceIte] <;> rfl) ?_
          rw [hh, hand_no go hgo]
          exact ⟨rfl, hS3, X.tr x3⟩
      · obtain rfl : mm = 0 := by omega
        refine W_sq fun K0 hK => (W_text [true, true] (by kernel_rfl) ?_); simp only [↓List.toList_toArray, ↓rgd, ↓rgf, ↓reduceIte, Nat.reduceEqDiff, rg, ow_166, e16, ge_ff]
        refine hK _ _ ?_; clear hK K0
        refine W_false (by simp only [evt, evc, upd_eq, Nat.reduceEqDiff, ↓reduceIte, ntT, ntF] <;> rfl) (W_exit ?_)
        simp only [andThen_exit, inBlk_exit, andThen_normal, ↓reduceIte]
        refine W_sq fun K0 hK => (W_text [true] (by kernel_rfl) ?_); simp only [↓List.toList_toArray, ↓rgd, ↓rgf, ↓reduceIte, Nat.reduceEqDiff, rg, ow_166]
        refine hK _ _ ?_; clear hK K0
        refine W_ret ?_
        refine endQ_1 (by simp only [upd_eq, Nat.reduceEqDiff, ↓reduceIte] <;> rfl) ?_
        rw [hh]
        exact ⟨rfl, hS', X⟩
    clear hK
    cases hq : hit O (rkI ord) (rkI ord q) xs with
    | true =>
      rw [ub_hit O (rkI ord) hq] at hloop
      have hpe : ((lb O (rkI ord) (rkI ord q) xs + 1 : Nat) - 1 : Int) = (lb O (rkI ord) (rkI ord q) xs : Nat) := by omega
      rw [hpe] at hloop
      refine W_sq fun K0 hK => (W_text [true, true] (by kernel_rfl) ?_); simp only [↓List.toList_toArray, ↓rgd, ↓rgf, ↓reduceIte, Nat.reduceEqDiff, rg, ow_166, hq]
      refine hK _ _ ?_; clear hK K0
      refine W_false (by simp only [evt, evc, upd_eq, Nat.reduceEqDiff, ↓reduceIte, ntT, ntF] <;> rfl) (W_skip ?_)
      simp only [andThen_normal]
      refine hloop _ ?_ ?_ ?_
      · simp only [upd_eq, Nat.reduceEqDiff, ↓reduceIte]; exact e5
      · simp only [upd_eq, Nat.reduceEqDiff, ↓reduceIte]
      · simp only [upd_eq, Nat.reduceEqDiff, ↓reduceIte]
    | false =>
      rw [ub_miss O (rkI ord) hq] at hloop
      refine W_sq fun K0 hK => (W_text [true, true] (by kernel_rfl) ?_); simp only [↓List.toList_toArray, ↓rgd, ↓rgf, ↓reduceIte, Nat.reduceEqDiff, rg, ow_166, hq]
      refine hK _ _ ?_; clear hK K0
      refine W_true (by simp only [evt, evc, upd_eq, Nat.reduceEqDiff, ↓reduceIte, ntT, ntF] <;> rfl) (W_seq ?_)
      refine W_sq fun K0 hK => (W_text [true, false, true] (by kernel_rfl) ?_); simp only [↓List.toList_toArray, ↓rgd, ↓rgf, ↓reduceIte, Nat.reduceEqDiff, rg, ow_166]
      refine do_call fn_122 (by simp only [evt, evc, upd_eq, Nat.reduceEqDiff, ↓reduceIte, maT, maC, maN, isnN, isnS] <;> rfl) (leaf_any b none w2 o2.h3) ?_
      rintro _ w3 ⟨rfl, hw3⟩
      obtain rfl : w2 = w3 := hw3.symm
      refine ⟨trivial, ?_⟩
      simp only [↓List.toList_toArray, ↓rgd, ↓rgf, ↓reduceIte, Nat.reduceEqDiff, rg, ow_166]
      refine hK _ _ ?_; clear hK K0
      refine W_false (by simp only [evt, evc, upd_eq, Nat.reduceEqDiff, ↓reduceIte, ntT, ntF] <;> rfl) (W_skip ?_)
      simp only [andThen_normal]
      have q1 := pred_wrap (lb O (rkI ord) (rkI ord q) xs) (by omega)
      refine W_rg fun K0 hK => (W_text [true, true, true] (by kernel_rfl) ?_); simp only [↓List.toList_toArray, ↓rgd, ↓rgf, ↓reduceIte, Nat.reduceEqDiff, rg, ow_166, q1]
      refine hK _ _ ?_; clear hK K0
      simp only [andThen_normal]
      refine hloop _ ?_ ?_ ?_
      · simp only [upd_eq, Nat.reduceEqDiff, ↓reduceIte]; exact e5
      · simp only [upd_eq, Nat.reduceEqDiff, ↓reduceIte]
      · simp only [upd_eq, Nat.reduceEqDiff, ↓reduceIte]
  | succ h ih =>
    intro b lo pc po xs F done w dep hlo hdep hL hH ht ha h0 hpc hG hS hbig
    obtain ⟨bi, oi, cap, bc, ba, oa, capc, ks, cs, ho, hk, h1, h2, hcs, rfl, hT, hA, hF⟩ := ht
    have hGo : ∀ y o, ownF E b bi oi cap y o → ∀ o', ¬ G y o' := fun y o g o' => hG y o o' ((hF y o).2 (.inl g))
    have hGk : ∀ y o, kidF bc ba oa capc y o → ∀ o', ¬ G y o' := fun y o g o' => hG y o o' ((hF y o).2 (.inr (.inl g)))
    have hGc : ∀ c ∈ cs, ∀ y o o', c.F y o → ¬ G y o' := fun c hc y o o' g => hG y o o' ((hF y o).2 (.inr (.inr ⟨c, hc, g⟩)))
    have hcs' : (cs.map Kid.xs).length = ks.length + 1 := by simpa using hcs
    have hwl := weave_length (cs.map Kid.xs) ks hcs'
    have hks : ks.length < 4611686018427387904 := by omega
    have hak : Asc O (rkI ord) ks := List.Pairwise.sublist (weave_sub _ _ hcs') ha
    refine calls_of_W [.tmp 14] Try.func166 rfl Try.ntmps166 Try.results166 (by simp) fun e he => ?_
    have e0 : e 0 = ptr m := he 0 _ rfl
    have e1 : e 1 = .pointer (some ⟨pc, po, none⟩) := he 1 _ rfl
    have e2 : e 2 = itV q := he 2 _ rfl
    have e3 : e 3 = hV hp := he 3 _ rfl
    have e4 : e 4 = .int .i64 dep := he 4 _ rfl
    have e5 : e 5 = .func (.func g) first cap0 := he 5 _ rfl
    have e6 : e 6 = .bool mu := he 6 _ rfl
    clear he
    refine W_sq fun K0 hK => (W_text [true] (by kernel_rfl) ?_); simp only [↓List.toList_toArray, ↓rgd, ↓rgf, ↓reduceIte, Nat.reduceEqDiff, rg, ow_166]
    refine hK _ _ ?_; clear hK K0
    have x0 : Ext noF w w := Ext.refl _ _
    have s0 := x0.size
    refine W_sq fun K0 hK => (W_text [true, true, true, false, true] (by kernel_rfl) ?_); simp only [↓List.toList_toArray, ↓rgd, ↓rgf, ↓reduceIte, Nat.reduceEqDiff, rg, ow_166, e0, e1, e6]
    refine do_call fn_121 (by simp only [evt, evc, upd_eq, Nat.reduceEqDiff, ↓reduceIte, maT, maC, maN, isnN, isnS] <;> rfl) (isoLoad_any m pc po b mu iso w (x0.rd h0 fun h => h) (x0.rd hpc fun h => h) (x0.rd ho.h0 fun h => h)) ?_
    rintro _ w1 ⟨rfl, r1⟩
    refine ⟨trivial, ?_⟩
    simp only [↓List.toList_toArray, ↓rgd, ↓rgf, ↓reduceIte, Nat.reduceEqDiff, rg, ow_166]
    refine hK _ _ ?_; clear hK K0
    have x01 : Ext noF w w1 := r1.ext
    have x1 : Ext noF w w1 := x0.tr x01
    have s1 := x1.size
    have hbl := wok_lt ho.wb
    have hbil := wok_lt ho.wi
    have hbh : ∀ hb, hp = some hb → hb ≠ b := fun hb hh hE => hG b 0 0 ((hF _ _).2 (.inl (.inl rfl))) (by rw [← hE]; exact (hB hb hh).2 0)
    have hbx : ∀ o, ¬ Go.Proofs.Ytanmjbkbdmeckaa.hF hp w.heap.size o := fun o g => by
      have := wok_lt (hH _ g).wok; omega
    have hbF : ∀ y o, F y o → ¬ Go.Proofs.Ytanmjbkbdmeckaa.hF hp y o := fun y o hy hg => hG y o o hy ((hB y hg).2 o)
    have o1 := ho.ext x1 fun _ _ _ h => h
    refine W_sq fun K0 hK => (W_text [true, true, true, true, true, false, true, true, true, true, true] (by kernel_rfl) ?_); simp only [↓List.toList_toArray, ↓rgd, ↓rgf, ↓reduceIte, Nat.reduceEqDiff, rg, ow_166, e0, e3, e4, e2]
    refine do_call fn_174 (by simp only [evt, evc, upd_eq, Nat.reduceEqDiff, ↓reduceIte, maT, maC, maN, isnN, isnS] <;> rfl) (find_any B m b bi oi cap ord ks q (some ⟨bc, 0, none⟩) hp dep w1 (hL.ext0 x1) o1.h2 o1.h3 o1.row (by omega) hks (by omega) hak (hH.ext0 x1) hbh) ?_
    rintro _ w2 ⟨rfl, r2, hH2⟩
    refine ⟨trivial, ?_⟩
    simp only [↓List.toList_toArray, ↓rgd, ↓rgf, ↓reduceIte, Nat.reduceEqDiff, rg, ow_166, srchG_eq]
    refine hK _ _ ?_; clear hK K0
    have x2 : Ext (Go.Proofs.Ytanmjbkbdmeckaa.hF hp) w w2 := (x1.trans r2 (fun _ _ g => g.elim) fun _ _ _ g => g)
    have x2G : Ext G w w2 := x2.mono fun y o _ g => (hB y g).2 o
    have o2 := ho.ext x2 fun y o h => hbF y o ((hF y o).2 (.inl h))
    have k2 := hk.ext x2 fun y o h => hbF y o ((hF y o).2 (.inr (.inl h)))
    have S2 := hSh _ _ _ hS x2
    have hmh : ¬ Go.Proofs.Ytanmjbkbdmeckaa.hF hp m 0 := fun g => hm 0 ((hB m g).2 0)
    have hL2 := hL.ext x2 (fun y o g => (hB y g).1) fun g => hm 6 ((hB m g).2 6)
    have hlb := lb_le O (rkI ord) (rkI ord q) ks
    have hci : ∀ i, i < cs.length → ∃ c, cs[i]? = some c ∧ (cs.map Kid.xs)[i]? = some c.xs ∧ ∀ w', Ext G w w' → rd w' ba (oa + i) = some (ptr c.b) := fun i hi => by
      refine ⟨cs[i], List.getElem?_eq_getElem hi, by rw [List.getElem?_map, List.getElem?_eq_getElem hi]; rfl, fun w' X => (hk.ext X fun y o g => hGk y o g o).row i _ ?_⟩
      rw [List.getElem?_map, List.getElem?_map, List.getElem?_eq_getElem hi]; rfl
    generalize hi0 : lb O (rkI ord) (rkI ord q) ks = i0 at *
    obtain ⟨c0, hc0, hx0, hr0⟩ := hci i0 (by omega)
    have hc0m : c0 ∈ cs := List.mem_of_getElem? hc0
    have hln0 := fr_length hcs' hlb hx0
    refine W_sqx fun K hK => ?_
    have hloop : ∀ (e' : Env) (w2 : World) (d : List It) (j : Nat), j ≤ ks.length → S d w2 → Ext G w w2 → hand go done ((weave (cs.map Kid.xs) ks).take (ub O (rkI ord) (rkI ord q) (weave (cs.map Kid.xs) ks))).reverse = hand go d (fr (cs.map Kid.xs) ks j).reverse → d.length + (fr (cs.map Kid.xs) ks j).length ≤ 4294967295 →
        e' 0 = ptr m → e' 5 = .func (.func g) first cap0 → e' 6 = .bool mu → e' 15 = ptr b → e' 16 = .int .i64 ((j : Int) - 1) → K e' w2 := by
      intro e w2 d0 j hj S2 X2 hh0 hdl0 e0 e5 e6 e15 e16
      refine hK _ _ ?_; clear hK K
      refine W_seq ?_
      refine W_block (W_loop (fun mm e w' => ∃ (i : Nat) (d : List It), mm = i ∧ i ≤ ks.length ∧ hand go done ((weave (cs.map Kid.xs) ks).take (ub O (rkI ord) (rkI ord q) (weave (cs.map Kid.xs) ks))).reverse = hand go d (fr (cs.map Kid.xs) ks i).reverse ∧ d.length + (fr (cs.map Kid.xs) ks i).length ≤ 4294967295 ∧ S d w' ∧ Ext G w w' ∧
          e 0 = ptr m ∧ e 5 = .func (.func g) first cap0 ∧ e 6 = .bool mu ∧ e 15 = ptr b ∧ e 16 = .int .i64 ((i : Int) - 1))
        j ⟨_, d0, rfl, hj, hh0, hdl0, S2, X2, e0, e5, e6, e15, e16⟩ ?_)
      clear e0 e1 e2 e5 e6 e15 e16 e S2 o2 X2 hdl0 hh0
      rintro mm e w' ⟨i, d, rfl, hi, hh, hdl, hS', X, e0, e5, e6, e15, e16⟩
      have o' := ho.ext X fun y o g => hGo y o g o
      have hb2 := o'.h2
      refine W_seq ?_
      by_cases hlt : 0 < mm
      · have ht := ge_tt mm hlt
        refine W_sq fun K0 hK => (W_text [true, true] (by kernel_rfl) ?_); simp only [↓List.toList_toArray, ↓rgd, ↓rgf, ↓reduceIte, Nat.reduceEqDiff, rg, ow_166, e16, ht]
        refine hK _ _ ?_; clear hK K0
        refine W_true (by simp only [evt, evc, upd_eq, Nat.reduceEqDiff, ↓reduceIte, ntT, ntF] <;> rfl) (W_skip ?_)
        show W _ _ _ _ _ _
        have hil : mm - 1 < ks.length := by omega
        have hlc : mm - 1 < cs.length := by omega
        obtain ⟨x, hx⟩ : ∃ x, ks[mm - 1]? = some x := ⟨_, List.getElem?_eq_getElem hil⟩
        obtain ⟨c, hc, hcx, hcr⟩ := hci (mm - 1) hlc
        have hcm : c ∈ cs := List.mem_of_getElem? hc
        have hst : fr (cs.map Kid.xs) ks mm = fr (cs.map Kid.xs) ks (mm - 1) ++ (c.xs ++ [x]) := by
          have := fr_step hcx hx
          rwa [show mm - 1 + 1 = mm by omega] at this
        have hrv : (fr (cs.map Kid.xs) ks mm).reverse = x :: (c.xs.reverse ++ (fr (cs.map Kid.xs) ks (mm - 1)).reverse) := by rw [hst]; simp
        rw [hrv] at hh
        rw [hst] at hdl
        simp only [List.length_append, List.length_singleton] at hdl
        have hkx := it_at o'.row hx
        rw [int_pred mm hlt] at e16
        refine W_seq (W_block (W_seq ?_))
        refine W_sq fun K0 hK => (W_text [true, true, true, true, true, true, true, true, false, true] (by kernel_rfl) ?_); simp only [↓List.toList_toArray, ↓rgd, ↓rgf, ↓reduceIte, Nat.reduceEqDiff, rg, ow_166, e5, e15, e16, ptr_eq, hb2, hil, hkx]
        refine do_callv (by simp only [evt, evc, upd_eq, Nat.reduceEqDiff, ↓reduceIte, ntT, ntF] <;> rfl) hg rfl (by simp only [evt, upd_eq, Nat.reduceEqDiff, ↓reduceIte, maT, maC, maN]; exact hcall d x _ hS' (by omega)) ?_
        rintro _ w3 ⟨rfl, hS3, x3⟩
        refine ⟨trivial, ?_⟩
        simp only [↓List.toList_toArray, ↓rgd, ↓rgf, ↓reduceIte, Nat.reduceEqDiff, rg, ow_166]
        refine hK _ _ ?_; clear hK K0
        have X3 := X.tr x3
        have o3 := ho.ext X3 fun y o g => hGo y o g o
        have k3 := hk.ext X3 fun y o g => hGk y o g o
        have b3 := o3.h3
        have hbc := k3.c0
        rw [List.length_map] at hbc
        have hcr3 := hcr _ X3
        have h03 := X3.rd h0 (hm 0)
        cases hgo : go (d ++ [x]) with
        | true =>
          rw [hand_yes go hgo] at hh
          refine W_false (by simp only [evt, evc, upd_eq, Nat.reduceEqDiff, ↓reduceIte, ntT, ntF] <;> rfl) (W_skip ?_)
          show W _ _ _ _ _ _
          refine W_sq fun K0 hK => (W_text [true, false, true] (by kernel_rfl) ?_); simp only [↓List.toList_toArray, ↓rgd, ↓rgf, ↓reduceIte, Nat.reduceEqDiff, rg, ow_166, e15]
          refine do_call fn_122 (by simp only [evt, evc, upd_eq, Nat.reduceEqDiff, ↓reduceIte, maT, maC, maN, isnN, isnS] <;> rfl) (leaf_any b (some ⟨bc, 0, none⟩) w3 b3) ?_
          rintro _ w4 ⟨rfl, hw4⟩
          obtain rfl : w3 = w4 := hw4.symm
          refine ⟨trivial, ?_⟩
          simp only [↓List.toList_toArray, ↓rgd, ↓rgf, ↓reduceIte, Nat.reduceEqDiff, rg, ow_166]
          refine hK _ _ ?_; clear hK K0
          refine W_true (by simp only [evt, evc, upd_eq, Nat.reduceEqDiff, ↓reduceIte, ntT, ntF] <;> rfl) ?_
          have q1 := pred_wrap (mm - 1) (by omega)
          refine W_sq fun K0 hK => (W_text [true, true, true, true, true, true, true, true, true, true, true, false, true] (by kernel_rfl) ?_); simp only [↓List.toList_toArray, ↓rgd, ↓rgf, ↓reduceIte, Nat.reduceEqDiff, rg, ow_166, e0, e5, e6, e15, e16, ptr_eq, b3, hbc, hlc]
          refine do_call fn_165 (by simp only [evt, evc, upd_eq, Nat.reduceEqDiff, ↓reduceIte, maT, maC, maN, isnN, isnS] <;> rfl) (nodeRev_any m iso mn mx _ G S go C0 hm mu h c.b mn ba (oa + (mm - 1)) c.xs c.F (d ++ [x]) _ ((hT c hcm).ext X3 fun y o g => hGc c hcm y o o g) h03 hcr3 (hGc c hcm) hS3 (by rw [List.length_append, List.length_singleton]; omega)) ?_
          rintro _ w4 ⟨rfl, hS4, x4⟩
          refine ⟨trivial, ?_⟩
          simp only [↓List.toList_toArray, ↓rgd, ↓rgf, ↓reduceIte, Nat.reduceEqDiff, rg, ow_166]
          refine hK _ _ ?_; clear hK K0
          cases hgo2 : (hand go (d ++ [x]) c.xs.reverse).2 with
          | true =>
            rw [hand_on go hgo2] at hh
            have hd2 : (hand go (d ++ [x]) c.xs.reverse).1.length = d.length + 1 + c.xs.length := by rw [hand_true go hgo2]; simp only [List.length_append, List.length_singleton, List.length_reverse]
            refine W_false (by simp only [evt, evc, upd_eq, Nat.reduceEqDiff, ↓reduceIte, ntT, ntF] <;> rfl) (W_skip ?_)
            simp only [inBlk_normal, andThen_normal]
            refine W_rg fun K0 hK => (W_text [true, true, true] (by kernel_rfl) ?_); simp only [↓List.toList_toArray, ↓rgd, ↓rgf, ↓reduceIte, Nat.reduceEqDiff, rg, ow_166, e16, q1]
            refine hK _ _ ?_; clear hK K0
            refine ⟨_, ?_, mm - 1, _, rfl, by omega, hh, by omega, hS4, X3.tr x4, ?_, ?_, ?_, ?_, ?_⟩
            · omega
            · simp only [upd_eq, Nat.reduceEqDiff, ↓reduceIte]; exact e0
            · simp only [upd_eq, Nat.reduceEqDiff, ↓reduceIte]; exact e5
            · simp only [upd_eq, Nat.reduceEqDiff, ↓reduceIte]; exact e6
            · simp only [upd_eq, Nat.reduceEqDiff, ↓reduceIte]; exact e15
            · simp only [upd_eq, Nat.reduceEqDiff, ↓reduceIte]
          | false =>
            refine W_true (by simp only [evt, evc, upd_eq, Nat.reduceEqDiff, ↓reduceIte, ntT, ntF] <;> rfl) ?_
            refine W_sq fun K0 hK => (W_text [true] (by kernel_rfl) ?_); simp only [↓List.toList_toArray, ↓rgd, ↓rgf, ↓reduceIte, Nat.reduceEqDiff, rg, ow_166]
            refine hK _ _ ?_; clear hK K0
            refine W_ret ?_
            simp only [andThen_ret, inBlk_ret]
            refine endQ_1 (by simp only [upd_eq, Nat.reduceEqDiff, ↓reduceIte] <;> rfl) ?_
            rw [hh, hand_off go hgo2, hgo2]
            exact ⟨rfl, hS4, X3.tr x4⟩
        | false =>
          refine W_true (by simp only [evt, evc, upd_eq, Nat.reduceEqDiff, ↓reduceIte, ntT, ntF] <;> rfl) ?_
          refine W_sq fun K0 hK => (W_text [true] (by kernel_rfl) ?_); simp only [↓List.toList_toArray, ↓rgd, ↓rgf, ↓reduceIte, Nat.reduceEqDiff, rg, ow_166]
          refine hK _ _ ?_; clear hK K0
          refine W_ret ?_
          simp only [andThen_ret, inBlk_ret]
          refine endQ_1 (by simp only [upd_eq, Nat.reduceEqDiff, ↓reduceIte] <;> rfl) ?_
          rw [hh, hand_no go hgo]
          exact ⟨rfl, hS3, X3⟩
      · obtain rfl : mm = 0 := by omega
        refine W_sq fun K0 hK => (W_text [true, true] (by kernel_rfl) ?_); simp only [↓List.toList_toArray, ↓rgd, ↓rgf, ↓reduceIte, Nat.reduceEqDiff, rg, ow_166, e16, ge_ff]
        refine hK _ _ ?_; clear hK K0
        refine W_false (by simp only [evt, evc, upd_eq, Nat.reduceEqDiff, ↓reduceIte, ntT, ntF] <;> rfl) (W_exit ?_)
        simp only [andThen_exit, inBlk_exit, andThen_normal, ↓reduceIte]
        refine W_sq fun K0 hK => (W_text [true] (by kernel_rfl) ?_); simp only [↓List.toList_toArray, ↓rgd, ↓rgf, ↓reduceIte, Nat.reduceEqDiff, rg, ow_166]
        refine hK _ _ ?_; clear hK K0
        refine W_ret ?_
        refine endQ_1 (by simp only [upd_eq, Nat.reduceEqDiff, ↓reduceIte] <;> rfl) ?_
        rw [hh]
        exact ⟨rfl, hS', X⟩
    clear hK
    cases hq : hit O (rkI ord) (rkI ord q) ks with
    | true =>
      have hlt0 : i0 < ks.length := by
        obtain ⟨k, hk1, _⟩ := hit_at O (rkI ord) hq
        rw [hi0] at hk1
        exact (List.getElem?_eq_some_iff.1 hk1).1
      obtain ⟨x0, hx00⟩ : ∃ x, ks[i0]? = some x := ⟨_, List.getElem?_eq_getElem hlt0⟩
      have hl1 : (fr (cs.map Kid.xs) ks (i0 + 1)).length ≤ (weave (cs.map Kid.xs) ks).length := by
        rw [← down_hit O (rkI ord) hcs' hx0 ha hi0 hq, List.length_take]; omega
      refine W_sq fun K0 hK => (W_text [true, true] (by kernel_rfl) ?_); simp only [↓List.toList_toArray, ↓rgd, ↓rgf, ↓reduceIte, Nat.reduceEqDiff, rg, ow_166, hq]
      refine hK _ _ ?_; clear hK K0
      refine W_false (by simp only [evt, evc, upd_eq, Nat.reduceEqDiff, ↓reduceIte, ntT, ntF] <;> rfl) (W_skip ?_)
      simp only [andThen_normal]
      refine hloop _ _ done (i0 + 1) hlt0 S2 x2G (by rw [down_hit O (rkI ord) hcs' hx0 ha hi0 hq]) (by omega) ?_ ?_ ?_ ?_ ?_
      · simp only [upd_eq, Nat.reduceEqDiff, ↓reduceIte]; exact e0
      · simp only [upd_eq, Nat.reduceEqDiff, ↓reduceIte]; exact e5
      · simp only [upd_eq, Nat.reduceEqDiff, ↓reduceIte]; exact e6
      · simp only [upd_eq, Nat.reduceEqDiff, ↓reduceIte]
      · simp only [upd_eq, Nat.reduceEqDiff, ↓reduceIte]; congr 1; omega
    | false =>
      have hb3 := o2.h3
      have hbc := k2.c0
      rw [List.length_map] at hbc
      have hlc : i0 < cs.length := by omega
      have hfm : ((weave (cs.map Kid.xs) ks).take (ub O (rkI ord) (rkI ord q) (weave (cs.map Kid.xs) ks))).reverse = (c0.xs.take (ub O (rkI ord) (rkI ord q) c0.xs)).reverse ++ (fr (cs.map Kid.xs) ks i0).reverse := by
        rw [down_miss O (rkI ord) hcs' hx0 ha hi0 hq, List.reverse_append]
      have hac : Asc O (rkI ord) c0.xs := by
        obtain ⟨A, C, hw⟩ := weave_at i0 (cs.map Kid.xs) ks hcs' hlb
        rw [hw.eq hx0] at ha
        exact ((Asc.append O (rkI ord)).1 ((Asc.append O (rkI ord)).1 ha).1).2.1
      refine W_sq fun K0 hK => (W_text [true, true] (by kernel_rfl) ?_); simp only [↓List.toList_toArray, ↓rgd, ↓rgf, ↓reduceIte, Nat.reduceEqDiff, rg, ow_166, hq]
      refine hK _ _ ?_; clear hK K0
      refine W_true (by simp only [evt, evc, upd_eq, Nat.reduceEqDiff, ↓reduceIte, ntT, ntF] <;> rfl) (W_seq ?_)
      refine W_sq fun K0 hK => (W_text [true, false, true] (by kernel_rfl) ?_); simp only [↓List.toList_toArray, ↓rgd, ↓rgf, ↓reduceIte, Nat.reduceEqDiff, rg, ow_166]
      refine do_call fn_122 (by simp only [evt, evc, upd_eq, Nat.reduceEqDiff, ↓reduceIte, maT, maC, maN, isnN, isnS] <;> rfl) (leaf_any b (some ⟨bc, 0, none⟩) w2 o2.h3) ?_
      rintro _ w3 ⟨rfl, hw3⟩
      obtain rfl : w2 = w3 := hw3.symm
      refine ⟨trivial, ?_⟩
      simp only [↓List.toList_toArray, ↓rgd, ↓rgf, ↓reduceIte, Nat.reduceEqDiff, rg, ow_166]
      refine hK _ _ ?_; clear hK K0
      refine W_true (by simp only [evt, evc, upd_eq, Nat.reduceEqDiff, ↓reduceIte, ntT, ntF] <;> rfl) ?_
      have q1 := wadd1 dep (by omega)
      have q2 := pred_wrap i0 (by omega)
      refine W_sq fun K0 hK => (W_text [true, true, true, true, true, true, true, true, true, true, true, true, true, true, true, false, true] (by kernel_rfl) ?_); simp only [↓List.toList_toArray, ↓rgd, ↓rgf, ↓reduceIte, Nat.reduceEqDiff, rg, ow_166, e0, e3, e4, e5, e6, ptr_eq, hb3, hbc, hlc, q1, e2]
      refine do_call fn_166 (by simp only [evt, evc, upd_eq, Nat.reduceEqDiff, ↓reduceIte, maT, maC, maN, isnN, isnS] <;> rfl) (ih c0.b mn ba (oa + i0) c0.xs c0.F done _ (dep + 1) hmn (by omega) (hL2.ext0 (Ext.dr _ _ _)) (hH2.ext0 (Ext.dr _ _ _)) (((hT c0 hc0m).ext x2 fun y o h g => hGc c0 hc0m y o o h ((hB y g).2 o)).ext (Ext.dr noF _ _) fun _ _ _ h => h) hac (x2.rd h0 hmh) (hr0 _ (x2G.tr (Ext.dr _ _ _))) (hGc c0 hc0m) (hSx _ _ _ S2 (Ext.dr _ _ _)) (by omega)) ?_
      rintro _ w4 ⟨rfl, hS4, x4⟩
      refine ⟨trivial, ?_⟩
      simp only [↓List.toList_toArray, ↓rgd, ↓rgf, ↓reduceIte, Nat.reduceEqDiff, rg, ow_166]
      refine hK _ _ ?_; clear hK K0
      have X4 : Ext G w w4 := x2G.tr x4.od
      cases hgo2 : (hand go done (c0.xs.take (ub O (rkI ord) (rkI ord q) c0.xs)).reverse).2 with
      | true =>
        have hd2 : (hand go done (c0.xs.take (ub O (rkI ord) (rkI ord q) c0.xs)).reverse).1.length ≤ done.length + c0.xs.length := by rw [hand_true go hgo2]; simp only [List.length_append, List.length_reverse, List.length_take]; omega
        refine W_false (by simp only [evt, evc, upd_eq, Nat.reduceEqDiff, ↓reduceIte, ntT, ntF] <;> rfl) (W_skip ?_)
        simp only [andThen_normal]
        refine W_rg fun K0 hK => (W_text [true, true, true] (by kernel_rfl) ?_); simp only [↓List.toList_toArray, ↓rgd, ↓rgf, ↓reduceIte, Nat.reduceEqDiff, rg, ow_166, q2]
        refine hK _ _ ?_; clear hK K0
        simp only [andThen_normal]
        refine hloop _ _ _ i0 hlb hS4 X4 (by rw [hfm, hand_on go hgo2]) (by omega) ?_ ?_ ?_ ?_ ?_
        · simp only [upd_eq, Nat.reduceEqDiff, ↓reduceIte]; exact e0
        · simp only [upd_eq, Nat.reduceEqDiff, ↓reduceIte]; exact e5
        · simp only [upd_eq, Nat.reduceEqDiff, ↓reduceIte]; exact e6
        · simp only [upd_eq, Nat.reduceEqDiff, ↓reduceIte]; rfl
        · simp only [upd_eq, Nat.reduceEqDiff, ↓reduceIte]
      | false =>
        refine W_true (by simp only [evt, evc, upd_eq, Nat.reduceEqDiff, ↓reduceIte, ntT, ntF] <;> rfl) ?_
        refine W_sq fun K0 hK => (W_text [true] (by kernel_rfl) ?_); simp only [↓List.toList_toArray, ↓rgd, ↓rgf, ↓reduceIte, Nat.reduceEqDiff, rg, ow_166]
        refine hK _ _ ?_; clear hK K0
        refine W_ret ?_
        simp only [andThen_ret]
        refine endQ_1 (by simp only [upd_eq, Nat.reduceEqDiff, ↓reduceIte] <;> rfl) ?_
        rw [hfm, hand_off go hgo2, hgo2]
        exact ⟨rfl, hS4, X4⟩
set_option maxHeartbeats 400000 in
set_option maxRecDepth 8000 in
theorem descend_any (B m d : Nat) (ord : List Int) (hd : 2 ≤ d) (iso : Int) (xs : List It) (F : Nat → Nat → Prop) (q : It) (hp : Option Nat) (f : Value) (G : Nat → Nat → Prop) (S : List It → World → Prop) (go : List It → Bool) (C : Cb f G S go) (hm : ∀ o, ¬ G m o)
    (hB : ∀ hb, hp = some hb → (m ≤ hb ∨ hb < B) ∧ ∀ o, G hb o) (hSh : ∀ done w w', S done w → Ext (Go.Proofs.Ytanmjbkbdmeckaa.hF hp) w w' → S done w') (mu : Bool) (w : World)
    (hM : TreeAt B ord w m d iso xs F) (hG : ∀ y o o', F y o → ¬ G y o') (hS : S [] w) (hH : HOk hp w) (hbig : xs.length ≤ 4294967295) :
    CallK Try.prog 139 #[ptr m, itV q, f, .bool mu, hV hp] w fun _ w' => S (hand go [] (xs.take (ub O (rkI ord) (rkI ord q) xs)).reverse).1 w' ∧ Ext G w w' := by
  refine calls_of_W [] Try.func139 rfl Try.ntmps139 Try.results139 (by simp) fun e he => ?_
  have e0 : e 0 = ptr m := he 0 _ rfl
  have e1 : e 1 = itV q := he 1 _ rfl
  have e2 : e 2 = f := he 2 _ rfl
  have e3 : e 3 = .bool mu := he 3 _ rfl
  have e4 : e 4 = hV hp := he 4 _ rfl
  clear he
  have X1 : Ext noF w w := Ext.refl _ _
  have hS1 := C.2 _ _ _ hS X1
  have hM1 := hM.ext X1
  have hH1 := hH.ext0 X1
  refine W_seq ?_
  refine W_sq fun K0 hK => (W_text [true, true, false] (by kernel_rfl) ?_); simp only [↓List.toList_toArray, ↓rgd, ↓rgf, ↓reduceIte, Nat.reduceEqDiff, rg, ow_139, e0, e3]
  refine do_call fn_118 (by simp only [evt, evc, upd_eq, Nat.reduceEqDiff, ↓reduceIte, maT, maC, maN, isnN, isnS] <;> rfl) (lock_any _ _ w) ?_
  rintro _ _ ⟨rfl, rfl⟩
  refine ⟨trivial, ?_⟩
  simp only [↓List.toList_toArray, ↓rgd, ↓rgf, ↓reduceIte, Nat.reduceEqDiff, rg, ow_139]
  refine hK _ _ ?_; clear hK K0
  refine W_false (by simp only [evt, evc, upd_eq, Nat.reduceEqDiff, ↓reduceIte, ntT, ntF] <;> rfl) (W_skip ?_)
  show W _ _ _ _ _ _
  refine W_seq ?_
  have X1G : Ext G w w := X1.mono fun _ _ _ g => g.elim
  rcases hM1.root with ⟨rfl, hr⟩ | ⟨h, b, hr, ht⟩
  · refine W_sq fun K0 hK => (W_text [true, true, true, true, true] (by kernel_rfl) ?_); simp only [↓List.toList_toArray, ↓rgd, ↓rgf, ↓reduceIte, Nat.reduceEqDiff, rg, ow_139, e0, ptr_eq, hr]
    refine hK _ _ ?_; clear hK K0
    refine W_true (by simp only [evt, evc, upd_eq, Nat.reduceEqDiff, ↓reduceIte, ntT, ntF] <;> rfl) (W_ret ?_)
    simp only [andThen_ret]
    exact endQ_0 ⟨hS1, X1G⟩
  · refine W_sq fun K0 hK => (W_text [true, true, true, true, true] (by kernel_rfl) ?_); simp only [↓List.toList_toArray, ↓rgd, ↓rgf, ↓reduceIte, Nat.reduceEqDiff, rg, ow_139, e0, ptr_eq, hr]
    refine hK _ _ ?_; clear hK K0
    refine W_false (by simp only [evt, evc, upd_eq, Nat.reduceEqDiff, ↓reduceIte, ntT, ntF] <;> rfl) (W_skip ?_)
    show W _ _ _ _ _ _
    have hh := ht.height (by omega) (by omega)
    refine W_rg fun K0 hK => (W_text [true, true, true, true, true, true, true, true, false] (by kernel_rfl) ?_); simp only [↓List.toList_toArray, ↓rgd, ↓rgf, ↓reduceIte, Nat.reduceEqDiff, rg, ow_139, e0, e2, e3, e4, ptr_eq, e1]
    refine do_call fn_166 (by simp only [evt, evc, upd_eq, Nat.reduceEqDiff, ↓reduceIte, maT, maC, maN, isnN, isnS] <;> rfl) (nodeDesc_any m iso (d - 1) (2 * d - 1) B ord q hp f G S go C hm hB hSh (by omega) mu h b 1 m 2 xs F [] w 0 (Nat.le_refl _) (by omega) (hM1.less.ext0 (Ext.refl _ _)) (hH1.ext0 (Ext.refl _ _)) (ht.ext (Ext.refl noF _) fun _ _ _ h => h) hM1.asc hM1.cfg.iso hr hG (C.2 _ _ _ hS1 (Ext.refl _ _)) (by simpa using hbig)) ?_
    rintro _ w2 ⟨rfl, hS2, X2⟩
    refine ⟨trivial, ?_⟩
    simp only [↓List.toList_toArray, ↓rgd, ↓rgf, ↓reduceIte, Nat.reduceEqDiff, rg, ow_139]
    refine hK _ _ ?_; clear hK K0
    exact endQ_0n ⟨hS2, X1G.tr X2⟩
end Go.Proofs.Ytanmjbkbdmeckaa
/-
  Handing on the items of a tree from a key on. No condition.
-/
set_option linter.unusedSimpArgs false
set_option linter.unusedVariables false
namespace Go.Proofs.Ytanmjbkbdmeckaa
open Go Go.Proofs
set_option maxHeartbeats 1000000 in
set_option maxRecDepth 8000 in
theorem nodeAscend_any (m : Nat) (iso : Int) (mn mx : Nat) (B : Nat) (ord : List Int) (q : It) (hp : Option Nat) (f : Value) (G : Nat → Nat → Prop) (S : List It → World → Prop) (go : List It → Bool) (C : Cb f G S go) (hm : ∀ o, ¬ G m o) (hB : ∀ hb, hp = some hb → (m ≤ hb ∨ hb < B) ∧ ∀ o, G hb o) (hSh : ∀ done w w', S done w → Ext (hF hp) w w' → S done w') (hmn : 1 ≤ mn) (mu : Bool) :
    ∀ (h b lo pc po : Nat) (xs : List It) (F : Nat → Nat → Prop) (done : List It) (w : World) (dep : Nat), 1 ≤ lo → dep + h < 4611686018427387904 → Ls B m w ord → HOk hp w → Tr E iso mn mx h w lo b xs F → Asc O (rkI ord) xs → rd w m 0 = some (.int .u64 iso) → rd w pc po = some (ptr b) → (∀ y o o', F y o → ¬ G y o') → S done w →
      done.length + xs.length ≤ 4294967295 →
    CallK Try.prog 164 #[ptr m, .pointer (some ⟨pc, po, none⟩), itV q, hV hp, .int .i64 dep, f, .bool mu] w fun v w' => v = .bool (hand go done (xs.drop (lb O (rkI ord) (rkI ord q) xs))).2 ∧ S (hand go done (xs.drop (lb O (rkI ord) (rkI ord q) xs))).1 w' ∧ Ext G w w' := by
  have C0 := C
  obtain ⟨⟨g, first, cap0, rfl, hg, hcall⟩, hSx⟩ := C
  intro h
  induction h with
  | zero =>
    intro b lo pc po xs F done w dep hlo hdep hL hH ht ha h0 hpc hG hS hbig
    obtain ⟨bi, oi, cap, ho, h1, h2, hF⟩ := ht
    refine calls_of_W [.tmp 14] Try.func164 rfl Try.ntmps164 Try.results164 (by simp) fun e he => ?_
    have e0 : e 0 = ptr m := he 0 _ rfl
    have e1 : e 1 = .pointer (some ⟨pc, po, none⟩) := he 1 _ rfl
    have e2 : e 2 = itV q := he 2 _ rfl
    have e3 : e 3 = hV hp := he 3 _ rfl
    have e4 : e 4 = .int .i64 dep := he 4 _ rfl
    have e5 : e 5 = .func (.func g) first cap0 := he 5 _ rfl
    have e6 : e 6 = .bool mu := he 6 _ rfl
    clear he
    refine W_sq fun K0 hK => (W_text [true] (by kernel_rfl) ?_); simp only [↓List.toList_toArray, ↓rgd, ↓rgf, ↓reduceIte, Nat.reduceEqDiff, rg, ow_164]
    refine hK _ _ ?_; clear hK K0
    have x0 : Ext noF w w := Ext.refl _ _
    have s0 := x0.size
    refine W_sq fun K0 hK => (W_text [true, true, true, false, true] (by kernel_rfl) ?_); simp only [↓List.toList_toArray, ↓rgd, ↓rgf, ↓reduceIte, Nat.reduceEqDiff, rg, ow_164, e0, e1, e6]
    refine do_call fn_121 (by simp only [evt, evc, upd_eq, Nat.reduceEqDiff, ↓reduceIte, maT, maC, maN, isnN, isnS] <;> rfl) (isoLoad_any m pc po b mu iso w (x0.rd h0 fun h => h) (x0.rd hpc fun h => h) (x0.rd ho.h0 fun h => h)) ?_
    rintro _ w1 ⟨rfl, r1⟩
    refine ⟨trivial, ?_⟩
    simp only [↓List.toList_toArray, ↓rgd, ↓rgf, ↓reduceIte, Nat.reduceEqDiff, rg, ow_164]
    refine hK _ _ ?_; clear hK K0
    have x01 : Ext noF w w1 := r1.ext
    have x1 : Ext noF w w1 := x0.tr x01
    have s1 := x1.size
    have hbl := wok_lt ho.wb
    have hbil := wok_lt ho.wi
    have hbh : ∀ hb, hp = some hb → hb ≠ b := fun hb hh hE => hG b 0 0 ((hF _ _).2 (.inl rfl)) (by rw [← hE]; exact (hB hb hh).2 0)
    have hbx : ∀ o, ¬ Go.Proofs.Ytanmjbkbdmeckaa.hF hp w.heap.size o := fun o g => by
      have := wok_lt (hH _ g).wok; omega
    have hbF : ∀ y o, F y o → ¬ Go.Proofs.Ytanmjbkbdmeckaa.hF hp y o := fun y o hy hg => hG y o o hy ((hB y hg).2 o)
    have o1 := ho.ext x1 fun _ _ _ h => h
    refine W_sq fun K0 hK => (W_text [true, true, true, true, true, false, true, true, true, true, true] (by kernel_rfl) ?_); simp only [↓List.toList_toArray, ↓rgd, ↓rgf, ↓reduceIte, Nat.reduceEqDiff, rg, ow_164, e0, e3, e4, e2]
    refine do_call fn_174 (by simp only [evt, evc, upd_eq, Nat.reduceEqDiff, ↓reduceIte, maT, maC, maN, isnN, isnS] <;> rfl) (find_any B m b bi oi cap ord xs q none hp dep w1 (hL.ext0 x1) o1.h2 o1.h3 o1.row (by omega) (by omega) (by omega) ha (hH.ext0 x1) hbh) ?_
    rintro _ w2 ⟨rfl, r2, hH2⟩
    refine ⟨trivial, ?_⟩
    simp only [↓List.toList_toArray, ↓rgd, ↓rgf, ↓reduceIte, Nat.reduceEqDiff, rg, ow_164, srchG_eq]
    refine hK _ _ ?_; clear hK K0
    have x2 : Ext (Go.Proofs.Ytanmjbkbdmeckaa.hF hp) w w2 := (x1.trans r2 (fun _ _ g => g.elim) fun _ _ _ g => g)
    have x2G : Ext G w w2 := x2.mono fun y o _ g => (hB y g).2 o
    have o2 := ho.ext x2 fun y o h => hbF y o ((hF y o).2 h)
    have S2 := hSh _ _ _ hS x2
    have hlb := lb_le O (rkI ord) (rkI ord q) xs
    refine W_sqx fun K hK => ?_
    have hloop : ∀ e' : Env, e' 5 = .func (.func g) first cap0 → e' 15 = ptr b → e' 16 = .int .i64 (lb O (rkI ord) (rkI ord q) xs : Nat) → K e' w2 := by
      intro e e5 e15 e16
      refine hK _ _ ?_; clear hK K
      refine W_seq ?_
      refine W_block (W_loop (fun mm e w' => ∃ (i : Nat) (d : List It), mm = xs.length - i ∧ i ≤ xs.length ∧ hand go done (xs.drop (lb O (rkI ord) (rkI ord q) xs)) = hand go d (xs.drop i) ∧ d.length + (xs.length - i) ≤ 4294967295 ∧ S d w' ∧ Ext G w w' ∧ e 5 = .func (.func g) first cap0 ∧ e 15 = ptr b ∧ e 16 = .int .i64 i)
        (xs.length - lb O (rkI ord) (rkI ord q) xs) ⟨_, done, rfl, hlb, rfl, by omega, S2, x2G, e5, e15, e16⟩ ?_)
      clear e5 e15 e16 e S2 o2
      rintro mm e w' ⟨i, d, rfl, hi, hh, hdl, hS', X, e5, e15, e16⟩
      have o' := ho.ext X fun y o h => hG y o o ((hF y o).2 h)
      have hb2 := o'.h2
      have hb3 := o'.h3
      refine W_seq ?_
      by_cases hlt : i < xs.length
      · have ht := lt_tt i xs.length hlt
        refine W_sq fun K0 hK => (W_text [true, true, true, true, true, true, true] (by kernel_rfl) ?_); simp only [↓List.toList_toArray, ↓rgd, ↓rgf, ↓reduceIte, Nat.reduceEqDiff, rg, ow_164, e15, e16, ptr_eq, hb2, ht]
        refine hK _ _ ?_; clear hK K0
        refine W_true (by simp only [evt, evc, upd_eq, Nat.reduceEqDiff, ↓reduceIte, ntT, ntF] <;> rfl) (W_skip ?_)
        show W _ _ _ _ _ _
        obtain ⟨x, hx⟩ : ∃ x, xs[i]? = some x := ⟨_, List.getElem?_eq_getElem hlt⟩
        have hk := it_at o'.row hx
        have hd : xs.drop i = x :: xs.drop (i + 1) := by rw [List.drop_eq_getElem_cons hlt, (List.getElem?_eq_some_iff.1 hx).2]
        refine W_seq (W_block (W_seq ?_))
        refine W_sq fun K0 hK => (W_text [true, true, true, true, true, true, true, true, false, true] (by kernel_rfl) ?_); simp only [↓List.toList_toArray, ↓rgd, ↓rgf, ↓reduceIte, Nat.reduceEqDiff, rg, ow_164, e5, e15, e16, ptr_eq, hb2, hlt, hk]
        refine do_callv (by simp only [evt, evc, upd_eq, Nat.reduceEqDiff, ↓reduceIte, ntT, ntF] <;> rfl) hg rfl (by simp only [evt, upd_eq, Nat.reduceEqDiff, ↓reduceIte, maT, maC, maN]; exact hcall d x _ hS' (by omega)) ?_
        rintro _ w3 ⟨rfl, hS3, x3⟩
        refine ⟨trivial, ?_⟩
        simp only [↓List.toList_toArray, ↓rgd, ↓rgf, ↓reduceIte, Nat.reduceEqDiff, rg, ow_164]
        refine hK _ _ ?_; clear hK K0
        have o3 := ho.ext (X.tr x3) fun y o h => hG y o o ((hF y o).2 h)
        have b3 := o3.h3
        cases hgo : go (d ++ [x]) with
        | true =>
          refine W_false (by simp only [evt, evc, upd_eq, Nat.reduceEqDiff, ↓reduceIte, ntT, ntF] <;> rfl) (W_skip ?_)
          show W _ _ _ _ _ _
          refine W_sq fun K0 hK => (W_text [true, false, true] (by kernel_rfl) ?_); simp only [↓List.toList_toArray, ↓rgd, ↓rgf, ↓reduceIte, Nat.reduceEqDiff, rg, ow_164, e15]
          refine do_call fn_122 (by simp only [evt, evc, upd_eq, Nat.reduceEqDiff, ↓reduceIte, maT, maC, maN, isnN, isnS] <;> rfl) (leaf_any b none w3 b3) ?_
          rintro _ w3 ⟨rfl, rfl⟩
          refine ⟨trivial, ?_⟩
          simp only [↓List.toList_toArray, ↓rgd, ↓rgf, ↓reduceIte, Nat.reduceEqDiff, rg, ow_164]
          refine hK _ _ ?_; clear hK K0
          refine W_false (by simp only [evt, evc, upd_eq, Nat.reduceEqDiff, ↓reduceIte, ntT, ntF] <;> rfl) (W_skip ?_)
          show W _ _ _ _ _ _
          have q1 := wadd1 i (by omega)
          refine W_rg fun K0 hK => (W_text [true, true, true] (by kernel_rfl) ?_); simp only [↓List.toList_toArray, ↓rgd, ↓rgf, ↓reduceIte, Nat.reduceEqDiff, rg, ow_164, e16, q1]
          refine hK _ _ ?_; clear hK K0
          refine ⟨_, ?_, i + 1, d ++ [x], rfl, hlt, by rw [hh, hd, hand_yes go hgo], by simp; omega, hS3, X.tr x3, ?_, ?_, ?_⟩
          · omega
          · simp only [upd_eq, Nat.reduceEqDiff, ↓reduceIte]; exact e5
          · simp only [upd_eq, Nat.reduceEqDiff, ↓reduceIte]; exact e15
          · simp only [upd_eq, Nat.reduceEqDiff, ↓reduceIte]
        | false =>
          refine W_true (by simp only [evt, evc, upd_eq, Nat.reduceEqDiff, ↓reduceIte, ntT, ntF] <;> rfl) ?_
          refine W_sq fun K0 hK => (W_text [true] (by kernel_rfl) ?_); simp only [↓List.toList_toArray, ↓rgd, ↓rgf, ↓reduceIte, Nat.reduceEqDiff, rg, ow_164]
          refine hK _ _ ?_; clear hK K0
          refine W_ret ?_
          simp only [andThen_ret, inBlk_ret]
          refine endQ_1 (by simp only [upd_eq, Nat.reduceEqDiff, ↓reduceIte] <;> rfl) ?_
          rw [hh, hd, hand_no go hgo]
          exact ⟨rfl, hS3, X.tr x3⟩
      · obtain rfl : i = xs.length := by omega
        have ht := lt_ff xs.length xs.length (by omega)
        refine W_sq fun K0 hK => (W_text [true, true, true, true, true, true, true] (by kernel_rfl) ?_); simp only [↓List.toList_toArray, ↓rgd, ↓rgf, ↓reduceIte, Nat.reduceEqDiff, rg, ow_164, e15, e16, ptr_eq, hb2, ht]
        refine hK _ _ ?_; clear hK K0
        refine W_false (by simp only [evt, evc, upd_eq, Nat.reduceEqDiff, ↓reduceIte, ntT, ntF] <;> rfl) (W_exit ?_)
        simp only [andThen_exit, inBlk_exit, andThen_normal, ↓reduceIte]
        refine W_sq fun K0 hK => (W_text [true] (by kernel_rfl) ?_); simp only [↓List.toList_toArray, ↓rgd, ↓rgf, ↓reduceIte, Nat.reduceEqDiff, rg, ow_164]
        refine hK _ _ ?_; clear hK K0
        refine W_ret ?_
        refine endQ_1 (by simp only [upd_eq, Nat.reduceEqDiff, ↓reduceIte] <;> rfl) ?_
        rw [hh, List.drop_length, hand_nil]
        exact ⟨rfl, hS', X⟩
    clear hK

    cases hq : hit O (rkI ord) (rkI ord q) xs with
    | true =>
      refine W_sq fun K0 hK => (W_text [true, true] (by kernel_rfl) ?_); simp only [↓List.toList_toArray, ↓rgd, ↓rgf, ↓reduceIte, Nat.reduceEqDiff, rg, ow_164, hq]
      refine hK _ _ ?_; clear hK K0
      refine W_false (by simp only [evt, evc, upd_eq, Nat.reduceEqDiff, ↓reduceIte, ntT, ntF] <;> rfl) (W_skip ?_)
      simp only [andThen_normal]
      refine hloop _ ?_ ?_ ?_
      · simp only [upd_eq, Nat.reduceEqDiff, ↓reduceIte]; exact e5
      · simp only [upd_eq, Nat.reduceEqDiff, ↓reduceIte]
      · simp only [upd_eq, Nat.reduceEqDiff, ↓reduceIte]
    | false =>
      refine W_sq fun K0 hK => (W_text [true, true] (by kernel_rfl) ?_); simp only [↓List.toList_toArray, ↓rgd, ↓rgf, ↓reduceIte, Nat.reduceEqDiff, rg, ow_164, hq]
      refine hK _ _ ?_; clear hK K0
      refine W_true (by simp only [evt, evc, upd_eq, Nat.reduceEqDiff, ↓reduceIte, ntT, ntF] <;> rfl) ?_
      refine W_sq fun K0 hK => (W_text [true, false, true] (by kernel_rfl) ?_); simp only [↓List.toList_toArray, ↓rgd, ↓rgf, ↓reduceIte, Nat.reduceEqDiff, rg, ow_164]
      refine do_call fn_122 (by simp only [evt, evc, upd_eq, Nat.reduceEqDiff, ↓reduceIte, maT, maC, maN, isnN, isnS] <;> rfl) (leaf_any b none w2 o2.h3) ?_
      rintro _ _ ⟨rfl, rfl⟩
      refine ⟨trivial, ?_⟩
      simp only [↓List.toList_toArray, ↓rgd, ↓rgf, ↓reduceIte, Nat.reduceEqDiff, rg, ow_164]
      refine hK _ _ ?_; clear hK K0
      refine W_false (by simp only [evt, evc, upd_eq, Nat.reduceEqDiff, ↓reduceIte, ntT, ntF] <;> rfl) (W_skip ?_)
      simp only [andThen_normal]
      refine hloop _ ?_ ?_ ?_
      · simp only [upd_eq, Nat.reduceEqDiff, ↓reduceIte]; exact e5
      · simp only [upd_eq, Nat.reduceEqDiff, ↓reduceIte]
      · simp only [upd_eq, Nat.reduceEqDiff, ↓reduceIte]
  | succ h ih =>
    intro b lo pc po xs F done w dep hlo hdep hL hH ht ha h0 hpc hG hS hbig
    obtain ⟨bi, oi, cap, bc, ba, oa, capc, ks, cs, ho, hk, h1, h2, hcs, rfl, hT, hA, hF⟩ := ht
    have hGo : ∀ y o, ownF E b bi oi cap y o → ∀ o', ¬ G y o' := fun y o g o' => hG y o o' ((hF y o).2 (.inl g))
    have hGk : ∀ y o, kidF bc ba oa capc y o → ∀ o', ¬ G y o' := fun y o g o' => hG y o o' ((hF y o).2 (.inr (.inl g)))
    have hGc : ∀ c ∈ cs, ∀ y o o', c.F y o → ¬ G y o' := fun c hc y o o' g => hG y o o' ((hF y o).2 (.inr (.inr ⟨c, hc, g⟩)))
    have hcs' : (cs.map Kid.xs).length = ks.length + 1 := by simpa using hcs
    have hwl := weave_length (cs.map Kid.xs) ks hcs'
    have hks : ks.length < 4611686018427387904 := by omega
    have hak : Asc O (rkI ord) ks := List.Pairwise.sublist (weave_sub _ _ hcs') ha
    refine calls_of_W [.tmp 14] Try.func164 rfl Try.ntmps164 Try.results164 (by simp) fun e he => ?_
    have e0 : e 0 = ptr m := he 0 _ rfl
    have e1 : e 1 = .pointer (some ⟨pc, po, none⟩) := he 1 _ rfl
    have e2 : e 2 = itV q := he 2 _ rfl
    have e3 : e 3 = hV hp := he 3 _ rfl
    have e4 : e 4 = .int .i64 dep := he 4 _ rfl
    have e5 : e 5 = .func (.func g) first cap0 := he 5 _ rfl
    have e6 : e 6 = .bool mu := he 6 _ rfl
    clear he
    refine W_sq fun K0 hK => (W_text [true] (by kernel_rfl) ?_); simp only [↓List.toList_toArray, ↓rgd, ↓rgf, ↓reduceIte, Nat.reduceEqDiff, rg, ow_164]
    refine hK _ _ ?_; clear hK K0
    have x0 : Ext noF w w := Ext.refl _ _
    have s0 := x0.size
    refine W_sq fun K0 hK => (W_text [true, true, true, false, true] (by kernel_rfl) ?_); simp only [↓List.toList_toArray, ↓rgd, ↓rgf, ↓reduceIte, Nat.reduceEqDiff, rg, ow_164, e0, e1, e6]
    refine do_call fn_121 (by simp only [evt, evc, upd_eq, Nat.reduceEqDiff, ↓reduceIte, maT, maC, maN, isnN, isnS] <;> rfl) (isoLoad_any m pc po b mu iso w (x0.rd h0 fun h => h) (x0.rd hpc fun h => h) (x0.rd ho.h0 fun h => h)) ?_
    rintro _ w1 ⟨rfl, r1⟩
    refine ⟨trivial, ?_⟩
    simp only [↓List.toList_toArray, ↓rgd, ↓rgf, ↓reduceIte, Nat.reduceEqDiff, rg, ow_164]
    refine hK _ _ ?_; clear hK K0
    have x01 : Ext noF w w1 := r1.ext
    have x1 : Ext noF w w1 := x0.tr x01
    have s1 := x1.size
    have hbl := wok_lt ho.wb
    have hbil := wok_lt ho.wi
    have hbh : ∀ hb, hp = some hb → hb ≠ b := fun hb hh hE => hG b 0 0 ((hF _ _).2 (.inl (.inl rfl))) (by rw [← hE]; exact (hB hb hh).2 0)
    have hbx : ∀ o, ¬ Go.Proofs.Ytanmjbkbdmeckaa.hF hp w.heap.size o := fun o g => by
      have := wok_lt (hH _ g).wok; omega
    have hbF : ∀ y o, F y o → ¬ Go.Proofs.Ytanmjbkbdmeckaa.hF hp y o := fun y o hy hg => hG y o o hy ((hB y hg).2 o)
    have o1 := ho.ext x1 fun _ _ _ h => h
    refine W_sq fun K0 hK => (W_text [true, true, true, true, true, false, true, true, true, true, true] (by kernel_rfl) ?_); simp only [↓List.toList_toArray, ↓rgd, ↓rgf, ↓reduceIte, Nat.reduceEqDiff, rg, ow_164, e0, e3, e4, e2]
    refine do_call fn_174 (by simp only [evt, evc, upd_eq, Nat.reduceEqDiff, ↓reduceIte, maT, maC, maN, isnN, isnS] <;> rfl) (find_any B m b bi oi cap ord ks q (some ⟨bc, 0, none⟩) hp dep w1 (hL.ext0 x1) o1.h2 o1.h3 o1.row (by omega) hks (by omega) hak (hH.ext0 x1) hbh) ?_
    rintro _ w2 ⟨rfl, r2, hH2⟩
    refine ⟨trivial, ?_⟩
    simp only [↓List.toList_toArray, ↓rgd, ↓rgf, ↓reduceIte, Nat.reduceEqDiff, rg, ow_164, srchG_eq]
    refine hK _ _ ?_; clear hK K0
    have x2 : Ext (Go.Proofs.Ytanmjbkbdmeckaa.hF hp) w w2 := (x1.trans r2 (fun _ _ g => g.elim) fun _ _ _ g => g)
    have x2G : Ext G w w2 := x2.mono fun y o _ g => (hB y g).2 o
    have o2 := ho.ext x2 fun y o h => hbF y o ((hF y o).2 (.inl h))
    have k2 := hk.ext x2 fun y o h => hbF y o ((hF y o).2 (.inr (.inl h)))
    have S2 := hSh _ _ _ hS x2
    have hmh : ¬ Go.Proofs.Ytanmjbkbdmeckaa.hF hp m 0 := fun g => hm 0 ((hB m g).2 0)
    have hL2 := hL.ext x2 (fun y o g => (hB y g).1) fun g => hm 6 ((hB m g).2 6)
    have hlb := lb_le O (rkI ord) (rkI ord q) ks
    have hci : ∀ i, i < cs.length → ∃ c, cs[i]? = some c ∧ (cs.map Kid.xs)[i]? = some c.xs ∧ ∀ w', Ext G w w' → rd w' ba (oa + i) = some (ptr c.b) := fun i hi => by
      refine ⟨cs[i], List.getElem?_eq_getElem hi, by rw [List.getElem?_map, List.getElem?_eq_getElem hi]; rfl, fun w' X => (hk.ext X fun y o g => hGk y o g o).row i _ ?_⟩
      rw [List.getElem?_map, List.getElem?_map, List.getElem?_eq_getElem hi]; rfl
    generalize hi0 : lb O (rkI ord) (rkI ord q) ks = i0 at *
    obtain ⟨c0, hc0, hx0, hr0⟩ := hci i0 (by omega)
    have hc0m : c0 ∈ cs := List.mem_of_getElem? hc0
    have hln0 := tl_length hcs' hlb hx0
    refine W_sqx fun K hK => ?_
    have hloop : ∀ (e' : Env) (w2 : World) (d : List It), S d w2 → Ext G w w2 → hand go done ((weave (cs.map Kid.xs) ks).drop (lb O (rkI ord) (rkI ord q) (weave (cs.map Kid.xs) ks))) = hand go d (tl (cs.map Kid.xs) ks i0) → d.length + (tl (cs.map Kid.xs) ks i0).length ≤ 4294967295 →
        e' 0 = ptr m → e' 5 = .func (.func g) first cap0 → e' 6 = .bool mu → e' 15 = ptr b → e' 16 = .int .i64 i0 → K e' w2 := by
      intro e w2 d0 S2 X2 hh0 hdl0 e0 e5 e6 e15 e16
      refine hK _ _ ?_; clear hK K
      refine W_seq ?_
      refine W_block (W_loop (fun mm e w' => ∃ (i : Nat) (d : List It), mm = ks.length - i ∧ i ≤ ks.length ∧ hand go done ((weave (cs.map Kid.xs) ks).drop (lb O (rkI ord) (rkI ord q) (weave (cs.map Kid.xs) ks))) = hand go d (tl (cs.map Kid.xs) ks i) ∧ d.length + (tl (cs.map Kid.xs) ks i).length ≤ 4294967295 ∧ S d w' ∧ Ext G w w' ∧
          e 0 = ptr m ∧ e 5 = .func (.func g) first cap0 ∧ e 6 = .bool mu ∧ e 15 = ptr b ∧ e 16 = .int .i64 i)
        (ks.length - i0) ⟨_, d0, rfl, hlb, hh0, hdl0, S2, X2, e0, e5, e6, e15, e16⟩ ?_)
      clear e0 e1 e2 e5 e6 e15 e16 e S2 o2 X2 hdl0 hh0
      rintro mm e w' ⟨i, d, rfl, hi, hh, hdl, hS', X, e0, e5, e6, e15, e16⟩
      have o' := ho.ext X fun y o g => hGo y o g o
      have hb2 := o'.h2
      refine W_seq ?_
      by_cases hlt : i < ks.length
      · have ht := lt_tt i ks.length hlt
        refine W_sq fun K0 hK => (W_text [true, true, true, true, true, true, true] (by kernel_rfl) ?_); simp only [↓List.toList_toArray, ↓rgd, ↓rgf, ↓reduceIte, Nat.reduceEqDiff, rg, ow_164, e15, e16, ptr_eq, hb2, ht]
        refine hK _ _ ?_; clear hK K0
        refine W_true (by simp only [evt, evc, upd_eq, Nat.reduceEqDiff, ↓reduceIte, ntT, ntF] <;> rfl) (W_skip ?_)
        show W _ _ _ _ _ _
        obtain ⟨x, hx⟩ : ∃ x, ks[i]? = some x := ⟨_, List.getElem?_eq_getElem hlt⟩
        obtain ⟨c, hc, hcx, hcr⟩ := hci (i + 1) (by omega)
        have hcm : c ∈ cs := List.mem_of_getElem? hc
        have hlc : i + 1 < cs.length := by omega
        rw [tl_step hcx hx] at hh hdl
        rw [List.length_cons, List.length_append] at hdl
        have hkx := it_at o'.row hx
        refine W_seq (W_block (W_seq ?_))
        refine W_sq fun K0 hK => (W_text [true, true, true, true, true, true, true, true, false, true] (by kernel_rfl) ?_); simp only [↓List.toList_toArray, ↓rgd, ↓rgf, ↓reduceIte, Nat.reduceEqDiff, rg, ow_164, e5, e15, e16, ptr_eq, hb2, hlt, hkx]
        refine do_callv (by simp only [evt, evc, upd_eq, Nat.reduceEqDiff, ↓reduceIte, ntT, ntF] <;> rfl) hg rfl (by simp only [evt, upd_eq, Nat.reduceEqDiff, ↓reduceIte, maT, maC, maN]; exact hcall d x _ hS' (by omega)) ?_
        rintro _ w3 ⟨rfl, hS3, x3⟩
        refine ⟨trivial, ?_⟩
        simp only [↓List.toList_toArray, ↓rgd, ↓rgf, ↓reduceIte, Nat.reduceEqDiff, rg, ow_164]
        refine hK _ _ ?_; clear hK K0
        have X3 := X.tr x3
        have o3 := ho.ext X3 fun y o g => hGo y o g o
        have k3 := hk.ext X3 fun y o g => hGk y o g o
        have b3 := o3.h3
        have hbc := k3.c0
        rw [List.length_map] at hbc
        have hcr3 := hcr _ X3
        have h03 := X3.rd h0 (hm 0)
        cases hgo : go (d ++ [x]) with
        | true =>
          rw [hand_yes go hgo] at hh
          refine W_false (by simp only [evt, evc, upd_eq, Nat.reduceEqDiff, ↓reduceIte, ntT, ntF] <;> rfl) (W_skip ?_)
          show W _ _ _ _ _ _
          refine W_sq fun K0 hK => (W_text [true, false, true] (by kernel_rfl) ?_); simp only [↓List.toList_toArray, ↓rgd, ↓rgf, ↓reduceIte, Nat.reduceEqDiff, rg, ow_164, e15]
          refine do_call fn_122 (by simp only [evt, evc, upd_eq, Nat.reduceEqDiff, ↓reduceIte, maT, maC, maN, isnN, isnS] <;> rfl) (leaf_any b (some ⟨bc, 0, none⟩) w3 b3) ?_
          rintro _ w3 ⟨rfl, rfl⟩
          refine ⟨trivial, ?_⟩
          simp only [↓List.toList_toArray, ↓rgd, ↓rgf, ↓reduceIte, Nat.reduceEqDiff, rg, ow_164]
          refine hK _ _ ?_; clear hK K0
          refine W_true (by simp only [evt, evc, upd_eq, Nat.reduceEqDiff, ↓reduceIte, ntT, ntF] <;> rfl) ?_
          have q1 := wadd1 i (by omega)
          refine W_sq fun K0 hK => (W_text [true, true, true, true, true, true, true, true, true, true, true, true, false, true] (by kernel_rfl) ?_); simp only [↓List.toList_toArray, ↓rgd, ↓rgf, ↓reduceIte, Nat.reduceEqDiff, rg, ow_164, e0, e5, e6, e15, e16, ptr_eq, b3, hbc, hlc, q1]
          refine do_call fn_163 (by simp only [evt, evc, upd_eq, Nat.reduceEqDiff, ↓reduceIte, maT, maC, maN, isnN, isnS] <;> rfl) (nodeScan_any m iso mn mx _ G S go C0 hm mu h c.b mn ba (oa + (i + 1)) c.xs c.F (d ++ [x]) _ ((hT c hcm).ext X3 fun y o g => hGc c hcm y o o g) h03 hcr3 (hGc c hcm) hS3 (by rw [List.length_append, List.length_singleton]; omega)) ?_
          rintro _ w4 ⟨rfl, hS4, x4⟩
          refine ⟨trivial, ?_⟩
          simp only [↓List.toList_toArray, ↓rgd, ↓rgf, ↓reduceIte, Nat.reduceEqDiff, rg, ow_164]
          refine hK _ _ ?_; clear hK K0
          cases hgo2 : (hand go (d ++ [x]) c.xs).2 with
          | true =>
            rw [hand_on go hgo2] at hh
            have hd2 : (hand go (d ++ [x]) c.xs).1.length = d.length + 1 + c.xs.length := by rw [hand_true go hgo2]; simp only [List.length_append, List.length_singleton]
            refine W_false (by simp only [evt, evc, upd_eq, Nat.reduceEqDiff, ↓reduceIte, ntT, ntF] <;> rfl) (W_skip ?_)
            simp only [inBlk_normal, andThen_normal]
            refine W_rg fun K0 hK => (W_text [true, true, true] (by kernel_rfl) ?_); simp only [↓List.toList_toArray, ↓rgd, ↓rgf, ↓reduceIte, Nat.reduceEqDiff, rg, ow_164, e16, q1]
            refine hK _ _ ?_; clear hK K0
            refine ⟨_, ?_, i + 1, _, rfl, hlt, hh, by omega, hS4, X3.tr x4, ?_, ?_, ?_, ?_, ?_⟩
            · omega
            · simp only [upd_eq, Nat.reduceEqDiff, ↓reduceIte]; exact e0
            · simp only [upd_eq, Nat.reduceEqDiff, ↓reduceIte]; exact e5
            · simp only [upd_eq, Nat.reduceEqDiff, ↓reduceIte]; exact e6
            · simp only [upd_eq, Nat.reduceEqDiff, ↓reduceIte]; exact e15
            · simp only [upd_eq, Nat.reduceEqDiff, ↓reduceIte]
          | false =>
            refine W_true (by simp only [evt, evc, upd_eq, Nat.reduceEqDiff, ↓reduceIte, ntT, ntF] <;> rfl) ?_
            refine W_sq fun K0 hK => (W_text [true] (by kernel_rfl) ?_); simp only [↓List.toList_toArray, ↓rgd, ↓rgf, ↓reduceIte, Nat.reduceEqDiff, rg, ow_164]
            refine hK _ _ ?_; clear hK K0
            refine W_ret ?_
            simp only [andThen_ret, inBlk_ret]
            refine endQ_1 (by simp only [upd_eq, Nat.reduceEqDiff, ↓reduceIte] <;> rfl) ?_
            rw [hh, hand_off go hgo2, hgo2]
            exact ⟨rfl, hS4, X3.tr x4⟩
        | false =>
          refine W_true (by simp only [evt, evc, upd_eq, Nat.reduceEqDiff, ↓reduceIte, ntT, ntF] <;> rfl) ?_
          refine W_sq fun K0 hK => (W_text [true] (by kernel_rfl) ?_); simp only [↓List.toList_toArray, ↓rgd, ↓rgf, ↓reduceIte, Nat.reduceEqDiff, rg, ow_164]
          refine hK _ _ ?_; clear hK K0
          refine W_ret ?_
          simp only [andThen_ret, inBlk_ret]
          refine endQ_1 (by simp only [upd_eq, Nat.reduceEqDiff, ↓reduceIte] <;> rfl) ?_
          rw [hh, hand_no go hgo]
          exact ⟨rfl, hS3, X3⟩
      · obtain rfl : i = ks.length := by omega
        have ht := lt_ff ks.length ks.length (by omega)
        refine W_sq fun K0 hK => (W_text [true, true, true, true, true, true, true] (by kernel_rfl) ?_); simp only [↓List.toList_toArray, ↓rgd, ↓rgf, ↓reduceIte, Nat.reduceEqDiff, rg, ow_164, e15, e16, ptr_eq, hb2, ht]
        refine hK _ _ ?_; clear hK K0
        refine W_false (by simp only [evt, evc, upd_eq, Nat.reduceEqDiff, ↓reduceIte, ntT, ntF] <;> rfl) (W_exit ?_)
        simp only [andThen_exit, inBlk_exit, andThen_normal, ↓reduceIte]
        refine W_sq fun K0 hK => (W_text [true] (by kernel_rfl) ?_); simp only [↓List.toList_toArray, ↓rgd, ↓rgf, ↓reduceIte, Nat.reduceEqDiff, rg, ow_164]
        refine hK _ _ ?_; clear hK K0
        refine W_ret ?_
        refine endQ_1 (by simp only [upd_eq, Nat.reduceEqDiff, ↓reduceIte] <;> rfl) ?_
        rw [hh, tl_end, hand_nil]
        exact ⟨rfl, hS', X⟩
    clear hK
    cases hq : hit O (rkI ord) (rkI ord q) ks with
    | true =>
      refine W_sq fun K0 hK => (W_text [true, true] (by kernel_rfl) ?_); simp only [↓List.toList_toArray, ↓rgd, ↓rgf, ↓reduceIte, Nat.reduceEqDiff, rg, ow_164, hq]
      refine hK _ _ ?_; clear hK K0
      refine W_false (by simp only [evt, evc, upd_eq, Nat.reduceEqDiff, ↓reduceIte, ntT, ntF] <;> rfl) (W_skip ?_)
      simp only [andThen_normal]
      refine hloop _ _ done S2 x2G (by rw [from_hit O (rkI ord) hcs' hx0 ha hi0 hq]) (by omega) ?_ ?_ ?_ ?_ ?_
      · simp only [upd_eq, Nat.reduceEqDiff, ↓reduceIte]; exact e0
      · simp only [upd_eq, Nat.reduceEqDiff, ↓reduceIte]; exact e5
      · simp only [upd_eq, Nat.reduceEqDiff, ↓reduceIte]; exact e6
      · simp only [upd_eq, Nat.reduceEqDiff, ↓reduceIte]
      · simp only [upd_eq, Nat.reduceEqDiff, ↓reduceIte]
    | false =>
      have hb3 := o2.h3
      have hbc := k2.c0
      rw [List.length_map] at hbc
      have hlc : i0 < cs.length := by omega
      have hfm := from_miss O (rkI ord) hcs' hx0 ha hi0 hq
      have hac : Asc O (rkI ord) c0.xs := by
        obtain ⟨A, C, hw⟩ := weave_at i0 (cs.map Kid.xs) ks hcs' hlb
        rw [hw.eq hx0] at ha
        exact ((Asc.append O (rkI ord)).1 ((Asc.append O (rkI ord)).1 ha).1).2.1
      refine W_sq fun K0 hK => (W_text [true, true] (by kernel_rfl) ?_); simp only [↓List.toList_toArray, ↓rgd, ↓rgf, ↓reduceIte, Nat.reduceEqDiff, rg, ow_164, hq]
      refine hK _ _ ?_; clear hK K0
      refine W_true (by simp only [evt, evc, upd_eq, Nat.reduceEqDiff, ↓reduceIte, ntT, ntF] <;> rfl) ?_
      refine W_sq fun K0 hK => (W_text [true, false, true] (by kernel_rfl) ?_); simp only [↓List.toList_toArray, ↓rgd, ↓rgf, ↓reduceIte, Nat.reduceEqDiff, rg, ow_164]
      refine do_call fn_122 (by simp only [evt, evc, upd_eq, Nat.reduceEqDiff, ↓reduceIte, maT, maC, maN, isnN, isnS] <;> rfl) (leaf_any b (some ⟨bc, 0, none⟩) w2 o2.h3) ?_
      rintro _ w3 ⟨rfl, hw3⟩
      obtain rfl : w2 = w3 := hw3.symm
      refine ⟨trivial, ?_⟩
      simp only [↓List.toList_toArray, ↓rgd, ↓rgf, ↓reduceIte, Nat.reduceEqDiff, rg, ow_164]
      refine hK _ _ ?_; clear hK K0
      refine W_true (by simp only [evt, evc, upd_eq, Nat.reduceEqDiff, ↓reduceIte, ntT, ntF] <;> rfl) ?_
      have q1 := wadd1 dep (by omega)
      refine W_sq fun K0 hK => (W_text [true, true, true, true, true, true, true, true, true, true, true, true, true, true, true, false, true] (by kernel_rfl) ?_); simp only [↓List.toList_toArray, ↓rgd, ↓rgf, ↓reduceIte, Nat.reduceEqDiff, rg, ow_164, e0, e3, e4, e5, e6, ptr_eq, hb3, hbc, hlc, q1, e2]
      refine do_call fn_164 (by simp only [evt, evc, upd_eq, Nat.reduceEqDiff, ↓reduceIte, maT, maC, maN, isnN, isnS] <;> rfl) (ih c0.b mn ba (oa + i0) c0.xs c0.F done _ (dep + 1) hmn (by omega) (hL2.ext0 (Ext.dr _ _ _)) (hH2.ext0 (Ext.dr _ _ _)) (((hT c0 hc0m).ext x2 fun y o h g => hGc c0 hc0m y o o h ((hB y g).2 o)).ext (Ext.dr noF _ _) fun _ _ _ h => h) hac (x2.rd h0 hmh) (hr0 _ (x2G.tr (Ext.dr _ _ _))) (hGc c0 hc0m) (hSx _ _ _ S2 (Ext.dr _ _ _)) (by omega)) ?_
      rintro _ w4 ⟨rfl, hS4, x4⟩
      refine ⟨trivial, ?_⟩
      simp only [↓List.toList_toArray, ↓rgd, ↓rgf, ↓reduceIte, Nat.reduceEqDiff, rg, ow_164]
      refine hK _ _ ?_; clear hK K0
      have X4 : Ext G w w4 := x2G.tr x4.od
      cases hgo2 : (hand go done (c0.xs.drop (lb O (rkI ord) (rkI ord q) c0.xs))).2 with
      | true =>
        have hd2 : (hand go done (c0.xs.drop (lb O (rkI ord) (rkI ord q) c0.xs))).1.length ≤ done.length + c0.xs.length := by rw [hand_true go hgo2]; simp only [List.length_append, List.length_drop]; omega
        refine W_false (by simp only [evt, evc, upd_eq, Nat.reduceEqDiff, ↓reduceIte, ntT, ntF] <;> rfl) (W_skip ?_)
        simp only [andThen_normal]
        refine hloop _ _ _ hS4 X4 (by rw [hfm, hand_on go hgo2]) (by omega) ?_ ?_ ?_ ?_ ?_
        · simp only [upd_eq, Nat.reduceEqDiff, ↓reduceIte]; exact e0
        · simp only [upd_eq, Nat.reduceEqDiff, ↓reduceIte]; exact e5
        · simp only [upd_eq, Nat.reduceEqDiff, ↓reduceIte]; exact e6
        · simp only [upd_eq, Nat.reduceEqDiff, ↓reduceIte]; rfl
        · simp only [upd_eq, Nat.reduceEqDiff, ↓reduceIte]
      | false =>
        refine W_true (by simp only [evt, evc, upd_eq, Nat.reduceEqDiff, ↓reduceIte, ntT, ntF] <;> rfl) ?_
        refine W_sq fun K0 hK => (W_text [true] (by kernel_rfl) ?_); simp only [↓List.toList_toArray, ↓rgd, ↓rgf, ↓reduceIte, Nat.reduceEqDiff, rg, ow_164]
        refine hK _ _ ?_; clear hK K0
        refine W_ret ?_
        simp only [andThen_ret]
        refine endQ_1 (by simp only [upd_eq, Nat.reduceEqDiff, ↓reduceIte] <;> rfl) ?_
        rw [hfm, hand_off go hgo2, hgo2]
        exact ⟨rfl, hS4, X4⟩
set_option maxHeartbeats 400000 in
set_option maxRecDepth 8000 in
theorem ascend_any (B m d : Nat) (ord : List Int) (hd : 2 ≤ d) (iso : Int) (xs : List It) (F : Nat → Nat → Prop) (q : It) (hp : Option Nat) (f : Value) (G : Nat → Nat → Prop) (S : List It → World → Prop) (go : List It → Bool) (C : Cb f G S go) (hm : ∀ o, ¬ G m o)
    (hB : ∀ hb, hp = some hb → (m ≤ hb ∨ hb < B) ∧ ∀ o, G hb o) (hSh : ∀ done w w', S done w → Ext (Go.Proofs.Ytanmjbkbdmeckaa.hF hp) w w' → S done w') (mu : Bool) (w : World)
    (hM : TreeAt B ord w m d iso xs F) (hG : ∀ y o o', F y o → ¬ G y o') (hS : S [] w) (hH : HOk hp w) (hbig : xs.length ≤ 4294967295) :
    CallK Try.prog 136 #[ptr m, itV q, f, .bool mu, hV hp] w fun _ w' => S (hand go [] (xs.drop (lb O (rkI ord) (rkI ord q) xs))).1 w' ∧ Ext G w w' := by
  refine calls_of_W [] Try.func136 rfl Try.ntmps136 Try.results136 (by simp) fun e he => ?_
  have e0 : e 0 = ptr m := he 0 _ rfl
  have e1 : e 1 = itV q := he 1 _ rfl
  have e2 : e 2 = f := he 2 _ rfl
  have e3 : e 3 = .bool mu := he 3 _ rfl
  have e4 : e 4 = hV hp := he 4 _ rfl
  clear he
  have X1 : Ext noF w w := Ext.refl _ _
  have hS1 := C.2 _ _ _ hS X1
  have hM1 := hM.ext X1
  have hH1 := hH.ext0 X1
  refine W_seq ?_
  refine W_sq fun K0 hK => (W_text [true, true, false] (by kernel_rfl) ?_); simp only [↓List.toList_toArray, ↓rgd, ↓rgf, ↓reduceIte, Nat.reduceEqDiff, rg, ow_136, e0, e3]
  refine do_call fn_118 (by simp only [evt, evc, upd_eq, Nat.reduceEqDiff, ↓reduceIte, maT, maC, maN, isnN, isnS] <;> rfl) (lock_any _ _ w) ?_
  rintro _ _ ⟨rfl, rfl⟩
  refine ⟨trivial, ?_⟩
  simp only [↓List.toList_toArray, ↓rgd, ↓rgf, ↓reduceIte, Nat.reduceEqDiff, rg, ow_136]
  refine hK _ _ ?_; clear hK K0
  refine W_false (by simp only [evt, evc, upd_eq, Nat.reduceEqDiff, ↓reduceIte, ntT, ntF] <;> rfl) (W_skip ?_)
  show W _ _ _ _ _ _
  refine W_seq ?_
  have X1G : Ext G w w := X1.mono fun _ _ _ g => g.elim
  rcases hM1.root with ⟨rfl, hr⟩ | ⟨h, b, hr, ht⟩
  · refine W_sq fun K0 hK => (W_text [true, true, true, true, true] (by kernel_rfl) ?_); simp only [↓List.toList_toArray, ↓rgd, ↓rgf, ↓reduceIte, Nat.reduceEqDiff, rg, ow_136, e0, ptr_eq, hr]
    refine hK _ _ ?_; clear hK K0
    refine W_true (by simp only [evt, evc, upd_eq, Nat.reduceEqDiff, ↓reduceIte, ntT, ntF] <;> rfl) (W_ret ?_)
    simp only [andThen_ret]
    exact endQ_0 ⟨hS1, X1G⟩
  · refine W_sq fun K0 hK => (W_text [true, true, true, true, true] (by kernel_rfl) ?_); simp only [↓List.toList_toArray, ↓rgd, ↓rgf, ↓reduceIte, Nat.reduceEqDiff, rg, ow_136, e0, ptr_eq, hr]
    refine hK _ _ ?_; clear hK K0
    refine W_false (by simp only [evt, evc, upd_eq, Nat.reduceEqDiff, ↓reduceIte, ntT, ntF] <;> rfl) (W_skip ?_)
    show W _ _ _ _ _ _
    have hh := ht.height (by omega) (by omega)
    refine W_rg fun K0 hK => (W_text [true, true, true, true, true, true, true, true, false] (by kernel_rfl) ?_); simp only [↓List.toList_toArray, ↓rgd, ↓rgf, ↓reduceIte, Nat.reduceEqDiff, rg, ow_136, e0, e2, e3, e4, ptr_eq, e1]
    refine do_call fn_164 (by simp only [evt, evc, upd_eq, Nat.reduceEqDiff, ↓reduceIte, maT, maC, maN, isnN, isnS] <;> rfl) (nodeAscend_any m iso (d - 1) (2 * d - 1) B ord q hp f G S go C hm hB hSh (by omega) mu h b 1 m 2 xs F [] w 0 (Nat.le_refl _) (by omega) (hM1.less.ext0 (Ext.refl _ _)) (hH1.ext0 (Ext.refl _ _)) (ht.ext (Ext.refl noF _) fun _ _ _ h => h) hM1.asc hM1.cfg.iso hr hG (C.2 _ _ _ hS1 (Ext.refl _ _)) (by simpa using hbig)) ?_
    rintro _ w2 ⟨rfl, hS2, X2⟩
    refine ⟨trivial, ?_⟩
    simp only [↓List.toList_toArray, ↓rgd, ↓rgf, ↓reduceIte, Nat.reduceEqDiff, rg, ow_136]
    refine hK _ _ ?_; clear hK K0
    exact endQ_0n ⟨hS2, X1G.tr X2⟩
end Go.Proofs.Ytanmjbkbdmeckaa
/-
  Handing on the items of a tree of whatever values, wrapped. No condition.
-/
set_option linter.unusedSimpArgs false
set_option linter.unusedVariables false
namespace Go.Proofs.Ytanmjbkbdmeckaa
open Go Go.Proofs
theorem hSh_none {S : List It → World → Prop} (h : ∀ done w w', S done w → Ext noF w w' → S done w') : ∀ done w w', S done w → Ext (Go.Proofs.Ytanmjbkbdmeckaa.hF none) w w' → S done w' :=
  fun done w w' hs x => h done w w' hs (x.mono fun y o _ g => by cases g)
/-- What a function of a tree hands on to a function value, in order. -/
def Scans (fn : Nat) (args : Value → Array Value) (hp : Option Nat) (B m : Nat) (ys : List It) (F : Nat → Nat → Prop) (w : World) : Prop :=
  ∀ (f : Value) (G : Nat → Nat → Prop) (S : List It → World → Prop) (go : List It → Bool), Cb f G S go → (∀ o, ¬ G m o) → (∀ hb, hp = some hb → (m ≤ hb ∨ hb < B) ∧ ∀ o, G hb o) → (∀ done w w', S done w → Ext (Go.Proofs.Ytanmjbkbdmeckaa.hF hp) w w' → S done w') →
    (∀ y o o', F y o → ¬ G y o') → S [] w → CallK Try.prog fn (args f) w fun _ w' => S (hand go [] ys).1 w' ∧ Ext G w w'
/-- A pivot or none. -/
def upO (ord : List Int) (p : Option It) (xs : List It) : List It := match p with
  | some q => xs.drop (lb O (rkI ord) (rkI ord q) xs)
  | none => xs
def downO (ord : List Int) (p : Option It) (xs : List It) : List It := match p with
  | some q => (xs.take (ub O (rkI ord) (rkI ord q) xs)).reverse
  | none => xs.reverse
set_option maxHeartbeats 400000 in
set_option maxRecDepth 8000 in
theorem M_Scan_s (B m d : Nat) (ord : List Int) (hd : 2 ≤ d) (iso : Int) (xs : List It) (F : Nat → Nat → Prop) (w : World) (hM : TreeAt B ord w m d iso xs F) (hbig : xs.length ≤ 4294967295) :
    Scans 97 (fun f => #[ptr m, f]) none B m (xs) F w := by
  intro f G S go C hm hB hSh hG hS
  refine calls_of_W [] Try.func97 rfl Try.ntmps97 Try.results97 (by simp) fun e he => ?_
  have e0 : e 0 = ptr m := he 0 _ rfl
  have e1 : e 1 = f := he 1 _ rfl
  clear he
  refine W_rg fun K hK => (W_text [true, true, false] (by kernel_rfl) ?_); simp only [↓List.toList_toArray, ↓rgd, ↓rgf, ↓reduceIte, Nat.reduceEqDiff, rg, ow_97, e0, e1]
  refine do_call fn_135 (by simp only [evt, evc, upd_eq, Nat.reduceEqDiff, ↓reduceIte, maT, maC, maN, isnN, isnS] <;> rfl) (scan_any B m d ord iso xs F f G S go C hm false w hM hG hS hbig) ?_
  rintro _ w1 ⟨hS1, X1⟩
  refine ⟨trivial, ?_⟩
  simp only [↓List.toList_toArray, ↓rgd, ↓rgf, ↓reduceIte, Nat.reduceEqDiff, rg, ow_97]
  refine hK _ _ ?_; clear hK K
  exact endQ_0n ⟨hS1, X1⟩
set_option maxHeartbeats 400000 in
set_option maxRecDepth 8000 in
theorem M_ScanMut_s (B m d : Nat) (ord : List Int) (hd : 2 ≤ d) (iso : Int) (xs : List It) (F : Nat → Nat → Prop) (w : World) (hM : TreeAt B ord w m d iso xs F) (hbig : xs.length ≤ 4294967295) :
    Scans 105 (fun f => #[ptr m, f]) none B m (xs) F w := by
  intro f G S go C hm hB hSh hG hS
  refine calls_of_W [] Try.func105 rfl Try.ntmps105 Try.results105 (by simp) fun e he => ?_
  have e0 : e 0 = ptr m := he 0 _ rfl
  have e1 : e 1 = f := he 1 _ rfl
  clear he
  refine W_rg fun K hK => (W_text [true, true, false] (by kernel_rfl) ?_); simp only [↓List.toList_toArray, ↓rgd, ↓rgf, ↓reduceIte, Nat.reduceEqDiff, rg, ow_105, e0, e1]
  refine do_call fn_135 (by simp only [evt, evc, upd_eq, Nat.reduceEqDiff, ↓reduceIte, maT, maC, maN, isnN, isnS] <;> rfl) (scan_any B m d ord iso xs F f G S go C hm true w hM hG hS hbig) ?_
  rintro _ w1 ⟨hS1, X1⟩
  refine ⟨trivial, ?_⟩
  simp only [↓List.toList_toArray, ↓rgd, ↓rgf, ↓reduceIte, Nat.reduceEqDiff, rg, ow_105]
  refine hK _ _ ?_; clear hK K
  exact endQ_0n ⟨hS1, X1⟩
set_option maxHeartbeats 400000 in
set_option maxRecDepth 8000 in
theorem M_Reverse_s (B m d : Nat) (ord : List Int) (hd : 2 ≤ d) (iso : Int) (xs : List It) (F : Nat → Nat → Prop) (w : World) (hM : TreeAt B ord w m d iso xs F) (hbig : xs.length ≤ 4294967295) :
    Scans 101 (fun f => #[ptr m, f]) none B m (xs.reverse) F w := by
  intro f G S go C hm hB hSh hG hS
  refine calls_of_W [] Try.func101 rfl Try.ntmps101 Try.results101 (by simp) fun e he => ?_
  have e0 : e 0 = ptr m := he 0 _ rfl
  have e1 : e 1 = f := he 1 _ rfl
  clear he
  refine W_rg fun K hK => (W_text [true, true, false] (by kernel_rfl) ?_); simp only [↓List.toList_toArray, ↓rgd, ↓rgf, ↓reduceIte, Nat.reduceEqDiff, rg, ow_101, e0, e1]
  refine do_call fn_138 (by simp only [evt, evc, upd_eq, Nat.reduceEqDiff, ↓reduceIte, maT, maC, maN, isnN, isnS] <;> rfl) (reverse_any B m d ord iso xs F f G S go C hm false w hM hG hS hbig) ?_
  rintro _ w1 ⟨hS1, X1⟩
  refine ⟨trivial, ?_⟩
  simp only [↓List.toList_toArray, ↓rgd, ↓rgf, ↓reduceIte, Nat.reduceEqDiff, rg, ow_101]
  refine hK _ _ ?_; clear hK K
  exact endQ_0n ⟨hS1, X1⟩
set_option maxHeartbeats 400000 in
set_option maxRecDepth 8000 in
theorem M_ReverseMut_s (B m d : Nat) (ord : List Int) (hd : 2 ≤ d) (iso : Int) (xs : List It) (F : Nat → Nat → Prop) (w : World) (hM : TreeAt B ord w m d iso xs F) (hbig : xs.length ≤ 4294967295) :
    Scans 107 (fun f => #[ptr m, f]) none B m (xs.reverse) F w := by
  intro f G S go C hm hB hSh hG hS
  refine calls_of_W [] Try.func107 rfl Try.ntmps107 Try.results107 (by simp) fun e he => ?_
  have e0 : e 0 = ptr m := he 0 _ rfl
  have e1 : e 1 = f := he 1 _ rfl
  clear he
  refine W_rg fun K hK => (W_text [true, true, false] (by kernel_rfl) ?_); simp only [↓List.toList_toArray, ↓rgd, ↓rgf, ↓reduceIte, Nat.reduceEqDiff, rg, ow_107, e0, e1]
  refine do_call fn_138 (by simp only [evt, evc, upd_eq, Nat.reduceEqDiff, ↓reduceIte, maT, maC, maN, isnN, isnS] <;> rfl) (reverse_any B m d ord iso xs F f G S go C hm true w hM hG hS hbig) ?_
  rintro _ w1 ⟨hS1, X1⟩
  refine ⟨trivial, ?_⟩
  simp only [↓List.toList_toArray, ↓rgd, ↓rgf, ↓reduceIte, Nat.reduceEqDiff, rg, ow_107]
  refine hK _ _ ?_; clear hK K
  exact endQ_0n ⟨hS1, X1⟩
set_option maxHeartbeats 400000 in
set_option maxRecDepth 8000 in
theorem M_Ascend_s (B m d : Nat) (ord : List Int) (hd : 2 ≤ d) (iso : Int) (xs : List It) (F : Nat → Nat → Prop) (q : It) (w : World) (hM : TreeAt B ord w m d iso xs F) (hbig : xs.length ≤ 4294967295) :
    Scans 98 (fun f => #[ptr m, itV q, f]) none B m (xs.drop (lb O (rkI ord) (rkI ord q) xs)) F w := by
  intro f G S go C hm hB hSh hG hS
  refine calls_of_W [] Try.func98 rfl Try.ntmps98 Try.results98 (by simp) fun e he => ?_
  have e0 : e 0 = ptr m := he 0 _ rfl
  have e1 : e 1 = itV q := he 1 _ rfl
  have e2 : e 2 = f := he 2 _ rfl
  clear he
  refine W_rg fun K hK => (W_text [true, true, true, false] (by kernel_rfl) ?_); simp only [↓List.toList_toArray, ↓rgd, ↓rgf, ↓reduceIte, Nat.reduceEqDiff, rg, ow_98, e0, e1, e2]
  refine do_call fn_136 (by simp only [evt, evc, upd_eq, Nat.reduceEqDiff, ↓reduceIte, maT, maC, maN, isnN, isnS] <;> rfl) (ascend_any B m d ord hd iso xs F q none f G S go C hm hB hSh false w hM hG hS (HOk.none _) hbig) ?_
  rintro _ w1 ⟨hS1, X1⟩
  refine ⟨trivial, ?_⟩
  simp only [↓List.toList_toArray, ↓rgd, ↓rgf, ↓reduceIte, Nat.reduceEqDiff, rg, ow_98]
  refine hK _ _ ?_; clear hK K
  exact endQ_0n ⟨hS1, X1⟩
set_option maxHeartbeats 400000 in
set_option maxRecDepth 8000 in
theorem M_AscendMut_s (B m d : Nat) (ord : List Int) (hd : 2 ≤ d) (iso : Int) (xs : List It) (F : Nat → Nat → Prop) (q : It) (w : World) (hM : TreeAt B ord w m d iso xs F) (hbig : xs.length ≤ 4294967295) :
    Scans 106 (fun f => #[ptr m, itV q, f]) none B m (xs.drop (lb O (rkI ord) (rkI ord q) xs)) F w := by
  intro f G S go C hm hB hSh hG hS
  refine calls_of_W [] Try.func106 rfl Try.ntmps106 Try.results106 (by simp) fun e he => ?_
  have e0 : e 0 = ptr m := he 0 _ rfl
  have e1 : e 1 = itV q := he 1 _ rfl
  have e2 : e 2 = f := he 2 _ rfl
  clear he
  refine W_rg fun K hK => (W_text [true, true, true, false] (by kernel_rfl) ?_); simp only [↓List.toList_toArray, ↓rgd, ↓rgf, ↓reduceIte, Nat.reduceEqDiff, rg, ow_106, e0, e1, e2]
  refine do_call fn_136 (by simp only [evt, evc, upd_eq, Nat.reduceEqDiff, ↓reduceIte, maT, maC, maN, isnN, isnS] <;> rfl) (ascend_any B m d ord hd iso xs F q none f G S go C hm hB hSh true w hM hG hS (HOk.none _) hbig) ?_
  rintro _ w1 ⟨hS1, X1⟩
  refine ⟨trivial, ?_⟩
  simp only [↓List.toList_toArray, ↓rgd, ↓rgf, ↓reduceIte, Nat.reduceEqDiff, rg, ow_106]
  refine hK _ _ ?_; clear hK K
  exact endQ_0n ⟨hS1, X1⟩
set_option maxHeartbeats 400000 in
set_option maxRecDepth 8000 in
theorem M_AscendHint_s (B m d : Nat) (ord : List Int) (hd : 2 ≤ d) (iso : Int) (xs : List It) (F : Nat → Nat → Prop) (q : It) (hp : Option Nat) (w : World) (hM : TreeAt B ord w m d iso xs F) (hH : HOk hp w) (hbig : xs.length ≤ 4294967295) :
    Scans 103 (fun f => #[ptr m, itV q, f, hV hp]) hp B m (xs.drop (lb O (rkI ord) (rkI ord q) xs)) F w := by
  intro f G S go C hm hB hSh hG hS
  refine calls_of_W [] Try.func103 rfl Try.ntmps103 Try.results103 (by simp) fun e he => ?_
  have e0 : e 0 = ptr m := he 0 _ rfl
  have e1 : e 1 = itV q := he 1 _ rfl
  have e2 : e 2 = f := he 2 _ rfl
  have e3 : e 3 = hV hp := he 3 _ rfl
  clear he
  refine W_rg fun K hK => (W_text [true, true, true, true, false] (by kernel_rfl) ?_); simp only [↓List.toList_toArray, ↓rgd, ↓rgf, ↓reduceIte, Nat.reduceEqDiff, rg, ow_103, e0, e1, e2, e3]
  refine do_call fn_136 (by simp only [evt, evc, upd_eq, Nat.reduceEqDiff, ↓reduceIte, maT, maC, maN, isnN, isnS] <;> rfl) (ascend_any B m d ord hd iso xs F q hp f G S go C hm hB hSh false w hM hG hS hH hbig) ?_
  rintro _ w1 ⟨hS1, X1⟩
  refine ⟨trivial, ?_⟩
  simp only [↓List.toList_toArray, ↓rgd, ↓rgf, ↓reduceIte, Nat.reduceEqDiff, rg, ow_103]
  refine hK _ _ ?_; clear hK K
  exact endQ_0n ⟨hS1, X1⟩
set_option maxHeartbeats 400000 in
set_option maxRecDepth 8000 in
theorem M_Descend_s (B m d : Nat) (ord : List Int) (hd : 2 ≤ d) (iso : Int) (xs : List It) (F : Nat → Nat → Prop) (q : It) (w : World) (hM : TreeAt B ord w m d iso xs F) (hbig : xs.length ≤ 4294967295) :
    Scans 102 (fun f => #[ptr m, itV q, f]) none B m ((xs.take (ub O (rkI ord) (rkI ord q) xs)).reverse) F w := by
  intro f G S go C hm hB hSh hG hS
  refine calls_of_W [] Try.func102 rfl Try.ntmps102 Try.results102 (by simp) fun e he => ?_
  have e0 : e 0 = ptr m := he 0 _ rfl
  have e1 : e 1 = itV q := he 1 _ rfl
  have e2 : e 2 = f := he 2 _ rfl
  clear he
  refine W_rg fun K hK => (W_text [true, true, true, false] (by kernel_rfl) ?_); simp only [↓List.toList_toArray, ↓rgd, ↓rgf, ↓reduceIte, Nat.reduceEqDiff, rg, ow_102, e0, e1, e2]
  refine do_call fn_139 (by simp only [evt, evc, upd_eq, Nat.reduceEqDiff, ↓reduceIte, maT, maC, maN, isnN, isnS] <;> rfl) (descend_any B m d ord hd iso xs F q none f G S go C hm hB hSh false w hM hG hS (HOk.none _) hbig) ?_
  rintro _ w1 ⟨hS1, X1⟩
  refine ⟨trivial, ?_⟩
  simp only [↓List.toList_toArray, ↓rgd, ↓rgf, ↓reduceIte, Nat.reduceEqDiff, rg, ow_102]
  refine hK _ _ ?_; clear hK K
  exact endQ_0n ⟨hS1, X1⟩
set_option maxHeartbeats 400000 in
set_option maxRecDepth 8000 in
theorem M_DescendMut_s (B m d : Nat) (ord : List Int) (hd : 2 ≤ d) (iso : Int) (xs : List It) (F : Nat → Nat → Prop) (q : It) (w : World) (hM : TreeAt B ord w m d iso xs F) (hbig : xs.length ≤ 4294967295) :
    Scans 108 (fun f => #[ptr m, itV q, f]) none B m ((xs.take (ub O (rkI ord) (rkI ord q) xs)).reverse) F w := by
  intro f G S go C hm hB hSh hG hS
  refine calls_of_W [] Try.func108 rfl Try.ntmps108 Try.results108 (by simp) fun e he => ?_
  have e0 : e 0 = ptr m := he 0 _ rfl
  have e1 : e 1 = itV q := he 1 _ rfl
  have e2 : e 2 = f := he 2 _ rfl
  clear he
  refine W_rg fun K hK => (W_text [true, true, true, false] (by kernel_rfl) ?_); simp only [↓List.toList_toArray, ↓rgd, ↓rgf, ↓reduceIte, Nat.reduceEqDiff, rg, ow_108, e0, e1, e2]
  refine do_call fn_139 (by simp only [evt, evc, upd_eq, Nat.reduceEqDiff, ↓reduceIte, maT, maC, maN, isnN, isnS] <;> rfl) (descend_any B m d ord hd iso xs F q none f G S go C hm hB hSh true w hM hG hS (HOk.none _) hbig) ?_
  rintro _ w1 ⟨hS1, X1⟩
  refine ⟨trivial, ?_⟩
  simp only [↓List.toList_toArray, ↓rgd, ↓rgf, ↓reduceIte, Nat.reduceEqDiff, rg, ow_108]
  refine hK _ _ ?_; clear hK K
  exact endQ_0n ⟨hS1, X1⟩
set_option maxHeartbeats 400000 in
set_option maxRecDepth 8000 in
theorem M_DescendHint_s (B m d : Nat) (ord : List Int) (hd : 2 ≤ d) (iso : Int) (xs : List It) (F : Nat → Nat → Prop) (q : It) (hp : Option Nat) (w : World) (hM : TreeAt B ord w m d iso xs F) (hH : HOk hp w) (hbig : xs.length ≤ 4294967295) :
    Scans 104 (fun f => #[ptr m, itV q, f, hV hp]) hp B m ((xs.take (ub O (rkI ord) (rkI ord q) xs)).reverse) F w := by
  intro f G S go C hm hB hSh hG hS
  refine calls_of_W [] Try.func104 rfl Try.ntmps104 Try.results104 (by simp) fun e he => ?_
  have e0 : e 0 = ptr m := he 0 _ rfl
  have e1 : e 1 = itV q := he 1 _ rfl
  have e2 : e 2 = f := he 2 _ rfl
  have e3 : e 3 = hV hp := he 3 _ rfl
  clear he
  refine W_rg fun K hK => (W_text [true, true, true, true, false] (by kernel_rfl) ?_); simp only [↓List.toList_toArray, ↓rgd, ↓rgf, ↓reduceIte, Nat.reduceEqDiff, rg, ow_104, e0, e1, e2, e3]
  refine do_call fn_139 (by simp only [evt, evc, upd_eq, Nat.reduceEqDiff, ↓reduceIte, maT, maC, maN, isnN, isnS] <;> rfl) (descend_any B m d ord hd iso xs F q hp f G S go C hm hB hSh false w hM hG hS hH hbig) ?_
  rintro _ w1 ⟨hS1, X1⟩
  refine ⟨trivial, ?_⟩
  simp only [↓List.toList_toArray, ↓rgd, ↓rgf, ↓reduceIte, Nat.reduceEqDiff, rg, ow_104]
  refine hK _ _ ?_; clear hK K
  exact endQ_0n ⟨hS1, X1⟩
set_option maxHeartbeats 400000 in
set_option maxRecDepth 8000 in
theorem M_DescendHintMut_s (B m d : Nat) (ord : List Int) (hd : 2 ≤ d) (iso : Int) (xs : List It) (F : Nat → Nat → Prop) (q : It) (hp : Option Nat) (w : World) (hM : TreeAt B ord w m d iso xs F) (hH : HOk hp w) (hbig : xs.length ≤ 4294967295) :
    Scans 113 (fun f => #[ptr m, itV q, f, hV hp]) hp B m ((xs.take (ub O (rkI ord) (rkI ord q) xs)).reverse) F w := by
  intro f G S go C hm hB hSh hG hS
  refine calls_of_W [] Try.func113 rfl Try.ntmps113 Try.results113 (by simp) fun e he => ?_
  have e0 : e 0 = ptr m := he 0 _ rfl
  have e1 : e 1 = itV q := he 1 _ rfl
  have e2 : e 2 = f := he 2 _ rfl
  have e3 : e 3 = hV hp := he 3 _ rfl
  clear he
  refine W_rg fun K hK => (W_text [true, true, true, true, false] (by kernel_rfl) ?_); simp only [↓List.toList_toArray, ↓rgd, ↓rgf, ↓reduceIte, Nat.reduceEqDiff, rg, ow_113, e0, e1, e2, e3]
  refine do_call fn_139 (by simp only [evt, evc, upd_eq, Nat.reduceEqDiff, ↓reduceIte, maT, maC, maN, isnN, isnS] <;> rfl) (descend_any B m d ord hd iso xs F q hp f G S go C hm hB hSh true w hM hG hS hH hbig) ?_
  rintro _ w1 ⟨hS1, X1⟩
  refine ⟨trivial, ?_⟩
  simp only [↓List.toList_toArray, ↓rgd, ↓rgf, ↓reduceIte, Nat.reduceEqDiff, rg, ow_113]
  refine hK _ _ ?_; clear hK K
  exact endQ_0n ⟨hS1, X1⟩
set_option maxHeartbeats 400000 in
set_option maxRecDepth 8000 in
theorem T_Ascend_s (t : Nat) (B m d : Nat) (ord : List Int) (hd : 2 ≤ d) (iso : Int) (xs : List It) (F : Nat → Nat → Prop) (p : Option It) (w : World) (hM : TreeAt B ord w m d iso xs F) (hbig : xs.length ≤ 4294967295) (ht : BAt w t m) :
    Scans 64 (fun f => #[ptr t, itO p, f]) none B m (upO ord p xs) F w := by
  intro f G S go C hm hB hSh hG hS
  refine calls_of_W [] Try.func64 rfl Try.ntmps64 Try.results64 (by simp) fun e he => ?_
  have e0 : e 0 = ptr t := he 0 _ rfl
  have e1 : e 1 = itO p := he 1 _ rfl
  have e2 : e 2 = f := he 2 _ rfl
  clear he
  have ht : rd w t 0 = some (ptr m) := ht
  cases p with
  | none =>
    replace e1 : e 1 = zV := e1
    refine W_sq fun K hK => (W_text [true, true] (by kernel_rfl) ?_); simp only [↓List.toList_toArray, ↓rgd, ↓rgf, ↓reduceIte, Nat.reduceEqDiff, rg, ow_64, e1, eq_anyN]
    refine hK _ _ ?_; clear hK K
    refine W_true (by simp only [evt, evc, upd_eq, Nat.reduceEqDiff, ↓reduceIte, ntT, ntF] <;> rfl) ?_
    refine W_rg fun K hK => (W_text [true, true, true, true, true, false] (by kernel_rfl) ?_); simp only [↓List.toList_toArray, ↓rgd, ↓rgf, ↓reduceIte, Nat.reduceEqDiff, rg, ow_64, e0, e2, ptr_eq, ht]
    refine do_call fn_97 (by simp only [evt, evc, upd_eq, Nat.reduceEqDiff, ↓reduceIte, maT, maC, maN, isnN, isnS] <;> rfl) (M_Scan_s B m d ord hd iso xs F w hM hbig f G S go C hm (fun _ h => by cases h) (hSh_none C.2) hG hS) ?_
    rintro _ w1 ⟨hS1, X1⟩
    refine ⟨trivial, ?_⟩
    simp only [↓List.toList_toArray, ↓rgd, ↓rgf, ↓reduceIte, Nat.reduceEqDiff, rg, ow_64]
    refine hK _ _ ?_; clear hK K
    exact endQ_0n ⟨hS1, X1⟩
  | some q =>
    replace e1 : e 1 = itV q := e1
    refine W_sq fun K hK => (W_text [true, true] (by kernel_rfl) ?_); simp only [↓List.toList_toArray, ↓rgd, ↓rgf, ↓reduceIte, Nat.reduceEqDiff, rg, ow_64, e1, eq_any]
    refine hK _ _ ?_; clear hK K
    refine W_false (by simp only [evt, evc, upd_eq, Nat.reduceEqDiff, ↓reduceIte, ntT, ntF] <;> rfl) ?_
    refine W_rg fun K hK => (W_text [true, true, true, true, true, true, false] (by kernel_rfl) ?_); simp only [↓List.toList_toArray, ↓rgd, ↓rgf, ↓reduceIte, Nat.reduceEqDiff, rg, ow_64, e0, e1, e2, ptr_eq, ht]
    refine do_call fn_98 (by simp only [evt, evc, upd_eq, Nat.reduceEqDiff, ↓reduceIte, maT, maC, maN, isnN, isnS] <;> rfl) (M_Ascend_s B m d ord hd iso xs F q w hM hbig f G S go C hm hB hSh hG hS) ?_
    rintro _ w1 ⟨hS1, X1⟩
    refine ⟨trivial, ?_⟩
    simp only [↓List.toList_toArray, ↓rgd, ↓rgf, ↓reduceIte, Nat.reduceEqDiff, rg, ow_64]
    refine hK _ _ ?_; clear hK K
    exact endQ_0n ⟨hS1, X1⟩
set_option maxHeartbeats 400000 in
set_option maxRecDepth 8000 in
theorem T_AscendMut_s (t : Nat) (B m d : Nat) (ord : List Int) (hd : 2 ≤ d) (iso : Int) (xs : List It) (F : Nat → Nat → Prop) (p : Option It) (w : World) (hM : TreeAt B ord w m d iso xs F) (hbig : xs.length ≤ 4294967295) (ht : BAt w t m) :
    Scans 72 (fun f => #[ptr t, itO p, f]) none B m (upO ord p xs) F w := by
  intro f G S go C hm hB hSh hG hS
  refine calls_of_W [] Try.func72 rfl Try.ntmps72 Try.results72 (by simp) fun e he => ?_
  have e0 : e 0 = ptr t := he 0 _ rfl
  have e1 : e 1 = itO p := he 1 _ rfl
  have e2 : e 2 = f := he 2 _ rfl
  clear he
  have ht : rd w t 0 = some (ptr m) := ht
  cases p with
  | none =>
    replace e1 : e 1 = zV := e1
    refine W_sq fun K hK => (W_text [true, true] (by kernel_rfl) ?_); simp only [↓List.toList_toArray, ↓rgd, ↓rgf, ↓reduceIte, Nat.reduceEqDiff, rg, ow_72, e1, eq_anyN]
    refine hK _ _ ?_; clear hK K
    refine W_true (by simp only [evt, evc, upd_eq, Nat.reduceEqDiff, ↓reduceIte, ntT, ntF] <;> rfl) ?_
    refine W_rg fun K hK => (W_text [true, true, true, true, true, false] (by kernel_rfl) ?_); simp only [↓List.toList_toArray, ↓rgd, ↓rgf, ↓reduceIte, Nat.reduceEqDiff, rg, ow_72, e0, e2, ptr_eq, ht]
    refine do_call fn_105 (by simp only [evt, evc, upd_eq, Nat.reduceEqDiff, ↓reduceIte, maT, maC, maN, isnN, isnS] <;> rfl) (M_ScanMut_s B m d ord hd iso xs F w hM hbig f G S go C hm (fun _ h => by cases h) (hSh_none C.2) hG hS) ?_
    rintro _ w1 ⟨hS1, X1⟩
    refine ⟨trivial, ?_⟩
    simp only [↓List.toList_toArray, ↓rgd, ↓rgf, ↓reduceIte, Nat.reduceEqDiff, rg, ow_72]
    refine hK _ _ ?_; clear hK K
    exact endQ_0n ⟨hS1, X1⟩
  | some q =>
    replace e1 : e 1 = itV q := e1
    refine W_sq fun K hK => (W_text [true, true] (by kernel_rfl) ?_); simp only [↓List.toList_toArray, ↓rgd, ↓rgf, ↓reduceIte, Nat.reduceEqDiff, rg, ow_72, e1, eq_any]
    refine hK _ _ ?_; clear hK K
    refine W_false (by simp only [evt, evc, upd_eq, Nat.reduceEqDiff, ↓reduceIte, ntT, ntF] <;> rfl) ?_
    refine W_rg fun K hK => (W_text [true, true, true, true, true, true, false] (by kernel_rfl) ?_); simp only [↓List.toList_toArray, ↓rgd, ↓rgf, ↓reduceIte, Nat.reduceEqDiff, rg, ow_72, e0, e1, e2, ptr_eq, ht]
    refine do_call fn_106 (by simp only [evt, evc, upd_eq, Nat.reduceEqDiff, ↓reduceIte, maT, maC, maN, isnN, isnS] <;> rfl) (M_AscendMut_s B m d ord hd iso xs F q w hM hbig f G S go C hm hB hSh hG hS) ?_
    rintro _ w1 ⟨hS1, X1⟩
    refine ⟨trivial, ?_⟩
    simp only [↓List.toList_toArray, ↓rgd, ↓rgf, ↓reduceIte, Nat.reduceEqDiff, rg, ow_72]
    refine hK _ _ ?_; clear hK K
    exact endQ_0n ⟨hS1, X1⟩
set_option maxHeartbeats 400000 in
set_option maxRecDepth 8000 in
theorem T_AscendHint_s (t : Nat) (B m d : Nat) (ord : List Int) (hd : 2 ≤ d) (iso : Int) (xs : List It) (F : Nat → Nat → Prop) (p : Option It) (hp : Option Nat) (w : World) (hM : TreeAt B ord w m d iso xs F) (hH : HOk hp w) (hbig : xs.length ≤ 4294967295) (ht : BAt w t m) :
    Scans 70 (fun f => #[ptr t, itO p, f, hV hp]) hp B m (upO ord p xs) F w := by
  intro f G S go C hm hB hSh hG hS
  refine calls_of_W [] Try.func70 rfl Try.ntmps70 Try.results70 (by simp) fun e he => ?_
  have e0 : e 0 = ptr t := he 0 _ rfl
  have e1 : e 1 = itO p := he 1 _ rfl
  have e2 : e 2 = f := he 2 _ rfl
  have e3 : e 3 = hV hp := he 3 _ rfl
  clear he
  have ht : rd w t 0 = some (ptr m) := ht
  cases p with
  | none =>
    replace e1 : e 1 = zV := e1
    refine W_sq fun K hK => (W_text [true, true] (by kernel_rfl) ?_); simp only [↓List.toList_toArray, ↓rgd, ↓rgf, ↓reduceIte, Nat.reduceEqDiff, rg, ow_70, e1, eq_anyN]
    refine hK _ _ ?_; clear hK K
    refine W_true (by simp only [evt, evc, upd_eq, Nat.reduceEqDiff, ↓reduceIte, ntT, ntF] <;> rfl) ?_
    refine W_rg fun K hK => (W_text [true, true, true, true, true, false] (by kernel_rfl) ?_); simp only [↓List.toList_toArray, ↓rgd, ↓rgf, ↓reduceIte, Nat.reduceEqDiff, rg, ow_70, e0, e2, ptr_eq, ht]
    refine do_call fn_97 (by simp only [evt, evc, upd_eq, Nat.reduceEqDiff, ↓reduceIte, maT, maC, maN, isnN, isnS] <;> rfl) (M_Scan_s B m d ord hd iso xs F w hM hbig f G S go C hm (fun _ h => by cases h) (hSh_none C.2) hG hS) ?_
    rintro _ w1 ⟨hS1, X1⟩
    refine ⟨trivial, ?_⟩
    simp only [↓List.toList_toArray, ↓rgd, ↓rgf, ↓reduceIte, Nat.reduceEqDiff, rg, ow_70]
    refine hK _ _ ?_; clear hK K
    exact endQ_0n ⟨hS1, X1⟩
  | some q =>
    replace e1 : e 1 = itV q := e1
    refine W_sq fun K hK => (W_text [true, true] (by kernel_rfl) ?_); simp only [↓List.toList_toArray, ↓rgd, ↓rgf, ↓reduceIte, Nat.reduceEqDiff, rg, ow_70, e1, eq_any]
    refine hK _ _ ?_; clear hK K
    refine W_false (by simp only [evt, evc, upd_eq, Nat.reduceEqDiff, ↓reduceIte, ntT, ntF] <;> rfl) ?_
    refine W_rg fun K hK => (W_text [true, true, true, true, true, true, true, false] (by kernel_rfl) ?_); simp only [↓List.toList_toArray, ↓rgd, ↓rgf, ↓reduceIte, Nat.reduceEqDiff, rg, ow_70, e0, e1, e2, e3, ptr_eq, ht]
    refine do_call fn_103 (by simp only [evt, evc, upd_eq, Nat.reduceEqDiff, ↓reduceIte, maT, maC, maN, isnN, isnS] <;> rfl) (M_AscendHint_s B m d ord hd iso xs F q hp w hM hH hbig f G S go C hm hB hSh hG hS) ?_
    rintro _ w1 ⟨hS1, X1⟩
    refine ⟨trivial, ?_⟩
    simp only [↓List.toList_toArray, ↓rgd, ↓rgf, ↓reduceIte, Nat.reduceEqDiff, rg, ow_70]
    refine hK _ _ ?_; clear hK K
    exact endQ_0n ⟨hS1, X1⟩
set_option maxHeartbeats 400000 in
set_option maxRecDepth 8000 in
theorem T_Descend_s (t : Nat) (B m d : Nat) (ord : List Int) (hd : 2 ≤ d) (iso : Int) (xs : List It) (F : Nat → Nat → Prop) (p : Option It) (w : World) (hM : TreeAt B ord w m d iso xs F) (hbig : xs.length ≤ 4294967295) (ht : BAt w t m) :
    Scans 67 (fun f => #[ptr t, itO p, f]) none B m (downO ord p xs) F w := by
  intro f G S go C hm hB hSh hG hS
  refine calls_of_W [] Try.func67 rfl Try.ntmps67 Try.results67 (by simp) fun e he => ?_
  have e0 : e 0 = ptr t := he 0 _ rfl
  have e1 : e 1 = itO p := he 1 _ rfl
  have e2 : e 2 = f := he 2 _ rfl
  clear he
  have ht : rd w t 0 = some (ptr m) := ht
  cases p with
  | none =>
    replace e1 : e 1 = zV := e1
    refine W_sq fun K hK => (W_text [true, true] (by kernel_rfl) ?_); simp only [↓List.toList_toArray, ↓rgd, ↓rgf, ↓reduceIte, Nat.reduceEqDiff, rg, ow_67, e1, eq_anyN]
    refine hK _ _ ?_; clear hK K
    refine W_true (by simp only [evt, evc, upd_eq, Nat.reduceEqDiff, ↓reduceIte, ntT, ntF] <;> rfl) ?_
    refine W_rg fun K hK => (W_text [true, true, true, true, true, false] (by kernel_rfl) ?_); simp only [↓List.toList_toArray, ↓rgd, ↓rgf, ↓reduceIte, Nat.reduceEqDiff, rg, ow_67, e0, e2, ptr_eq, ht]
    refine do_call fn_101 (by simp only [evt, evc, upd_eq, Nat.reduceEqDiff, ↓reduceIte, maT, maC, maN, isnN, isnS] <;> rfl) (M_Reverse_s B m d ord hd iso xs F w hM hbig f G S go C hm (fun _ h => by cases h) (hSh_none C.2) hG hS) ?_
    rintro _ w1 ⟨hS1, X1⟩
    refine ⟨trivial, ?_⟩
    simp only [↓List.toList_toArray, ↓rgd, ↓rgf, ↓reduceIte, Nat.reduceEqDiff, rg, ow_67]
    refine hK _ _ ?_; clear hK K
    exact endQ_0n ⟨hS1, X1⟩
  | some q =>
    replace e1 : e 1 = itV q := e1
    refine W_sq fun K hK => (W_text [true, true] (by kernel_rfl) ?_); simp only [↓List.toList_toArray, ↓rgd, ↓rgf, ↓reduceIte, Nat.reduceEqDiff, rg, ow_67, e1, eq_any]
    refine hK _ _ ?_; clear hK K
    refine W_false (by simp only [evt, evc, upd_eq, Nat.reduceEqDiff, ↓reduceIte, ntT, ntF] <;> rfl) ?_
    refine W_rg fun K hK => (W_text [true, true, true, true, true, true, false] (by kernel_rfl) ?_); simp only [↓List.toList_toArray, ↓rgd, ↓rgf, ↓reduceIte, Nat.reduceEqDiff, rg, ow_67, e0, e1, e2, ptr_eq, ht]
    refine do_call fn_102 (by simp only [evt, evc, upd_eq, Nat.reduceEqDiff, ↓reduceIte, maT, maC, maN, isnN, isnS] <;> rfl) (M_Descend_s B m d ord hd iso xs F q w hM hbig f G S go C hm hB hSh hG hS) ?_
    rintro _ w1 ⟨hS1, X1⟩
    refine ⟨trivial, ?_⟩
    simp only [↓List.toList_toArray, ↓rgd, ↓rgf, ↓reduceIte, Nat.reduceEqDiff, rg, ow_67]
    refine hK _ _ ?_; clear hK K
    exact endQ_0n ⟨hS1, X1⟩
set_option maxHeartbeats 400000 in
set_option maxRecDepth 8000 in
theorem T_DescendMut_s (t : Nat) (B m d : Nat) (ord : List Int) (hd : 2 ≤ d) (iso : Int) (xs : List It) (F : Nat → Nat → Prop) (p : Option It) (w : World) (hM : TreeAt B ord w m d iso xs F) (hbig : xs.length ≤ 4294967295) (ht : BAt w t m) :
    Scans 73 (fun f => #[ptr t, itO p, f]) none B m (downO ord p xs) F w := by
  intro f G S go C hm hB hSh hG hS
  refine calls_of_W [] Try.func73 rfl Try.ntmps73 Try.results73 (by simp) fun e he => ?_
  have e0 : e 0 = ptr t := he 0 _ rfl
  have e1 : e 1 = itO p := he 1 _ rfl
  have e2 : e 2 = f := he 2 _ rfl
  clear he
  have ht : rd w t 0 = some (ptr m) := ht
  cases p with
  | none =>
    replace e1 : e 1 = zV := e1
    refine W_sq fun K hK => (W_text [true, true] (by kernel_rfl) ?_); simp only [↓List.toList_toArray, ↓rgd, ↓rgf, ↓reduceIte, Nat.reduceEqDiff, rg, ow_73, e1, eq_anyN]
    refine hK _ _ ?_; clear hK K
    refine W_true (by simp only [evt, evc, upd_eq, Nat.reduceEqDiff, ↓reduceIte, ntT, ntF] <;> rfl) ?_
    refine W_rg fun K hK => (W_text [true, true, true, true, true, false] (by kernel_rfl) ?_); simp only [↓List.toList_toArray, ↓rgd, ↓rgf, ↓reduceIte, Nat.reduceEqDiff, rg, ow_73, e0, e2, ptr_eq, ht]
    refine do_call fn_107 (by simp only [evt, evc, upd_eq, Nat.reduceEqDiff, ↓reduceIte, maT, maC, maN, isnN, isnS] <;> rfl) (M_ReverseMut_s B m d ord hd iso xs F w hM hbig f G S go C hm (fun _ h => by cases h) (hSh_none C.2) hG hS) ?_
    rintro _ w1 ⟨hS1, X1⟩
    refine ⟨trivial, ?_⟩
    simp only [↓List.toList_toArray, ↓rgd, ↓rgf, ↓reduceIte, Nat.reduceEqDiff, rg, ow_73]
    refine hK _ _ ?_; clear hK K
    exact endQ_0n ⟨hS1, X1⟩
  | some q =>
    replace e1 : e 1 = itV q := e1
    refine W_sq fun K hK => (W_text [true, true] (by kernel_rfl) ?_); simp only [↓List.toList_toArray, ↓rgd, ↓rgf, ↓reduceIte, Nat.reduceEqDiff, rg, ow_73, e1, eq_any]
    refine hK _ _ ?_; clear hK K
    refine W_false (by simp only [evt, evc, upd_eq, Nat.reduceEqDiff, ↓reduceIte, ntT, ntF] <;> rfl) ?_
    refine W_rg fun K hK => (W_text [true, true, true, true, true, true, false] (by kernel_rfl) ?_); simp only [↓List.toList_toArray, ↓rgd, ↓rgf, ↓reduceIte, Nat.reduceEqDiff, rg, ow_73, e0, e1, e2, ptr_eq, ht]
    refine do_call fn_108 (by simp only [evt, evc, upd_eq, Nat.reduceEqDiff, ↓reduceIte, maT, maC, maN, isnN, isnS] <;> rfl) (M_DescendMut_s B m d ord hd iso xs F q w hM hbig f G S go C hm hB hSh hG hS) ?_
    rintro _ w1 ⟨hS1, X1⟩
    refine ⟨trivial, ?_⟩
    simp only [↓List.toList_toArray, ↓rgd, ↓rgf, ↓reduceIte, Nat.reduceEqDiff, rg, ow_73]
    refine hK _ _ ?_; clear hK K
    exact endQ_0n ⟨hS1, X1⟩
set_option maxHeartbeats 400000 in
set_option maxRecDepth 8000 in
theorem T_DescendHint_s (t : Nat) (B m d : Nat) (ord : List Int) (hd : 2 ≤ d) (iso : Int) (xs : List It) (F : Nat → Nat → Prop) (p : Option It) (hp : Option Nat) (w : World) (hM : TreeAt B ord w m d iso xs F) (hH : HOk hp w) (hbig : xs.length ≤ 4294967295) (ht : BAt w t m) :
    Scans 71 (fun f => #[ptr t, itO p, f, hV hp]) hp B m (downO ord p xs) F w := by
  intro f G S go C hm hB hSh hG hS
  refine calls_of_W [] Try.func71 rfl Try.ntmps71 Try.results71 (by simp) fun e he => ?_
  have e0 : e 0 = ptr t := he 0 _ rfl
  have e1 : e 1 = itO p := he 1 _ rfl
  have e2 : e 2 = f := he 2 _ rfl
  have e3 : e 3 = hV hp := he 3 _ rfl
  clear he
  have ht : rd w t 0 = some (ptr m) := ht
  cases p with
  | none =>
    replace e1 : e 1 = zV := e1
    refine W_sq fun K hK => (W_text [true, true] (by kernel_rfl) ?_); simp only [↓List.toList_toArray, ↓rgd, ↓rgf, ↓reduceIte, Nat.reduceEqDiff, rg, ow_71, e1, eq_anyN]
    refine hK _ _ ?_; clear hK K
    refine W_true (by simp only [evt, evc, upd_eq, Nat.reduceEqDiff, ↓reduceIte, ntT, ntF] <;> rfl) ?_
    refine W_rg fun K hK => (W_text [true, true, true, true, true, false] (by kernel_rfl) ?_); simp only [↓List.toList_toArray, ↓rgd, ↓rgf, ↓reduceIte, Nat.reduceEqDiff, rg, ow_71, e0, e2, ptr_eq, ht]
    refine do_call fn_101 (by simp only [evt, evc, upd_eq, Nat.reduceEqDiff, ↓reduceIte, maT, maC, maN, isnN, isnS] <;> rfl) (M_Reverse_s B m d ord hd iso xs F w hM hbig f G S go C hm (fun _ h => by cases h) (hSh_none C.2) hG hS) ?_
    rintro _ w1 ⟨hS1, X1⟩
    refine ⟨trivial, ?_⟩
    simp only [↓List.toList_toArray, ↓rgd, ↓rgf, ↓reduceIte, Nat.reduceEqDiff, rg, ow_71]
    refine hK _ _ ?_; clear hK K
    exact endQ_0n ⟨hS1, X1⟩
  | some q =>
    replace e1 : e 1 = itV q := e1
    refine W_sq fun K hK => (W_text [true, true] (by kernel_rfl) ?_); simp only [↓List.toList_toArray, ↓rgd, ↓rgf, ↓reduceIte, Nat.reduceEqDiff, rg, ow_71, e1, eq_any]
    refine hK _ _ ?_; clear hK K
    refine W_false (by simp only [evt, evc, upd_eq, Nat.reduceEqDiff, ↓reduceIte, ntT, ntF] <;> rfl) ?_
    refine W_rg fun K hK => (W_text [true, true, true, true, true, true, true, false] (by kernel_rfl) ?_); simp only [↓List.toList_toArray, ↓rgd, ↓rgf, ↓reduceIte, Nat.reduceEqDiff, rg, ow_71, e0, e1, e2, e3, ptr_eq, ht]
    refine do_call fn_104 (by simp only [evt, evc, upd_eq, Nat.reduceEqDiff, ↓reduceIte, maT, maC, maN, isnN, isnS] <;> rfl) (M_DescendHint_s B m d ord hd iso xs F q hp w hM hH hbig f G S go C hm hB hSh hG hS) ?_
    rintro _ w1 ⟨hS1, X1⟩
    refine ⟨trivial, ?_⟩
    simp only [↓List.toList_toArray, ↓rgd, ↓rgf, ↓reduceIte, Nat.reduceEqDiff, rg, ow_71]
    refine hK _ _ ?_; clear hK K
    exact endQ_0n ⟨hS1, X1⟩
set_option maxHeartbeats 400000 in
set_option maxRecDepth 8000 in
theorem T_DescendHintMut_s (t : Nat) (B m d : Nat) (ord : List Int) (hd : 2 ≤ d) (iso : Int) (xs : List It) (F : Nat → Nat → Prop) (p : Option It) (hp : Option Nat) (w : World) (hM : TreeAt B ord w m d iso xs F) (hH : HOk hp w) (hbig : xs.length ≤ 4294967295) (ht : BAt w t m) :
    Scans 82 (fun f => #[ptr t, itO p, f, hV hp]) hp B m (downO ord p xs) F w := by
  intro f G S go C hm hB hSh hG hS
  refine calls_of_W [] Try.func82 rfl Try.ntmps82 Try.results82 (by simp) fun e he => ?_
  have e0 : e 0 = ptr t := he 0 _ rfl
  have e1 : e 1 = itO p := he 1 _ rfl
  have e2 : e 2 = f := he 2 _ rfl
  have e3 : e 3 = hV hp := he 3 _ rfl
  clear he
  have ht : rd w t 0 = some (ptr m) := ht
  cases p with
  | none =>
    replace e1 : e 1 = zV := e1
    refine W_sq fun K hK => (W_text [true, true] (by kernel_rfl) ?_); simp only [↓List.toList_toArray, ↓rgd, ↓rgf, ↓reduceIte, Nat.reduceEqDiff, rg, ow_82, e1, eq_anyN]
    refine hK _ _ ?_; clear hK K
    refine W_true (by simp only [evt, evc, upd_eq, Nat.reduceEqDiff, ↓reduceIte, ntT, ntF] <;> rfl) ?_
    refine W_rg fun K hK => (W_text [true, true, true, true, true, false] (by kernel_rfl) ?_); simp only [↓List.toList_toArray, ↓rgd, ↓rgf, ↓reduceIte, Nat.reduceEqDiff, rg, ow_82, e0, e2, ptr_eq, ht]
    refine do_call fn_107 (by simp only [evt, evc, upd_eq, Nat.reduceEqDiff, ↓reduceIte, maT, maC, maN, isnN, isnS] <;> rfl) (M_ReverseMut_s B m d ord hd iso xs F w hM hbig f G S go C hm (fun _ h => by cases h) (hSh_none C.2) hG hS) ?_
    rintro _ w1 ⟨hS1, X1⟩
    refine ⟨trivial, ?_⟩
    simp only [↓List.toList_toArray, ↓rgd, ↓rgf, ↓reduceIte, Nat.reduceEqDiff, rg, ow_82]
    refine hK _ _ ?_; clear hK K
    exact endQ_0n ⟨hS1, X1⟩
  | some q =>
    replace e1 : e 1 = itV q := e1
    refine W_sq fun K hK => (W_text [true, true] (by kernel_rfl) ?_); simp only [↓List.toList_toArray, ↓rgd, ↓rgf, ↓reduceIte, Nat.reduceEqDiff, rg, ow_82, e1, eq_any]
    refine hK _ _ ?_; clear hK K
    refine W_false (by simp only [evt, evc, upd_eq, Nat.reduceEqDiff, ↓reduceIte, ntT, ntF] <;> rfl) ?_
    refine W_rg fun K hK => (W_text [true, true, true, true, true, true, true, false] (by kernel_rfl) ?_); simp only [↓List.toList_toArray, ↓rgd, ↓rgf, ↓reduceIte, Nat.reduceEqDiff, rg, ow_82, e0, e1, e2, e3, ptr_eq, ht]
    refine do_call fn_113 (by simp only [evt, evc, upd_eq, Nat.reduceEqDiff, ↓reduceIte, maT, maC, maN, isnN, isnS] <;> rfl) (M_DescendHintMut_s B m d ord hd iso xs F q hp w hM hH hbig f G S go C hm hB hSh hG hS) ?_
    rintro _ w1 ⟨hS1, X1⟩
    refine ⟨trivial, ?_⟩
    simp only [↓List.toList_toArray, ↓rgd, ↓rgf, ↓reduceIte, Nat.reduceEqDiff, rg, ow_82]
    refine hK _ _ ?_; clear hK K
    exact endQ_0n ⟨hS1, X1⟩
end Go.Proofs.Ytanmjbkbdmeckaa
/-
  The function that keeps the items that are handed to it. No condition.
-/
set_option linter.unusedSimpArgs false
set_option linter.unusedVariables false
namespace Go.Proofs.Ytanmjbkbdmeckaa
open Go Go.Proofs
/-- What is kept: the variable's block, the list, that the list is not older than B. -/
structure Kept (B ob : Nat) (done : List It) (w : World) : Prop where
  var : ∃ sv, rd w ob 0 = some sv ∧ SlI w sv done ∧ since B sv
  wok : wok w ob 1
  lt : ob < B
  le : B ≤ w.heap.size
def outF (B ob : Nat) : Nat → Nat → Prop := fun y _ => y = ob ∨ B ≤ y
theorem Kept.ext {B ob : Nat} {done : List It} {w w' : World} (h : Kept B ob done w) (x : Ext noF w w') : Kept B ob done w' := by
  obtain ⟨sv, h1, h2, h3⟩ := h.var
  exact ⟨⟨sv, x.rd h1 (fun h => h), h2.ext0 x, h3⟩, x.wok h.wok, h.lt, Nat.le_trans h.le x.size⟩
set_option maxHeartbeats 400000 in
set_option maxRecDepth 8000 in
theorem take_any (B ob pb nb : Nat) (n : Int) (done : List It) (x : It) (w : World) (h : Kept B ob done w) (hp : rd w pb 0 = some (ptr ob)) (hn : rd w nb 0 = some (.int .i64 n)) (h1 : pb ≠ ob) (h2 : nb ≠ ob) (h3 : pb < B) (h4 : nb < B)
    (hbig : done.length < 4294967295) :
    CallK Try.prog 137 #[iV x, ptr pb, ptr nb] w fun v w' => v = .bool (upTo n (done ++ [x])) ∧ Kept B ob (done ++ [x]) w' ∧ Ext (outF B ob) w w' := by
  obtain ⟨sv, hv, hS, hsi⟩ := h.var
  have hlt := h.lt
  have hle := h.le
  refine calls_of_W [.tmp 4] Try.func137 rfl Try.ntmps137 Try.results137 (by simp) fun e he => ?_
  have e0 : e 0 = iV x := he 0 _ rfl
  have e1 : e 1 = ptr pb := he 1 _ rfl
  have e2 : e 2 = ptr nb := he 2 _ rfl
  clear he
  refine W_sq fun K hK => (W_text [false, true] (by kernel_rfl) ?_); simp only [↓List.toList_toArray, ↓rgd, ↓rgf, ↓reduceIte, Nat.reduceEqDiff, rg, ow_137]
  refine do_box (by simp only [evt]; exact e0) fun w1 n1 => ⟨trivial, ?_⟩
  simp only [↓List.toList_toArray, ↓rgd, ↓rgf, ↓reduceIte, Nat.reduceEqDiff, rg, ow_137]
  refine hK _ _ ?_; clear hK K
  have s1 := n1.size
  have hp1 := n1.ext.rd hp (fun h => h)
  have hn1 := n1.ext.rd hn (fun h => h)
  have hv1 := n1.ext.rd hv (fun h => h)
  have bx : rdA w1 w.heap.size 0 2 = some (iV x) := n1.row.rdA 2 (by show 2 ≤ 2; omega)
  have M1 : readsB (some (some [pb, ob, w.heap.size])) pb = true := by simp [readsB]
  have M2 : readsB (some (some [pb, ob, w.heap.size])) ob = true := by simp [readsB]
  have M3 : readsB (some (some [pb, ob, w.heap.size])) w.heap.size = true := by simp [readsB]
  refine W_sq fun K hK => (W_draw (some (some [pb, ob, w.heap.size])) (some 8) [(0, 0, 0), (0, 1, 0), (0, 2, 0), (0, 3, 0), (0, 4, 0), (1, 5, 0), (1, 6, 0), (0, 7, 0), (1, 8, 0)] mixed (by kernel_rfl) ?_); simp only [↓List.toList_toArray, ↓rgd, ↓rgf, ↓reduceIte, Nat.reduceEqDiff, rg, ow_137, e1, ptr_eq, hp1, hv1, bx, M1, M2, M3]
  refine do_bsl rfl (bs_i1 x) fun w2 n2 => ⟨.inr (keeps_on n2.ext fun y hy => ⟨?_, fun _ h => h⟩), ?_⟩
  · rw [sz_dr]
    simp only [List.mem_cons, List.not_mem_nil, or_false] at hy
    omega
  simp only [↓List.toList_toArray, ↓rgd, ↓rgf, ↓reduceIte, Nat.reduceEqDiff, rg, ow_137]
  have n2 := n2.od
  have s2 := n2.size
  have X2 := n1.ext.tr n2.ext
  have hS2 := hS.ext0 X2
  have hx2 : SlV w2 2 (.slice (some ⟨w1.heap.size, 0, none⟩) 1 1) 1 (Ei.cel x) := ⟨rfl, .inr ⟨_, 0, 1, rfl, Nat.le_refl _, n2.row, n2.wok.R (Nat.le_refl _)⟩⟩
  refine do_append (by simp only [evt, evc, upd_eq, Nat.reduceEqDiff, ↓reduceIte, ntT, ntF] <;> rfl) (by simp only [evt, evc, upd_eq, Nat.reduceEqDiff, ↓reduceIte, ntT, ntF] <;> rfl) el_i rfl ni_i hS2 hx2 (by omega) (by decide) (Ei.one x) fun v3 w3 a3 => ?_
  obtain ⟨hS3, hs3, x3⟩ := app_since (B := B) a3 hsi (by omega)
  refine ⟨.inr fun y hy => app_block a3 ?_ fun o c k hh => ?_, ?_⟩
  · simp only [List.mem_cons, List.not_mem_nil, or_false] at hy
    omega
  · have g1 := hsi _ _ _ _ hh
    have g2 := hS.lt hh
    simp only [List.mem_cons, List.not_mem_nil, or_false] at hy
    omega
  simp only [↓List.toList_toArray, ↓rgd, ↓rgf, ↓reduceIte, Nat.reduceEqDiff, rg, ow_137]
  have s3 := x3.size
  obtain ⟨a3', c3', hv3⟩ := hS3.shape
  refine do_store (by simp only [evt, evc, upd_eq, Nat.reduceEqDiff, ↓reduceIte, ntT, ntF] <;> rfl) (by simp only [evt, evc, upd_eq, Nat.reduceEqDiff, ↓reduceIte, ntT, ntF] <;> rfl) sz_25 (by rw [hv3]; rfl) (x3.wok (X2.wok h.wok)) (by decide) (by rw [hv3]; exact oc_one rfl rfl) fun w4 x4 r4 s4 => ⟨.inl trivial, ?_⟩
  simp only [↓List.toList_toArray, ↓rgd, ↓rgf, ↓reduceIte, Nat.reduceEqDiff, rg, ow_137]
  refine hK _ _ ?_; clear hK K
  have hrow : rd w4 ob 0 = some v3 := by
    rw [hv3] at r4 ⊢
    exact (Row.cons.1 r4).1
  have X4 : Ext (outF B ob) w w4 := by
    refine (X2.trans (H := outF B ob) x3 (fun _ _ g => g.elim) fun y o _ g => .inr g).trans x4 (fun _ _ g => g) fun y o _ g => ?_
    simp only [rng] at g
    exact .inl g.1
  have x34 : Ext (fun y o => y = ob ∧ True) w3 w4 := x4.mono fun y o _ g => ⟨g.1, trivial⟩
  have hS4 : SlI w4 v3 (done ++ [x]) := by
    have : SlV w4 2 v3 (done.length + 1) (flat Ei done ++ Ei.cel x) := hS3.ext x4 fun b o c hh k _ g => by
      have := hs3 _ _ _ _ hh
      simp only [rng] at g
      omega
    rw [SlI, List.length_append, List.length_singleton, flat_append, flat_one]
    exact this
  have hn4 := x4.rd (x3.rd (X2.rd hn fun h => h) (by omega)) (by simp only [rng]; omega)
  have hp4 := x4.rd (x3.rd (X2.rd hp fun h => h) (by omega)) (by simp only [rng]; omega)
  have hl4 : ((done ++ [x]).length : Int) = ((done.length + 1 : Nat) : Int) := by simp
  have K4 : Kept B ob (done ++ [x]) w4 := ⟨⟨v3, hrow, hS4, hs3⟩, x4.wok (x3.wok (X2.wok h.wok)), hlt, by have := X4.size; omega⟩
  have X5 : ∀ k, Ext (outF B ob) w (dr w4 k) := fun k => X4.tr (Ext.dr _ _ _)
  have K5 : ∀ k, Kept B ob (done ++ [x]) (dr w4 k) := fun k => K4.ext (Ext.dr _ _ _)
  rw [hv3] at hrow
  by_cases hn1' : n < 1
  · have t1 : decide (n < 1) = true := by simp [hn1']
    refine W_sq fun K hK => (W_draw (some none) none [(0, 0, 0), (0, 1, 0), (0, 2, 0), (0, 3, 0), (0, 4, 0), (0, 5, 0), (0, 6, 0), (0, 7, 0), (0, 8, 0), (0, 9, 0), (0, 10, 0)] mixed (by kernel_rfl) ?_); simp only [↓List.toList_toArray, ↓rgd, ↓rgf, ↓reduceIte, Nat.reduceEqDiff, rg, ow_137, e1, e2, ptr_eq, hp4, hn4, hrow, t1]
    refine hK _ _ ?_; clear hK K
    refine W_ret (endQ_1 (by simp only [upd_eq, Nat.reduceEqDiff, ↓reduceIte] <;> rfl) ⟨?_, K5 _, X5 _⟩)
    simp [upTo, hn1']
  · have t1 : decide (n < 1) = false := by simp; omega
    refine W_sq fun K hK => (W_draw (some none) none [(0, 0, 0), (0, 1, 0), (0, 2, 0), (0, 3, 0), (0, 4, 0), (0, 5, 0), (0, 6, 0), (0, 7, 0), (0, 8, 0), (0, 9, 0), (0, 10, 0)] mixed (by kernel_rfl) ?_); simp only [↓List.toList_toArray, ↓rgd, ↓rgf, ↓reduceIte, Nat.reduceEqDiff, rg, ow_137, e1, e2, ptr_eq, hp4, hn4, hrow, t1]
    refine hK _ _ ?_; clear hK K
    refine W_ret (endQ_1 (by simp only [upd_eq, Nat.reduceEqDiff, ↓reduceIte] <;> rfl) ⟨?_, K5 _, X5 _⟩)
    simp [upTo, hn1']
def takeV (pb nb : Nat) : Value := .func (.func 137) #[] #[ptr pb, ptr nb]
theorem takeV_eq (pb nb : Nat) : takeV pb nb = .func (.func 137) #[] #[ptr pb, ptr nb] := rfl
theorem fn_take : isFn Try.prog 137 = true := by kernel_rfl
set_option maxHeartbeats 400000 in
set_option maxRecDepth 8000 in
theorem taker_mk (ob : Nat) (n : Int) (w : World) :
    CallK Try.prog 99 #[ptr ob, .int .i64 n] w fun v w' => v = takeV w.heap.size (w.heap.size + 1) ∧ Ext noF w w' ∧ rd w' w.heap.size 0 = some (ptr ob) ∧ rd w' (w.heap.size + 1) 0 = some (.int .i64 n) ∧ w'.heap.size = w.heap.size + 2 := by
  refine calls_of_W [.tmp 4] Try.func99 rfl Try.ntmps99 Try.results99 (by simp) fun e he => ?_
  have e0 : e 0 = ptr ob := he 0 _ rfl
  have e1 : e 1 = .int .i64 n := he 1 _ rfl
  clear he
  refine W_sq fun K hK => (W_text [false, false, true] (by kernel_rfl) ?_); simp only [↓List.toList_toArray, ↓rgd, ↓rgf, ↓reduceIte, Nat.reduceEqDiff, rg]
  refine do_box (v := ptr ob) (by simp only [evt]; exact e0) fun w1 n1 => ⟨trivial, ?_⟩
  simp only [↓List.toList_toArray, ↓rgd, ↓rgf, ↓reduceIte, Nat.reduceEqDiff, rg]
  refine do_box (v := .int .i64 n) (by simp only [evt, upd_eq, Nat.reduceEqDiff, ↓reduceIte]; exact e1) fun w2 n2 => ⟨trivial, ?_⟩
  simp only [↓List.toList_toArray, ↓rgd, ↓rgf, ↓reduceIte, Nat.reduceEqDiff, rg]
  refine hK _ _ ?_; clear hK K
  have s1 := n1.size
  have s2 := n2.size
  have r1 : rd w2 w.heap.size 0 = some (ptr ob) := n2.ext.rd (Row.cons.1 (show Row w1 w.heap.size 0 [ptr ob] from n1.row)).1 fun h => h
  have r2 : rd w2 (w.heap.size + 1) 0 = some (.int .i64 n) := by rw [← s1]; exact (Row.cons.1 (show Row w2 w1.heap.size 0 [.int .i64 n] from n2.row)).1
  refine W_sq fun K hK => (W_text [true, true] (by kernel_rfl) ?_); simp only [↓List.toList_toArray, ↓rgd, ↓rgf, ↓reduceIte, Nat.reduceEqDiff, rg]
  refine hK _ _ ?_; clear hK K
  refine W_ret (endQ_1 (by simp only [upd_eq, Nat.reduceEqDiff, ↓reduceIte] <;> rfl) ⟨?_, n1.ext.tr n2.ext, r1, r2, by omega⟩)
  rw [takeV, s1, ptr_eq, ptr_eq]
/-- The same for items in interfaces: a function value that holds the other. -/
def takeA (c : Nat) : Value := .func (.func 100) #[] #[ptr c]
theorem z_fnA : zK Try.prog 121 = some [.nilFunc] := by kernel_rfl
theorem fn_takeA : isFn Try.prog 100 = true := by kernel_rfl
/-- What holds while items are kept. -/
def TS (c ob pb nb B : Nat) (n : Int) (done : List It) (w : World) : Prop := Kept B ob done w ∧ rd w pb 0 = some (ptr ob) ∧ rd w nb 0 = some (.int .i64 n) ∧ rd w c 0 = some (takeV pb nb)
set_option maxHeartbeats 400000 in
set_option maxRecDepth 8000 in
theorem takeA_any (c B ob pb nb : Nat) (n : Int) (done : List It) (x : It) (w : World) (h : TS c ob pb nb B n done w) (h1 : pb ≠ ob) (h2 : nb ≠ ob) (h3 : pb < B) (h4 : nb < B) (h5 : c ≠ ob) (h6 : c < B)
    (hbig : done.length < 4294967295) :
    CallK Try.prog 100 #[itV x, ptr c] w fun v w' => v = .bool (upTo n (done ++ [x])) ∧ TS c ob pb nb B n (done ++ [x]) w' ∧ Ext (outF B ob) w w' := by
  obtain ⟨hK0, hp, hn, hc⟩ := h
  refine calls_of_W [.tmp 3] Try.func100 rfl Try.ntmps100 Try.results100 (by simp) fun e he => ?_
  have e0 : e 0 = itV x := he 0 _ rfl
  have e1 : e 1 = ptr c := he 1 _ rfl
  clear he
  refine W_sq fun K hK => (W_text [true] (by kernel_rfl) ?_); simp only [↓List.toList_toArray, ↓rgd, ↓rgf, ↓reduceIte, Nat.reduceEqDiff, rg, ow_100]
  refine hK _ _ ?_; clear hK K
  have M1 : readsB (some (some [c])) c = true := by simp [readsB]
  have hle := hK0.le
  have hob := hK0.lt
  refine W_sq fun K hK => (W_draw (some (some [c])) none [(0, 0, 0), (0, 1, 0), (0, 2, 0), (1, 3, 0), (0, 4, 0)] mixed (by kernel_rfl) ?_); simp only [↓List.toList_toArray, ↓rgd, ↓rgf, ↓reduceIte, Nat.reduceEqDiff, rg, ow_100, e0, e1, ptr_eq, hc, tas_any, M1]
  rw [takeV_eq]
  refine do_callv (by simp only [evt, evc, upd_eq, Nat.reduceEqDiff, ↓reduceIte, ntT, ntF] <;> rfl) fn_take rfl (by simp only [evt, upd_eq, Nat.reduceEqDiff, ↓reduceIte, maT, maC, maN]; exact take_any B ob pb nb n done x _ (hK0.ext (Ext.dr noF w (w.drawn + 1))) ((Ext.dr noF w (w.drawn + 1)).rd hp fun h => h) ((Ext.dr noF w (w.drawn + 1)).rd hn fun h => h) h1 h2 h3 h4 hbig) ?_
  rintro _ w2 ⟨rfl, hK2, x2⟩
  refine ⟨.inr (keeps_on x2 fun y hy => ?_), ?_⟩
  · simp only [List.mem_cons, List.not_mem_nil, or_false] at hy
    subst hy
    exact ⟨by rw [sz_dr]; omega, fun _ g => by rcases g with g | g <;> omega⟩
  have x2 := x2.od
  simp only [↓List.toList_toArray, ↓rgd, ↓rgf, ↓reduceIte, Nat.reduceEqDiff, rg, ow_100]
  refine hK _ _ ?_; clear hK K
  have nF : ∀ y, y ≠ ob → y < B → ¬ outF B ob y 0 := fun y g1 g2 g => by rcases g with g | g <;> omega
  exact W_ret (endQ_1 (by simp only [upd_eq, Nat.reduceEqDiff, ↓reduceIte] <;> rfl) ⟨rfl, ⟨hK2, x2.rd hp (nF _ h1 h3), x2.rd hn (nF _ h2 h4), x2.rd hc (nF _ h5 h6)⟩, x2⟩)
set_option maxHeartbeats 400000 in
set_option maxRecDepth 8000 in
theorem takerA_mk (ob : Nat) (n : Int) (w : World) :
    CallK Try.prog 66 #[ptr ob, .int .i64 n] w fun v w' => ∃ c pb nb, v = takeA c ∧ Ext noF w w' ∧ rd w' pb 0 = some (ptr ob) ∧ rd w' nb 0 = some (.int .i64 n) ∧ rd w' c 0 = some (takeV pb nb) ∧ w.heap.size ≤ c ∧ w.heap.size ≤ pb ∧ w.heap.size ≤ nb ∧ c < w'.heap.size ∧ pb < w'.heap.size ∧ nb < w'.heap.size := by
  refine calls_of_W [.tmp 4] Try.func66 rfl Try.ntmps66 Try.results66 (by simp) fun e he => ?_
  have e0 : e 0 = ptr ob := he 0 _ rfl
  have e1 : e 1 = .int .i64 n := he 1 _ rfl
  clear he
  refine W_sq fun K hK => (W_text [true] (by kernel_rfl) ?_); simp only [↓List.toList_toArray, ↓rgd, ↓rgf, ↓reduceIte, Nat.reduceEqDiff, rg, ow_66]
  refine hK _ _ ?_; clear hK K
  refine W_sq fun K hK => (W_text [true, true, false, false, false] (by kernel_rfl) ?_); simp only [↓List.toList_toArray, ↓rgd, ↓rgf, ↓reduceIte, Nat.reduceEqDiff, rg, ow_66, e0, e1]
  refine do_call fn_99 (vs := #[ptr ob, .int .i64 n]) (by simp only [evt, evc, upd_eq, Nat.reduceEqDiff, ↓reduceIte, maT, maC, maN, isnN, isnS] <;> rfl) (taker_mk ob n w) ?_
  rintro _ w3 ⟨rfl, X3, p3, q3, s3⟩
  refine ⟨trivial, ?_⟩
  simp only [↓List.toList_toArray, ↓rgd, ↓rgf, ↓reduceIte, Nat.reduceEqDiff, rg, ow_66]
  refine do_alloc z_fnA fun w4 n4 => ⟨trivial, ?_⟩
  simp only [↓List.toList_toArray, ↓rgd, ↓rgf, ↓reduceIte, Nat.reduceEqDiff, rg, ow_66]
  refine do_store (v := takeV w.heap.size (w.heap.size + 1)) (by simp only [evt, evc, upd_eq, Nat.reduceEqDiff, ↓reduceIte, ntT, ntF] <;> rfl) (by simp only [evt, evc, upd_eq, Nat.reduceEqDiff, ↓reduceIte, ntT, ntF] <;> rfl) sz_121 rfl n4.wok (by decide) (oc_one rfl rfl) fun w5 x5 r5 s5 => ⟨trivial, ?_⟩
  simp only [↓List.toList_toArray, ↓rgd, ↓rgf, ↓reduceIte, Nat.reduceEqDiff, rg, ow_66]
  refine hK _ _ ?_; clear hK K
  have s4 := n4.size
  have X5 : Ext noF w w5 := noF_of (X3.tr n4.ext) x5 fun y o hy h => by simp only [rng] at h; omega
  have nr : ∀ y, y < w3.heap.size → ¬ rng w3.heap.size 0 1 y 0 := fun y hy h => by simp only [rng] at h; omega
  refine W_sq fun K hK => (W_text [true, true] (by kernel_rfl) ?_); simp only [↓List.toList_toArray, ↓rgd, ↓rgf, ↓reduceIte, Nat.reduceEqDiff, rg, ow_66]
  refine hK _ _ ?_; clear hK K
  refine W_ret (endQ_1 (by simp only [upd_eq, Nat.reduceEqDiff, ↓reduceIte] <;> rfl) ⟨w3.heap.size, w.heap.size, w.heap.size + 1, ?_, X5, x5.rd (n4.ext.rd p3 fun h => h) (nr _ (by omega)), x5.rd (n4.ext.rd q3 fun h => h) (nr _ (by omega)), (Row.cons.1 (show Row w5 w3.heap.size 0 [takeV w.heap.size (w.heap.size + 1)] from r5)).1, by omega, by omega, by omega, by omega, by omega, by omega⟩)
  rw [takeA, ptr_eq]
theorem TS.ext {c ob pb nb B : Nat} {n : Int} {done : List It} {w w' : World} (h : TS c ob pb nb B n done w) (x : Ext noF w w') : TS c ob pb nb B n done w' :=
  ⟨h.1.ext x, x.rd h.2.1 fun h => h, x.rd h.2.2.1 fun h => h, x.rd h.2.2.2 fun h => h⟩
theorem cb_take (c ob pb nb B : Nat) (n : Int) (h1 : pb ≠ ob) (h2 : nb ≠ ob) (h3 : pb < B) (h4 : nb < B) (h5 : c ≠ ob) (h6 : c < B) : Cb (takeA c) (outF B ob) (TS c ob pb nb B n) (upTo n) :=
  ⟨⟨_, #[], #[ptr c], rfl, fn_takeA, fun done x w hS hlen => takeA_any c B ob pb nb n done x w hS h1 h2 h3 h4 h5 h6 hlen⟩, fun _ _ _ hS x => hS.ext x⟩
end Go.Proofs.Ytanmjbkbdmeckaa
/-
  What a tree hands on, kept; all items of a tree. No condition.
-/
set_option linter.unusedSimpArgs false
set_option linter.unusedVariables false
namespace Go.Proofs.Ytanmjbkbdmeckaa
open Go Go.Proofs
theorem z_hint : zK Try.prog 85 = some [.bool false, .bool false, .bool false, .bool false, .bool false, .bool false, .bool false, .bool false, .int .u8 0, .int .u8 0, .int .u8 0, .int .u8 0, .int .u8 0, .int .u8 0, .int .u8 0, .int .u8 0] := by kernel_rfl
theorem hint_new {w w' : World} (h : New w w' [.bool false, .bool false, .bool false, .bool false, .bool false, .bool false, .bool false, .bool false, .int .u8 0, .int .u8 0, .int .u8 0, .int .u8 0, .int .u8 0, .int .u8 0, .int .u8 0, .int .u8 0]) : HintAt w' w.heap.size := by
  refine ⟨h.wok, fun i hi => ⟨false, ?_⟩, fun i hi => ⟨0, by omega, ?_⟩⟩
  · have : i = 0 ∨ i = 1 ∨ i = 2 ∨ i = 3 ∨ i = 4 ∨ i = 5 ∨ i = 6 ∨ i = 7 := by omega
    have := h.row i (.bool false) (by rcases this with rfl | rfl | rfl | rfl | rfl | rfl | rfl | rfl <;> rfl)
    rwa [Nat.zero_add] at this
  · have : i = 0 ∨ i = 1 ∨ i = 2 ∨ i = 3 ∨ i = 4 ∨ i = 5 ∨ i = 6 ∨ i = 7 := by omega
    have := h.row (8 + i) (.int .u8 0) (by rcases this with rfl | rfl | rfl | rfl | rfl | rfl | rfl | rfl <;> rfl)
    rwa [Nat.zero_add] at this
theorem Cb.mono {f : Value} {G G' : Nat → Nat → Prop} {S : List It → World → Prop} {go : List It → Bool} (h : Cb f G S go) (hG : ∀ y o, G y o → G' y o) : Cb f G' S go := by
  obtain ⟨⟨g, first, cap, h1, h2, h3⟩, h4⟩ := h
  exact ⟨⟨g, first, cap, h1, h2, fun done x w hS hl => CallK_mono (h3 done x w hS hl) fun v w' ⟨a, b, c⟩ => ⟨a, b, c.mono fun y o _ g => hG y o g⟩⟩, h4⟩
theorem Kept.extH {B ob : Nat} {done : List It} {w w' : World} {G : Nat → Nat → Prop} (h : Kept B ob done w) (x : Ext G w w') (hG : ∀ y o, G y o → y ≠ ob ∧ y < B) : Kept B ob done w' := by
  obtain ⟨sv, h1, h2, h3⟩ := h.var
  exact ⟨⟨sv, x.rd h1 (fun g => (hG _ _ g).1 rfl), h2.ext x fun b o c hv i _ g => by have := h3 _ _ _ _ hv; have := (hG _ _ g).2; omega, h3⟩, x.wok h.wok, h.lt, Nat.le_trans h.le x.size⟩
theorem z_sl : zK Try.prog 25 = some [.slice none 0 0] := by kernel_rfl
theorem firstN_0 {α : Type} (l : List α) : firstN 0 l = l := by unfold firstN; rw [if_pos (.inl (by decide))]
/-- What is there when a tree, a function that keeps items and a hint (or none) have been made, in whatever order. -/
structure Ready (B0 ob c pb nb : Nat) (hp : Option Nat) (B m : Nat) (F : Nat → Nat → Prop) (n : Int) (w : World) : Prop where
  out : rd w ob 0 = some (.slice none 0 0)
  wout : wok w ob 1
  rpb : rd w pb 0 = some (ptr ob)
  rnb : rd w nb 0 = some (.int .i64 n)
  rc : rd w c 0 = some (takeV pb nb)
  lt : B0 ≤ ob ∧ c ≠ ob ∧ pb ≠ ob ∧ nb ≠ ob ∧ m ≠ ob ∧ c < w.heap.size ∧ pb < w.heap.size ∧ nb < w.heap.size ∧ m < w.heap.size
  hlt : ∀ hb, hp = some hb → B0 ≤ hb ∧ hb < w.heap.size ∧ hb ≠ ob ∧ c ≠ hb ∧ pb ≠ hb ∧ nb ≠ hb ∧ m ≠ hb ∧ (m ≤ hb ∨ hb < B)
  off : ∀ y o, F y o → y ≠ ob ∧ y < w.heap.size ∧ ∀ hb, hp = some hb → y ≠ hb
set_option maxHeartbeats 400000 in
set_option maxRecDepth 8000 in
theorem ready_go {B0 ob c pb nb : Nat} {hp : Option Nat} {B m : Nat} {ys : List It} {F : Nat → Nat → Prop} {n : Int} {w0 w : World} {fn : Nat} {args : Value → Array Value} (hR : Ready B0 ob c pb nb hp B m F n w) (X : Ext noF w0 w) (h0 : B0 = w0.heap.size)
    (hs : Scans fn args hp B m ys F w) :
    CallK Try.prog fn (args (takeA c)) w fun _ w' => Ext noF w0 w' ∧ ∃ sv, rd w' ob 0 = some sv ∧ SlI w' sv (firstN n ys) := by
  obtain ⟨l0, l1, l2, l3, l4, l5, l6, l7, l8⟩ := hR.lt
  have hob := wok_lt hR.wout
  have hKp : Kept w.heap.size ob [] w := ⟨⟨_, hR.out, ⟨rfl, .inl ⟨rfl, rfl⟩⟩, fun b o n c h => by cases h⟩, hR.wout, by omega, Nat.le_refl _⟩
  have C := (cb_take c ob pb nb w.heap.size n (by omega) (by omega) (by omega) (by omega) (by omega) (by omega)).mono (G' := fun y o => outF w.heap.size ob y o ∨ hp = some y) fun _ _ g => .inl g
  refine CallK_mono (hs _ _ _ _ C (fun o g => ?_) (fun y h => ⟨(hR.hlt y h).2.2.2.2.2.2.2, fun o => .inr h⟩) (fun done w1 w2 hS x => ?_) (fun y o o' hy g => ?_) ⟨hKp, hR.rpb, hR.rnb, hR.rc⟩) ?_
  · rcases g with (g | g) | g
    · omega
    · omega
    · exact (hR.hlt _ g).2.2.2.2.2.2.1 rfl
  · have q : ∀ y, Go.Proofs.Ytanmjbkbdmeckaa.hF hp y 0 → y ≠ ob ∧ y < w.heap.size ∧ c ≠ y ∧ pb ≠ y ∧ nb ≠ y := fun y g => by
      have := hR.hlt y g; omega
    refine ⟨hS.1.extH x fun y o g => ⟨(q y g).1, (q y g).2.1⟩, x.rd hS.2.1 fun g => (q _ g).2.2.2.1 rfl, x.rd hS.2.2.1 fun g => (q _ g).2.2.2.2 rfl, x.rd hS.2.2.2 fun g => (q _ g).2.2.1 rfl⟩
  · have h1 := hR.off y o hy
    rcases g with (g | g) | g
    · omega
    · omega
    · exact h1.2.2 _ g rfl
  rintro _ w' ⟨⟨hK4, _⟩, X4⟩
  obtain ⟨sv, h1, h2, _⟩ := hK4.var
  rw [hand_upTo_nil] at h2
  refine ⟨noF_of X X4 fun y o hy g => ?_, sv, h1, h2⟩
  have := X.size
  rcases g with (g | g) | g
  · omega
  · omega
  · have := hR.hlt y g; omega
set_option maxHeartbeats 800000 in
set_option maxRecDepth 8000 in
theorem allOf_any (t B m d : Nat) (ord : List Int) (hd : 2 ≤ d) (iso : Int) (xs : List It) (F : Nat → Nat → Prop) (w : World) (ht : BAt w t m) (hM : TreeAt B ord w m d iso xs F) (hbig : xs.length ≤ 4294967295) :
    CallK Try.prog 56 #[ptr t] w fun v w' => SlI w' v xs ∧ Ext noF w w' := by
  refine calls_of_W [.tmp 2] Try.func56 rfl Try.ntmps56 Try.results56 (by simp) fun e he => ?_
  have e0 : e 0 = ptr t := he 0 _ rfl
  clear he
  refine W_sq fun K hK => (W_text [true] (by kernel_rfl) ?_); simp only [↓List.toList_toArray, ↓rgd, ↓rgf, ↓reduceIte, Nat.reduceEqDiff, rg, ow_56]
  refine hK _ _ ?_; clear hK K
  refine W_sq fun K hK => (W_text [false] (by kernel_rfl) ?_); simp only [↓List.toList_toArray, ↓rgd, ↓rgf, ↓reduceIte, Nat.reduceEqDiff, rg, ow_56]
  refine do_alloc z_sl fun w1 n1 => ⟨trivial, ?_⟩
  simp only [↓List.toList_toArray, ↓rgd, ↓rgf, ↓reduceIte, Nat.reduceEqDiff, rg, ow_56]
  refine hK _ _ ?_; clear hK K
  have s1 := n1.size
  have hml := hM.mlt
  have hlt := hM.lt
  refine W_sq fun K hK => (W_text [true, false, false] (by kernel_rfl) ?_); simp only [↓List.toList_toArray, ↓rgd, ↓rgf, ↓reduceIte, Nat.reduceEqDiff, rg, ow_56, e0]
  refine do_call fn_66 (vs := #[ptr w.heap.size, .int .i64 0]) (by simp only [evt, evc, upd_eq, Nat.reduceEqDiff, ↓reduceIte, maT, maC, maN, isnN, isnS] <;> rfl) (takerA_mk w.heap.size 0 w1) ?_
  rintro _ w2 ⟨c, pb, nb, rfl, X2, h1, h2, h3, h4, h5, h6, h7, h8, h9⟩
  refine ⟨trivial, ?_⟩
  simp only [↓List.toList_toArray, ↓rgd, ↓rgf, ↓reduceIte, Nat.reduceEqDiff, rg, ow_56]
  have X12 := n1.ext.tr X2
  refine do_call fn_64 (vs := #[ptr t, itO none, takeA c]) (by simp only [evt, evc, upd_eq, Nat.reduceEqDiff, ↓reduceIte, maT, maC, maN, isnN, isnS] <;> rfl) (ready_go (fn := 64) (args := fun f => #[ptr t, itO none, f]) (n := 0) ⟨X2.rd (Row.cons.1 n1.row).1 fun h => h, X2.wok n1.wok, h1, h2, h3, by have := X2.size; omega, (fun _ h => by cases h), fun y o hy => ⟨by have := hlt y o hy; omega, by have := hlt y o hy; have := X2.size; omega, fun _ h => by cases h⟩⟩ X12 rfl
    (T_Ascend_s t B m d ord hd iso xs F none w2 (hM.ext X12) hbig (X12.rd ht fun h => h))) ?_
  rintro _ w3 ⟨X3, sv, hv, hS⟩
  refine ⟨trivial, ?_⟩
  simp only [↓List.toList_toArray, ↓rgd, ↓rgf, ↓reduceIte, Nat.reduceEqDiff, rg, ow_56]
  refine hK _ _ ?_; clear hK K
  refine W_sq fun K hK => (W_text [true, true] (by kernel_rfl) ?_); simp only [↓List.toList_toArray, ↓rgd, ↓rgf, ↓reduceIte, Nat.reduceEqDiff, rg, ow_56, hv]
  refine hK _ _ ?_; clear hK K
  refine W_ret (endQ_1 (by simp only [upd_eq, Nat.reduceEqDiff, ↓reduceIte] <;> rfl) ⟨?_, X3⟩)
  rw [firstN_0] at hS
  exact hS
/-- A pivot, none for all. -/
def pvO (all : Bool) (q : It) : Option It := if all = true then none else some q
set_option maxHeartbeats 800000 in
set_option maxRecDepth 8000 in
theorem from_any (all : Bool) (q : It) (w : World) :
    CallK Try.prog 65 #[.bool all, iV q] w fun v w' => v = itO (pvO all q) ∧ Ext noF w w' := by
  refine calls_of_W [.tmp 4] Try.func65 rfl Try.ntmps65 Try.results65 (by simp) fun e he => ?_
  have e0 : e 0 = .bool all := he 0 _ rfl
  have e1 : e 1 = iV q := he 1 _ rfl
  clear he
  refine W_sq fun K hK => (W_text [false, true] (by kernel_rfl) ?_); simp only [↓List.toList_toArray, ↓rgd, ↓rgf, ↓reduceIte, Nat.reduceEqDiff, rg, ow_65]
  refine do_box (by simp only [evt]; exact e1) fun w1 n1 => ⟨trivial, ?_⟩
  simp only [↓List.toList_toArray, ↓rgd, ↓rgf, ↓reduceIte, Nat.reduceEqDiff, rg, ow_65]
  refine hK _ _ ?_; clear hK K
  have bx : rdA w1 w.heap.size 0 2 = some (iV q) := n1.row.rdA 2 (by show 2 ≤ 2; omega)
  refine W_seq ?_
  cases all with
  | true =>
    refine W_sq fun K hK => (W_text [true] (by kernel_rfl) ?_); simp only [↓List.toList_toArray, ↓rgd, ↓rgf, ↓reduceIte, Nat.reduceEqDiff, rg, ow_65, e0]
    refine hK _ _ ?_; clear hK K
    refine W_true (by simp only [evt, evc, upd_eq, Nat.reduceEqDiff, ↓reduceIte, ntT, ntF] <;> rfl) ?_
    refine W_sq fun K hK => (W_text [true] (by kernel_rfl) ?_); simp only [↓List.toList_toArray, ↓rgd, ↓rgf, ↓reduceIte, Nat.reduceEqDiff, rg, ow_65]
    refine hK _ _ ?_; clear hK K
    refine W_ret ?_
    simp only [andThen_ret]
    exact endQ_1 (by simp only [upd_eq, Nat.reduceEqDiff, ↓reduceIte] <;> rfl) ⟨rfl, n1.ext⟩
  | false =>
    refine W_sq fun K hK => (W_text [true] (by kernel_rfl) ?_); simp only [↓List.toList_toArray, ↓rgd, ↓rgf, ↓reduceIte, Nat.reduceEqDiff, rg, ow_65, e0]
    refine hK _ _ ?_; clear hK K
    refine W_false (by simp only [evt, evc, upd_eq, Nat.reduceEqDiff, ↓reduceIte, ntT, ntF] <;> rfl) (W_skip ?_)
    show W _ _ _ _ _ _
    refine W_sq fun K hK => (W_text [true, true, true] (by kernel_rfl) ?_); simp only [↓List.toList_toArray, ↓rgd, ↓rgf, ↓reduceIte, Nat.reduceEqDiff, rg, ow_65, bx]
    refine hK _ _ ?_; clear hK K
    exact W_ret (endQ_1 (by simp only [upd_eq, Nat.reduceEqDiff, ↓reduceIte] <;> rfl) ⟨rfl, n1.ext⟩)
end Go.Proofs.Ytanmjbkbdmeckaa
/-
  The moves of an iterator with what they keep. No condition.
-/
set_option linter.unusedSimpArgs false
set_option linter.unusedVariables false
namespace Go.Proofs.Ytanmjbkbdmeckaa
open Go Go.Proofs
/-- Moves as cells. -/
def Em : Enc (Int × It) where
  cel x := [.int .i64 x.1, .int .i64 x.2.1, .int .i64 x.2.2]
  sz := 3
  len _ := rfl
  one x v hv := by simp at hv; rcases hv with rfl | rfl | rfl <;> rfl
  pos := by decide
def mvV (x : Int × It) : Value := .agg #[.int .i64 x.1, .int .i64 x.2.1, .int .i64 x.2.2]
theorem mv_at {w : World} {b o : Nat} {l : List (Int × It)} (h : Row w b o (flat Em l)) {i : Nat} {x : Int × It} (hi : l[i]? = some x) : rdA w b (o + i * 3) 3 = some (mvV x) :=
  (row_at Em h hi).rdA 3 (by simp [Em])
theorem z_mv : zK Try.prog 72 = some [.int .i64 0, .int .i64 0, .int .i64 0] := by kernel_rfl
/-- What holds all the while. -/
structure Bs (m : Nat) (F : Nat → Nat → Prop) (ib sb0 hb : Nat) (w1 : World) : Prop where
  off : ∀ y o, (y = ib ∨ y = sb0 ∨ w1.heap.size ≤ y) → m < y ∧ ¬ F y o
  il : ib < w1.heap.size
  sl : sb0 < w1.heap.size
  hl : w1.heap.size ≤ hb
/-- An iterator at p, a hint, what was answered so far. -/
structure MvS (B : Nat) (ord : List Int) (m d : Nat) (iso : Int) (X : List It) (F : Nat → Nat → Prop) (mu : Bool) (ib sb0 hb : Nat) (w1 : World) (ov : Value) (P : List (Option It)) (p : Option Nat) (w : World) : Prop where
  ex : ∃ full sb so cap, ItS ib m mu full sb so cap w ∧ PosT m d iso X F ib w full p ∧ (sb = sb0 ∨ w1.heap.size ≤ sb) ∧ sb ≠ hb ∧ ∀ b o n c, ov = .slice (some ⟨b, o, none⟩) n c → b ≠ sb
  tree : TreeAt B ord w m d iso X F
  hint : HOk (some hb) w
  out : Outs w1.heap.size ov (P.map foO) w
  oh : ∀ b o n c, ov = .slice (some ⟨b, o, none⟩) n c → b ≠ hb
  ext : Ext (fun y _ => y = ib ∨ y = sb0 ∨ w1.heap.size ≤ y) w1 w
theorem MvS.ext0 {B : Nat} {ord : List Int} {m d : Nat} {iso : Int} {X : List It} {F : Nat → Nat → Prop} {mu : Bool} {ib sb0 hb : Nat} {w1 : World} {ov : Value} {P : List (Option It)} {p : Option Nat} {w w' : World} (s : MvS B ord m d iso X F mu ib sb0 hb w1 ov P p w) (x : Ext noF w w') : MvS B ord m d iso X F mu ib sb0 hb w1 ov P p w' := by
  obtain ⟨⟨full, sb, so, cap, h1, h2, h3, h4, h5⟩, g2, g3, g4, g5, g6⟩ := s
  exact ⟨⟨full, sb, so, cap, h1.ext0 x, h2.ext x (fun h => h) (fun h => h) (fun _ _ _ h => h), h3, h4, h5⟩, g2.ext x, g3.ext0 x, g4.ext x, g5, g6.tr (x.mono fun _ _ _ g => g.elim)⟩
theorem Outs.blt {B : Nat} {v : Value} {l : List (It × Bool)} {w : World} (h : Outs B v l w) {b o n c : Nat} (hv : v = .slice (some ⟨b, o, none⟩) n c) : b < w.heap.size := by
  rcases h.sl.2 with ⟨g, _⟩ | ⟨b', o', c', g, _, _, hw⟩
  · rw [hv] at g; cases g
  · rw [hv] at g
    simp only [Value.slice.injEq, Option.some.injEq, Addr.mk.injEq, and_true] at g
    rw [g.1.1]; exact wokR_lt hw
/-- Behind a move. -/
theorem MvS.after {B : Nat} {ord : List Int} {m d : Nat} {iso : Int} {X : List It} {F : Nat → Nat → Prop} {mu : Bool} {ib sb0 hb : Nat} {w1 : World} {ov : Value} {P : List (Option It)} {p : Option Nat} {p' : Option Nat} {v : Value} {w w' : World} {HG : Nat → Nat → Prop} {full : List (Nat × Int)} {sb so cap : Nat} (s : MvS B ord m d iso X F mu ib sb0 hb w1 ov P p w) (bs : Bs m F ib sb0 hb w1) (hI : ItS ib m mu full sb so cap w) (hs : sb = sb0 ∨ w1.heap.size ≤ sb) (hsb : sb ≠ hb) (hob : ∀ b o n c, ov = .slice (some ⟨b, o, none⟩) n c → b ≠ sb)
    (q : MvQ B ord m d iso X F HG mu ib sb w p' v w') (hg : ∀ y o, HG y o → hb = y) (HH : HOk (some hb) w') : MvS B ord m d iso X F mu ib sb0 hb w1 ov P p' w' := by
  obtain ⟨-, -, T, ⟨full', ⟨sb', so', cap', hI', hs', x⟩, hp'⟩, -⟩ := q
  have sx := s.ext.size
  have hbl := wok_lt (s.hint hb rfl).wok
  have hil := bs.il
  have hhl := bs.hl
  refine ⟨⟨full', sb', so', cap', hI', hp', by omega, by omega, fun b o n c hv => ?_⟩, T, HH, ⟨s.out.sl.ext x fun b o cp hv j _ g => ?_, s.out.si⟩, s.oh, s.ext.trans x (fun _ _ g => g) fun y o hy g => ?_⟩
  · have := s.out.blt hv
    have := hob b o n c hv
    omega
  · have h1 := s.out.si _ _ _ _ hv
    have h2 := hob _ _ _ _ hv
    have h3 := s.oh _ _ _ _ hv
    rcases g with g | g | g
    · omega
    · exact h2 g
    · exact h3 (hg _ _ g).symm
  · rcases g with g | g | g
    · exact .inl g
    · rcases hs with h | h
      · exact .inr (.inl (g.trans h))
      · exact .inr (.inr (by omega))
    · have := hg _ _ g; exact .inr (.inr (by omega))
theorem MvS.g {B : Nat} {ord : List Int} {m d : Nat} {iso : Int} {X : List It} {F : Nat → Nat → Prop} {mu : Bool} {ib sb0 hb : Nat} {w1 : World} {ov : Value} {P : List (Option It)} {p : Option Nat} {w : World} {HG : Nat → Nat → Prop} {sb : Nat} (s : MvS B ord m d iso X F mu ib sb0 hb w1 ov P p w) (bs : Bs m F ib sb0 hb w1) (hs : sb = sb0 ∨ w1.heap.size ≤ sb) (hg : ∀ y o, HG y o → hb = y) : ∀ y o, itF HG ib sb y o → m < y ∧ ¬ F y o := fun y o g => by
  have hhl := bs.hl
  refine bs.off y o ?_
  rcases g with g | g | g
  · exact .inl g
  · omega
  · have := hg _ _ g; omega
/-- A move without a hint keeps the hint. -/
theorem MvS.hk {B : Nat} {ord : List Int} {m d : Nat} {iso : Int} {X : List It} {F : Nat → Nat → Prop} {mu : Bool} {ib sb0 hb : Nat} {w1 : World} {ov : Value} {P : List (Option It)} {p : Option Nat} {p' : Option Nat} {v : Value} {w w' : World} {sb : Nat} (s : MvS B ord m d iso X F mu ib sb0 hb w1 ov P p w) (bs : Bs m F ib sb0 hb w1) (hsb : sb ≠ hb) (q : MvQ B ord m d iso X F noF mu ib sb w p' v w') : HOk (some hb) w' := by
  obtain ⟨_, _, _, ⟨_, i, _⟩, _⟩ := q
  have hil := bs.il
  have hhl := bs.hl
  exact s.hint.ext i.x fun hb' hh o g => by
    cases hh
    rcases g with g | g | g
    · omega
    · exact hsb g.symm
    · exact g
/-- One more answer. -/
theorem MvS.app {B : Nat} {ord : List Int} {m d : Nat} {iso : Int} {X : List It} {F : Nat → Nat → Prop} {mu : Bool} {ib sb0 hb : Nat} {w1 : World} {ov : Value} {P : List (Option It)} {p : Option Nat} {ov' : Value} {q : Option It} {w w' : World} (s : MvS B ord m d iso X F mu ib sb0 hb w1 ov P p w) (bs : Bs m F ib sb0 hb w1) (a : AppRes w 3 ov (P.map foO).length 1 (flat Ef (P.map foO)) (Ef.cel (foO q)) ov' w') : MvS B ord m d iso X F mu ib sb0 hb w1 ov' (P ++ [q]) p w' := by
  have sx := s.ext.size
  obtain ⟨hO, -⟩ := s.out.app a sx
  have hO : Outs w1.heap.size ov' ((P ++ [q]).map foO) w' := by rw [List.map_append, List.map_singleton]; exact hO
  have hbl := wok_lt (s.hint hb rfl).wok
  obtain ⟨⟨full, sb, so, cap, h1, h2, h3, h4, h5⟩, g2, g3, g4, g5, g6⟩ := s
  have hil := bs.il
  have hsbl := wok_lt h1.st.wi
  have key : ∃ G : Nat → Nat → Prop, Ext G w w' ∧ (∀ y o, G y o → y ≠ ib ∧ y ≠ sb ∧ y ≠ hb ∧ w1.heap.size ≤ y) ∧ ∀ b o n c, ov' = .slice (some ⟨b, o, none⟩) n c → b ≠ sb ∧ b ≠ hb := by
    rcases a.2 with ⟨rfl, rfl, h⟩ | ⟨b0, o0, c0, rfl, rfl, x, hz, _⟩ | ⟨c0, rfl, x, hz, _⟩
    · exact ⟨noF, Ext.refl _ _, fun _ _ g => g.elim, fun b o n c hv => ⟨h5 b o n c hv, g5 b o n c hv⟩⟩
    · have e1 := h5 _ _ _ _ rfl
      have e2 := g5 _ _ _ _ rfl
      have e3 := g4.si _ _ _ _ rfl
      refine ⟨_, x, fun y o g => ?_, fun b o n c hv => ?_⟩
      · have := g.1; refine ⟨by omega, by omega, by omega, by omega⟩
      · simp only [Value.slice.injEq, Option.some.injEq, Addr.mk.injEq, and_true] at hv
        rw [← hv.1.1]; exact ⟨e1, e2⟩
    · refine ⟨noF, x, fun _ _ g => g.elim, fun b o n c hv => ?_⟩
      simp only [Value.slice.injEq, Option.some.injEq, Addr.mk.injEq, and_true] at hv
      rw [← hv.1.1]; exact ⟨by omega, by omega⟩
  obtain ⟨G, x, hG, hb'⟩ := key
  have hFG : ∀ y o, F y o → ¬ G y o := fun y o g k => (bs.off y o (.inr (.inr (hG y o k).2.2.2))).2 g
  have hmG : ∀ y o, G y o → m < y := fun y o k => (bs.off y o (.inr (.inr (hG y o k).2.2.2))).1
  exact ⟨⟨full, sb, so, cap, h1.ext x (fun o g => (hG _ o g).1 rfl) (fun o g => (hG _ o g).2.1 rfl), h2.ext x (fun g => (hG _ _ g).1 rfl) (fun g => Nat.lt_irrefl _ (hmG _ _ g)) hFG, h3, h4, fun b o n c hv => (hb' b o n c hv).1⟩, g2.extG x hFG hmG, g3.ext x fun hb2 hh o g => by cases hh; exact (hG _ o g).2.2.1 rfl, hO, fun b o n c hv => (hb' b o n c hv).2,
    g6.trans x (fun _ _ g => g) fun y o _ g => .inr (.inr (hG y o g).2.2.2)⟩
set_option maxHeartbeats 800000 in
set_option maxRecDepth 8000 in
theorem mv_first {B : Nat} {ord : List Int} {m d : Nat} {iso : Int} {X : List It} {F : Nat → Nat → Prop} {mu : Bool} {ib sb0 hb : Nat} {w1 : World} {ov : Value} {P : List (Option It)} {p : Option Nat} {w : World} (s : MvS B ord m d iso X F mu ib sb0 hb w1 ov P p w) (bs : Bs m F ib sb0 hb w1) (hd : 2 ≤ d) (hd' : d ≤ 128) (hbig : X.length ≤ 2147483648) (mv : Int × It) (hop : ¬ mv.1 = 1 ∧ ¬ mv.1 = 2 ∧ ¬ mv.1 = 3 ∧ ¬ mv.1 = 4 ∧ ¬ mv.1 = 5) :
    CallK Try.prog 131 #[ptr ib] w fun v w' => ∃ p', v = .bool p'.isSome ∧ MvS B ord m d iso X F mu ib sb0 hb w1 ov P p' w' ∧ Goes X (fun k : It => lb O (rkI ord) (rkI ord k) X) p mv p' ∧ ∀ k x, p' = some k → X[k]? = some x → Row w' ib 15 (E.cel x) := by
  obtain ⟨full, sb, so, cap, hI, hp, hs, hsb, hob⟩ := s.ex
  have hG := s.g (HG := noF) bs hs (fun _ _ g => g.elim)
  refine calls_of_W [.tmp 2] Try.func131 rfl Try.ntmps131 Try.results131 (by simp) fun e he => ?_
  have e0 : e 0 = ptr ib := he 0 _ rfl
  clear he
  refine W_sq fun K hK => (W_text [true] (by kernel_rfl) ?_); simp only [↓List.toList_toArray, ↓rgd, ↓rgf, ↓reduceIte, Nat.reduceEqDiff, rg, ow_131]
  refine hK _ _ ?_; clear hK K
  refine W_sq fun K hK => (W_text [true, true, true, false, true] (by kernel_rfl) ?_); simp only [↓List.toList_toArray, ↓rgd, ↓rgf, ↓reduceIte, Nat.reduceEqDiff, rg, ow_131, e0, ptr_eq]
  refine do_call fn_160 (vs := #[ptr ib]) (by simp only [evt, evc, upd_eq, Nat.reduceEqDiff, ↓reduceIte, maT, maC, maN, isnN, isnS] <;> rfl) (ifirst_any B m d ord hd hd' iso X F noF mu ib sb so cap full w s.tree hG hI hbig) ?_
  intro v w' q
  have q := (show _ from ⟨_, q.1, s.after bs hI hs hsb hob q (fun _ _ g => g.elim) (s.hk bs hsb q), ⟨q.2.1, fun _ => (stepI_0 hop).symm⟩, q.2.2.2.2⟩ : ∃ p', v = .bool p'.isSome ∧ MvS B ord m d iso X F mu ib sb0 hb w1 ov P p' w' ∧ Goes X (fun k : It => lb O (rkI ord) (rkI ord k) X) p mv p' ∧ ∀ k x, p' = some k → X[k]? = some x → Row w' ib 15 (E.cel x))
  refine ⟨trivial, ?_⟩
  simp only [↓List.toList_toArray, ↓rgd, ↓rgf, ↓reduceIte, Nat.reduceEqDiff, rg, ow_131]
  refine hK _ _ ?_; clear hK K
  exact W_ret (endQ_1 (by simp only [upd_eq, Nat.reduceEqDiff, ↓reduceIte] <;> rfl) q)
set_option maxHeartbeats 800000 in
set_option maxRecDepth 8000 in
theorem mv_last {B : Nat} {ord : List Int} {m d : Nat} {iso : Int} {X : List It} {F : Nat → Nat → Prop} {mu : Bool} {ib sb0 hb : Nat} {w1 : World} {ov : Value} {P : List (Option It)} {p : Option Nat} {w : World} (s : MvS B ord m d iso X F mu ib sb0 hb w1 ov P p w) (bs : Bs m F ib sb0 hb w1) (hd : 2 ≤ d) (hd' : d ≤ 128) (hbig : X.length ≤ 2147483648) (mv : Int × It) (hop : mv.1 = 1) :
    CallK Try.prog 126 #[ptr ib] w fun v w' => ∃ p', v = .bool p'.isSome ∧ MvS B ord m d iso X F mu ib sb0 hb w1 ov P p' w' ∧ Goes X (fun k : It => lb O (rkI ord) (rkI ord k) X) p mv p' ∧ ∀ k x, p' = some k → X[k]? = some x → Row w' ib 15 (E.cel x) := by
  obtain ⟨full, sb, so, cap, hI, hp, hs, hsb, hob⟩ := s.ex
  have hG := s.g (HG := noF) bs hs (fun _ _ g => g.elim)
  refine calls_of_W [.tmp 2] Try.func126 rfl Try.ntmps126 Try.results126 (by simp) fun e he => ?_
  have e0 : e 0 = ptr ib := he 0 _ rfl
  clear he
  refine W_sq fun K hK => (W_text [true] (by kernel_rfl) ?_); simp only [↓List.toList_toArray, ↓rgd, ↓rgf, ↓reduceIte, Nat.reduceEqDiff, rg, ow_126]
  refine hK _ _ ?_; clear hK K
  refine W_sq fun K hK => (W_text [true, true, true, false, true] (by kernel_rfl) ?_); simp only [↓List.toList_toArray, ↓rgd, ↓rgf, ↓reduceIte, Nat.reduceEqDiff, rg, ow_126, e0, ptr_eq]
  refine do_call fn_155 (vs := #[ptr ib]) (by simp only [evt, evc, upd_eq, Nat.reduceEqDiff, ↓reduceIte, maT, maC, maN, isnN, isnS] <;> rfl) (ilast_any B m d ord hd hd' iso X F noF mu ib sb so cap full w s.tree hG hI hbig) ?_
  intro v w' q
  have q := (show _ from ⟨_, q.1, s.after bs hI hs hsb hob q (fun _ _ g => g.elim) (s.hk bs hsb q), ⟨q.2.1, fun _ => (stepI_1 hop).symm⟩, q.2.2.2.2⟩ : ∃ p', v = .bool p'.isSome ∧ MvS B ord m d iso X F mu ib sb0 hb w1 ov P p' w' ∧ Goes X (fun k : It => lb O (rkI ord) (rkI ord k) X) p mv p' ∧ ∀ k x, p' = some k → X[k]? = some x → Row w' ib 15 (E.cel x))
  refine ⟨trivial, ?_⟩
  simp only [↓List.toList_toArray, ↓rgd, ↓rgf, ↓reduceIte, Nat.reduceEqDiff, rg, ow_126]
  refine hK _ _ ?_; clear hK K
  exact W_ret (endQ_1 (by simp only [upd_eq, Nat.reduceEqDiff, ↓reduceIte] <;> rfl) q)
set_option maxHeartbeats 800000 in
set_option maxRecDepth 8000 in
theorem mv_next {B : Nat} {ord : List Int} {m d : Nat} {iso : Int} {X : List It} {F : Nat → Nat → Prop} {mu : Bool} {ib sb0 hb : Nat} {w1 : World} {ov : Value} {P : List (Option It)} {p : Option Nat} {w : World} (s : MvS B ord m d iso X F mu ib sb0 hb w1 ov P p w) (bs : Bs m F ib sb0 hb w1) (hd : 2 ≤ d) (hd' : d ≤ 128) (hbig : X.length ≤ 2147483648) (mv : Int × It) (hop : mv.1 = 2) :
    CallK Try.prog 127 #[ptr ib] w fun v w' => ∃ p', v = .bool p'.isSome ∧ MvS B ord m d iso X F mu ib sb0 hb w1 ov P p' w' ∧ Goes X (fun k : It => lb O (rkI ord) (rkI ord k) X) p mv p' ∧ ∀ k x, p' = some k → X[k]? = some x → Row w' ib 15 (E.cel x) := by
  obtain ⟨full, sb, so, cap, hI, hp, hs, hsb, hob⟩ := s.ex
  have hG := s.g (HG := noF) bs hs (fun _ _ g => g.elim)
  refine calls_of_W [.tmp 2] Try.func127 rfl Try.ntmps127 Try.results127 (by simp) fun e he => ?_
  have e0 : e 0 = ptr ib := he 0 _ rfl
  clear he
  refine W_sq fun K hK => (W_text [true] (by kernel_rfl) ?_); simp only [↓List.toList_toArray, ↓rgd, ↓rgf, ↓reduceIte, Nat.reduceEqDiff, rg, ow_127]
  refine hK _ _ ?_; clear hK K
  refine W_sq fun K hK => (W_text [true, true, true, false, true] (by kernel_rfl) ?_); simp only [↓List.toList_toArray, ↓rgd, ↓rgf, ↓reduceIte, Nat.reduceEqDiff, rg, ow_127, e0, ptr_eq]
  refine do_call fn_156 (vs := #[ptr ib]) (by simp only [evt, evc, upd_eq, Nat.reduceEqDiff, ↓reduceIte, maT, maC, maN, isnN, isnS] <;> rfl) (inext_any B m d ord hd hd' iso X F noF mu ib sb so cap full w s.tree hG hI hbig p hp) ?_
  intro v w' q
  have q := (show _ from (by
    obtain ⟨p', q, q1, q2⟩ := q
    refine ⟨p', q.1, s.after bs hI hs hsb hob q (fun _ _ g => g.elim) (s.hk bs hsb q), ⟨q.2.1, fun ht => ?_⟩, q.2.2.2.2⟩
    rw [toldI_r (by omega)] at ht
    rw [stepI_2 hop]
    cases p with
    | some k => exact q1 k rfl
    | none =>
      have hX : X = [] := by simpa using ht
      exact q2 rfl hX) : ∃ p', v = .bool p'.isSome ∧ MvS B ord m d iso X F mu ib sb0 hb w1 ov P p' w' ∧ Goes X (fun k : It => lb O (rkI ord) (rkI ord k) X) p mv p' ∧ ∀ k x, p' = some k → X[k]? = some x → Row w' ib 15 (E.cel x))
  refine ⟨trivial, ?_⟩
  simp only [↓List.toList_toArray, ↓rgd, ↓rgf, ↓reduceIte, Nat.reduceEqDiff, rg, ow_127]
  refine hK _ _ ?_; clear hK K
  exact W_ret (endQ_1 (by simp only [upd_eq, Nat.reduceEqDiff, ↓reduceIte] <;> rfl) q)
set_option maxHeartbeats 800000 in
set_option maxRecDepth 8000 in
theorem mv_prev {B : Nat} {ord : List Int} {m d : Nat} {iso : Int} {X : List It} {F : Nat → Nat → Prop} {mu : Bool} {ib sb0 hb : Nat} {w1 : World} {ov : Value} {P : List (Option It)} {p : Option Nat} {w : World} (s : MvS B ord m d iso X F mu ib sb0 hb w1 ov P p w) (bs : Bs m F ib sb0 hb w1) (hd : 2 ≤ d) (hd' : d ≤ 128) (hbig : X.length ≤ 2147483648) (mv : Int × It) (hop : mv.1 = 3) :
    CallK Try.prog 128 #[ptr ib] w fun v w' => ∃ p', v = .bool p'.isSome ∧ MvS B ord m d iso X F mu ib sb0 hb w1 ov P p' w' ∧ Goes X (fun k : It => lb O (rkI ord) (rkI ord k) X) p mv p' ∧ ∀ k x, p' = some k → X[k]? = some x → Row w' ib 15 (E.cel x) := by
  obtain ⟨full, sb, so, cap, hI, hp, hs, hsb, hob⟩ := s.ex
  have hG := s.g (HG := noF) bs hs (fun _ _ g => g.elim)
  refine calls_of_W [.tmp 2] Try.func128 rfl Try.ntmps128 Try.results128 (by simp) fun e he => ?_
  have e0 : e 0 = ptr ib := he 0 _ rfl
  clear he
  refine W_sq fun K hK => (W_text [true] (by kernel_rfl) ?_); simp only [↓List.toList_toArray, ↓rgd, ↓rgf, ↓reduceIte, Nat.reduceEqDiff, rg, ow_128]
  refine hK _ _ ?_; clear hK K
  refine W_sq fun K hK => (W_text [true, true, true, false, true] (by kernel_rfl) ?_); simp only [↓List.toList_toArray, ↓rgd, ↓rgf, ↓reduceIte, Nat.reduceEqDiff, rg, ow_128, e0, ptr_eq]
  refine do_call fn_157 (vs := #[ptr ib]) (by simp only [evt, evc, upd_eq, Nat.reduceEqDiff, ↓reduceIte, maT, maC, maN, isnN, isnS] <;> rfl) (iprev_any B m d ord hd hd' iso X F noF mu ib sb so cap full w s.tree hG hI hbig p hp) ?_
  intro v w' q
  have q := (show _ from (by
    obtain ⟨p', q, q1, q2⟩ := q
    refine ⟨p', q.1, s.after bs hI hs hsb hob q (fun _ _ g => g.elim) (s.hk bs hsb q), ⟨q.2.1, fun ht => ?_⟩, q.2.2.2.2⟩
    rw [toldI_r (by omega)] at ht
    rw [stepI_3 hop]
    cases p with
    | some k => exact q1 k rfl
    | none =>
      have hX : X = [] := by simpa using ht
      exact q2 rfl hX) : ∃ p', v = .bool p'.isSome ∧ MvS B ord m d iso X F mu ib sb0 hb w1 ov P p' w' ∧ Goes X (fun k : It => lb O (rkI ord) (rkI ord k) X) p mv p' ∧ ∀ k x, p' = some k → X[k]? = some x → Row w' ib 15 (E.cel x))
  refine ⟨trivial, ?_⟩
  simp only [↓List.toList_toArray, ↓rgd, ↓rgf, ↓reduceIte, Nat.reduceEqDiff, rg, ow_128]
  refine hK _ _ ?_; clear hK K
  exact W_ret (endQ_1 (by simp only [upd_eq, Nat.reduceEqDiff, ↓reduceIte] <;> rfl) q)
set_option maxHeartbeats 800000 in
set_option maxRecDepth 8000 in
theorem seekN_any (B m d : Nat) (q : It) (ord : List Int) (hd : 2 ≤ d) (hd' : d ≤ 128) (iso : Int) (X : List It) (F : Nat → Nat → Prop) (mu : Bool) (ib sb0 so0 cap0 : Nat) (full0 : List (Nat × Int)) (w1 : World) (hM : TreeAt B ord w1 m d iso X F) (hG : ∀ y o, itF (hF none) ib sb0 y o → m < y ∧ ¬ F y o) (hI : ItS ib m mu full0 sb0 so0 cap0 w1) (hbig : X.length ≤ 2147483648) :
    CallK Try.prog 158 #[ptr ib, itV q] w1 fun v w' => MvQ B ord m d iso X F (hF none) mu ib sb0 w1 (if lb O (rkI ord) (rkI ord q) X < X.length then some (lb O (rkI ord) (rkI ord q) X) else none) v w' ∧ HOk none w' := by
  refine calls_of_W [.tmp 4] Try.func158 rfl Try.ntmps158 Try.results158 (by simp) fun e he => ?_
  have e0 : e 0 = ptr ib := he 0 _ rfl
  have e1 : e 1 = itV q := he 1 _ rfl
  clear he
  refine W_sq fun K hK => (W_text [true] (by kernel_rfl) ?_); simp only [↓List.toList_toArray, ↓rgd, ↓rgf, ↓reduceIte, Nat.reduceEqDiff, rg, ow_158]
  refine hK _ _ ?_; clear hK K
  refine W_sq fun K hK => (W_text [true, true, false, true] (by kernel_rfl) ?_); simp only [↓List.toList_toArray, ↓rgd, ↓rgf, ↓reduceIte, Nat.reduceEqDiff, rg, ow_158, e0, e1, ptr_eq]
  refine do_call fn_173 (vs := #[ptr ib, itV q, .pointer none]) (by simp only [evt, evc, upd_eq, Nat.reduceEqDiff, ↓reduceIte, maT, maC, maN, isnN, isnS] <;> rfl) (iseek_any B m d none q ord hd hd' iso X F mu ib sb0 so0 cap0 full0 w1 hM hG hI hbig (HOk.none _) (fun _ h => by cases h)) ?_
  rintro v w' h
  refine ⟨trivial, ?_⟩
  obtain ⟨⟨rfl, _⟩, _⟩ := id h
  simp only [↓List.toList_toArray, ↓rgd, ↓rgf, ↓reduceIte, Nat.reduceEqDiff, rg, ow_158]
  refine hK _ _ ?_; clear hK K
  exact W_ret (endQ_1 (by simp only [upd_eq, Nat.reduceEqDiff, ↓reduceIte] <;> rfl) h)
set_option maxHeartbeats 800000 in
set_option maxRecDepth 8000 in
theorem seekhint_any (B m d : Nat) (hp : Option Nat) (q : It) (ord : List Int) (hd : 2 ≤ d) (hd' : d ≤ 128) (iso : Int) (X : List It) (F : Nat → Nat → Prop) (mu : Bool) (ib sb0 so0 cap0 : Nat) (full0 : List (Nat × Int)) (w1 : World) (hM : TreeAt B ord w1 m d iso X F) (hG : ∀ y o, itF (hF hp) ib sb0 y o → m < y ∧ ¬ F y o) (hI : ItS ib m mu full0 sb0 so0 cap0 w1) (hbig : X.length ≤ 2147483648) (hH : HOk hp w1) (hHi : ∀ hb, hp = some hb → hb ≠ ib ∧ hb ≠ sb0) :
    CallK Try.prog 159 #[ptr ib, itV q, hV hp] w1 fun v w' => MvQ B ord m d iso X F (hF hp) mu ib sb0 w1 (if lb O (rkI ord) (rkI ord q) X < X.length then some (lb O (rkI ord) (rkI ord q) X) else none) v w' ∧ HOk hp w' := by
  refine calls_of_W [.tmp 6] Try.func159 rfl Try.ntmps159 Try.results159 (by simp) fun e he => ?_
  have e0 : e 0 = ptr ib := he 0 _ rfl
  have e1 : e 1 = itV q := he 1 _ rfl
  have e2 : e 2 = hV hp := he 2 _ rfl
  clear he
  refine W_sq fun K hK => (W_text [true] (by kernel_rfl) ?_); simp only [↓List.toList_toArray, ↓rgd, ↓rgf, ↓reduceIte, Nat.reduceEqDiff, rg, ow_159]
  refine hK _ _ ?_; clear hK K
  refine W_sq fun K hK => (W_text [true, true, true, false, true] (by kernel_rfl) ?_); simp only [↓List.toList_toArray, ↓rgd, ↓rgf, ↓reduceIte, Nat.reduceEqDiff, rg, ow_159, e0, e1, e2, ptr_eq]
  refine do_call fn_173 (vs := #[ptr ib, itV q, hV hp]) (by simp only [evt, evc, upd_eq, Nat.reduceEqDiff, ↓reduceIte, maT, maC, maN, isnN, isnS] <;> rfl) (iseek_any B m d hp q ord hd hd' iso X F mu ib sb0 so0 cap0 full0 w1 hM hG hI hbig hH hHi) ?_
  rintro v w' h
  refine ⟨trivial, ?_⟩
  obtain ⟨⟨rfl, _⟩, _⟩ := id h
  simp only [↓List.toList_toArray, ↓rgd, ↓rgf, ↓reduceIte, Nat.reduceEqDiff, rg, ow_159]
  refine hK _ _ ?_; clear hK K
  exact W_ret (endQ_1 (by simp only [upd_eq, Nat.reduceEqDiff, ↓reduceIte] <;> rfl) h)
set_option maxHeartbeats 800000 in
set_option maxRecDepth 8000 in
theorem mv_seek {B : Nat} {ord : List Int} {m d : Nat} {iso : Int} {X : List It} {F : Nat → Nat → Prop} {mu : Bool} {ib sb0 hb : Nat} {w1 : World} {ov : Value} {P : List (Option It)} {p : Option Nat} {w : World} (s : MvS B ord m d iso X F mu ib sb0 hb w1 ov P p w) (bs : Bs m F ib sb0 hb w1) (hd : 2 ≤ d) (hd' : d ≤ 128) (hbig : X.length ≤ 2147483648) (mv : Int × It) (hop : mv.1 = 4) :
    CallK Try.prog 129 #[ptr ib, itV mv.2] w fun v w' => ∃ p', v = .bool p'.isSome ∧ MvS B ord m d iso X F mu ib sb0 hb w1 ov P p' w' ∧ Goes X (fun k : It => lb O (rkI ord) (rkI ord k) X) p mv p' ∧ ∀ k x, p' = some k → X[k]? = some x → Row w' ib 15 (E.cel x) := by
  obtain ⟨full, sb, so, cap, hI, hp, hs, hsb, hob⟩ := s.ex
  have hG := s.g (HG := noF) bs hs (fun _ _ g => g.elim)
  have hG' : ∀ y o, itF (hF none) ib sb y o → m < y ∧ ¬ F y o := fun y o g => hG y o (g.imp id fun g => g.imp id fun g => by cases g)
  refine calls_of_W [.tmp 4] Try.func129 rfl Try.ntmps129 Try.results129 (by simp) fun e he => ?_
  have e0 : e 0 = ptr ib := he 0 _ rfl
  have e1 : e 1 = itV mv.2 := he 1 _ rfl
  clear he
  refine W_sq fun K hK => (W_text [true] (by kernel_rfl) ?_); simp only [↓List.toList_toArray, ↓rgd, ↓rgf, ↓reduceIte, Nat.reduceEqDiff, rg, ow_129]
  refine hK _ _ ?_; clear hK K
  refine W_sq fun K hK => (W_text [true, true, true, true, false, true] (by kernel_rfl) ?_); simp only [↓List.toList_toArray, ↓rgd, ↓rgf, ↓reduceIte, Nat.reduceEqDiff, rg, ow_129, e0, e1, ptr_eq]
  refine do_call fn_158 (vs := #[ptr ib, itV mv.2]) (by simp only [evt, evc, upd_eq, Nat.reduceEqDiff, ↓reduceIte, maT, maC, maN, isnN, isnS] <;> rfl) (seekN_any B m d mv.2 ord hd hd' iso X F mu ib sb so cap full w s.tree hG' hI hbig) ?_
  intro v w' q
  have q := (show _ from ⟨_, q.1.1, s.after bs hI hs hsb hob (MvQ.call (HF := noF) (.inl rfl) (Ext.refl _ _) (fun y o g => by cases g) q.1) (fun _ _ g => g.elim) (s.hk bs hsb (MvQ.call (HF := noF) (.inl rfl) (Ext.refl _ _) (fun y o g => by cases g) q.1)), ⟨q.1.2.1, fun _ => (stepI_4 (pl := (fun k : It => lb O (rkI ord) (rkI ord k) X)) (.inl hop)).symm⟩, q.1.2.2.2.2⟩ : ∃ p', v = .bool p'.isSome ∧ MvS B ord m d iso X F mu ib sb0 hb w1 ov P p' w' ∧ Goes X (fun k : It => lb O (rkI ord) (rkI ord k) X) p mv p' ∧ ∀ k x, p' = some k → X[k]? = some x → Row w' ib 15 (E.cel x))
  refine ⟨trivial, ?_⟩
  simp only [↓List.toList_toArray, ↓rgd, ↓rgf, ↓reduceIte, Nat.reduceEqDiff, rg, ow_129]
  refine hK _ _ ?_; clear hK K
  exact W_ret (endQ_1 (by simp only [upd_eq, Nat.reduceEqDiff, ↓reduceIte] <;> rfl) q)
set_option maxHeartbeats 800000 in
set_option maxRecDepth 8000 in
theorem mv_seekh {B : Nat} {ord : List Int} {m d : Nat} {iso : Int} {X : List It} {F : Nat → Nat → Prop} {mu : Bool} {ib sb0 hb : Nat} {w1 : World} {ov : Value} {P : List (Option It)} {p : Option Nat} {w : World} (s : MvS B ord m d iso X F mu ib sb0 hb w1 ov P p w) (bs : Bs m F ib sb0 hb w1) (hd : 2 ≤ d) (hd' : d ≤ 128) (hbig : X.length ≤ 2147483648) (mv : Int × It) (hop : mv.1 = 5) :
    CallK Try.prog 130 #[ptr ib, itV mv.2, hV (some hb)] w fun v w' => ∃ p', v = .bool p'.isSome ∧ MvS B ord m d iso X F mu ib sb0 hb w1 ov P p' w' ∧ Goes X (fun k : It => lb O (rkI ord) (rkI ord k) X) p mv p' ∧ ∀ k x, p' = some k → X[k]? = some x → Row w' ib 15 (E.cel x) := by
  obtain ⟨full, sb, so, cap, hI, hp, hs, hsb, hob⟩ := s.ex
  have hG := s.g (HG := (hF (some hb))) bs hs (fun y o g => by cases g; rfl)
  refine calls_of_W [.tmp 6] Try.func130 rfl Try.ntmps130 Try.results130 (by simp) fun e he => ?_
  have e0 : e 0 = ptr ib := he 0 _ rfl
  have e1 : e 1 = itV mv.2 := he 1 _ rfl
  have e2 : e 2 = hV (some hb) := he 2 _ rfl
  clear he
  refine W_sq fun K hK => (W_text [true] (by kernel_rfl) ?_); simp only [↓List.toList_toArray, ↓rgd, ↓rgf, ↓reduceIte, Nat.reduceEqDiff, rg, ow_130]
  refine hK _ _ ?_; clear hK K
  refine W_sq fun K hK => (W_text [true, true, true, true, true, false, true] (by kernel_rfl) ?_); simp only [↓List.toList_toArray, ↓rgd, ↓rgf, ↓reduceIte, Nat.reduceEqDiff, rg, ow_130, e0, e1, e2, ptr_eq]
  refine do_call fn_159 (vs := #[ptr ib, itV mv.2, hV (some hb)]) (by simp only [evt, evc, upd_eq, Nat.reduceEqDiff, ↓reduceIte, maT, maC, maN, isnN, isnS] <;> rfl) (seekhint_any B m d (some hb) mv.2 ord hd hd' iso X F mu ib sb so cap full w s.tree hG hI hbig s.hint (fun hb' hh => by cases hh; have := bs.il; have := bs.hl; exact ⟨by omega, fun h => hsb h.symm⟩)) ?_
  intro v w' q
  have q := (show _ from ⟨_, q.1.1, s.after bs hI hs hsb hob q.1 (fun y o g => by cases g; rfl) q.2, ⟨q.1.2.1, fun _ => (stepI_4 (pl := (fun k : It => lb O (rkI ord) (rkI ord k) X)) (.inr hop)).symm⟩, q.1.2.2.2.2⟩ : ∃ p', v = .bool p'.isSome ∧ MvS B ord m d iso X F mu ib sb0 hb w1 ov P p' w' ∧ Goes X (fun k : It => lb O (rkI ord) (rkI ord k) X) p mv p' ∧ ∀ k x, p' = some k → X[k]? = some x → Row w' ib 15 (E.cel x))
  refine ⟨trivial, ?_⟩
  simp only [↓List.toList_toArray, ↓rgd, ↓rgf, ↓reduceIte, Nat.reduceEqDiff, rg, ow_130]
  refine hK _ _ ?_; clear hK K
  exact W_ret (endQ_1 (by simp only [upd_eq, Nat.reduceEqDiff, ↓reduceIte] <;> rfl) q)
end Go.Proofs.Ytanmjbkbdmeckaa
