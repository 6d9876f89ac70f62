/-
  Trees in memory: a node's own part, its children, the cells that a tree owns. For items of whatever make. No condition.
-/
import Derived.Test.YtdffddiaoheklaaSim
import Derived.Test.YtdffddiaoheklaaOrd
set_option linter.unusedSimpArgs false
set_option linter.unusedVariables false
namespace Go.Proofs.Ytdffddiaoheklaa
open Go

/-! ### Numbers -/
theorem wadd (a b : Nat) (h : a + b < 9223372036854775808) : IntKind.i64.wrap ((a : Int) + (b : Int)) = ((a + b : Nat) : Int) := by rw [IntWalk.i64_in _ (by omega)]; omega
theorem wadd1 (a : Nat) (h : a + 1 < 9223372036854775808) : IntKind.i64.wrap ((a : Int) + 1) = ((a + 1 : Nat) : Int) := by rw [IntWalk.i64_in _ (by omega)]; omega
theorem wsub (a b : Nat) (h : b ≤ a) (ha : a < 9223372036854775808) : IntKind.i64.wrap ((a : Int) - (b : Int)) = ((a - b : Nat) : Int) := by rw [IntWalk.i64_in _ (by omega)]; omega
theorem wsub1 (a : Nat) (h : 1 ≤ a) (ha : a < 9223372036854775808) : IntKind.i64.wrap ((a : Int) - 1) = ((a - 1 : Nat) : Int) := by rw [IntWalk.i64_in _ (by omega)]; omega
theorem wdiv2 (a : Nat) (ha : a < 9223372036854775808) : IntKind.i64.wrap ((a : Int).tdiv 2) = ((a / 2 : Nat) : Int) := by
  rw [IntWalk.i64_quo _ _ (by omega)]; omega
theorem idx_ok (i n : Nat) (h : i < n) : (0 ≤ (i : Int) ∧ (i : Int) < (n : Int)) = True := by simp; omega
theorem lt_tt (i n : Nat) (h : i < n) : decide ((i : Int) < (n : Int)) = true := by simp; omega
theorem lt_ff (i n : Nat) (h : n ≤ i) : decide ((i : Int) < (n : Int)) = false := by simp; omega

/-! ### Items as cells -/
structure Enc (α : Type) where
  cel : α → List Value
  sz : Nat
  len : ∀ a, (cel a).length = sz
  one : ∀ a, oc (cel a)
  pos : 0 < sz
section
variable {α : Type} (E : Enc α)
def flat (xs : List α) : List Value := xs.flatMap E.cel
theorem flat_nil : flat E [] = [] := rfl
theorem flat_cons (x : α) (xs : List α) : flat E (x :: xs) = E.cel x ++ flat E xs := by simp [flat]
theorem flat_append (xs ys : List α) : flat E (xs ++ ys) = flat E xs ++ flat E ys := by simp [flat]
theorem flat_one (x : α) : flat E [x] = E.cel x := by simp [flat]
theorem flat_length (xs : List α) : (flat E xs).length = xs.length * E.sz := by
  induction xs with
  | nil => simp [flat]
  | cons x xs ih => rw [flat_cons, List.length_append, ih, E.len, List.length_cons, Nat.add_mul]; omega
theorem flat_oc (xs : List α) : oc (flat E xs) := fun v hv => by
  simp only [flat, List.mem_flatMap] at hv
  obtain ⟨x, _, hx⟩ := hv
  exact E.one x v hx
theorem flat_take (xs : List α) (n : Nat) : (flat E xs).take (n * E.sz) = flat E (xs.take n) := by
  induction xs generalizing n with
  | nil => simp [flat]
  | cons x xs ih =>
    cases n with
    | zero => simp [flat]
    | succ n =>
      rw [flat_cons, List.take_succ_cons, flat_cons, List.take_append, E.len, Nat.add_mul, Nat.one_mul, List.take_of_length_le (by rw [E.len]; omega), Nat.add_sub_cancel, ih]
theorem flat_drop (xs : List α) (n : Nat) : (flat E xs).drop (n * E.sz) = flat E (xs.drop n) := by
  induction xs generalizing n with
  | nil => simp [flat]
  | cons x xs ih =>
    cases n with
    | zero => simp
    | succ n =>
      rw [flat_cons, List.drop_succ_cons, List.drop_append, E.len, Nat.add_mul, Nat.one_mul, List.drop_eq_nil_of_le (by rw [E.len]; omega), Nat.add_sub_cancel, ih, List.nil_append]
/-- The cells of one element. -/
theorem row_at {w : World} {b o : Nat} {xs : List α} (h : Row w b o (flat E xs)) {i : Nat} {x : α} (hi : xs[i]? = some x) : Row w b (o + i * E.sz) (E.cel x) := by
  have h1 := h.drop (i * E.sz)
  rw [flat_drop] at h1
  have hlt := (List.getElem?_eq_some_iff.1 hi).1
  have hd : xs.drop i = x :: xs.drop (i + 1) := by
    rw [List.drop_eq_getElem_cons hlt]; congr 1
    exact (List.getElem?_eq_some_iff.1 hi).2
  rw [hd, flat_cons] at h1
  exact (Row.append.1 h1).1
theorem row_cell {w : World} {b o : Nat} {l : List Value} (h : Row w b o l) {j : Nat} {v : Value} (hj : l[j]? = some v) : rd w b (o + j) = some v := h j v hj

def ptr (b : Nat) : Value := .pointer (some ⟨b, 0, none⟩)
theorem ptr_eq (b : Nat) : ptr b = .pointer (some ⟨b, 0, none⟩) := id (Eq.trans rfl rfl)

structure Own (w : World) (b : Nat) (iso cnt : Int) (bi oi cap : Nat) (ks : List α) (ch : Value) : Prop where
  h0 : rd w b 0 = some (.int .u64 iso)
  h1 : rd w b 1 = some (.int .i64 cnt)
  h2 : rd w b 2 = some (.slice (some ⟨bi, oi, none⟩) ks.length cap)
  h3 : rd w b 3 = some ch
  wb : wok w b 4
  row : Row w bi oi (flat E ks)
  wi : wok w bi (oi + cap * E.sz)
  le : ks.length ≤ cap
  ne : bi ≠ b
structure Kids (w : World) (bc ba oa capc : Nat) (ps : List Nat) : Prop where
  c0 : rd w bc 0 = some (.slice (some ⟨ba, oa, none⟩) ps.length capc)
  wc : wok w bc 1
  row : Row w ba oa (ps.map ptr)
  wa : wok w ba (oa + capc)
  le : ps.length ≤ capc
  ne : ba ≠ bc
def ownF (b bi oi cap : Nat) : Nat → Nat → Prop := fun x o => x = b ∨ rng bi oi (cap * E.sz) x o
def kidF (bc ba oa capc : Nat) : Nat → Nat → Prop := fun x o => x = bc ∨ rng ba oa capc x o

structure Kid (α : Type) where
  b : Nat
  xs : List α
  F : Nat → Nat → Prop
def weave : List (List α) → List α → List α
  | [], _ => []
  | x :: _, [] => x
  | x :: xs, k :: ks => x ++ k :: weave xs ks
structure Apart (b bi oi cap bc ba oa capc : Nat) (cs : List (Kid α)) : Prop where
  cb : bc ≠ b
  ab : ba ≠ b
  ic : bi ≠ bc
  ia : bi ≠ ba
  own : ∀ c ∈ cs, ∀ x o, c.F x o → ¬ ownF E b bi oi cap x o
  kid : ∀ c ∈ cs, ∀ x o, c.F x o → ¬ kidF bc ba oa capc x o
  two : cs.Pairwise fun c d => ∀ x o, c.F x o → ¬ d.F x o
variable (iso : Int) (mn mx : Nat)
def Tr : Nat → World → Nat → Nat → List α → (Nat → Nat → Prop) → Prop
  | 0, w, lo, b, xs, F => ∃ bi oi cap, Own E w b iso xs.length bi oi cap xs (.pointer none) ∧ lo ≤ xs.length ∧ xs.length ≤ mx ∧ ∀ x o, F x o ↔ ownF E b bi oi cap x o
  | h + 1, w, lo, b, xs, F => ∃ bi oi cap bc ba oa capc ks, ∃ cs : List (Kid α), Own E w b iso xs.length bi oi cap ks (ptr bc) ∧ Kids w bc ba oa capc (cs.map Kid.b) ∧
      lo ≤ ks.length ∧ ks.length ≤ mx ∧ cs.length = ks.length + 1 ∧ xs = weave (cs.map Kid.xs) ks ∧ (∀ c ∈ cs, Tr h w mn c.b c.xs c.F) ∧ Apart E b bi oi cap bc ba oa capc cs ∧
      ∀ x o, F x o ↔ ownF E b bi oi cap x o ∨ kidF bc ba oa capc x o ∨ ∃ c ∈ cs, c.F x o
end

section
variable {α : Type} {E : Enc α} {iso : Int} {mn mx : Nat}
theorem Own.ext {w w' : World} {G : Nat → Nat → Prop} {b : Nat} {cnt : Int} {bi oi cap : Nat} {ks : List α} {ch : Value} (h : Own E w b iso cnt bi oi cap ks ch) (hx : Ext G w w')
    (hG : ∀ x o, ownF E b bi oi cap x o → ¬ G x o) : Own E w' b iso cnt bi oi cap ks ch :=
  ⟨hx.rd h.h0 (hG _ _ (.inl rfl)), hx.rd h.h1 (hG _ _ (.inl rfl)), hx.rd h.h2 (hG _ _ (.inl rfl)), hx.rd h.h3 (hG _ _ (.inl rfl)), hx.wok h.wb,
    hx.row h.row fun i hi => hG _ _ (.inr ⟨rfl, by omega, by rw [flat_length] at hi; have := Nat.mul_le_mul_right E.sz h.le; omega⟩), hx.wok h.wi, h.le, h.ne⟩
theorem Kids.ext {w w' : World} {G : Nat → Nat → Prop} {bc ba oa capc : Nat} {ps : List Nat} (h : Kids w bc ba oa capc ps) (hx : Ext G w w')
    (hG : ∀ x o, kidF bc ba oa capc x o → ¬ G x o) : Kids w' bc ba oa capc ps :=
  ⟨hx.rd h.c0 (hG _ _ (.inl rfl)), hx.wok h.wc, hx.row h.row fun i hi => hG _ _ (.inr ⟨rfl, by omega, by rw [List.length_map] at hi; have := h.le; omega⟩), hx.wok h.wa, h.le, h.ne⟩
/-- A tree outside of whose cells all has changed is the same tree. -/
theorem Tr.ext {w w' : World} {G : Nat → Nat → Prop} (hx : Ext G w w') : ∀ {h lo b : Nat} {xs : List α} {F : Nat → Nat → Prop}, Tr E iso mn mx h w lo b xs F → (∀ x o, F x o → ¬ G x o) → Tr E iso mn mx h w' lo b xs F
  | 0, _, _, _, _, ⟨bi, oi, cap, hO, h1, h2, hF⟩, hG => ⟨bi, oi, cap, hO.ext hx fun x o ho => hG x o ((hF x o).2 ho), h1, h2, hF⟩
  | _ + 1, _, _, _, _, ⟨bi, oi, cap, bc, ba, oa, capc, ks, cs, hO, hK, h1, h2, h3, h4, hT, hA, hF⟩, hG =>
    ⟨bi, oi, cap, bc, ba, oa, capc, ks, cs, hO.ext hx fun x o ho => hG x o ((hF x o).2 (.inl ho)), hK.ext hx fun x o ho => hG x o ((hF x o).2 (.inr (.inl ho))), h1, h2, h3, h4,
      fun c hc => (hT c hc).ext hx fun x o ho => hG x o ((hF x o).2 (.inr (.inr ⟨c, hc, ho⟩))), hA, hF⟩
theorem Own.lt {w : World} {b : Nat} {cnt : Int} {bi oi cap : Nat} {ks : List α} {ch : Value} (h : Own E w b iso cnt bi oi cap ks ch) {x o : Nat} (ho : ownF E b bi oi cap x o) : x < w.heap.size := by
  rcases ho with rfl | ⟨rfl, _⟩
  · exact wok_lt h.wb
  · exact wok_lt h.wi
theorem Kids.lt {w : World} {bc ba oa capc : Nat} {ps : List Nat} (h : Kids w bc ba oa capc ps) {x o : Nat} (ho : kidF bc ba oa capc x o) : x < w.heap.size := by
  rcases ho with rfl | ⟨rfl, _⟩
  · exact wok_lt h.wc
  · exact wok_lt h.wa
theorem Tr.lt {w : World} : ∀ {h lo b : Nat} {xs : List α} {F : Nat → Nat → Prop}, Tr E iso mn mx h w lo b xs F → ∀ x o, F x o → x < w.heap.size
  | 0, _, _, _, _, ⟨bi, oi, cap, hO, _, _, hF⟩, x, o, ho => hO.lt ((hF x o).1 ho)
  | _ + 1, _, _, _, _, ⟨bi, oi, cap, bc, ba, oa, capc, ks, cs, hO, hK, _, _, _, _, hT, _, hF⟩, x, o, ho => by
    rcases (hF x o).1 ho with h | h | ⟨c, hc, h⟩
    · exact hO.lt h
    · exact hK.lt h
    · exact (hT c hc).lt x o h
theorem Tr.self {w : World} : ∀ {h lo b : Nat} {xs : List α} {F : Nat → Nat → Prop}, Tr E iso mn mx h w lo b xs F → ∀ o, F b o
  | 0, _, _, _, _, ⟨_, _, _, _, _, _, hF⟩, o => (hF _ o).2 (.inl rfl)
  | _ + 1, _, _, _, _, ⟨_, _, _, _, _, _, _, _, _, _, _, _, _, _, _, _, _, hF⟩, o => (hF _ o).2 (.inl (.inl rfl))
theorem Tr.mono {w : World} : ∀ {h lo lo' b : Nat} {xs : List α} {F : Nat → Nat → Prop}, Tr E iso mn mx h w lo b xs F → lo' ≤ lo → Tr E iso mn mx h w lo' b xs F
  | 0, _, _, _, _, _, ⟨bi, oi, cap, hO, h1, h2, hF⟩, hl => ⟨bi, oi, cap, hO, Nat.le_trans hl h1, h2, hF⟩
  | _ + 1, _, _, _, _, _, ⟨bi, oi, cap, bc, ba, oa, capc, ks, cs, hO, hK, h1, h2, h3⟩, hl => ⟨bi, oi, cap, bc, ba, oa, capc, ks, cs, hO, hK, Nat.le_trans hl h1, h2, h3⟩

/-! ### Where a search ends -/
variable {R : Type} (O : SOrd R) (κ : α → R)
/-- u: all below u are not behind q, all from u on are. -/
theorem found_at {ks : List α} (ha : Asc O κ ks) {q : R} {u : Nat} (hu : u ≤ ks.length) (h1 : ∀ i x, i < u → ks[i]? = some x → O.lt q (κ x) = false) (h2 : ∀ x, ks[u]? = some x → O.lt q (κ x) = true)
    {x : α} (h0 : 0 < u) (hx : ks[u - 1]? = some x) (ht : O.lt (κ x) q = false) : lb O κ q ks = u - 1 ∧ hit O κ q ks = true := by
  have he := O.tot _ _ ht (h1 _ _ (by omega) hx)
  have hl : lb O κ q ks = u - 1 := by
    refine lb_eq O κ (fun y hy => ?_) (fun y hy => by rw [hx] at hy; cases hy; exact ht) (by omega)
    have hlt := (List.getElem?_eq_some_iff.1 hx).1
    have hd : ks.drop (u - 1) = x :: ks.drop (u - 1 + 1) := by
      rw [List.drop_eq_getElem_cons hlt]; congr 1
      exact (List.getElem?_eq_some_iff.1 hx).2
    rw [← he]
    rw [← List.take_append_drop (u - 1) ks, hd] at ha
    exact ((Asc.append O κ).1 ha).2.2 y hy x (by simp)
  refine ⟨hl, ?_⟩
  unfold hit
  rw [hl, hx]
  simp [h1 _ _ (by omega) hx]
theorem missed_at {ks : List α} (ha : Asc O κ ks) {q : R} {u : Nat} (hu : u ≤ ks.length) (h2 : ∀ x, ks[u]? = some x → O.lt q (κ x) = true)
    (ht : ∀ x, 0 < u → ks[u - 1]? = some x → O.lt (κ x) q = true) : lb O κ q ks = u ∧ hit O κ q ks = false := by
  have hl : lb O κ q ks = u := by
    refine lb_eq O κ (fun y hy => ?_) (fun y hy => O.asym (h2 y hy)) hu
    by_cases h0 : u = 0
    · subst h0; simp at hy
    · obtain ⟨x, hx⟩ : ∃ x, ks[u - 1]? = some x := ⟨_, List.getElem?_eq_getElem (by omega)⟩
      have hlt := (List.getElem?_eq_some_iff.1 hx).1
      have ht' := ht x (by omega) hx
      have hsp : ks.take u = ks.take (u - 1) ++ [x] := by
        have := List.take_succ_eq_append_getElem hlt
        rw [show u - 1 + 1 = u by omega] at this
        rw [this, (List.getElem?_eq_some_iff.1 hx).2]
      rw [hsp] at hy
      rcases List.mem_append.1 hy with hy | hy
      · have ha' : Asc O κ (ks.take u) := List.Pairwise.sublist (List.take_sublist _ _) ha
        rw [hsp] at ha'
        exact O.tr _ _ _ (((Asc.append O κ).1 ha').2.2 y hy x (by simp)) ht'
      · have : y = x := by simpa using hy
        rw [this]; exact ht'
  refine ⟨hl, ?_⟩
  unfold hit
  rw [hl]
  cases hx : ks[u]? with
  | none => rfl
  | some x => simp [h2 x hx]
end
end Go.Proofs.Ytdffddiaoheklaa
