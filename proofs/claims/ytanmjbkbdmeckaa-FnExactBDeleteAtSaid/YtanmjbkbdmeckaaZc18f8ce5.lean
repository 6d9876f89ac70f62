/-
  nodeRebalance: what it leaves of the tree. No condition.
-/
import Derived.Test.YtanmjbkbdmeckaaZ0e15e4a4
import Derived.Test.YtanmjbkbdmeckaaZA
import Derived.Test.YtanmjbkbdmeckaaZ0b558072
/-
  Several things in memory that lie apart; one of them is changed. For items of whatever make. No condition.
-/
set_option linter.unusedSimpArgs false
set_option linter.unusedVariables false
namespace Go.Proofs.Ytanmjbkbdmeckaa
open Go
/-- A thing: what it says of a world, the cells it takes, the block of its row. -/
structure Ob where
  p : World → (Nat → Nat → Prop) → Nat → Prop
  loc : ∀ {w w' : World} {F G : Nat → Nat → Prop} {K : Nat}, p w F K → Ext G w w' → (∀ y o, F y o → ¬ G y o) → p w' F K
  lt : ∀ {w : World} {F : Nat → Nat → Prop} {K : Nat}, p w F K → (∀ y o, F y o → y < w.heap.size) ∧ K < w.heap.size
/-- Things that lie apart; the rows of two things whose places are three apart lie in different blocks. -/
structure St (w0 : World) (G : Nat → Nat → Prop) (w : World) (P : List Ob) (F : Nat → Nat → Nat → Prop) (K : Nat → Nat) : Prop where
  o : ∀ (i : Nat) (A : Ob), P[i]? = some A → A.p w (F i) (K i)
  d : ∀ i j, i < P.length → j < P.length → i ≠ j → ∀ y o, F i y o → ¬ F j y o
  s : ∀ i, i < P.length → ∀ y o, F i y o → G y o ∨ w0.heap.size ≤ y
  r : ∀ i, i + 3 < P.length → K i ≠ K (i + 3)
  x : Ext G w0 w
/-- The things P stand in w, apart; since w0 nothing else has changed, and they take no other old cells than G's. -/
def Ss (w0 : World) (G : Nat → Nat → Prop) (w : World) (P : List Ob) : Prop := ∃ F K, St w0 G w P F K
theorem Ss.x {w0 w : World} {G : Nat → Nat → Prop} {P : List Ob} (s : Ss w0 G w P) : Ext G w0 w := s.elim fun _ h => h.elim fun _ h => h.x
theorem St.step {w0 w w' : World} {G : Nat → Nat → Prop} {P : List Ob} {F : Nat → Nat → Nat → Prop} {K : Nat → Nat} (s : St w0 G w P F K) {i : Nat} {A : Ob} (hi : P[i]? = some A) (B : Ob) {F' : Nat → Nat → Prop} {K' : Nat}
    (x : Ext (F i) w w') (hB : B.p w' F' K') (hF : ∀ y o, F' y o → F i y o ∨ w.heap.size ≤ y) (hK : K' = K i ∨ w.heap.size ≤ K') : Ss w0 G w' (P.set i B) := by
  have hil := (List.getElem?_eq_some_iff.1 hi).1
  have hlt : ∀ j, j < P.length → (∀ y o, F j y o → y < w.heap.size) ∧ K j < w.heap.size := fun j hj => (P[j]).lt (s.o j _ (List.getElem?_eq_getElem hj))
  refine ⟨fun j => if j = i then F' else F j, fun j => if j = i then K' else K j, ⟨fun j C hj => ?_, fun j k hj hk hne y o g h => ?_, fun j hj y o g => ?_, fun j hj => ?_, s.x.trans x (fun _ _ g => g) fun y o hy g => ?_⟩⟩
  · by_cases hji : j = i
    · subst hji
      rw [if_pos rfl, if_pos rfl]
      rw [List.getElem?_set_self hil] at hj
      cases hj
      exact hB
    · rw [if_neg hji, if_neg hji]
      rw [List.getElem?_set_ne (Ne.symm hji)] at hj
      have hjl := (List.getElem?_eq_some_iff.1 hj).1
      exact C.loc (s.o j C hj) x (s.d j i hjl hil hji)
  · rw [List.length_set] at hj hk
    by_cases hji : j = i
    · subst hji
      have hki : k ≠ j := Ne.symm hne
      rw [if_pos rfl] at g
      rw [if_neg hki] at h
      rcases hF y o g with g | g
      · exact s.d j k hj hk hne y o g h
      · have := (hlt k hk).1 y o h; omega
    · rw [if_neg hji] at g
      by_cases hki : k = i
      · subst hki
        rw [if_pos rfl] at h
        rcases hF y o h with h | h
        · exact s.d j k hj hk hne y o g h
        · have := (hlt j hj).1 y o g; omega
      · rw [if_neg hki] at h
        exact s.d j k hj hk hne y o g h
  · rw [List.length_set] at hj
    by_cases hji : j = i
    · subst hji
      rw [if_pos rfl] at g
      rcases hF y o g with g | g
      · exact s.s j hj y o g
      · have := s.x.size; exact .inr (by omega)
    · rw [if_neg hji] at g
      exact s.s j hj y o g
  · rw [List.length_set] at hj
    have h1 := s.r j hj
    have h2 := (hlt j (by omega)).2
    have h3 := (hlt (j + 3) hj).2
    by_cases hji : j = i
    · subst hji
      rw [if_pos rfl, if_neg (by omega)]
      omega
    · rw [if_neg hji]
      by_cases hki : j + 3 = i
      · subst hki
        rw [if_pos rfl]; omega
      · rw [if_neg hki]; exact h1
  · rcases s.s i hil y o g with g | g
    · exact g
    · omega
/-- A run that changes nothing old. -/
theorem Ss.ext0 {w0 w w' : World} {G : Nat → Nat → Prop} {P : List Ob} (s : Ss w0 G w P) (x : Ext noF w w') : Ss w0 G w' P := by
  obtain ⟨F, K, s⟩ := s
  exact ⟨F, K, fun i A h => A.loc (s.o i A h) x fun _ _ _ g => g, s.d, s.s, s.r, s.x.trans x (fun _ _ g => g) fun _ _ _ g => g.elim⟩
section
variable {α : Type} {E : Enc α}
theorem Own.se {w : World} {b : Nat} {iso cnt : Int} {bi oi cap : Nat} {ks : List α} {ch : Value} (h : Own E w b iso cnt bi oi cap ks ch) : SE E w b 2 ks bi oi cap := ⟨h.h2, h.row, h.wi, h.le, h.wb.mono (by decide), h.ne⟩
theorem seF_own {b bi oi cap : Nat} {y o : Nat} (h : seF E b 2 bi oi cap y o) : ownF E b bi oi cap y o := by
  rcases h with ⟨h, _⟩ | h
  · exact .inl h
  · exact .inr h
theorem Own.step {w w' : World} {b : Nat} {iso cnt : Int} {bi oi cap bi' oi' cap' : Nat} {ks ks' : List α} {ch : Value} (h : Own E w b iso cnt bi oi cap ks ch) (s : SE E w' b 2 ks' bi' oi' cap') (x : Ext (seF E b 2 bi oi cap) w w') :
    Own E w' b iso cnt bi' oi' cap' ks' ch := by
  have hne := h.ne
  have hn : ∀ o, o ≠ 2 → ¬ seF E b 2 bi oi cap b o := fun o ho g => by
    rcases g with g | g
    · omega
    · exact hne g.1.symm
  exact ⟨x.rd h.h0 (hn _ (by decide)), x.rd h.h1 (hn _ (by decide)), s.hd, x.rd h.h3 (hn _ (by decide)), x.wok h.wb, s.row, s.wi, s.le, s.ne⟩
theorem Own.cnt' {w w' : World} {b : Nat} {iso cnt cnt' : Int} {bi oi cap : Nat} {ks : List α} {ch : Value} (h : Own E w b iso cnt bi oi cap ks ch) (x : Ext (rng b 1 1) w w') (r : rd w' b 1 = some (.int .i64 cnt')) :
    Own E w' b iso cnt' bi oi cap ks ch := by
  have hne := h.ne
  refine ⟨x.rd h.h0 ?_, r, x.rd h.h2 ?_, x.rd h.h3 ?_, x.wok h.wb, x.row h.row fun i _ g => ?_, x.wok h.wi, h.le, h.ne⟩
  · simp only [rng]; omega
  · simp only [rng]; omega
  · simp only [rng]; omega
  · exact hne g.1
/-- Pointers that may be nil as elements. -/
def Eo : Enc (Option Nat) where
  cel o := [.pointer (o.map fun b => ⟨b, 0, none⟩)]
  sz := 1
  len _ := rfl
  one o v hv := by simp at hv; subst hv; rfl
  pos := by decide
theorem Eo_sz : Eo.sz = 1 := id (Eq.trans rfl rfl)
theorem flat_Eo (l : List Nat) : flat Eo (l.map some) = l.map ptr := by
  induction l with
  | nil => rfl
  | cons x l ih => rw [List.map_cons, flat_cons, ih]; rfl
theorem Kids.se {w : World} {bc ba oa capc : Nat} {ps : List Nat} (h : Kids w bc ba oa capc ps) : SE Eo w bc 0 (ps.map some) ba oa capc :=
  ⟨by rw [List.length_map]; exact h.c0, by rw [flat_Eo]; exact h.row, by rw [Eo_sz, Nat.mul_one]; exact h.wa, by rw [List.length_map]; exact h.le, h.wc, h.ne⟩
theorem SE.kids {w : World} {bc ba oa capc : Nat} {ps : List Nat} (h : SE Eo w bc 0 (ps.map some) ba oa capc) : Kids w bc ba oa capc ps :=
  ⟨by have := h.hd; rw [List.length_map] at this; exact this, h.hok, by have := h.row; rw [flat_Eo] at this; exact this, by have := h.wi; rw [Eo_sz, Nat.mul_one] at this; exact this, by have := h.le; rw [List.length_map] at this; exact this, h.ne⟩
theorem seF_kid {bc ba oa capc : Nat} {y o : Nat} (h : seF Eo bc 0 ba oa capc y o) : kidF bc ba oa capc y o := by
  rcases h with ⟨h, _⟩ | h
  · exact .inl h
  · rw [Eo_sz, Nat.mul_one] at h; exact .inr h
/-- A node's own part; its items' room is no less than z. -/
def ndO (E : Enc α) (iso : Int) (z b : Nat) (cnt : Int) (ks : List α) (ch : Value) : Ob where
  p w F K := ∃ bi oi cap, Own E w b iso cnt bi oi cap ks ch ∧ z ≤ cap ∧ K = bi ∧ ∀ y o, F y o ↔ ownF E b bi oi cap y o
  loc := fun ⟨bi, oi, cap, h, hz, hK, hF⟩ x hd => ⟨bi, oi, cap, h.ext x fun y o g => hd y o ((hF y o).2 g), hz, hK, hF⟩
  lt := fun ⟨_, _, _, h, _, hK, hF⟩ => ⟨fun y o g => h.lt ((hF y o).1 g), hK ▸ wok_lt h.wi⟩
/-- A node's children: none, or a cell with a slice. -/
def kdO (ch : Value) (ps : List (Option Nat)) : Ob where
  p w F K := (ch = .pointer none ∧ ps = [] ∧ K < w.heap.size ∧ ∀ y o, ¬ F y o) ∨ ∃ bc ba oa capc, ch = ptr bc ∧ SE Eo w bc 0 ps ba oa capc ∧ K = ba ∧ ∀ y o, F y o ↔ kidF bc ba oa capc y o
  loc := fun h x hd => h.imp (fun ⟨h1, h2, h3, h4⟩ => ⟨h1, h2, Nat.lt_of_lt_of_le h3 x.size, h4⟩) fun ⟨bc, ba, oa, capc, h1, h, hK, hF⟩ => ⟨bc, ba, oa, capc, h1, h.ext x fun y o g => hd y o ((hF y o).2 (seF_kid g)), hK, hF⟩
  lt := fun h => by
    rcases h with ⟨_, _, hK, h⟩ | ⟨bc, ba, _, _, _, h, hK, hF⟩
    · exact ⟨fun y o g => (h y o g).elim, hK⟩
    · have := h.lt
      refine ⟨fun y o g => ?_, by omega⟩
      rcases (hF y o).1 g with g | g
      · omega
      · have := g.1; omega
theorem ownF_new {b bi oi cap bi' oi' cap' B : Nat} (h : (bi' = bi ∧ oi' = oi ∧ cap' = cap) ∨ B ≤ bi') {y o : Nat} (g : ownF E b bi' oi' cap' y o) : ownF E b bi oi cap y o ∨ B ≤ y := by
  rcases h with ⟨rfl, rfl, rfl⟩ | h
  · exact .inl g
  · rcases g with g | g
    · exact .inl (.inl g)
    · exact .inr (by have := g.1; omega)
theorem kidF_new {bc ba oa capc ba' oa' capc' B : Nat} (h : (ba' = ba ∧ oa' = oa ∧ capc' = capc) ∨ B ≤ ba') {y o : Nat} (g : kidF bc ba' oa' capc' y o) : kidF bc ba oa capc y o ∨ B ≤ y := by
  rcases h with ⟨rfl, rfl, rfl⟩ | h
  · exact .inl g
  · rcases g with g | g
    · exact .inl (.inl g)
    · exact .inr (by have := g.1; omega)
theorem Ss.nd {w0 w : World} {G : Nat → Nat → Prop} {P : List Ob} (s : Ss w0 G w P) (i : Nat) {iso : Int} {z b : Nat} {cnt : Int} {ks : List α} {ch : Value} (hi : P[i]? = some (ndO E iso z b cnt ks ch)) :
    ∃ bi oi cap, Own E w b iso cnt bi oi cap ks ch ∧
      (∀ {w' : World} {ks' : List α} {bi' oi' cap' : Nat}, SE E w' b 2 ks' bi' oi' cap' → Ext (seF E b 2 bi oi cap) w w' → ((bi' = bi ∧ oi' = oi ∧ cap' = cap) ∨ (w.heap.size ≤ bi' ∧ z ≤ cap')) → Ss w0 G w' (P.set i (ndO E iso z b cnt ks' ch))) ∧
      (∀ {w' : World} {cnt' : Int}, Ext (rng b 1 1) w w' → rd w' b 1 = some (.int .i64 cnt') → Ss w0 G w' (P.set i (ndO E iso z b cnt' ks ch))) := by
  obtain ⟨F, K, s⟩ := s
  obtain ⟨bi, oi, cap, h, hz, hK, hF⟩ := s.o i _ hi
  refine ⟨bi, oi, cap, h, fun {w' ks' bi' oi' cap'} s' x hb => s.step hi _ (x.mono fun y o _ g => (hF y o).2 (seF_own g)) ⟨bi', oi', cap', h.step s' x, by omega, rfl, fun _ _ => Iff.rfl⟩ (fun y o g => ?_) (by rw [hK]; exact hb.imp And.left And.left),
    fun {w' cnt'} x r => s.step hi _ (x.mono fun y o _ g => (hF y o).2 (.inl g.1)) ⟨bi, oi, cap, h.cnt' x r, hz, rfl, fun _ _ => Iff.rfl⟩ (fun y o g => .inl ((hF y o).2 g)) (.inl hK.symm)⟩
  rcases ownF_new (hb.imp id And.left) g with g | g
  · exact .inl ((hF y o).2 g)
  · exact .inr g
theorem Ss.kd {w0 w : World} {G : Nat → Nat → Prop} {P : List Ob} (s : Ss w0 G w P) (i : Nat) {bc : Nat} {ps : List (Option Nat)} (hi : P[i]? = some (kdO (ptr bc) ps)) :
    ∃ ba oa capc, SE Eo w bc 0 ps ba oa capc ∧
      (∀ {w' : World} {ps' : List (Option Nat)} {ba' oa' capc' : Nat}, SE Eo w' bc 0 ps' ba' oa' capc' → Ext (seF Eo bc 0 ba oa capc) w w' → ((ba' = ba ∧ oa' = oa ∧ capc' = capc) ∨ w.heap.size ≤ ba') → Ss w0 G w' (P.set i (kdO (ptr bc) ps'))) := by
  obtain ⟨F, K, s⟩ := s
  rcases s.o i _ hi with ⟨h, _⟩ | ⟨bc', ba, oa, capc, h1, h, hK, hF⟩
  · cases h
  · obtain rfl : bc = bc' := by simpa [ptr] using h1
    refine ⟨ba, oa, capc, h, fun {w' ps' ba' oa' capc'} s' x hb => s.step hi _ (x.mono fun y o _ g => (hF y o).2 (seF_kid g)) (.inr ⟨bc, ba', oa', capc', rfl, s', rfl, fun _ _ => Iff.rfl⟩) (fun y o g => ?_) (by rw [hK]; exact hb.imp And.left id)⟩
    rcases kidF_new hb g with g | g
    · exact .inl ((hF y o).2 g)
    · exact .inr g
end
/-! ### Steps of a slice in a cell -/
section
variable {α : Type} {E : Enc α}
/-- A copy of what lies behind place i, one place back. -/
theorem SE.down {w w1 : World} {hb ho bi oi cap i : Nat} {ks : List α} (h : SE E w hb ho ks bi oi cap) (hi : i < ks.length)
    (x1 : Ext (rng bi (oi + i * E.sz) ((ks.length - 1 - i) * E.sz)) w w1) (r1 : Row w1 bi (oi + i * E.sz) (flat E (ks.drop (i + 1)))) :
    ∃ z, SE E w1 hb ho (ks.eraseIdx i ++ [z]) bi oi cap ∧ Ext (seF E hb ho bi oi cap) w w1 := by
  obtain ⟨z, hz⟩ : ∃ z, ks.drop (ks.length - 1) = [z] := List.length_eq_one_iff.1 (by rw [List.length_drop]; omega)
  refine ⟨z, ?_⟩
  rw [← hz]
  have hne := h.ne
  have hle := h.le
  have hcap := Nat.mul_le_mul_right E.sz hle
  have e1 : (ks.length - 1) * E.sz = ks.length * E.sz - E.sz := by rw [Nat.sub_mul, Nat.one_mul]
  have e2 : (ks.length - 1 - i) * E.sz = (ks.length - 1) * E.sz - i * E.sz := Nat.sub_mul _ _ _
  have e3 : (i + 1) * E.sz ≤ ks.length * E.sz := Nat.mul_le_mul_right _ hi
  have e4 : (i + 1) * E.sz = i * E.sz + E.sz := by rw [Nat.add_mul, Nat.one_mul]
  have hl : (ks.eraseIdx i ++ ks.drop (ks.length - 1)).length = ks.length := by rw [List.length_append, List.length_eraseIdx, if_pos hi, List.length_drop]; omega
  have X : Ext (seF E hb ho bi oi cap) w w1 := x1.mono fun y o _ g => .inr (by simp only [rng] at g ⊢; omega)
  refine ⟨⟨by rw [hl]; exact x1.rd h.hd (by simp only [rng]; omega), ?_, X.wok h.wi, by omega, X.wok h.hok, hne⟩, X⟩
  rw [List.eraseIdx_eq_take_drop_succ, List.append_assoc, flat_append, flat_append]
  have hlt : (flat E (ks.take i)).length = i * E.sz := by rw [flat_length, List.length_take]; congr 1; omega
  have hld : (flat E (ks.drop (i + 1))).length = ks.length * E.sz - (i + 1) * E.sz := by rw [flat_length, List.length_drop, Nat.sub_mul]
  refine Row.append.2 ⟨?_, Row.append.2 ⟨?_, ?_⟩⟩
  · have h0 := h.row.take (i * E.sz)
    rw [flat_take] at h0
    refine x1.row h0 fun j hj g => ?_
    rw [hlt] at hj; simp only [rng] at g; omega
  · rw [hlt]; exact r1
  · rw [hlt, hld]
    have h0 := h.row.drop ((ks.length - 1) * E.sz)
    rw [flat_drop] at h0
    have ho : oi + i * E.sz + (ks.length * E.sz - (i + 1) * E.sz) = oi + (ks.length - 1) * E.sz := by omega
    rw [ho]
    refine x1.row h0 fun j hj g => ?_
    simp only [rng] at g; omega
/-- A copy of all, one place on. -/
theorem SE.up {w w1 : World} {hb ho bi oi cap o1 : Nat} {ks : List α} {z : α} (h : SE E w hb ho (ks ++ [z]) bi oi cap)
    (x1 : Ext (rng bi o1 (ks.length * E.sz)) w w1) (r1 : Row w1 bi o1 (flat E ks)) (ho1 : 0 < ks.length → o1 = oi + E.sz) :
    SE E w1 hb ho ((ks ++ [z]).take 1 ++ ks) bi oi cap ∧ Ext (seF E hb ho bi oi cap) w w1 := by
  have hne := h.ne
  have hle := h.le
  rw [List.length_append, List.length_singleton] at hle
  have hcap := Nat.mul_le_mul_right E.sz hle
  have e1 : (ks.length + 1) * E.sz = ks.length * E.sz + E.sz := by rw [Nat.add_mul, Nat.one_mul]
  have hk0 : ks.length = 0 → ks.length * E.sz = 0 := fun e => by rw [e, Nat.zero_mul]
  have X1 : Ext (seF E hb ho bi oi cap) w w1 := x1.mono fun y o _ g => .inr (by
    simp only [rng] at g ⊢
    by_cases hk : 0 < ks.length
    · have := ho1 hk; omega
    · have := hk0 (by omega); omega)
  have hl : ((ks ++ [z]).take 1 ++ ks).length = ks.length + 1 := by simp only [List.length_append, List.length_take, List.length_singleton]; omega
  have hl1 : (flat E ((ks ++ [z]).take 1)).length = E.sz := by rw [flat_length, List.length_take, List.length_append, List.length_singleton, Nat.min_eq_left (by omega), Nat.one_mul]
  refine ⟨⟨?_, ?_, X1.wok h.wi, by omega, X1.wok h.hok, hne⟩, X1⟩
  · have := h.hd
    rw [List.length_append, List.length_singleton] at this
    rw [hl]
    exact x1.rd this (by simp only [rng]; omega)
  · rw [flat_append]
    refine Row.append.2 ⟨?_, ?_⟩
    · have h0 := h.row.take (1 * E.sz)
      rw [flat_take] at h0
      refine x1.row h0 fun j hj g => ?_
      rw [hl1] at hj
      simp only [rng] at g
      by_cases hk : 0 < ks.length
      · have := ho1 hk; omega
      · have := hk0 (by omega); omega
    · rw [hl1]
      by_cases hk : 0 < ks.length
      · rw [← ho1 hk]; exact r1
      · have : ks = [] := List.eq_nil_of_length_eq_zero (by omega)
        rw [this]; exact Row.nil _ _ _
/-- The slice is shortened. -/
theorem SE.cut {w w1 : World} {hb ho bi oi cap : Nat} {ks : List α} {z : α} (h : SE E w hb ho (ks ++ [z]) bi oi cap) (x1 : Ext (rng hb ho 1) w w1) (r1 : rd w1 hb ho = some (.slice (some ⟨bi, oi, none⟩) ks.length cap)) :
    SE E w1 hb ho ks bi oi cap ∧ Ext (seF E hb ho bi oi cap) w w1 := by
  have hne := h.ne
  have hle := h.le
  rw [List.length_append, List.length_singleton] at hle
  have hr := h.row
  rw [flat_append] at hr
  exact ⟨⟨r1, x1.row (Row.append.1 hr).1 fun j _ g => by simp only [rng] at g; omega, x1.wok h.wi, by omega, x1.wok h.hok, hne⟩, x1.mono fun y o _ g => .inl (by simp only [rng] at g; omega)⟩
theorem set_last {A : List α} {z x : α} : (A ++ [z]).set A.length x = A ++ [x] := by simp
theorem set_first {A : List α} {z x : α} : ((A ++ [z]).take 1 ++ A).set 0 x = x :: A := by cases A <;> rfl
theorem SE.app' {w w1 : World} {hb ho bi oi cap m : Nat} {ks ls : List α} {v' : Value} (h : SE E w hb ho ks bi oi cap) (hm : ls.length = m) (a : AppRes w E.sz (.slice (some ⟨bi, oi, none⟩) ks.length cap) ks.length m (flat E ks) (flat E ls) v' w1) :
    ∃ bi' oi' cap', v' = .slice (some ⟨bi', oi', none⟩) (ks.length + m) cap' ∧ wok w1 hb (ho + 1) ∧ w.heap.size ≤ w1.heap.size ∧
      ∀ w2, Ext (rng hb ho 1) w1 w2 → rd w2 hb ho = some v' → SE E w2 hb ho (ks ++ ls) bi' oi' cap' ∧ Ext (seF E hb ho bi oi cap) w w2 ∧ ((bi' = bi ∧ oi' = oi ∧ cap' = cap) ∨ w.heap.size ≤ bi') := by
  have key : ∃ bi' oi' cap', v' = .slice (some ⟨bi', oi', none⟩) (ks.length + m) cap' ∧ wok w1 hb (ho + 1) ∧ w.heap.size ≤ w1.heap.size := by
    rcases a.2 with ⟨_, _, h3⟩ | ⟨b0, o0, cap0, h1, h2, h3, h4, h5⟩ | ⟨cap', h1, h2, h3, h4⟩
    · cases h3
    · exact ⟨_, _, _, h2, h3.wok h.hok, by omega⟩
    · exact ⟨_, _, _, h1, h2.wok h.hok, by omega⟩
  obtain ⟨bi', oi', cap', hv, hw, hs⟩ := key
  refine ⟨bi', oi', cap', hv, hw, hs, fun w2 x r => ?_⟩
  obtain ⟨bi2, oi2, cap2, hv2, h1, h2, h3⟩ := h.app hm a x r
  rw [hv] at hv2
  simp only [Value.slice.injEq, Option.some.injEq, Addr.mk.injEq, true_and, and_true] at hv2
  obtain ⟨⟨rfl, rfl⟩, rfl⟩ := hv2
  exact ⟨h1, h2, h3.imp id fun g => Nat.le_of_eq g.1.symm⟩
/-- The slice from place i on. -/
theorem SE.from {w : World} {hb ho bi oi cap : Nat} {ks : List α} (h : SE E w hb ho ks bi oi cap) {sz : Nat} (hsz : E.sz = sz) (i : Nat) (hi : i ≤ ks.length) :
    ∃ o1, slFrom bi oi sz i ks.length cap = .slice (some ⟨bi, o1, none⟩) (ks.length - i) (cap - i) ∧ (i < cap → o1 = oi + i * sz) ∧ SlV w sz (.slice (some ⟨bi, o1, none⟩) (ks.length - i) (cap - i)) (ks.length - i) (flat E (ks.drop i)) ∧ wok w bi (o1 + (ks.length - i) * sz) := by
  subst hsz
  have hle := h.le
  obtain ⟨o1, h1, h2, h3⟩ := slFrom_sl bi oi E.sz i ks.length cap
  have hl : (flat E (ks.drop i)).length = (ks.length - i) * E.sz := by rw [flat_length, List.length_drop]
  have e1 : (ks.length - i) * E.sz = ks.length * E.sz - i * E.sz := Nat.sub_mul _ _ _
  have e2 := Nat.mul_le_mul_right E.sz hle
  have e3 := Nat.mul_le_mul_right E.sz hi
  have e4 : (cap - i) * E.sz = cap * E.sz - i * E.sz := Nat.sub_mul _ _ _
  by_cases hc : cap = i
  · have ho := h3 hc
    have hi0 : ks.length - i = 0 := by omega
    have hd : ks.drop i = [] := List.drop_eq_nil_of_le (by omega)
    have e5 : (ks.length - i) * E.sz = 0 := by rw [hi0, Nat.zero_mul]
    refine ⟨o1, h1, fun g => by omega, ⟨by rw [hl], .inr ⟨bi, o1, cap - i, rfl, by omega, by rw [hd]; exact Row.nil _ _ _, (h.wi.mono ?_).R (Nat.le_refl _)⟩⟩, h.wi.mono ?_⟩
    · omega
    · omega
  · have ho := h2 hc
    have hr := h.row.drop (i * E.sz)
    rw [flat_drop, ← ho] at hr
    refine ⟨o1, h1, fun _ => ho, ⟨by rw [hl], .inr ⟨bi, o1, cap - i, rfl, by omega, hr, (h.wi.mono ?_).R (Nat.le_refl _)⟩⟩, h.wi.mono ?_⟩
    · omega
    · omega
theorem New.keep {w w' : World} {l : List Value} (n : New w w' l) (L : List Nat) (h : ∀ b ∈ L, b < w.heap.size) : keeps (some (some L)) w w' := keeps_on n.ext fun x hx => ⟨h x hx, fun _ g => g⟩
theorem SE.ptr_at {w : World} {bc ba oa capc j p : Nat} {ps : List (Option Nat)} (h : SE Eo w bc 0 ps ba oa capc) (hp : ps[j]? = some (some p)) : rd w ba (oa + j) = some (ptr p) := by
  have := (Row.cons.1 (row_at Eo h.row hp)).1
  rw [Eo_sz, Nat.mul_one] at this
  exact this
end
/-- As kd, and the array lies in no other thing's own blocks. -/
theorem Ss.kdx {w0 w : World} {G : Nat → Nat → Prop} {P : List Ob} (s : Ss w0 G w P) (i : Nat) {bc : Nat} {ps : List (Option Nat)} (hi : P[i]? = some (kdO (ptr bc) ps)) (h0 : 0 < ps.length) :
    ∃ ba oa capc, SE Eo w bc 0 ps ba oa capc ∧
      (∀ {w' : World} {ps' : List (Option Nat)} {ba' oa' capc' : Nat}, SE Eo w' bc 0 ps' ba' oa' capc' → Ext (seF Eo bc 0 ba oa capc) w w' → ((ba' = ba ∧ oa' = oa ∧ capc' = capc) ∨ w.heap.size ≤ ba') → Ss w0 G w' (P.set i (kdO (ptr bc) ps'))) ∧
      (∀ {α : Type} {E : Enc α} (j : Nat) {iso : Int} {z b : Nat} {cnt : Int} {ks : List α} {ch : Value}, j ≠ i → P[j]? = some (ndO E iso z b cnt ks ch) → b ≠ ba) ∧
      (∀ (j : Nat) {c : Nat} {qs : List (Option Nat)}, j ≠ i → P[j]? = some (kdO (ptr c) qs) → c ≠ ba) := by
  obtain ⟨F, K, s⟩ := s
  rcases s.o i _ hi with ⟨h, _⟩ | ⟨bc', ba, oa, capc, h1, h, hK, hF⟩
  · cases h
  · obtain rfl : bc = bc' := by simpa [ptr] using h1
    have hle := h.le
    have hil := (List.getElem?_eq_some_iff.1 hi).1
    have hin : F i ba oa := (hF _ _).2 (.inr ⟨rfl, Nat.le_refl _, by omega⟩)
    refine ⟨ba, oa, capc, h, fun {w' ps' ba' oa' capc'} s' x hb => s.step hi _ (x.mono fun y o _ g => (hF y o).2 (seF_kid g)) (.inr ⟨bc, ba', oa', capc', rfl, s', rfl, fun _ _ => Iff.rfl⟩) (fun y o g => ?_) (by rw [hK]; exact hb.imp And.left id), fun {α E} j {iso z b cnt ks ch} hji hj hb => ?_, fun j {c qs} hji hj hc => ?_⟩
    · rcases kidF_new hb g with g | g
      · exact .inl ((hF y o).2 g)
      · exact .inr g
    · obtain ⟨bi, oi, cap, _, _, _, hF'⟩ := s.o j _ hj
      exact s.d j i (List.getElem?_eq_some_iff.1 hj).1 hil hji ba oa ((hF' _ _).2 (.inl hb.symm)) hin
    · rcases s.o j _ hj with ⟨h, _⟩ | ⟨c', ba', oa', capc', h1, _, _, hF'⟩
      · cases h
      · obtain rfl : c = c' := by simpa [ptr] using h1
        exact s.d j i (List.getElem?_eq_some_iff.1 hj).1 hil hji ba oa ((hF' _ _).2 (.inl hc.symm)) hin
theorem app_keep {w w1 : World} {sz n m bi oi cap : Nat} {l l' : List Value} {v' : Value} (a : AppRes w sz (.slice (some ⟨bi, oi, none⟩) n cap) n m l l' v' w1) (L : List Nat) (h : ∀ x ∈ L, x < w.heap.size ∧ x ≠ bi) : keeps (some (some L)) w w1 := by
  rcases a.2 with ⟨_, rfl, _⟩ | ⟨b0, o0, cap0, h1, _, h3, _⟩ | ⟨_, _, h2, _⟩
  · exact keeps_refl _ _
  · simp only [Value.slice.injEq, Option.some.injEq, Addr.mk.injEq, true_and, and_true] at h1
    obtain ⟨⟨rfl, rfl⟩, rfl⟩ := h1
    exact keeps_on h3 fun x hx => ⟨(h x hx).1, fun o g => (h x hx).2 g.1⟩
  · exact keeps_on h2 fun x hx => ⟨(h x hx).1, fun _ g => g⟩
theorem W_keep5 {P : Program} {n : Nat} {c : Code} {Q : Post} {e : Env} {w : World} {v0 v1 v2 v6 v7 : Value} (h0 : e 0 = v0) (h1 : e 1 = v1) (h2 : e 2 = v2) (h6 : e 6 = v6) (h7 : e 7 = v7)
    (h : ∀ e' : Env, e' 0 = v0 → e' 1 = v1 → e' 2 = v2 → e' 6 = v6 → e' 7 = v7 → W P n c Q e' w) : W P n c Q e w := h e h0 h1 h2 h6 h7
end Go.Proofs.Ytanmjbkbdmeckaa
/-
  What nodeRebalance's walks share. No condition.
-/
set_option linter.unusedSimpArgs false
set_option linter.unusedVariables false
namespace Go.Proofs.Ytanmjbkbdmeckaa
open Go Go.Proofs
/-- Items, or the empty item. -/
def Ez : Enc (Option It) where
  cel x := [itO x]
  sz := 1
  len _ := rfl
  one x v hv := by simp at hv; subst hv; cases x <;> rfl
  pos := by decide
theorem Ez_sz : Ez.sz = 1 := rfl
theorem rb_cel (x : Option It) : (itO x).cells.toList = Ez.cel x := by cases x <;> rfl
theorem itz_at {w : World} {b o : Nat} {xs : List (Option It)} (h : Row w b o (flat Ez xs)) {i : Nat} {x : Option It} (hi : xs[i]? = some x) : rd w b (o + i) = some (itO x) := by
  have := row_cell (row_at Ez h hi) (j := 0) rfl
  rwa [show Ez.sz = 1 from rfl, Nat.mul_one] at this
theorem flat_z (ks : List It) : flat Ez (ks.map some) = flat E ks := by
  induction ks with
  | nil => rfl
  | cons x l ih => rw [List.map_cons, flat_cons, flat_cons, ih]; rfl
theorem Own.z {w : World} {b bi oi cap : Nat} {iso cnt : Int} {ks : List It} {ch : Value} (h : Own E w b iso cnt bi oi cap ks ch) : Own Ez w b iso cnt bi oi cap (ks.map some) ch := by
  obtain ⟨h0, h1, h2, h3, wb, row, wi, le, ne⟩ := h
  exact ⟨h0, h1, by rw [List.length_map]; exact h2, h3, wb, by rw [flat_z]; exact row, wi, by rw [List.length_map]; exact le, ne⟩
theorem Own.unz {w : World} {b bi oi cap : Nat} {iso cnt : Int} {ks : List It} {ch : Value} (h : Own Ez w b iso cnt bi oi cap (ks.map some) ch) : Own E w b iso cnt bi oi cap ks ch := by
  obtain ⟨h0, h1, h2, h3, wb, row, wi, le, ne⟩ := h
  rw [List.length_map] at h2 le
  rw [flat_z] at row
  exact ⟨h0, h1, h2, h3, wb, row, wi, le, ne⟩
theorem ownF_z (b bi oi cap : Nat) : ownF Ez b bi oi cap = ownF E b bi oi cap := rfl
theorem Ob.same {A B : Ob} (h : A.p = B.p) : A = B := by cases A; cases B; cases h; rfl
theorem ndO_z (iso : Int) (z b : Nat) (cnt : Int) (ks : List It) (ch : Value) : ndO E iso z b cnt ks ch = ndO Ez iso z b cnt (ks.map some) ch :=
  Ob.same (by
    funext w F K
    exact propext ⟨fun ⟨bi, oi, cap, h, hr⟩ => ⟨bi, oi, cap, h.z, hr⟩, fun ⟨bi, oi, cap, h, hr⟩ => ⟨bi, oi, cap, h.unz, hr⟩⟩)
theorem rb_k (x : Option It) : bsV Try.prog 140 1 [(0, itO x)] = some (20, Ez.cel x) := by cases x <;> kernel_rfl
theorem rb_o (a : Option Addr) : bsV Try.prog 144 1 [(0, .pointer a)] = some (106, [.pointer a]) := by kernel_rfl
theorem rb_eli : elK Try.prog 140 = some (20, 1, 16, [zV]) := by kernel_rfl
theorem rb_elk : elK Try.prog 144 = some (106, 1, 8, [.pointer none]) := by kernel_rfl
theorem rb_len (x : Option It) : (itO x).cells.toList.length = 1 := by cases x <;> rfl
theorem rb_oc (x : Option It) : oc (itO x).cells.toList := by cases x <;> exact Ez.one _
theorem on1_0 (a : Nat) : readsB (some (some [a])) a = true := by simp [readsB]
theorem on2_0 (a b : Nat) : readsB (some (some [a, b])) a = true := by simp [readsB]
theorem on2_1 (a b : Nat) : readsB (some (some [a, b])) b = true := by simp [readsB]
theorem on3_0 (a b c : Nat) : readsB (some (some [a, b, c])) a = true := by simp [readsB]
theorem on3_1 (a b c : Nat) : readsB (some (some [a, b, c])) b = true := by simp [readsB]
theorem on3_2 (a b c : Nat) : readsB (some (some [a, b, c])) c = true := by simp [readsB]
theorem on5_0 (a b c d e : Nat) : readsB (some (some [a, b, c, d, e])) a = true := by simp [readsB]
theorem on5_1 (a b c d e : Nat) : readsB (some (some [a, b, c, d, e])) b = true := by simp [readsB]
theorem on5_2 (a b c d e : Nat) : readsB (some (some [a, b, c, d, e])) c = true := by simp [readsB]
theorem on5_3 (a b c d e : Nat) : readsB (some (some [a, b, c, d, e])) d = true := by simp [readsB]
theorem on5_4 (a b c d e : Nat) : readsB (some (some [a, b, c, d, e])) e = true := by simp [readsB]
theorem lt1 {B a : Nat} (h : a < B) : ∀ x ∈ [a], x < B := by simp [h]
theorem lt2 {B a b : Nat} (h : a < B) (h2 : b < B) : ∀ x ∈ [a, b], x < B := by simp [h, h2]
theorem lt3 {B a b c : Nat} (h : a < B) (h2 : b < B) (h3 : c < B) : ∀ x ∈ [a, b, c], x < B := by simp [h, h2, h3]
theorem lt5 {B a b c d e : Nat} (h : a < B) (h2 : b < B) (h3 : c < B) (h4 : d < B) (h5 : e < B) : ∀ x ∈ [a, b, c, d, e], x < B := by simp [h, h2, h3, h4, h5]
theorem fkeep1 {B c a : Nat} (h : a < B ∧ a ≠ c) : ∀ x ∈ [a], x < B ∧ x ≠ c := by simp [h]
theorem fkeep2 {B c a b : Nat} (h : a < B ∧ a ≠ c) (h2 : b < B ∧ b ≠ c) : ∀ x ∈ [a, b], x < B ∧ x ≠ c := by simp [h, h2]
theorem ix0 (sz b o n : Nat) (h : 0 < n) : idxX (some sz) ⟨b, o, none⟩ n 0 = some (.pointer (some ⟨b, o, none⟩)) := by
  have := idxX_s sz b o n 0 h
  rwa [Nat.zero_mul, Nat.add_zero] at this
theorem W_st {P : Program} {n : Nat} {c : Code} {Q : Post} {e : Env} {w w0 : World} {G : Nat → Nat → Prop} {L : List Ob} {v0 v1 v2 v6 v7 : Value} (s : Ss w0 G w L) (h0 : e 0 = v0) (h1 : e 1 = v1) (h2 : e 2 = v2) (h6 : e 6 = v6) (h7 : e 7 = v7)
    (h : ∀ (e' : Env) (w' : World), Ss w0 G w' L → e' 0 = v0 → e' 1 = v1 → e' 2 = v2 → e' 6 = v6 → e' 7 = v7 → W P n c Q e' w') : W P n c Q e w := h e w s h0 h1 h2 h6 h7
end Go.Proofs.Ytanmjbkbdmeckaa
/-
  nodeRebalance: the merge. No condition.
-/
set_option linter.unusedSimpArgs false
set_option linter.unusedVariables false
namespace Go.Proofs.Ytanmjbkbdmeckaa
open Go Go.Proofs
set_option maxHeartbeats 4000000 in
set_option maxRecDepth 8000 in
theorem zreb_merge (m d b p q bc i0 j cl cr : Nat) (iso cb : Int) (ks ls rs : List (Option It)) (k : Option It) (ps lp rp : List (Option Nat)) (chl chr : Value) (w0 w : World) (G : Nat → Nat → Prop) (hd : 2 ≤ d) (hd' : d ≤ 128) (hc : Cfg w0 m iso d) (hG : ∀ o, ¬ G m o)
    (s : Ss w0 G w [ndO Ez iso 1 b cb ks (ptr bc), ndO Ez iso 0 p (cl : Nat) ls chl, ndO Ez iso 0 q (cr : Nat) rs chr, kdO (ptr bc) ps, kdO chl lp, kdO chr rp]) (hj : (i0 = j ∧ j < ks.length) ∨ (i0 = ks.length ∧ j + 1 = ks.length)) (hkl : ks.length ≤ 2 * d - 1) (hk : ks[j]? = some k) (hps : ps.length = ks.length + 1) (hp : ps[j]? = some (some p)) (hq : ps[j + 1]? = some (some q))
    (hch : (chl = .pointer none ∧ chr = .pointer none ∧ lp = [] ∧ rp = []) ∨ ∃ lc rc, chl = ptr lc ∧ chr = ptr rc ∧ lp.length = ls.length + 1 ∧ rp.length = rs.length + 1) (hll : ls.length ≤ 2 * d - 1) (hrl : rs.length ≤ 2 * d - 1) (hcl : cl < 2305843009213693952) (hcr : cr < 2305843009213693952) (hlt : ls.length + rs.length < 2 * d - 1) :
    CallK Try.prog 176 #[ptr m, ptr b, .int .i64 (i0 : Nat)] w fun _ w' => Ss w0 G w' [ndO Ez iso 1 b cb (ks.eraseIdx j) (ptr bc), ndO Ez iso 0 p ((cl + (cr + 1) : Nat) : Int) (ls ++ k :: rs) chl, ndO Ez iso 0 q (cr : Nat) rs chr, kdO (ptr bc) (ps.eraseIdx (j + 1)), kdO chl (lp ++ rp), kdO chr rp] := by
  have hjn : j < ks.length := (List.getElem?_eq_some_iff.1 hk).1
  refine calls_of_W [] Try.func176 rfl Try.ntmps176 Try.results176 (by simp) fun e he => ?_
  have e0 : e 0 = ptr m := he 0 _ rfl
  have e1 : e 1 = ptr b := he 1 _ rfl
  have e2 : e 2 = .int .i64 (i0 : Nat) := he 2 _ rfl
  clear he
  refine W_sqx fun J hJ => ?_
  have hend : ∀ e, e 0 = ptr m → e 1 = ptr b → e 2 = .int .i64 j → J e w := by
    clear e0 e1 e2 e
    intro e e0 e1 e2
    refine hJ _ _ ?_; clear hJ J
    obtain ⟨nb, no, nc, on, un, vn⟩ := s.nd 0 rfl
    obtain ⟨xb, xo, xc, ox, ux⟩ := s.kd 3 rfl
    obtain ⟨lb, lo, lq, ol, ul, vl⟩ := s.nd 1 rfl
    obtain ⟨tb, to, tq, ot, ut, vt⟩ := s.nd 2 rfl
    have hiso := (hc.ext s.x fun o _ _ => hG o).iso
    have hjp : j < ps.length := by omega
    refine W_sq fun K hK => (W_text [true, true, true, true, true, true, true, true, true, false, true] (by kernel_rfl) ?_); simp only [↓List.toList_toArray, ↓rgd, ↓rgf, ↓reduceIte, Nat.reduceEqDiff, rg, ow_176, e0, e1, e2, ptr_eq, on.h3, ox.hd, hjp]
    refine do_call fn_121 (by simp only [evt, evc, upd_eq, Nat.reduceEqDiff, ↓reduceIte, maT, maC, maN, isnN, isnS] <;> rfl) (isoLoad_any m xb (xo + j) p true iso _ hiso (ox.ptr_at hp) ol.h0) ?_
    rintro _ w1 ⟨rfl, r1⟩
    refine ⟨trivial, ?_⟩
    simp only [↓List.toList_toArray, ↓rgd, ↓rgf, ↓reduceIte, Nat.reduceEqDiff, rg, ow_176]
    refine hK _ _ ?_; clear hK K
    have X1 : Ext noF w w1 := r1.ext
    have on := on.ext X1 fun _ _ _ g => g
    have ox := ox.ext0 X1
    have ot := ot.ext X1 fun _ _ _ g => g
    have hiso := X1.rd hiso fun g => g
    have q1 := wadd1 j (by omega)
    have hjp : j + 1 < ps.length := by omega
    refine W_sq fun K hK => (W_text [true, true, true, true, true, true, true, true, true, true, false, true] (by kernel_rfl) ?_); simp only [↓List.toList_toArray, ↓rgd, ↓rgf, ↓reduceIte, Nat.reduceEqDiff, rg, ow_176, e0, e1, e2, ptr_eq, on.h3, ox.hd, hjp, q1]
    refine do_call fn_121 (by simp only [evt, evc, upd_eq, Nat.reduceEqDiff, ↓reduceIte, maT, maC, maN, isnN, isnS] <;> rfl) (isoLoad_any m xb (xo + (j + 1)) q true iso _ hiso (ox.ptr_at hq) ot.h0) ?_
    rintro _ w2 ⟨rfl, r2⟩
    refine ⟨trivial, ?_⟩
    simp only [↓List.toList_toArray, ↓rgd, ↓rgf, ↓reduceIte, Nat.reduceEqDiff, rg, ow_176]
    refine hK _ _ ?_; clear hK K
    have s2 := (s.ext0 X1).ext0 r2.ext
    refine W_st s2 (by simp only [upd_eq, Nat.reduceEqDiff, ↓reduceIte]; exact e0) (by simp only [upd_eq, Nat.reduceEqDiff, ↓reduceIte]; exact e1) (by simp only [upd_eq, Nat.reduceEqDiff, ↓reduceIte]; exact e2) (by simp only [upd_eq, Nat.reduceEqDiff, ↓reduceIte] <;> rfl) (by simp only [upd_eq, Nat.reduceEqDiff, ↓reduceIte] <;> rfl) ?_
    clear s s2 e0 e1 e2 on un vn ox ux ol ul vl ot ut vt hiso X1 r1 r2 hjp q1
    clear e; intro e w s e0 e1 e2 e6 e7
    obtain ⟨lb, lo, lq, ol, ul, vl⟩ := s.nd 1 rfl
    obtain ⟨tb, to, tq, ot, ut, vt⟩ := s.nd 2 rfl
    have q1 := wadd ls.length rs.length (by omega)
    have hmx := (hc.ext s.x fun o _ _ => hG o).mx
    have hb : decide (((ls.length + rs.length : Nat) : Int) < ((2 * d - 1 : Nat) : Int)) = true := by simp; omega
    refine W_sq fun K hK => (W_draw (some none) none [(0, 0, 0), (0, 1, 0), (0, 2, 0), (0, 3, 0), (0, 4, 0), (0, 5, 0), (0, 6, 0), (0, 7, 0), (0, 8, 0), (0, 9, 0), (0, 10, 0), (0, 11, 0), (0, 12, 0), (0, 13, 0), (0, 14, 0), (0, 15, 0)] mixed (by kernel_rfl) ?_); simp only [↓List.toList_toArray, ↓rgd, ↓rgf, ↓reduceIte, Nat.reduceEqDiff, rg, ow_176, e0, e6, e7, ptr_eq, ol.h2, ot.h2, q1, hmx, hb]
    refine hK _ _ ?_; clear hK K
    refine W_true (by simp only [evt, evc, upd_eq, Nat.reduceEqDiff, ↓reduceIte, ntT, ntF] <;> rfl) ?_
    have s2 := s.ext0 (Ext.dr noF w (w.drawn + 1))
    refine W_st s2 (by simp only [upd_eq, Nat.reduceEqDiff, ↓reduceIte]; exact e0) (by simp only [upd_eq, Nat.reduceEqDiff, ↓reduceIte]; exact e1) (by simp only [upd_eq, Nat.reduceEqDiff, ↓reduceIte]; exact e2) (by simp only [upd_eq, Nat.reduceEqDiff, ↓reduceIte]; exact e6) (by simp only [upd_eq, Nat.reduceEqDiff, ↓reduceIte]; exact e7) ?_
    clear s s2 e0 e1 e2 e6 e7 ol ul vl ot ut vt q1 hmx hb
    clear e; intro e w s e0 e1 e2 e6 e7
    obtain ⟨lb, lo, lq, ol, ul, vl⟩ := s.nd 1 rfl
    obtain ⟨nb, no, nq, on, un, vn⟩ := s.nd 0 rfl
    have hkv := itz_at on.row hk
    have hb_p := wok_lt ol.wb
    have L0 := on1_0 p
    refine W_sq fun K hK => (W_semi (some (some [p])) (.take false 0 (.take false 1 (.take false 2 (.take false 3 (.take false 4 (.take false 5 (.take false 6 (.take false 7 (.take true 8 (.take false 9 (.take false 10 (.take true 11 (.act 12 (.bar 13 (.take false 14 (.take false 15 (.bar 16 .nil))))))))))))))))) mixed (by kernel_rfl) ?_); simp only [↓rgm, ↓List.toList_toArray, ↓rgd, ↓rgf, ↓reduceIte, Nat.reduceEqDiff, rg, ow_176, e0, e1, e2, e6, e7, ptr_eq, ol.h2, on.h2, hjn, hkv, L0, rB_on]
    refine do_bsl rfl (rb_k k) fun w1 n1 => ⟨.inr (n1.keep _ (lt1 hb_p)), ?_⟩
    simp only [↓List.toList_toArray, ↓rgd, ↓rgf, ↓reduceIte, Nat.reduceEqDiff, rg, ow_176, ↓rgm]
    have n1 := n1.od
    have a1 := ol.se.ext0 n1.ext
    refine do_append (by simp only [evt, evc, upd_eq, Nat.reduceEqDiff, ↓reduceIte, ntT, ntF] <;> rfl) (by simp only [evt, evc, upd_eq, Nat.reduceEqDiff, ↓reduceIte, ntT, ntF] <;> rfl) rb_eli rfl ni_140 a1.slV (u := .slice (some ⟨w.heap.size, 0, none⟩) 1 1) (m := 1) (l' := Ez.cel k) ⟨rfl, .inr ⟨_, 0, 1, rfl, Nat.le_refl _, n1.row, n1.wok.R (Nat.le_refl _)⟩⟩ (by omega) (by decide) (Ez.one _) fun v2 w2 a2 => ⟨trivial, ?_⟩
    obtain ⟨gb, go, gc, rfl, wk2, -, nx⟩ := a1.app' (ls := [k]) rfl (by rw [flat_one]; exact a2)
    simp only [↓List.toList_toArray, ↓rgd, ↓rgf, ↓reduceIte, Nat.reduceEqDiff, rg, ow_176, ↓rgm]
    refine do_store (by simp only [evt, evc, upd_eq, Nat.reduceEqDiff, ↓reduceIte, ntT, ntF] <;> rfl) (by simp only [evt, evc, upd_eq, Nat.reduceEqDiff, ↓reduceIte, ntT, ntF] <;> rfl) sz_140 rfl wk2 (by decide) (oc_one rfl rfl) fun w3 x3 r3 s3 => ⟨trivial, ?_⟩
    simp only [↓List.toList_toArray, ↓rgd, ↓rgf, ↓reduceIte, Nat.reduceEqDiff, rg, ow_176, ↓rgm]
    refine hK _ _ ?_; clear hK K
    obtain ⟨g1, g2, g3⟩ := nx w3 x3 (Row.cons.1 r3).1
    have s2 : Ss w0 G w3 [ndO Ez iso 1 b cb ks (ptr bc), ndO Ez iso 0 p (cl : Nat) (ls ++ [k]) chl, ndO Ez iso 0 q (cr : Nat) rs chr, kdO (ptr bc) ps, kdO chl lp, kdO chr rp] := ul g1 (n1.ext.trans g2 (fun _ _ h => h.elim) fun _ _ _ h => h) (g3.imp id fun h => ⟨(by have := n1.size; omega), Nat.zero_le _⟩)
    refine W_st s2 (by simp only [upd_eq, Nat.reduceEqDiff, ↓reduceIte]; exact e0) (by simp only [upd_eq, Nat.reduceEqDiff, ↓reduceIte]; exact e1) (by simp only [upd_eq, Nat.reduceEqDiff, ↓reduceIte]; exact e2) (by simp only [upd_eq, Nat.reduceEqDiff, ↓reduceIte]; exact e6) (by simp only [upd_eq, Nat.reduceEqDiff, ↓reduceIte]; exact e7) ?_
    clear s s2 e0 e1 e2 e6 e7 ol ul vl on un vn wk2 nx x3 r3 s3 g1 g2 g3 hkv hb_p n1 a1 a2 L0
    clear e; intro e w s e0 e1 e2 e6 e7
    obtain ⟨lb, lo, lq, ol, ul, vl⟩ := s.nd 1 rfl
    obtain ⟨tb, to, tq, ot, ut, vt⟩ := s.nd 2 rfl
    refine W_sq fun K hK => (W_semi (some none) (.take false 0 (.take false 1 (.take false 2 (.take false 3 (.take true 4 (.take false 5 (.take false 6 (.take false 7 (.take true 8 (.bar 9 (.take false 10 (.take false 11 (.bar 12 .nil))))))))))))) mixed (by kernel_rfl) ?_); simp only [↓rgm, ↓List.toList_toArray, ↓rgd, ↓rgf, ↓reduceIte, Nat.reduceEqDiff, rg, ow_176, e0, e1, e2, e6, e7, ptr_eq, ol.h2, ot.h2]
    have a1 := ol.se.ext0 (Ext.dr noF w (w.drawn + 1))
    refine do_append (by simp only [evt, evc, upd_eq, Nat.reduceEqDiff, ↓reduceIte, ntT, ntF] <;> rfl) (by simp only [evt, evc, upd_eq, Nat.reduceEqDiff, ↓reduceIte, ntT, ntF] <;> rfl) rb_eli rfl ni_140 a1.slV (ot.se.ext0 (Ext.dr noF w (w.drawn + 1))).slV (by simp only [List.length_append, List.length_singleton]; omega) (by decide) (flat_oc Ez _) fun v2 w2 a2 => ⟨trivial, ?_⟩
    obtain ⟨gb, go, gc, rfl, wk2, -, nx⟩ := a1.app' (ls := rs) rfl a2
    simp only [↓List.toList_toArray, ↓rgd, ↓rgf, ↓reduceIte, Nat.reduceEqDiff, rg, ow_176, ↓rgm]
    refine do_store (by simp only [evt, evc, upd_eq, Nat.reduceEqDiff, ↓reduceIte, ntT, ntF] <;> rfl) (by simp only [evt, evc, upd_eq, Nat.reduceEqDiff, ↓reduceIte, ntT, ntF] <;> rfl) sz_140 rfl wk2 (by decide) (oc_one rfl rfl) fun w3 x3 r3 s3 => ⟨trivial, ?_⟩
    simp only [↓List.toList_toArray, ↓rgd, ↓rgf, ↓reduceIte, Nat.reduceEqDiff, rg, ow_176, ↓rgm]
    refine hK _ _ ?_; clear hK K
    obtain ⟨g1, g2, g3⟩ := nx w3 x3 (Row.cons.1 r3).1
    have s2 : Ss w0 G w3 [ndO Ez iso 1 b cb ks (ptr bc), ndO Ez iso 0 p (cl : Nat) ((ls ++ [k]) ++ rs) chl, ndO Ez iso 0 q (cr : Nat) rs chr, kdO (ptr bc) ps, kdO chl lp, kdO chr rp] := ul g1 ((Ext.dr noF w (w.drawn + 1)).trans g2 (fun _ _ h => h.elim) fun _ _ _ h => h) (g3.imp id fun h => ⟨h, Nat.zero_le _⟩)
    refine W_st s2 (by simp only [upd_eq, Nat.reduceEqDiff, ↓reduceIte]; exact e0) (by simp only [upd_eq, Nat.reduceEqDiff, ↓reduceIte]; exact e1) (by simp only [upd_eq, Nat.reduceEqDiff, ↓reduceIte]; exact e2) (by simp only [upd_eq, Nat.reduceEqDiff, ↓reduceIte]; exact e6) (by simp only [upd_eq, Nat.reduceEqDiff, ↓reduceIte]; exact e7) ?_
    clear s s2 e0 e1 e2 e6 e7 ol ul vl ot ut vt wk2 nx x3 r3 s3 g1 g2 g3 a1 a2
    clear e; intro e w s e0 e1 e2 e6 e7
    refine W_sqx fun J hJ => ?_
    have hend : ∀ e w, Ss w0 G w [ndO Ez iso 1 b cb ks (ptr bc), ndO Ez iso 0 p (cl : Nat) ((ls ++ [k]) ++ rs) chl, ndO Ez iso 0 q (cr : Nat) rs chr, kdO (ptr bc) ps, kdO chl (lp ++ rp), kdO chr rp] → e 0 = ptr m → e 1 = ptr b → e 2 = .int .i64 j → e 6 = ptr p → e 7 = ptr q → J e w := by
      clear s e0 e1 e2 e6 e7 e w
      intro e w s e0 e1 e2 e6 e7
      refine hJ _ _ ?_; clear hJ J
      obtain ⟨lb, lo, lq, ol, ul, vl⟩ := s.nd 1 rfl
      obtain ⟨tb, to, tq, ot, ut, vt⟩ := s.nd 2 rfl
      have q1 := wadd1 cr (by omega)
      have q2 := wadd cl (cr + 1) (by omega)
      refine W_sq fun K hK => (W_draw (some none) (some 12) [(0, 0, 0), (0, 1, 0), (0, 2, 0), (0, 3, 0), (0, 4, 0), (0, 5, 0), (0, 6, 0), (0, 7, 0), (0, 8, 0), (0, 9, 0), (0, 10, 0), (0, 11, 0), (1, 12, 0)] mixed (by kernel_rfl) ?_); simp only [↓List.toList_toArray, ↓rgd, ↓rgf, ↓reduceIte, Nat.reduceEqDiff, rg, ow_176, e0, e1, e2, e6, e7, ptr_eq, ol.h1, ot.h1, q1, q2]
      refine do_store (by simp only [evt, evc, upd_eq, Nat.reduceEqDiff, ↓reduceIte, ntT, ntF] <;> rfl) (by simp only [evt, evc, upd_eq, Nat.reduceEqDiff, ↓reduceIte, ntT, ntF] <;> rfl) sz_3 rfl ol.wb (by decide) (oc_one rfl rfl) fun w3 x3 r3 s3 => ⟨(by first | exact trivial | exact .inl trivial), ?_⟩
      simp only [↓List.toList_toArray, ↓rgd, ↓rgf, ↓reduceIte, Nat.reduceEqDiff, rg, ow_176, ↓rgm]
      refine hK _ _ ?_; clear hK K
      have s2 : Ss w0 G w3 [ndO Ez iso 1 b cb ks (ptr bc), ndO Ez iso 0 p ((cl + (cr + 1) : Nat) : Int) ((ls ++ [k]) ++ rs) chl, ndO Ez iso 0 q (cr : Nat) rs chr, kdO (ptr bc) ps, kdO chl (lp ++ rp), kdO chr rp] := vl x3.od (Row.cons.1 r3).1
      refine W_st s2 (by simp only [upd_eq, Nat.reduceEqDiff, ↓reduceIte]; exact e0) (by simp only [upd_eq, Nat.reduceEqDiff, ↓reduceIte]; exact e1) (by simp only [upd_eq, Nat.reduceEqDiff, ↓reduceIte]; exact e2) (by simp only [upd_eq, Nat.reduceEqDiff, ↓reduceIte]; exact e6) (by simp only [upd_eq, Nat.reduceEqDiff, ↓reduceIte]; exact e7) ?_
      clear s s2 e0 e1 e2 e6 e7 ol ul vl ot ut vt x3 r3 s3  q1 q2
      clear e; intro e w s e0 e1 e2 e6 e7
      obtain ⟨nb, no, nq, on, un, vn⟩ := s.nd 0 rfl
      have q1 := wadd1 j (by omega)
      have hil : j < ks.length := hjn
      have hic := on.se.le
      obtain ⟨o1, h1, h1', -, k1⟩ := on.se.from Ez_sz (j) (by omega)
      have h1' := h1' (by omega)
      try simp only [Nat.mul_one] at h1'
      subst h1'
      have i1 : j ≤ ks.length := by omega
      obtain ⟨o2, h2, -, v2, -⟩ := on.se.from Ez_sz (j + 1) (by omega)
      have i2 : (j + 1) ≤ ks.length := by omega
      refine W_sq fun K hK => (W_draw (some none) (some 13) [(0, 0, 0), (0, 1, 0), (0, 2, 0), (0, 3, 0), (0, 4, 0), (0, 5, 0), (0, 6, 0), (0, 7, 0), (0, 8, 0), (0, 9, 0), (0, 10, 0), (0, 11, 0), (0, 12, 0), (1, 13, 0)] mixed (by kernel_rfl) ?_); simp only [↓List.toList_toArray, ↓rgd, ↓rgf, ↓reduceIte, Nat.reduceEqDiff, rg, ow_176, e0, e1, e2, e6, e7, ptr_eq, on.h2, q1, i1, h1, i2, h2]
      refine do_copy (by simp only [evt, evc, upd_eq, Nat.reduceEqDiff, ↓reduceIte, ntT, ntF] <;> rfl) (by simp only [evt, evc, upd_eq, Nat.reduceEqDiff, ↓reduceIte, ntT, ntF] <;> rfl) rb_eli (SlV.ext0 v2 (Ext.dr noF w (w.drawn + 1))) ((Ext.dr noF w (w.drawn + 1)).wok k1) (flat_oc Ez _) fun w3 x3 r3 s3 => ⟨(by first | exact trivial | exact .inl trivial), ?_⟩
      simp only [↓List.toList_toArray, ↓rgd, ↓rgf, ↓reduceIte, Nat.reduceEqDiff, rg, ow_176, ↓rgm]
      refine hK _ _ ?_; clear hK K
      have hm : min (ks.length - (j + 1)) (ks.length - j) = ks.length - 1 - j := by omega
      rw [hm] at x3 r3
      rw [List.take_of_length_le (by rw [flat_length, List.length_drop, Ez_sz]; omega)] at r3
      obtain ⟨z, g1, g2⟩ := on.se.down (i := j) hil (by simp only [Ez_sz, Nat.mul_one]; (try simp only [Nat.mul_one] at x3); exact x3.od) (by simp only [Ez_sz, Nat.mul_one]; (try simp only [Nat.mul_one] at r3); first | exact r3 | exact (rb_cel _) ▸ r3)
      have s2 : Ss w0 G w3 [ndO Ez iso 1 b cb (ks.eraseIdx j ++ [z]) (ptr bc), ndO Ez iso 0 p ((cl + (cr + 1) : Nat) : Int) ((ls ++ [k]) ++ rs) chl, ndO Ez iso 0 q (cr : Nat) rs chr, kdO (ptr bc) ps, kdO chl (lp ++ rp), kdO chr rp] := un g1 g2 (.inl ⟨rfl, rfl, rfl⟩)
      refine W_st s2 (by simp only [upd_eq, Nat.reduceEqDiff, ↓reduceIte]; exact e0) (by simp only [upd_eq, Nat.reduceEqDiff, ↓reduceIte]; exact e1) (by simp only [upd_eq, Nat.reduceEqDiff, ↓reduceIte]; exact e2) (by simp only [upd_eq, Nat.reduceEqDiff, ↓reduceIte]; exact e6) (by simp only [upd_eq, Nat.reduceEqDiff, ↓reduceIte]; exact e7) ?_
      clear s s2 e0 e1 e2 e6 e7 on un vn x3 r3 s3 g1 g2 hm hil hic v2 h2 i2 q1 h1 i1 k1 
      clear e; intro e w s e0 e1 e2 e6 e7
      obtain ⟨nb, no, nq, on, un, vn⟩ := s.nd 0 rfl
      have hA : (ks.eraseIdx j ++ [z]).length = ks.length := by rw [List.length_append, List.length_singleton]; have := List.length_eraseIdx_of_lt hjn; omega
      have h2 := on.se.hd
      rw [hA] at h2
      have q1 := wsub1 (ks.length) (by omega) (by omega)
      have hi : ks.length - 1 < ks.length := by omega
      have z4 := zIt_at (hc.ext s.x fun o _ _ => hG o)
      refine W_sq fun K hK => (W_draw (some none) (some 15) [(0, 0, 0), (0, 1, 0), (0, 2, 0), (0, 3, 0), (0, 4, 0), (0, 5, 0), (0, 6, 0), (0, 7, 0), (0, 8, 0), (0, 9, 0), (0, 10, 0), (0, 11, 0), (0, 12, 0), (0, 13, 0), (0, 14, 0), (1, 15, 0)] mixed (by kernel_rfl) ?_); simp only [↓List.toList_toArray, ↓rgd, ↓rgf, ↓reduceIte, Nat.reduceEqDiff, rg, ow_176, e0, e1, e2, e6, e7, ptr_eq, h2, q1, hi, z4]
      refine do_store (by simp only [evt, evc, upd_eq, Nat.reduceEqDiff, ↓reduceIte, ntT, ntF] <;> rfl) (by simp only [evt, evc, upd_eq, Nat.reduceEqDiff, ↓reduceIte, ntT, ntF] <;> rfl) sz_20 (rb_len none) on.se.wi (by have := on.se.le; rw [Ez_sz]; rw [hA] at this; omega) (rb_oc none) fun w3 x3 r3 s3 => ⟨(by first | exact trivial | exact .inl trivial), ?_⟩
      simp only [↓List.toList_toArray, ↓rgd, ↓rgf, ↓reduceIte, Nat.reduceEqDiff, rg, ow_176, ↓rgm]
      refine hK _ _ ?_; clear hK K
      obtain ⟨g1, g2⟩ := on.se.set (i := ks.length - 1) (x := none) (by rw [hA]; omega) (by simp only [Ez_sz, Nat.mul_one]; exact x3.od) (by simp only [Ez_sz, Nat.mul_one]; first | exact r3 | exact (rb_cel _) ▸ r3)
      have hs : (ks.eraseIdx j ++ [z]).set (ks.length - 1) none = ks.eraseIdx j ++ [none] := by rw [show ks.length - 1 = (ks.eraseIdx j).length by have := List.length_eraseIdx_of_lt hjn; omega]; exact set_last
      rw [hs] at g1
      have s2 : Ss w0 G w3 [ndO Ez iso 1 b cb (ks.eraseIdx j ++ [none]) (ptr bc), ndO Ez iso 0 p ((cl + (cr + 1) : Nat) : Int) ((ls ++ [k]) ++ rs) chl, ndO Ez iso 0 q (cr : Nat) rs chr, kdO (ptr bc) ps, kdO chl (lp ++ rp), kdO chr rp] := un g1 g2 (.inl ⟨rfl, rfl, rfl⟩)
      refine W_st s2 (by simp only [upd_eq, Nat.reduceEqDiff, ↓reduceIte]; exact e0) (by simp only [upd_eq, Nat.reduceEqDiff, ↓reduceIte]; exact e1) (by simp only [upd_eq, Nat.reduceEqDiff, ↓reduceIte]; exact e2) (by simp only [upd_eq, Nat.reduceEqDiff, ↓reduceIte]; exact e6) (by simp only [upd_eq, Nat.reduceEqDiff, ↓reduceIte]; exact e7) ?_
      clear s s2 e0 e1 e2 e6 e7 on un vn x3 r3 s3 g1 g2 hA h2 q1 hi z4 hs
      clear e; intro e w s e0 e1 e2 e6 e7
      obtain ⟨nb, no, nq, on, un, vn⟩ := s.nd 0 rfl
      have hA : ((ks.eraseIdx j) ++ [none]).length = ks.length := by rw [List.length_append, List.length_singleton]; have := List.length_eraseIdx_of_lt hjn; omega
      have h2 := on.se.hd
      have h4 := on.se.le
      rw [hA] at h2 h4
      have q1 := wsub1 (ks.length) (by omega) (by omega)
      have hi : ks.length - 1 ≤ nq := by omega
      refine W_sq fun K hK => (W_draw (some none) (some 14) [(0, 0, 0), (0, 1, 0), (0, 2, 0), (0, 3, 0), (0, 4, 0), (0, 5, 0), (0, 6, 0), (0, 7, 0), (0, 8, 0), (0, 9, 0), (0, 10, 0), (0, 11, 0), (0, 12, 0), (0, 13, 0), (1, 14, 0)] mixed (by kernel_rfl) ?_); simp only [↓List.toList_toArray, ↓rgd, ↓rgf, ↓reduceIte, Nat.reduceEqDiff, rg, ow_176, e0, e1, e2, e6, e7, ptr_eq, h2, q1, hi]
      refine do_store (by simp only [evt, evc, upd_eq, Nat.reduceEqDiff, ↓reduceIte, ntT, ntF] <;> rfl) (by simp only [evt, evc, upd_eq, Nat.reduceEqDiff, ↓reduceIte, ntT, ntF] <;> rfl) sz_140 rfl on.se.hok (by decide) (oc_one rfl rfl) fun w3 x3 r3 s3 => ⟨(by first | exact trivial | exact .inl trivial), ?_⟩
      simp only [↓List.toList_toArray, ↓rgd, ↓rgf, ↓reduceIte, Nat.reduceEqDiff, rg, ow_176, ↓rgm]
      refine hK _ _ ?_; clear hK K
      obtain ⟨g1, g2⟩ := on.se.cut x3.od (by rw [show ((ks.eraseIdx j)).length = ks.length - 1 by have := List.length_eraseIdx_of_lt hjn; omega]; exact (Row.cons.1 r3).1)
      have s2 : Ss w0 G w3 [ndO Ez iso 1 b cb (ks.eraseIdx j) (ptr bc), ndO Ez iso 0 p ((cl + (cr + 1) : Nat) : Int) ((ls ++ [k]) ++ rs) chl, ndO Ez iso 0 q (cr : Nat) rs chr, kdO (ptr bc) ps, kdO chl (lp ++ rp), kdO chr rp] := un g1 g2 (.inl ⟨rfl, rfl, rfl⟩)
      refine W_st s2 (by simp only [upd_eq, Nat.reduceEqDiff, ↓reduceIte]; exact e0) (by simp only [upd_eq, Nat.reduceEqDiff, ↓reduceIte]; exact e1) (by simp only [upd_eq, Nat.reduceEqDiff, ↓reduceIte]; exact e2) (by simp only [upd_eq, Nat.reduceEqDiff, ↓reduceIte]; exact e6) (by simp only [upd_eq, Nat.reduceEqDiff, ↓reduceIte]; exact e7) ?_
      clear s s2 e0 e1 e2 e6 e7 on un vn x3 r3 s3 g1 g2 hA h2 h4 q1 hi
      clear e; intro e w s e0 e1 e2 e6 e7
      have hjp : j + 1 < ps.length := by omega
      obtain ⟨nb, no, nq, on, un, vn⟩ := s.nd 0 rfl
      obtain ⟨xb, xo, xq, ox, ux⟩ := s.kd 3 rfl
      have q1 := wadd1 j (by omega)
      have q2 : IntKind.i64.wrap ((j : Int) + 2) = ((j + 1 + 1 : Nat) : Int) := wadd j 2 (by omega)
      have hil : (j + 1) < ps.length := hjp
      have hic := ox.le
      obtain ⟨o1, h1, h1', -, k1⟩ := ox.from Eo_sz ((j + 1)) (by omega)
      have h1' := h1' (by omega)
      try simp only [Nat.mul_one] at h1'
      subst h1'
      have i1 : (j + 1) ≤ ps.length := by omega
      obtain ⟨o2, h2, -, v2, -⟩ := ox.from Eo_sz ((j + 1) + 1) (by omega)
      have i2 : ((j + 1) + 1) ≤ ps.length := by omega
      refine W_sq fun K hK => (W_draw (some none) (some 18) [(0, 0, 0), (0, 1, 0), (0, 2, 0), (0, 3, 0), (0, 4, 0), (0, 5, 0), (0, 6, 0), (0, 7, 0), (0, 8, 0), (0, 9, 0), (0, 10, 0), (0, 11, 0), (0, 12, 0), (0, 13, 0), (0, 14, 0), (0, 15, 0), (0, 16, 0), (0, 17, 0), (1, 18, 0)] mixed (by kernel_rfl) ?_); simp only [↓List.toList_toArray, ↓rgd, ↓rgf, ↓reduceIte, Nat.reduceEqDiff, rg, ow_176, e0, e1, e2, e6, e7, ptr_eq, on.h3, ox.hd, q1, q2, i1, h1, i2, h2]
      refine do_copy (by simp only [evt, evc, upd_eq, Nat.reduceEqDiff, ↓reduceIte, ntT, ntF] <;> rfl) (by simp only [evt, evc, upd_eq, Nat.reduceEqDiff, ↓reduceIte, ntT, ntF] <;> rfl) rb_elk (SlV.ext0 v2 (Ext.dr noF w (w.drawn + 1))) ((Ext.dr noF w (w.drawn + 1)).wok k1) (flat_oc Eo _) fun w3 x3 r3 s3 => ⟨(by first | exact trivial | exact .inl trivial), ?_⟩
      simp only [↓List.toList_toArray, ↓rgd, ↓rgf, ↓reduceIte, Nat.reduceEqDiff, rg, ow_176, ↓rgm]
      refine hK _ _ ?_; clear hK K
      have hm : min (ps.length - ((j + 1) + 1)) (ps.length - (j + 1)) = ps.length - 1 - (j + 1) := by omega
      rw [hm] at x3 r3
      rw [List.take_of_length_le (by rw [flat_length, List.length_drop, Eo_sz]; omega)] at r3
      obtain ⟨z, g1, g2⟩ := ox.down (i := (j + 1)) hil (by simpa only [Eo_sz, Nat.mul_one, Nat.zero_mul, Nat.add_zero] using x3.od) (by simpa only [Eo_sz, Nat.mul_one, Nat.zero_mul, Nat.add_zero] using r3)
      have s2 : Ss w0 G w3 [ndO Ez iso 1 b cb (ks.eraseIdx j) (ptr bc), ndO Ez iso 0 p ((cl + (cr + 1) : Nat) : Int) ((ls ++ [k]) ++ rs) chl, ndO Ez iso 0 q (cr : Nat) rs chr, kdO (ptr bc) (ps.eraseIdx (j + 1) ++ [z]), kdO chl (lp ++ rp), kdO chr rp] := ux g1 g2 (.inl ⟨rfl, rfl, rfl⟩)
      refine W_st s2 (by simp only [upd_eq, Nat.reduceEqDiff, ↓reduceIte]; exact e0) (by simp only [upd_eq, Nat.reduceEqDiff, ↓reduceIte]; exact e1) (by simp only [upd_eq, Nat.reduceEqDiff, ↓reduceIte]; exact e2) (by simp only [upd_eq, Nat.reduceEqDiff, ↓reduceIte]; exact e6) (by simp only [upd_eq, Nat.reduceEqDiff, ↓reduceIte]; exact e7) ?_
      clear s s2 e0 e1 e2 e6 e7 on un vn ox ux x3 r3 s3 g1 g2 hm hil hic v2 h2 i2 q1 q2 h1 i1 k1 
      clear e; intro e w s e0 e1 e2 e6 e7
      obtain ⟨nb, no, nq, on, un, vn⟩ := s.nd 0 rfl
      obtain ⟨xb, xo, xq, ox, ux⟩ := s.kd 3 rfl
      have hA : (ps.eraseIdx (j + 1) ++ [z]).length = ps.length := by rw [List.length_append, List.length_singleton]; have := List.length_eraseIdx_of_lt hjp; omega
      have h2 := ox.hd
      rw [hA] at h2
      have q1 := wsub1 (ps.length) (by omega) (by omega)
      have hi : ps.length - 1 < ps.length := by omega
      refine W_sq fun K hK => (W_draw (some none) (some 15) [(0, 0, 0), (0, 1, 0), (0, 2, 0), (0, 3, 0), (0, 4, 0), (0, 5, 0), (0, 6, 0), (0, 7, 0), (0, 8, 0), (0, 9, 0), (0, 10, 0), (0, 11, 0), (0, 12, 0), (0, 13, 0), (0, 14, 0), (1, 15, 0)] mixed (by kernel_rfl) ?_); simp only [↓List.toList_toArray, ↓rgd, ↓rgf, ↓reduceIte, Nat.reduceEqDiff, rg, ow_176, e0, e1, e2, e6, e7, ptr_eq, on.h3, h2, q1, hi]
      refine do_store (by simp only [evt, evc, upd_eq, Nat.reduceEqDiff, ↓reduceIte, ntT, ntF] <;> rfl) (by simp only [evt, evc, upd_eq, Nat.reduceEqDiff, ↓reduceIte, ntT, ntF] <;> rfl) sz_106 rfl ox.wi (by have := ox.le; rw [Eo_sz]; rw [hA] at this; omega) (oc_one rfl rfl) fun w3 x3 r3 s3 => ⟨(by first | exact trivial | exact .inl trivial), ?_⟩
      simp only [↓List.toList_toArray, ↓rgd, ↓rgf, ↓reduceIte, Nat.reduceEqDiff, rg, ow_176, ↓rgm]
      refine hK _ _ ?_; clear hK K
      obtain ⟨g1, g2⟩ := ox.set (i := ps.length - 1) (x := none) (by rw [hA]; omega) (by rw [Eo_sz, Nat.mul_one]; exact x3.od) (by rw [Eo_sz, Nat.mul_one]; first | exact r3 | exact (rb_cel _) ▸ r3)
      have hs : (ps.eraseIdx (j + 1) ++ [z]).set (ps.length - 1) none = ps.eraseIdx (j + 1) ++ [none] := by rw [show ps.length - 1 = (ps.eraseIdx (j + 1)).length by have := List.length_eraseIdx_of_lt hjp; omega]; exact set_last
      rw [hs] at g1
      have s2 : Ss w0 G w3 [ndO Ez iso 1 b cb (ks.eraseIdx j) (ptr bc), ndO Ez iso 0 p ((cl + (cr + 1) : Nat) : Int) ((ls ++ [k]) ++ rs) chl, ndO Ez iso 0 q (cr : Nat) rs chr, kdO (ptr bc) (ps.eraseIdx (j + 1) ++ [none]), kdO chl (lp ++ rp), kdO chr rp] := ux g1 g2 (.inl ⟨rfl, rfl, rfl⟩)
      refine W_st s2 (by simp only [upd_eq, Nat.reduceEqDiff, ↓reduceIte]; exact e0) (by simp only [upd_eq, Nat.reduceEqDiff, ↓reduceIte]; exact e1) (by simp only [upd_eq, Nat.reduceEqDiff, ↓reduceIte]; exact e2) (by simp only [upd_eq, Nat.reduceEqDiff, ↓reduceIte]; exact e6) (by simp only [upd_eq, Nat.reduceEqDiff, ↓reduceIte]; exact e7) ?_
      clear s s2 e0 e1 e2 e6 e7 on un vn ox ux x3 r3 s3 g1 g2 hA h2 q1 hi hs
      clear e; intro e w s e0 e1 e2 e6 e7
      obtain ⟨nb, no, nq, on, un, vn⟩ := s.nd 0 rfl
      obtain ⟨xb, xo, xq, ox, ux⟩ := s.kd 3 rfl
      have hA : ((ps.eraseIdx (j + 1)) ++ [none]).length = ps.length := by rw [List.length_append, List.length_singleton]; have := List.length_eraseIdx_of_lt hjp; omega
      have h2 := ox.hd
      have h4 := ox.le
      rw [hA] at h2 h4
      have q1 := wsub1 (ps.length) (by omega) (by omega)
      have hi : ps.length - 1 ≤ xq := by omega
      refine W_rg fun K hK => (W_draw (some none) (some 20) [(0, 0, 0), (0, 1, 0), (0, 2, 0), (0, 3, 0), (0, 4, 0), (0, 5, 0), (0, 6, 0), (0, 7, 0), (0, 8, 0), (0, 9, 0), (0, 10, 0), (0, 11, 0), (0, 12, 0), (0, 13, 0), (0, 14, 0), (0, 15, 0), (0, 16, 0), (0, 17, 0), (0, 18, 0), (0, 19, 0), (1, 20, 0)] mixed (by kernel_rfl) ?_); simp only [↓List.toList_toArray, ↓rgd, ↓rgf, ↓reduceIte, Nat.reduceEqDiff, rg, ow_176, e0, e1, e2, e6, e7, ptr_eq, on.h3, h2, q1, hi]
      refine do_store (by simp only [evt, evc, upd_eq, Nat.reduceEqDiff, ↓reduceIte, ntT, ntF] <;> rfl) (by simp only [evt, evc, upd_eq, Nat.reduceEqDiff, ↓reduceIte, ntT, ntF] <;> rfl) sz_144 rfl ox.hok (by decide) (oc_one rfl rfl) fun w3 x3 r3 s3 => ⟨(by first | exact trivial | exact .inl trivial), ?_⟩
      simp only [↓List.toList_toArray, ↓rgd, ↓rgf, ↓reduceIte, Nat.reduceEqDiff, rg, ow_176, ↓rgm]
      refine hK _ _ ?_; clear hK K
      obtain ⟨g1, g2⟩ := ox.cut x3.od (by rw [show ((ps.eraseIdx (j + 1))).length = ps.length - 1 by have := List.length_eraseIdx_of_lt hjp; omega]; exact (Row.cons.1 r3).1)
      have s2 : Ss w0 G w3 [ndO Ez iso 1 b cb (ks.eraseIdx j) (ptr bc), ndO Ez iso 0 p ((cl + (cr + 1) : Nat) : Int) ((ls ++ [k]) ++ rs) chl, ndO Ez iso 0 q (cr : Nat) rs chr, kdO (ptr bc) (ps.eraseIdx (j + 1)), kdO chl (lp ++ rp), kdO chr rp] := ux g1 g2 (.inl ⟨rfl, rfl, rfl⟩)
      show endQ _ _ _ _ _ _
      refine endQ_0n ?_
      rw [List.append_assoc] at s2
      exact s2
    obtain ⟨lb, lo, lq, ol, ul, vl⟩ := s.nd 1 rfl
    rcases hch with ⟨rfl, rfl, rfl, rfl⟩ | ⟨lc, rc, rfl, rfl, hlp, hrp⟩
    · refine W_sq fun K hK => (W_text [true, false, true] (by kernel_rfl) ?_); simp only [↓List.toList_toArray, ↓rgd, ↓rgf, ↓reduceIte, Nat.reduceEqDiff, rg, ow_176, e6]
      refine do_call fn_122 (by simp only [evt, evc, upd_eq, Nat.reduceEqDiff, ↓reduceIte, maT, maC, maN, isnN, isnS] <;> rfl) (leaf_any p none w ol.h3) ?_
      rintro _ w1 ⟨rfl, hw1⟩
      obtain rfl : w = w1 := hw1.symm
      refine ⟨trivial, ?_⟩
      simp only [↓List.toList_toArray, ↓rgd, ↓rgf, ↓reduceIte, Nat.reduceEqDiff, rg, ow_176]
      refine hK _ _ ?_; clear hK K
      refine W_false (by simp only [evt, evc, upd_eq, Nat.reduceEqDiff, ↓reduceIte, ntT, ntF] <;> rfl) (W_skip ?_)
      exact hend _ _ s (by simp only [upd_eq, Nat.reduceEqDiff, ↓reduceIte]; exact e0) (by simp only [upd_eq, Nat.reduceEqDiff, ↓reduceIte]; exact e1) (by simp only [upd_eq, Nat.reduceEqDiff, ↓reduceIte]; exact e2) (by simp only [upd_eq, Nat.reduceEqDiff, ↓reduceIte]; exact e6) (by simp only [upd_eq, Nat.reduceEqDiff, ↓reduceIte]; exact e7)
    · refine W_sq fun K hK => (W_text [true, false, true] (by kernel_rfl) ?_); simp only [↓List.toList_toArray, ↓rgd, ↓rgf, ↓reduceIte, Nat.reduceEqDiff, rg, ow_176, e6]
      refine do_call fn_122 (by simp only [evt, evc, upd_eq, Nat.reduceEqDiff, ↓reduceIte, maT, maC, maN, isnN, isnS] <;> rfl) (leaf_any p (some ⟨lc, 0, none⟩) w ol.h3) ?_
      rintro _ w1 ⟨rfl, hw1⟩
      obtain rfl : w = w1 := hw1.symm
      refine ⟨trivial, ?_⟩
      simp only [↓List.toList_toArray, ↓rgd, ↓rgf, ↓reduceIte, Nat.reduceEqDiff, rg, ow_176]
      refine hK _ _ ?_; clear hK K
      refine W_true (by simp only [evt, evc, upd_eq, Nat.reduceEqDiff, ↓reduceIte, ntT, ntF] <;> rfl) ?_
      refine W_st s (by simp only [upd_eq, Nat.reduceEqDiff, ↓reduceIte]; exact e0) (by simp only [upd_eq, Nat.reduceEqDiff, ↓reduceIte]; exact e1) (by simp only [upd_eq, Nat.reduceEqDiff, ↓reduceIte]; exact e2) (by simp only [upd_eq, Nat.reduceEqDiff, ↓reduceIte]; exact e6) (by simp only [upd_eq, Nat.reduceEqDiff, ↓reduceIte]; exact e7) ?_
      clear s e0 e1 e2 e6 e7 ol ul vl
      clear e; intro e w s e0 e1 e2 e6 e7
      obtain ⟨lb, lo, lq, ol, ul, vl⟩ := s.nd 1 rfl
      obtain ⟨yb, yo, yq, oy, uy, fn, fk⟩ := s.kdx 4 rfl (by omega)
      obtain ⟨tb, to, tq, ot, ut, vt⟩ := s.nd 2 rfl
      obtain ⟨zb, zo, zq, oz, uz⟩ := s.kd 5 rfl
      have L0 := on1_0 p
      refine W_rg fun K hK => (W_semi (some (some [p])) (.take false 0 (.take false 1 (.take false 2 (.take false 3 (.take false 4 (.take false 5 (.take false 6 (.take true 7 (.take false 8 (.take true 9 (.take false 10 (.take false 11 (.take false 12 (.take true 13 (.take false 14 (.take true 15 (.act 16 (.take false 17 (.bar 18 .nil))))))))))))))))))) mixed (by kernel_rfl) ?_); simp only [↓rgm, ↓List.toList_toArray, ↓rgd, ↓rgf, ↓reduceIte, Nat.reduceEqDiff, rg, ow_176, e0, e1, e2, e6, e7, ptr_eq, ol.h3, oy.hd, ot.h3, oz.hd, L0, rB_on]
      have a1 := oy.ext0 (Ext.dr noF w (w.drawn + 1))
      refine do_append (by simp only [evt, evc, upd_eq, Nat.reduceEqDiff, ↓reduceIte, ntT, ntF] <;> rfl) (by simp only [evt, evc, upd_eq, Nat.reduceEqDiff, ↓reduceIte, ntT, ntF] <;> rfl) rb_elk rfl ni_144 a1.slV (oz.ext0 (Ext.dr noF w (w.drawn + 1))).slV (by omega) (by decide) (flat_oc Eo _) fun v2 w2 a2 => ⟨.inr (app_keep a2 _ (fkeep1 ⟨wok_lt ol.wb, fn 1 (by decide) rfl⟩)), ?_⟩
      obtain ⟨gb, go, gc, rfl, wk2, -, nx⟩ := a1.app' (ls := rp) rfl a2
      simp only [↓List.toList_toArray, ↓rgd, ↓rgf, ↓reduceIte, Nat.reduceEqDiff, rg, ow_176, ↓rgm]
      refine do_store (by simp only [evt, evc, upd_eq, Nat.reduceEqDiff, ↓reduceIte, ntT, ntF] <;> rfl) (by simp only [evt, evc, upd_eq, Nat.reduceEqDiff, ↓reduceIte, ntT, ntF] <;> rfl) sz_144 rfl wk2 (by decide) (oc_one rfl rfl) fun w3 x3 r3 s3 => ⟨trivial, ?_⟩
      simp only [↓List.toList_toArray, ↓rgd, ↓rgf, ↓reduceIte, Nat.reduceEqDiff, rg, ow_176, ↓rgm]
      refine hK _ _ ?_; clear hK K
      obtain ⟨g1, g2, g3⟩ := nx w3 x3 (Row.cons.1 r3).1
      have s2 : Ss w0 G w3 [ndO Ez iso 1 b cb ks (ptr bc), ndO Ez iso 0 p (cl : Nat) ((ls ++ [k]) ++ rs) (ptr lc), ndO Ez iso 0 q (cr : Nat) rs (ptr rc), kdO (ptr bc) ps, kdO (ptr lc) (lp ++ rp), kdO (ptr rc) rp] := uy g1 ((Ext.dr noF w (w.drawn + 1)).trans g2 (fun _ _ h => h.elim) fun _ _ _ h => h) (g3.imp id fun h => h)
      exact hend _ _ s2 (by simp only [upd_eq, Nat.reduceEqDiff, ↓reduceIte]; exact e0) (by simp only [upd_eq, Nat.reduceEqDiff, ↓reduceIte]; exact e1) (by simp only [upd_eq, Nat.reduceEqDiff, ↓reduceIte]; exact e2) (by simp only [upd_eq, Nat.reduceEqDiff, ↓reduceIte]; exact e6) (by simp only [upd_eq, Nat.reduceEqDiff, ↓reduceIte]; exact e7)
  obtain ⟨nb, no, nc, on, un, vn⟩ := s.nd 0 rfl
  rcases hj with ⟨rfl, hj⟩ | ⟨rfl, hj⟩
  · have hb : ((i0 : Int) == (ks.length : Int)) = false := by simp; omega
    refine W_sq fun K hK => (W_text [true, true, true, true, true, true, true] (by kernel_rfl) ?_); simp only [↓List.toList_toArray, ↓rgd, ↓rgf, ↓reduceIte, Nat.reduceEqDiff, rg, ow_176, e1, e2, ptr_eq, on.h2, hb]
    refine hK _ _ ?_; clear hK K
    refine W_false (by simp only [evt, evc, upd_eq, Nat.reduceEqDiff, ↓reduceIte, ntT, ntF] <;> rfl) (W_skip ?_)
    exact hend _ (by simp only [upd_eq, Nat.reduceEqDiff, ↓reduceIte]; exact e0) (by simp only [upd_eq, Nat.reduceEqDiff, ↓reduceIte]; exact e1) (by simp only [upd_eq, Nat.reduceEqDiff, ↓reduceIte]; exact e2)
  · have hb : ((ks.length : Int) == (ks.length : Int)) = true := by simp
    refine W_sq fun K hK => (W_text [true, true, true, true, true, true, true] (by kernel_rfl) ?_); simp only [↓List.toList_toArray, ↓rgd, ↓rgf, ↓reduceIte, Nat.reduceEqDiff, rg, ow_176, e1, e2, ptr_eq, on.h2, hb]
    refine hK _ _ ?_; clear hK K
    refine W_true (by simp only [evt, evc, upd_eq, Nat.reduceEqDiff, ↓reduceIte, ntT, ntF] <;> rfl) ?_
    have q1 := wsub1 ks.length (by omega) (by omega)
    have hjs : ks.length - 1 = j := by omega
    refine W_rg fun K hK => (W_text [true, true, true] (by kernel_rfl) ?_); simp only [↓List.toList_toArray, ↓rgd, ↓rgf, ↓reduceIte, Nat.reduceEqDiff, rg, ow_176, e2, q1]
    refine hK _ _ ?_; clear hK K
    exact hend _ (by simp only [upd_eq, Nat.reduceEqDiff, ↓reduceIte]; exact e0) (by simp only [upd_eq, Nat.reduceEqDiff, ↓reduceIte]; exact e1) (by simp only [upd_eq, Nat.reduceEqDiff, ↓reduceIte] <;> rw [hjs])
end Go.Proofs.Ytanmjbkbdmeckaa
/-
  nodeRebalance: left to right. No condition.
-/
set_option linter.unusedSimpArgs false
set_option linter.unusedVariables false
namespace Go.Proofs.Ytanmjbkbdmeckaa
open Go Go.Proofs
set_option maxHeartbeats 4000000 in
set_option maxRecDepth 8000 in
theorem zreb_right (m d b p q bc i0 j cl cr : Nat) (iso cb : Int) (ks ls rs : List (Option It)) (k x : Option It) (ps lp rp : List (Option Nat)) (chl chr : Value) (w0 w : World) (G : Nat → Nat → Prop) (hd : 2 ≤ d) (hd' : d ≤ 128) (hc : Cfg w0 m iso d) (hG : ∀ o, ¬ G m o)
    (s : Ss w0 G w [ndO Ez iso 1 b cb ks (ptr bc), ndO Ez iso 0 p (cl : Nat) (ls ++ [x]) chl, ndO Ez iso 0 q (cr : Nat) rs chr, kdO (ptr bc) ps, kdO chl lp, kdO chr rp]) (hj : (i0 = j ∧ j < ks.length) ∨ (i0 = ks.length ∧ j + 1 = ks.length)) (hkl : ks.length ≤ 2 * d - 1) (hk : ks[j]? = some k) (hps : ps.length = ks.length + 1) (hp : ps[j]? = some (some p)) (hq : ps[j + 1]? = some (some q))
    (hch : (chl = .pointer none ∧ chr = .pointer none ∧ lp = [] ∧ rp = []) ∨ ∃ lc rc, chl = ptr lc ∧ chr = ptr rc ∧ lp.length = (ls ++ [x]).length + 1 ∧ rp.length = rs.length + 1) (hll : (ls ++ [x]).length ≤ 2 * d - 1) (hrl : rs.length ≤ 2 * d - 1) (hcl : cl < 2305843009213693952) (hcr : cr < 2305843009213693952) (hlt : 2 * d - 1 ≤ (ls ++ [x]).length + rs.length) (hgt : rs.length < (ls ++ [x]).length) (cg : Nat) (hcg : 1 + cg ≤ cl) (hcgb : cr + cg < 2305843009213693952) (hg : (lp = [] ∧ cg = 0) ∨ ∃ g lp', lp = lp' ++ [some g] ∧ rd w0 g 1 = some (.int .i64 (cg : Nat)) ∧ ∀ o, ¬ G g o) :
    CallK Try.prog 176 #[ptr m, ptr b, .int .i64 (i0 : Nat)] w fun _ w' => Ss w0 G w' [ndO Ez iso 1 b cb (ks.set j x) (ptr bc), ndO Ez iso 0 p ((cl - 1 - cg : Nat) : Int) ls chl, ndO Ez iso 0 q ((cr + 1 + cg : Nat) : Int) (k :: rs) chr, kdO (ptr bc) ps, kdO chl lp.dropLast, kdO chr (lp.drop (lp.length - 1) ++ rp)] := by
  have hjn : j < ks.length := (List.getElem?_eq_some_iff.1 hk).1
  refine calls_of_W [] Try.func176 rfl Try.ntmps176 Try.results176 (by simp) fun e he => ?_
  have e0 : e 0 = ptr m := he 0 _ rfl
  have e1 : e 1 = ptr b := he 1 _ rfl
  have e2 : e 2 = .int .i64 (i0 : Nat) := he 2 _ rfl
  clear he
  refine W_sqx fun J hJ => ?_
  have hend : ∀ e, e 0 = ptr m → e 1 = ptr b → e 2 = .int .i64 j → J e w := by
    clear e0 e1 e2 e
    intro e e0 e1 e2
    refine hJ _ _ ?_; clear hJ J
    obtain ⟨nb, no, nc, on, un, vn⟩ := s.nd 0 rfl
    obtain ⟨xb, xo, xc, ox, ux⟩ := s.kd 3 rfl
    obtain ⟨lb, lo, lq, ol, ul, vl⟩ := s.nd 1 rfl
    obtain ⟨tb, to, tq, ot, ut, vt⟩ := s.nd 2 rfl
    have hiso := (hc.ext s.x fun o _ _ => hG o).iso
    have hjp : j < ps.length := by omega
    refine W_sq fun K hK => (W_text [true, true, true, true, true, true, true, true, true, false, true] (by kernel_rfl) ?_); simp only [↓List.toList_toArray, ↓rgd, ↓rgf, ↓reduceIte, Nat.reduceEqDiff, rg, ow_176, e0, e1, e2, ptr_eq, on.h3, ox.hd, hjp]
    refine do_call fn_121 (by simp only [evt, evc, upd_eq, Nat.reduceEqDiff, ↓reduceIte, maT, maC, maN, isnN, isnS] <;> rfl) (isoLoad_any m xb (xo + j) p true iso _ hiso (ox.ptr_at hp) ol.h0) ?_
    rintro _ w1 ⟨rfl, r1⟩
    refine ⟨trivial, ?_⟩
    simp only [↓List.toList_toArray, ↓rgd, ↓rgf, ↓reduceIte, Nat.reduceEqDiff, rg, ow_176]
    refine hK _ _ ?_; clear hK K
    have X1 : Ext noF w w1 := r1.ext
    have on := on.ext X1 fun _ _ _ g => g
    have ox := ox.ext0 X1
    have ot := ot.ext X1 fun _ _ _ g => g
    have hiso := X1.rd hiso fun g => g
    have q1 := wadd1 j (by omega)
    have hjp : j + 1 < ps.length := by omega
    refine W_sq fun K hK => (W_text [true, true, true, true, true, true, true, true, true, true, false, true] (by kernel_rfl) ?_); simp only [↓List.toList_toArray, ↓rgd, ↓rgf, ↓reduceIte, Nat.reduceEqDiff, rg, ow_176, e0, e1, e2, ptr_eq, on.h3, ox.hd, hjp, q1]
    refine do_call fn_121 (by simp only [evt, evc, upd_eq, Nat.reduceEqDiff, ↓reduceIte, maT, maC, maN, isnN, isnS] <;> rfl) (isoLoad_any m xb (xo + (j + 1)) q true iso _ hiso (ox.ptr_at hq) ot.h0) ?_
    rintro _ w2 ⟨rfl, r2⟩
    refine ⟨trivial, ?_⟩
    simp only [↓List.toList_toArray, ↓rgd, ↓rgf, ↓reduceIte, Nat.reduceEqDiff, rg, ow_176]
    refine hK _ _ ?_; clear hK K
    have s2 := (s.ext0 X1).ext0 r2.ext
    refine W_st s2 (by simp only [upd_eq, Nat.reduceEqDiff, ↓reduceIte]; exact e0) (by simp only [upd_eq, Nat.reduceEqDiff, ↓reduceIte]; exact e1) (by simp only [upd_eq, Nat.reduceEqDiff, ↓reduceIte]; exact e2) (by simp only [upd_eq, Nat.reduceEqDiff, ↓reduceIte] <;> rfl) (by simp only [upd_eq, Nat.reduceEqDiff, ↓reduceIte] <;> rfl) ?_
    clear s s2 e0 e1 e2 on un vn ox ux ol ul vl ot ut vt hiso X1 r1 r2 hjp q1
    clear e; intro e w s e0 e1 e2 e6 e7
    obtain ⟨lb, lo, lq, ol, ul, vl⟩ := s.nd 1 rfl
    obtain ⟨tb, to, tq, ot, ut, vt⟩ := s.nd 2 rfl
    have q1 := wadd (ls ++ [x]).length rs.length (by omega)
    have hmx := (hc.ext s.x fun o _ _ => hG o).mx
    have hb : decide ((((ls ++ [x]).length + rs.length : Nat) : Int) < ((2 * d - 1 : Nat) : Int)) = false := by simp only [decide_eq_false_iff_not]; omega
    refine W_sq fun K hK => (W_draw (some none) none [(0, 0, 0), (0, 1, 0), (0, 2, 0), (0, 3, 0), (0, 4, 0), (0, 5, 0), (0, 6, 0), (0, 7, 0), (0, 8, 0), (0, 9, 0), (0, 10, 0), (0, 11, 0), (0, 12, 0), (0, 13, 0), (0, 14, 0), (0, 15, 0)] mixed (by kernel_rfl) ?_); simp only [↓List.toList_toArray, ↓rgd, ↓rgf, ↓reduceIte, Nat.reduceEqDiff, rg, ow_176, e0, e6, e7, ptr_eq, ol.h2, ot.h2, q1, hmx, hb]
    refine hK _ _ ?_; clear hK K
    refine W_false (by simp only [evt, evc, upd_eq, Nat.reduceEqDiff, ↓reduceIte, ntT, ntF] <;> rfl) ?_
    have hb2 : decide ((rs.length : Int) < ((ls ++ [x]).length : Int)) = true := by simp only [decide_eq_true_eq]; omega
    refine W_sq fun K hK => (W_draw (some none) none [(0, 0, 0), (0, 1, 0), (0, 2, 0), (0, 3, 0), (0, 4, 0), (0, 5, 0), (0, 6, 0), (0, 7, 0), (0, 8, 0), (0, 9, 0), (0, 10, 0)] mixed (by kernel_rfl) ?_); simp only [↓List.toList_toArray, ↓rgd, ↓rgf, ↓reduceIte, Nat.reduceEqDiff, rg, ow_176, e0, e6, e7, ptr_eq, ol.h2, ot.h2, hb2]
    refine hK _ _ ?_; clear hK K
    refine W_true (by simp only [evt, evc, upd_eq, Nat.reduceEqDiff, ↓reduceIte, ntT, ntF] <;> rfl) ?_
    refine W_st (s.ext0 (Ext.dr noF w _)) (by simp only [upd_eq, Nat.reduceEqDiff, ↓reduceIte]; exact e0) (by simp only [upd_eq, Nat.reduceEqDiff, ↓reduceIte]; exact e1) (by simp only [upd_eq, Nat.reduceEqDiff, ↓reduceIte]; exact e2) (by simp only [upd_eq, Nat.reduceEqDiff, ↓reduceIte]; exact e6) (by simp only [upd_eq, Nat.reduceEqDiff, ↓reduceIte]; exact e7) ?_
    clear s e0 e1 e2 e6 e7 ol ul vl ot ut vt q1 hmx hb hb2
    clear e; intro e w s e0 e1 e2 e6 e7
    obtain ⟨n0, hn0⟩ : ∃ n0, n0 = ls.length + 1 := ⟨_, rfl⟩
    have hnl : (ls ++ [x]).length = n0 := by simp [hn0]
    obtain ⟨tb, to, tq, ot, ut, vt⟩ := s.nd 2 rfl
    have z4 := zIt_at (hc.ext s.x fun o _ _ => hG o)
    have hb_q := wok_lt ot.wb
    have L0 := on1_0 q
    refine W_sq fun K hK => (W_semi (some (some [q])) (.take false 0 (.take false 1 (.take false 2 (.take false 3 (.take false 4 (.take false 5 (.take false 6 (.take false 7 (.take true 8 (.act 9 (.bar 10 (.take false 11 (.take false 12 (.bar 13 .nil)))))))))))))) mixed (by kernel_rfl) ?_); simp only [↓rgm, ↓List.toList_toArray, ↓rgd, ↓rgf, ↓reduceIte, Nat.reduceEqDiff, rg, ow_176, e0, e1, e2, e6, e7, ptr_eq, ot.h2, z4, L0, rB_on]
    refine do_bsl rfl (rb_k none) fun w1 n1 => ⟨.inr (n1.keep _ (lt1 hb_q)), ?_⟩
    simp only [↓List.toList_toArray, ↓rgd, ↓rgf, ↓reduceIte, Nat.reduceEqDiff, rg, ow_176, ↓rgm]
    have n1 := n1.od
    have a1 := ot.se.ext0 n1.ext
    refine do_append (by simp only [evt, evc, upd_eq, Nat.reduceEqDiff, ↓reduceIte, ntT, ntF] <;> rfl) (by simp only [evt, evc, upd_eq, Nat.reduceEqDiff, ↓reduceIte, ntT, ntF] <;> rfl) rb_eli rfl ni_140 a1.slV (u := .slice (some ⟨w.heap.size, 0, none⟩) 1 1) (m := 1) (l' := Ez.cel none) ⟨rfl, .inr ⟨_, 0, 1, rfl, Nat.le_refl _, n1.row, n1.wok.R (Nat.le_refl _)⟩⟩ (by omega) (by decide) (Ez.one _) fun v2 w2 a2 => ⟨trivial, ?_⟩
    obtain ⟨gb, go, gc, rfl, wk2, -, nx⟩ := a1.app' (ls := [none]) rfl (by rw [flat_one]; exact a2)
    simp only [↓List.toList_toArray, ↓rgd, ↓rgf, ↓reduceIte, Nat.reduceEqDiff, rg, ow_176, ↓rgm]
    refine do_store (by simp only [evt, evc, upd_eq, Nat.reduceEqDiff, ↓reduceIte, ntT, ntF] <;> rfl) (by simp only [evt, evc, upd_eq, Nat.reduceEqDiff, ↓reduceIte, ntT, ntF] <;> rfl) sz_140 rfl wk2 (by decide) (oc_one rfl rfl) fun w3 x3 r3 s3 => ⟨trivial, ?_⟩
    simp only [↓List.toList_toArray, ↓rgd, ↓rgf, ↓reduceIte, Nat.reduceEqDiff, rg, ow_176, ↓rgm]
    refine hK _ _ ?_; clear hK K
    obtain ⟨g1, g2, g3⟩ := nx w3 x3 (Row.cons.1 r3).1
    have s2 : Ss w0 G w3 [ndO Ez iso 1 b cb ks (ptr bc), ndO Ez iso 0 p (cl : Nat) (ls ++ [x]) chl, ndO Ez iso 0 q (cr : Nat) (rs ++ [none]) chr, kdO (ptr bc) ps, kdO chl lp, kdO chr rp] := ut g1 (n1.ext.trans g2 (fun _ _ h => h.elim) fun _ _ _ h => h) (g3.imp id fun h => ⟨(by have := n1.size; omega), Nat.zero_le _⟩)
    refine W_st s2 (by simp only [upd_eq, Nat.reduceEqDiff, ↓reduceIte]; exact e0) (by simp only [upd_eq, Nat.reduceEqDiff, ↓reduceIte]; exact e1) (by simp only [upd_eq, Nat.reduceEqDiff, ↓reduceIte]; exact e2) (by simp only [upd_eq, Nat.reduceEqDiff, ↓reduceIte]; exact e6) (by simp only [upd_eq, Nat.reduceEqDiff, ↓reduceIte]; exact e7) ?_
    clear s s2 e0 e1 e2 e6 e7 ot ut vt wk2 nx x3 r3 s3 g1 g2 g3 z4 hb_q n1 a1 a2 L0
    clear e; intro e w s e0 e1 e2 e6 e7
    obtain ⟨tb, to, tq, ot, ut, vt⟩ := s.nd 2 rfl
    have hic := ot.se.le
    have hle : (rs ++ [none]).length = rs.length + 1 := by simp
    have i2 : 1 ≤ (rs ++ [none]).length := by omega
    obtain ⟨o1, h1, h1', -, k1⟩ := ot.se.from Ez_sz 1 i2
    have h3 : slcX (some 1) (.slice (some ⟨tb, to, none⟩) (rs ++ [none]).length tq) (some (.int .i64 1)) none none = some (slFrom tb to 1 1 (rs ++ [none]).length tq) := slcX_lo _ _ _ _ _ 1 _ i2
    refine W_sq fun K hK => (W_draw (some none) (some 9) [(0, 0, 0), (0, 1, 0), (0, 2, 0), (0, 3, 0), (0, 4, 0), (0, 5, 0), (0, 6, 0), (0, 7, 0), (0, 8, 0), (1, 9, 0)] mixed (by kernel_rfl) ?_); simp only [↓List.toList_toArray, ↓rgd, ↓rgf, ↓reduceIte, Nat.reduceEqDiff, rg, ow_176, e0, e1, e2, e6, e7, ptr_eq, ot.h2, h3, h1]
    refine do_copy (by simp only [evt, evc, upd_eq, Nat.reduceEqDiff, ↓reduceIte, ntT, ntF] <;> rfl) (by simp only [evt, evc, upd_eq, Nat.reduceEqDiff, ↓reduceIte, ntT, ntF] <;> rfl) rb_eli (SlV.ext0 ot.se.slV (Ext.dr noF w (w.drawn + 1))) ((Ext.dr noF w (w.drawn + 1)).wok k1) (flat_oc Ez _) fun w3 x3 r3 s3 => ⟨(by first | exact trivial | exact .inl trivial), ?_⟩
    simp only [↓List.toList_toArray, ↓rgd, ↓rgf, ↓reduceIte, Nat.reduceEqDiff, rg, ow_176, ↓rgm]
    refine hK _ _ ?_; clear hK K
    have hm : min (rs ++ [none]).length ((rs ++ [none]).length - 1) = rs.length := by omega
    rw [hm] at x3 r3
    rw [show rs.length * 1 = rs.length * Ez.sz from rfl, flat_take, List.take_left' rfl] at r3
    obtain ⟨g1, g2⟩ := ot.se.up x3.od r3 fun hA => by have := h1' (by omega); rw [Ez_sz]; omega
    have s2 : Ss w0 G w3 [ndO Ez iso 1 b cb ks (ptr bc), ndO Ez iso 0 p (cl : Nat) (ls ++ [x]) chl, ndO Ez iso 0 q (cr : Nat) ((rs ++ [none]).take 1 ++ rs) chr, kdO (ptr bc) ps, kdO chl lp, kdO chr rp] := ut g1 g2 (.inl ⟨rfl, rfl, rfl⟩)
    refine W_st s2 (by simp only [upd_eq, Nat.reduceEqDiff, ↓reduceIte]; exact e0) (by simp only [upd_eq, Nat.reduceEqDiff, ↓reduceIte]; exact e1) (by simp only [upd_eq, Nat.reduceEqDiff, ↓reduceIte]; exact e2) (by simp only [upd_eq, Nat.reduceEqDiff, ↓reduceIte]; exact e6) (by simp only [upd_eq, Nat.reduceEqDiff, ↓reduceIte]; exact e7) ?_
    clear s s2 e0 e1 e2 e6 e7 ot ut vt x3 r3 s3 g1 g2 hm hic hle i2 h1 h1' k1 h3
    clear e; intro e w s e0 e1 e2 e6 e7
    obtain ⟨tb, to, tq, ot, ut, vt⟩ := s.nd 2 rfl
    obtain ⟨nb, no, nq, on, un, vn⟩ := s.nd 0 rfl
    have hkv := itz_at on.row hk
    have hl0 : 0 < ((rs ++ [none]).take 1 ++ rs).length := by simp only [List.length_append, List.length_take, List.length_cons, List.length_nil]; omega
    have i0 := ix0 1 tb to ((rs ++ [none]).take 1 ++ rs).length hl0
    refine W_sq fun K hK => (W_draw (some none) (some 12) [(0, 0, 0), (0, 1, 0), (0, 2, 0), (0, 3, 0), (0, 4, 0), (0, 5, 0), (0, 6, 0), (0, 7, 0), (0, 8, 0), (0, 9, 0), (0, 10, 0), (0, 11, 0), (1, 12, 0)] mixed (by kernel_rfl) ?_); simp only [↓List.toList_toArray, ↓rgd, ↓rgf, ↓reduceIte, Nat.reduceEqDiff, rg, ow_176, e0, e1, e2, e6, e7, ptr_eq, ot.h2, on.h2, hjn, hkv, i0]
    refine do_store (by simp only [evt, evc, upd_eq, Nat.reduceEqDiff, ↓reduceIte, ntT, ntF] <;> rfl) (by simp only [evt, evc, upd_eq, Nat.reduceEqDiff, ↓reduceIte, ntT, ntF] <;> rfl) sz_20 (rb_len k) ot.se.wi (by have := ot.se.le; rw [Ez_sz]; skip; omega) (rb_oc k) fun w3 x3 r3 s3 => ⟨(by first | exact trivial | exact .inl trivial), ?_⟩
    simp only [↓List.toList_toArray, ↓rgd, ↓rgf, ↓reduceIte, Nat.reduceEqDiff, rg, ow_176, ↓rgm]
    refine hK _ _ ?_; clear hK K
    obtain ⟨g1, g2⟩ := ot.se.set (i := 0) (x := k) (hl0) (by rw [Nat.zero_mul, Nat.add_zero]; exact x3.od) (by rw [Nat.zero_mul, Nat.add_zero]; first | exact r3 | exact (rb_cel _) ▸ r3)
    rw [set_first] at g1
    have s2 : Ss w0 G w3 [ndO Ez iso 1 b cb ks (ptr bc), ndO Ez iso 0 p (cl : Nat) (ls ++ [x]) chl, ndO Ez iso 0 q (cr : Nat) (k :: rs) chr, kdO (ptr bc) ps, kdO chl lp, kdO chr rp] := ut g1 g2 (.inl ⟨rfl, rfl, rfl⟩)
    refine W_st s2 (by simp only [upd_eq, Nat.reduceEqDiff, ↓reduceIte]; exact e0) (by simp only [upd_eq, Nat.reduceEqDiff, ↓reduceIte]; exact e1) (by simp only [upd_eq, Nat.reduceEqDiff, ↓reduceIte]; exact e2) (by simp only [upd_eq, Nat.reduceEqDiff, ↓reduceIte]; exact e6) (by simp only [upd_eq, Nat.reduceEqDiff, ↓reduceIte]; exact e7) ?_
    clear s s2 e0 e1 e2 e6 e7 ot ut vt on un vn x3 r3 s3 g1 g2 hkv hl0 i0
    clear e; intro e w s e0 e1 e2 e6 e7
    obtain ⟨tb, to, tq, ot, ut, vt⟩ := s.nd 2 rfl
    have q1 := wadd1 cr (by omega)
    refine W_sq fun K hK => (W_text [true, true, true, true, true, true, true, false] (by kernel_rfl) ?_); simp only [↓List.toList_toArray, ↓rgd, ↓rgf, ↓reduceIte, Nat.reduceEqDiff, rg, ow_176, e0, e1, e2, e6, e7, ptr_eq, ot.h1, q1]
    refine do_store (by simp only [evt, evc, upd_eq, Nat.reduceEqDiff, ↓reduceIte, ntT, ntF] <;> rfl) (by simp only [evt, evc, upd_eq, Nat.reduceEqDiff, ↓reduceIte, ntT, ntF] <;> rfl) sz_3 rfl ot.wb (by decide) (oc_one rfl rfl) fun w3 x3 r3 s3 => ⟨(by first | exact trivial | exact .inl trivial), ?_⟩
    simp only [↓List.toList_toArray, ↓rgd, ↓rgf, ↓reduceIte, Nat.reduceEqDiff, rg, ow_176, ↓rgm]
    refine hK _ _ ?_; clear hK K
    have s2 : Ss w0 G w3 [ndO Ez iso 1 b cb ks (ptr bc), ndO Ez iso 0 p (cl : Nat) (ls ++ [x]) chl, ndO Ez iso 0 q ((cr + 1 : Nat) : Int) (k :: rs) chr, kdO (ptr bc) ps, kdO chl lp, kdO chr rp] := vt x3 (Row.cons.1 r3).1
    refine W_st s2 (by simp only [upd_eq, Nat.reduceEqDiff, ↓reduceIte]; exact e0) (by simp only [upd_eq, Nat.reduceEqDiff, ↓reduceIte]; exact e1) (by simp only [upd_eq, Nat.reduceEqDiff, ↓reduceIte]; exact e2) (by simp only [upd_eq, Nat.reduceEqDiff, ↓reduceIte]; exact e6) (by simp only [upd_eq, Nat.reduceEqDiff, ↓reduceIte]; exact e7) ?_
    clear s s2 e0 e1 e2 e6 e7 ot ut vt x3 r3 s3  q1
    clear e; intro e w s e0 e1 e2 e6 e7
    obtain ⟨nb, no, nq, on, un, vn⟩ := s.nd 0 rfl
    obtain ⟨lb, lo, lq, ol, ul, vl⟩ := s.nd 1 rfl
    have h2 := ol.h2
    rw [hnl] at h2
    have q1 := wsub1 n0 (by omega) (by omega)
    have hi : n0 - 1 < n0 := by omega
    have hxv := itz_at ol.row (i := n0 - 1) (x := x) (by simp [hn0])
    refine W_sq fun K hK => (W_draw (some none) (some 18) [(0, 0, 0), (0, 1, 0), (0, 2, 0), (0, 3, 0), (0, 4, 0), (0, 5, 0), (0, 6, 0), (0, 7, 0), (0, 8, 0), (0, 9, 0), (0, 10, 0), (0, 11, 0), (0, 12, 0), (0, 13, 0), (0, 14, 0), (0, 15, 0), (0, 16, 0), (0, 17, 0), (1, 18, 0)] mixed (by kernel_rfl) ?_); simp only [↓List.toList_toArray, ↓rgd, ↓rgf, ↓reduceIte, Nat.reduceEqDiff, rg, ow_176, e0, e1, e2, e6, e7, ptr_eq, on.h2, h2, hjn, q1, hi, hxv]
    refine do_store (by simp only [evt, evc, upd_eq, Nat.reduceEqDiff, ↓reduceIte, ntT, ntF] <;> rfl) (by simp only [evt, evc, upd_eq, Nat.reduceEqDiff, ↓reduceIte, ntT, ntF] <;> rfl) sz_20 (rb_len x) on.se.wi (by have := on.se.le; rw [Ez_sz]; skip; omega) (rb_oc x) fun w3 x3 r3 s3 => ⟨(by first | exact trivial | exact .inl trivial), ?_⟩
    simp only [↓List.toList_toArray, ↓rgd, ↓rgf, ↓reduceIte, Nat.reduceEqDiff, rg, ow_176, ↓rgm]
    refine hK _ _ ?_; clear hK K
    obtain ⟨g1, g2⟩ := on.se.set (i := j) (x := x) (hjn) (by simp only [Ez_sz, Nat.mul_one]; exact x3.od) (by simp only [Ez_sz, Nat.mul_one]; first | exact r3 | exact (rb_cel _) ▸ r3)
    skip
    have s2 : Ss w0 G w3 [ndO Ez iso 1 b cb (ks.set j x) (ptr bc), ndO Ez iso 0 p (cl : Nat) (ls ++ [x]) chl, ndO Ez iso 0 q ((cr + 1 : Nat) : Int) (k :: rs) chr, kdO (ptr bc) ps, kdO chl lp, kdO chr rp] := un g1 g2 (.inl ⟨rfl, rfl, rfl⟩)
    refine W_st s2 (by simp only [upd_eq, Nat.reduceEqDiff, ↓reduceIte]; exact e0) (by simp only [upd_eq, Nat.reduceEqDiff, ↓reduceIte]; exact e1) (by simp only [upd_eq, Nat.reduceEqDiff, ↓reduceIte]; exact e2) (by simp only [upd_eq, Nat.reduceEqDiff, ↓reduceIte]; exact e6) (by simp only [upd_eq, Nat.reduceEqDiff, ↓reduceIte]; exact e7) ?_
    clear s s2 e0 e1 e2 e6 e7 on un vn ol ul vl x3 r3 s3 g1 g2 h2 q1 hi hxv
    clear e; intro e w s e0 e1 e2 e6 e7
    obtain ⟨lb, lo, lq, ol, ul, vl⟩ := s.nd 1 rfl
    have hA : (ls ++ [x]).length = n0 := by rw [List.length_append, List.length_singleton]; skip; omega
    have h2 := ol.se.hd
    rw [hA] at h2
    have q1 := wsub1 (n0) (by omega) (by omega)
    have hi : n0 - 1 < n0 := by omega
    have z4 := zIt_at (hc.ext s.x fun o _ _ => hG o)
    refine W_sq fun K hK => (W_draw (some none) (some 15) [(0, 0, 0), (0, 1, 0), (0, 2, 0), (0, 3, 0), (0, 4, 0), (0, 5, 0), (0, 6, 0), (0, 7, 0), (0, 8, 0), (0, 9, 0), (0, 10, 0), (0, 11, 0), (0, 12, 0), (0, 13, 0), (0, 14, 0), (1, 15, 0)] mixed (by kernel_rfl) ?_); simp only [↓List.toList_toArray, ↓rgd, ↓rgf, ↓reduceIte, Nat.reduceEqDiff, rg, ow_176, e0, e1, e2, e6, e7, ptr_eq, h2, q1, hi, z4]
    refine do_store (by simp only [evt, evc, upd_eq, Nat.reduceEqDiff, ↓reduceIte, ntT, ntF] <;> rfl) (by simp only [evt, evc, upd_eq, Nat.reduceEqDiff, ↓reduceIte, ntT, ntF] <;> rfl) sz_20 (rb_len none) ol.se.wi (by have := ol.se.le; rw [Ez_sz]; rw [hA] at this; omega) (rb_oc none) fun w3 x3 r3 s3 => ⟨(by first | exact trivial | exact .inl trivial), ?_⟩
    simp only [↓List.toList_toArray, ↓rgd, ↓rgf, ↓reduceIte, Nat.reduceEqDiff, rg, ow_176, ↓rgm]
    refine hK _ _ ?_; clear hK K
    obtain ⟨g1, g2⟩ := ol.se.set (i := n0 - 1) (x := none) (by rw [hA]; omega) (by simp only [Ez_sz, Nat.mul_one]; exact x3.od) (by simp only [Ez_sz, Nat.mul_one]; first | exact r3 | exact (rb_cel _) ▸ r3)
    have hs : (ls ++ [x]).set (n0 - 1) none = ls ++ [none] := by rw [show n0 - 1 = (ls).length by skip; omega]; exact set_last
    rw [hs] at g1
    have s2 : Ss w0 G w3 [ndO Ez iso 1 b cb (ks.set j x) (ptr bc), ndO Ez iso 0 p (cl : Nat) (ls ++ [none]) chl, ndO Ez iso 0 q ((cr + 1 : Nat) : Int) (k :: rs) chr, kdO (ptr bc) ps, kdO chl lp, kdO chr rp] := ul g1 g2 (.inl ⟨rfl, rfl, rfl⟩)
    refine W_st s2 (by simp only [upd_eq, Nat.reduceEqDiff, ↓reduceIte]; exact e0) (by simp only [upd_eq, Nat.reduceEqDiff, ↓reduceIte]; exact e1) (by simp only [upd_eq, Nat.reduceEqDiff, ↓reduceIte]; exact e2) (by simp only [upd_eq, Nat.reduceEqDiff, ↓reduceIte]; exact e6) (by simp only [upd_eq, Nat.reduceEqDiff, ↓reduceIte]; exact e7) ?_
    clear s s2 e0 e1 e2 e6 e7 ol ul vl x3 r3 s3 g1 g2 hA h2 q1 hi z4 hs
    clear e; intro e w s e0 e1 e2 e6 e7
    obtain ⟨lb, lo, lq, ol, ul, vl⟩ := s.nd 1 rfl
    have hA : (ls ++ [none]).length = n0 := by rw [List.length_append, List.length_singleton]; skip; omega
    have h2 := ol.se.hd
    have h4 := ol.se.le
    rw [hA] at h2 h4
    have q1 := wsub1 (n0) (by omega) (by omega)
    have hi : n0 - 1 ≤ lq := by omega
    refine W_sq fun K hK => (W_draw (some none) (some 14) [(0, 0, 0), (0, 1, 0), (0, 2, 0), (0, 3, 0), (0, 4, 0), (0, 5, 0), (0, 6, 0), (0, 7, 0), (0, 8, 0), (0, 9, 0), (0, 10, 0), (0, 11, 0), (0, 12, 0), (0, 13, 0), (1, 14, 0)] mixed (by kernel_rfl) ?_); simp only [↓List.toList_toArray, ↓rgd, ↓rgf, ↓reduceIte, Nat.reduceEqDiff, rg, ow_176, e0, e1, e2, e6, e7, ptr_eq, h2, q1, hi]
    refine do_store (by simp only [evt, evc, upd_eq, Nat.reduceEqDiff, ↓reduceIte, ntT, ntF] <;> rfl) (by simp only [evt, evc, upd_eq, Nat.reduceEqDiff, ↓reduceIte, ntT, ntF] <;> rfl) sz_140 rfl ol.se.hok (by decide) (oc_one rfl rfl) fun w3 x3 r3 s3 => ⟨(by first | exact trivial | exact .inl trivial), ?_⟩
    simp only [↓List.toList_toArray, ↓rgd, ↓rgf, ↓reduceIte, Nat.reduceEqDiff, rg, ow_176, ↓rgm]
    refine hK _ _ ?_; clear hK K
    obtain ⟨g1, g2⟩ := ol.se.cut x3.od (by rw [show (ls).length = n0 - 1 by skip; omega]; exact (Row.cons.1 r3).1)
    have s2 : Ss w0 G w3 [ndO Ez iso 1 b cb (ks.set j x) (ptr bc), ndO Ez iso 0 p (cl : Nat) ls chl, ndO Ez iso 0 q ((cr + 1 : Nat) : Int) (k :: rs) chr, kdO (ptr bc) ps, kdO chl lp, kdO chr rp] := ul g1 g2 (.inl ⟨rfl, rfl, rfl⟩)
    refine W_st s2 (by simp only [upd_eq, Nat.reduceEqDiff, ↓reduceIte]; exact e0) (by simp only [upd_eq, Nat.reduceEqDiff, ↓reduceIte]; exact e1) (by simp only [upd_eq, Nat.reduceEqDiff, ↓reduceIte]; exact e2) (by simp only [upd_eq, Nat.reduceEqDiff, ↓reduceIte]; exact e6) (by simp only [upd_eq, Nat.reduceEqDiff, ↓reduceIte]; exact e7) ?_
    clear s s2 e0 e1 e2 e6 e7 ol ul vl x3 r3 s3 g1 g2 hA h2 h4 q1 hi
    clear e; intro e w s e0 e1 e2 e6 e7
    obtain ⟨lb, lo, lq, ol, ul, vl⟩ := s.nd 1 rfl
    have q1 := wsub1 cl (by omega) (by omega)
    refine W_sq fun K hK => (W_text [true, true, true, true, true, true, true, false] (by kernel_rfl) ?_); simp only [↓List.toList_toArray, ↓rgd, ↓rgf, ↓reduceIte, Nat.reduceEqDiff, rg, ow_176, e0, e1, e2, e6, e7, ptr_eq, ol.h1, q1]
    refine do_store (by simp only [evt, evc, upd_eq, Nat.reduceEqDiff, ↓reduceIte, ntT, ntF] <;> rfl) (by simp only [evt, evc, upd_eq, Nat.reduceEqDiff, ↓reduceIte, ntT, ntF] <;> rfl) sz_3 rfl ol.wb (by decide) (oc_one rfl rfl) fun w3 x3 r3 s3 => ⟨(by first | exact trivial | exact .inl trivial), ?_⟩
    simp only [↓List.toList_toArray, ↓rgd, ↓rgf, ↓reduceIte, Nat.reduceEqDiff, rg, ow_176, ↓rgm]
    refine hK _ _ ?_; clear hK K
    have s2 : Ss w0 G w3 [ndO Ez iso 1 b cb (ks.set j x) (ptr bc), ndO Ez iso 0 p ((cl - 1 : Nat) : Int) ls chl, ndO Ez iso 0 q ((cr + 1 : Nat) : Int) (k :: rs) chr, kdO (ptr bc) ps, kdO chl lp, kdO chr rp] := vl x3 (Row.cons.1 r3).1
    refine W_st s2 (by simp only [upd_eq, Nat.reduceEqDiff, ↓reduceIte]; exact e0) (by simp only [upd_eq, Nat.reduceEqDiff, ↓reduceIte]; exact e1) (by simp only [upd_eq, Nat.reduceEqDiff, ↓reduceIte]; exact e2) (by simp only [upd_eq, Nat.reduceEqDiff, ↓reduceIte]; exact e6) (by simp only [upd_eq, Nat.reduceEqDiff, ↓reduceIte]; exact e7) ?_
    clear s s2 e0 e1 e2 e6 e7 ol ul vl x3 r3 s3  q1
    clear e; intro e w s e0 e1 e2 e6 e7
    obtain ⟨lb, lo, lq, ol, ul, vl⟩ := s.nd 1 rfl
    rcases hch with ⟨rfl, rfl, rfl, rfl⟩ | ⟨lc, rc, rfl, rfl, hlp, hrp⟩
    · refine W_sq fun K hK => (W_text [true, false, true] (by kernel_rfl) ?_); simp only [↓List.toList_toArray, ↓rgd, ↓rgf, ↓reduceIte, Nat.reduceEqDiff, rg, ow_176, e6]
      refine do_call fn_122 (by simp only [evt, evc, upd_eq, Nat.reduceEqDiff, ↓reduceIte, maT, maC, maN, isnN, isnS] <;> rfl) (leaf_any p none w ol.h3) ?_
      rintro _ w1 ⟨rfl, hw1⟩
      obtain rfl : w = w1 := hw1.symm
      refine ⟨trivial, ?_⟩
      simp only [↓List.toList_toArray, ↓rgd, ↓rgf, ↓reduceIte, Nat.reduceEqDiff, rg, ow_176]
      refine hK _ _ ?_; clear hK K
      refine W_false (by simp only [evt, evc, upd_eq, Nat.reduceEqDiff, ↓reduceIte, ntT, ntF] <;> rfl) (W_skip ?_)
      show endQ _ _ _ _ _ _
      refine endQ_0n ?_
      obtain rfl : cg = 0 := by
        rcases hg with ⟨_, h⟩ | ⟨g, lp', h, _⟩
        · exact h
        · simp at h
      exact s
    · refine W_sq fun K hK => (W_text [true, false, true] (by kernel_rfl) ?_); simp only [↓List.toList_toArray, ↓rgd, ↓rgf, ↓reduceIte, Nat.reduceEqDiff, rg, ow_176, e6]
      refine do_call fn_122 (by simp only [evt, evc, upd_eq, Nat.reduceEqDiff, ↓reduceIte, maT, maC, maN, isnN, isnS] <;> rfl) (leaf_any p (some ⟨lc, 0, none⟩) w ol.h3) ?_
      rintro _ w1 ⟨rfl, hw1⟩
      obtain rfl : w = w1 := hw1.symm
      refine ⟨trivial, ?_⟩
      simp only [↓List.toList_toArray, ↓rgd, ↓rgf, ↓reduceIte, Nat.reduceEqDiff, rg, ow_176]
      refine hK _ _ ?_; clear hK K
      refine W_true (by simp only [evt, evc, upd_eq, Nat.reduceEqDiff, ↓reduceIte, ntT, ntF] <;> rfl) ?_
      refine W_st s (by simp only [upd_eq, Nat.reduceEqDiff, ↓reduceIte]; exact e0) (by simp only [upd_eq, Nat.reduceEqDiff, ↓reduceIte]; exact e1) (by simp only [upd_eq, Nat.reduceEqDiff, ↓reduceIte]; exact e2) (by simp only [upd_eq, Nat.reduceEqDiff, ↓reduceIte]; exact e6) (by simp only [upd_eq, Nat.reduceEqDiff, ↓reduceIte]; exact e7) ?_
      clear s e0 e1 e2 e6 e7 ol ul vl
      clear e; intro e w s e0 e1 e2 e6 e7
      obtain ⟨g, lp', rfl, hgc, hgG⟩ : ∃ g lp', lp = lp' ++ [some g] ∧ rd w0 g 1 = some (.int .i64 (cg : Nat)) ∧ ∀ o, ¬ G g o := by
        rcases hg with ⟨h, _⟩ | h
        · rw [h] at hlp; cases hlp
        · exact h
      obtain ⟨n2, hn2⟩ : ∃ n2, n2 = lp'.length + 1 := ⟨_, rfl⟩
      have hnk : (lp' ++ [some g]).length = n2 := by simp [hn2]
      have hrp0 : rp.length ≤ 2 * d := by omega
      have hn2b : n2 ≤ 2 * d := by omega
      clear hlp hll hrl hgt hlt hnl
      obtain ⟨tb, to, tq, ot, ut, vt⟩ := s.nd 2 rfl
      obtain ⟨zb, zo, zq, oz, uz, fn, fk⟩ := s.kdx 5 rfl (by omega)
      have hb_q := wok_lt ot.wb
      have hb_rc := wok_lt oz.hok
      have L0 := on2_0 q rc
      have L1 := on2_1 q rc
      refine W_sq fun K hK => (W_semi (some (some [q, rc])) (.take false 0 (.take false 1 (.take false 2 (.take false 3 (.take false 4 (.take false 5 (.take false 6 (.take false 7 (.take false 8 (.take false 9 (.act 10 (.act 11 (.take false 12 (.bar 13 .nil)))))))))))))) mixed (by kernel_rfl) ?_); simp only [↓rgm, ↓List.toList_toArray, ↓rgd, ↓rgf, ↓reduceIte, Nat.reduceEqDiff, rg, ow_176, e0, e1, e2, e6, e7, ptr_eq, ot.h3, oz.hd, L0, L1, rB_on]
      refine do_bsl rfl (rb_o none) fun w1 n1 => ⟨.inr (n1.keep _ (lt2 hb_q hb_rc)), ?_⟩
      simp only [↓List.toList_toArray, ↓rgd, ↓rgf, ↓reduceIte, Nat.reduceEqDiff, rg, ow_176, ↓rgm]
      have n1 := n1.od
      have a1 := oz.ext0 n1.ext
      refine do_append (by simp only [evt, evc, upd_eq, Nat.reduceEqDiff, ↓reduceIte, ntT, ntF] <;> rfl) (by simp only [evt, evc, upd_eq, Nat.reduceEqDiff, ↓reduceIte, ntT, ntF] <;> rfl) rb_elk rfl ni_144 a1.slV (u := .slice (some ⟨w.heap.size, 0, none⟩) 1 1) (m := 1) (l' := Eo.cel none) ⟨rfl, .inr ⟨_, 0, 1, rfl, Nat.le_refl _, n1.row, n1.wok.R (Nat.le_refl _)⟩⟩ (by omega) (by decide) (Eo.one _) fun v2 w2 a2 => ⟨.inr (app_keep a2 _ (fkeep2 ⟨wok_lt (n1.ext.wok ot.wb), fn 2 (by decide) rfl⟩ ⟨wok_lt (n1.ext.wok oz.hok), oz.ne.symm⟩)), ?_⟩
      obtain ⟨gb, go, gc, rfl, wk2, -, nx⟩ := a1.app' (ls := [none]) rfl (by rw [flat_one]; exact a2)
      simp only [↓List.toList_toArray, ↓rgd, ↓rgf, ↓reduceIte, Nat.reduceEqDiff, rg, ow_176, ↓rgm]
      refine do_store (by simp only [evt, evc, upd_eq, Nat.reduceEqDiff, ↓reduceIte, ntT, ntF] <;> rfl) (by simp only [evt, evc, upd_eq, Nat.reduceEqDiff, ↓reduceIte, ntT, ntF] <;> rfl) sz_144 rfl wk2 (by decide) (oc_one rfl rfl) fun w3 x3 r3 s3 => ⟨trivial, ?_⟩
      simp only [↓List.toList_toArray, ↓rgd, ↓rgf, ↓reduceIte, Nat.reduceEqDiff, rg, ow_176, ↓rgm]
      refine hK _ _ ?_; clear hK K
      obtain ⟨g1, g2, g3⟩ := nx w3 x3 (Row.cons.1 r3).1
      have s2 : Ss w0 G w3 [ndO Ez iso 1 b cb (ks.set j x) (ptr bc), ndO Ez iso 0 p ((cl - 1 : Nat) : Int) ls (ptr lc), ndO Ez iso 0 q ((cr + 1 : Nat) : Int) (k :: rs) (ptr rc), kdO (ptr bc) ps, kdO (ptr lc) (lp' ++ [some g]), kdO (ptr rc) (rp ++ [none])] := uz g1 (n1.ext.trans g2 (fun _ _ h => h.elim) fun _ _ _ h => h) (g3.imp id fun h => (by have := n1.size; omega))
      refine W_st s2 (by simp only [upd_eq, Nat.reduceEqDiff, ↓reduceIte]; exact e0) (by simp only [upd_eq, Nat.reduceEqDiff, ↓reduceIte]; exact e1) (by simp only [upd_eq, Nat.reduceEqDiff, ↓reduceIte]; exact e2) (by simp only [upd_eq, Nat.reduceEqDiff, ↓reduceIte]; exact e6) (by simp only [upd_eq, Nat.reduceEqDiff, ↓reduceIte]; exact e7) ?_
      clear s s2 e0 e1 e2 e6 e7 ot ut vt oz uz fn fk wk2 nx x3 r3 s3 g1 g2 g3 hb_q hb_rc n1 a1 a2 L0 L1
      clear e; intro e w s e0 e1 e2 e6 e7
      obtain ⟨tb, to, tq, ot, ut, vt⟩ := s.nd 2 rfl
      obtain ⟨zb, zo, zq, oz, uz⟩ := s.kd 5 rfl
      have hic := oz.le
      have hle : (rp ++ [none]).length = rp.length + 1 := by simp
      have i2 : 1 ≤ (rp ++ [none]).length := by omega
      obtain ⟨o1, h1, h1', -, k1⟩ := oz.from Eo_sz 1 i2
      have h3 : slcX (some 1) (.slice (some ⟨zb, zo, none⟩) (rp ++ [none]).length zq) (some (.int .i64 1)) none none = some (slFrom zb zo 1 1 (rp ++ [none]).length zq) := slcX_lo _ _ _ _ _ 1 _ i2
      refine W_sq fun K hK => (W_draw (some none) (some 13) [(0, 0, 0), (0, 1, 0), (0, 2, 0), (0, 3, 0), (0, 4, 0), (0, 5, 0), (0, 6, 0), (0, 7, 0), (0, 8, 0), (0, 9, 0), (0, 10, 0), (0, 11, 0), (0, 12, 0), (1, 13, 0)] mixed (by kernel_rfl) ?_); simp only [↓List.toList_toArray, ↓rgd, ↓rgf, ↓reduceIte, Nat.reduceEqDiff, rg, ow_176, e0, e1, e2, e6, e7, ptr_eq, ot.h3, oz.hd, h3, h1]
      refine do_copy (by simp only [evt, evc, upd_eq, Nat.reduceEqDiff, ↓reduceIte, ntT, ntF] <;> rfl) (by simp only [evt, evc, upd_eq, Nat.reduceEqDiff, ↓reduceIte, ntT, ntF] <;> rfl) rb_elk (SlV.ext0 oz.slV (Ext.dr noF w (w.drawn + 1))) ((Ext.dr noF w (w.drawn + 1)).wok k1) (flat_oc Eo _) fun w3 x3 r3 s3 => ⟨(by first | exact trivial | exact .inl trivial), ?_⟩
      simp only [↓List.toList_toArray, ↓rgd, ↓rgf, ↓reduceIte, Nat.reduceEqDiff, rg, ow_176, ↓rgm]
      refine hK _ _ ?_; clear hK K
      have hm : min (rp ++ [none]).length ((rp ++ [none]).length - 1) = rp.length := by omega
      rw [hm] at x3 r3
      rw [show rp.length * 1 = rp.length * Eo.sz from rfl, flat_take, List.take_left' rfl] at r3
      obtain ⟨g1, g2⟩ := oz.up x3.od r3 fun hA => by have := h1' (by omega); rw [Eo_sz]; omega
      have s2 : Ss w0 G w3 [ndO Ez iso 1 b cb (ks.set j x) (ptr bc), ndO Ez iso 0 p ((cl - 1 : Nat) : Int) ls (ptr lc), ndO Ez iso 0 q ((cr + 1 : Nat) : Int) (k :: rs) (ptr rc), kdO (ptr bc) ps, kdO (ptr lc) (lp' ++ [some g]), kdO (ptr rc) ((rp ++ [none]).take 1 ++ rp)] := uz g1 g2 (.inl ⟨rfl, rfl, rfl⟩)
      refine W_st s2 (by simp only [upd_eq, Nat.reduceEqDiff, ↓reduceIte]; exact e0) (by simp only [upd_eq, Nat.reduceEqDiff, ↓reduceIte]; exact e1) (by simp only [upd_eq, Nat.reduceEqDiff, ↓reduceIte]; exact e2) (by simp only [upd_eq, Nat.reduceEqDiff, ↓reduceIte]; exact e6) (by simp only [upd_eq, Nat.reduceEqDiff, ↓reduceIte]; exact e7) ?_
      clear s s2 e0 e1 e2 e6 e7 ot ut vt oz uz x3 r3 s3 g1 g2 hm hic hle i2 h1 h1' k1 h3
      clear e; intro e w s e0 e1 e2 e6 e7
      obtain ⟨tb, to, tq, ot, ut, vt⟩ := s.nd 2 rfl
      obtain ⟨zb, zo, zq, oz, uz⟩ := s.kd 5 rfl
      obtain ⟨lb, lo, lq, ol, ul, vl⟩ := s.nd 1 rfl
      obtain ⟨yb, yo, yq, oy, uy⟩ := s.kd 4 rfl
      have h2 := oy.hd
      rw [hnk] at h2
      have q1 := wsub1 n2 (by omega) (by omega)
      have hi : n2 - 1 < n2 := by omega
      have hgv := oy.ptr_at (j := n2 - 1) (p := g) (by simp [hn2])
      have hl0 : 0 < ((rp ++ [none]).take 1 ++ rp).length := by simp only [List.length_append, List.length_take, List.length_cons, List.length_nil]; omega
      have i0 := ix0 1 zb zo ((rp ++ [none]).take 1 ++ rp).length hl0
      refine W_sq fun K hK => (W_draw (some none) (some 23) [(0, 0, 0), (0, 1, 0), (0, 2, 0), (0, 3, 0), (0, 4, 0), (0, 5, 0), (0, 6, 0), (0, 7, 0), (0, 8, 0), (0, 9, 0), (0, 10, 0), (0, 11, 0), (0, 12, 0), (0, 13, 0), (0, 14, 0), (0, 15, 0), (0, 16, 0), (0, 17, 0), (0, 18, 0), (0, 19, 0), (0, 20, 0), (0, 21, 0), (0, 22, 0), (1, 23, 0)] mixed (by kernel_rfl) ?_); simp only [↓List.toList_toArray, ↓rgd, ↓rgf, ↓reduceIte, Nat.reduceEqDiff, rg, ow_176, e0, e1, e2, e6, e7, ptr_eq, ot.h3, oz.hd, ol.h3, h2, q1, hi, hgv, i0]
      refine do_store (by simp only [evt, evc, upd_eq, Nat.reduceEqDiff, ↓reduceIte, ntT, ntF] <;> rfl) (by simp only [evt, evc, upd_eq, Nat.reduceEqDiff, ↓reduceIte, ntT, ntF] <;> rfl) sz_106 rfl oz.wi (by have := oz.le; rw [Eo_sz]; skip; omega) (oc_one rfl rfl) fun w3 x3 r3 s3 => ⟨(by first | exact trivial | exact .inl trivial), ?_⟩
      simp only [↓List.toList_toArray, ↓rgd, ↓rgf, ↓reduceIte, Nat.reduceEqDiff, rg, ow_176, ↓rgm]
      refine hK _ _ ?_; clear hK K
      obtain ⟨g1, g2⟩ := oz.set (i := 0) (x := (some g)) (hl0) (by rw [Nat.zero_mul, Nat.add_zero]; exact x3.od) (by rw [Nat.zero_mul, Nat.add_zero]; first | exact r3 | exact (rb_cel _) ▸ r3)
      rw [set_first] at g1
      have s2 : Ss w0 G w3 [ndO Ez iso 1 b cb (ks.set j x) (ptr bc), ndO Ez iso 0 p ((cl - 1 : Nat) : Int) ls (ptr lc), ndO Ez iso 0 q ((cr + 1 : Nat) : Int) (k :: rs) (ptr rc), kdO (ptr bc) ps, kdO (ptr lc) (lp' ++ [some g]), kdO (ptr rc) (some g :: rp)] := uz g1 g2 (.inl ⟨rfl, rfl, rfl⟩)
      refine W_st s2 (by simp only [upd_eq, Nat.reduceEqDiff, ↓reduceIte]; exact e0) (by simp only [upd_eq, Nat.reduceEqDiff, ↓reduceIte]; exact e1) (by simp only [upd_eq, Nat.reduceEqDiff, ↓reduceIte]; exact e2) (by simp only [upd_eq, Nat.reduceEqDiff, ↓reduceIte]; exact e6) (by simp only [upd_eq, Nat.reduceEqDiff, ↓reduceIte]; exact e7) ?_
      clear s s2 e0 e1 e2 e6 e7 ot ut vt oz uz ol ul vl oy uy x3 r3 s3 g1 g2 h2 q1 hi hgv hl0 i0
      clear e; intro e w s e0 e1 e2 e6 e7
      obtain ⟨lb, lo, lq, ol, ul, vl⟩ := s.nd 1 rfl
      obtain ⟨yb, yo, yq, oy, uy⟩ := s.kd 4 rfl
      have hA : (lp' ++ [some g]).length = n2 := by rw [List.length_append, List.length_singleton]; skip; omega
      have h2 := oy.hd
      rw [hA] at h2
      have q1 := wsub1 (n2) (by omega) (by omega)
      have hi : n2 - 1 < n2 := by omega
      refine W_sq fun K hK => (W_draw (some none) (some 15) [(0, 0, 0), (0, 1, 0), (0, 2, 0), (0, 3, 0), (0, 4, 0), (0, 5, 0), (0, 6, 0), (0, 7, 0), (0, 8, 0), (0, 9, 0), (0, 10, 0), (0, 11, 0), (0, 12, 0), (0, 13, 0), (0, 14, 0), (1, 15, 0)] mixed (by kernel_rfl) ?_); simp only [↓List.toList_toArray, ↓rgd, ↓rgf, ↓reduceIte, Nat.reduceEqDiff, rg, ow_176, e0, e1, e2, e6, e7, ptr_eq, ol.h3, h2, q1, hi]
      refine do_store (by simp only [evt, evc, upd_eq, Nat.reduceEqDiff, ↓reduceIte, ntT, ntF] <;> rfl) (by simp only [evt, evc, upd_eq, Nat.reduceEqDiff, ↓reduceIte, ntT, ntF] <;> rfl) sz_106 rfl oy.wi (by have := oy.le; rw [Eo_sz]; rw [hA] at this; omega) (oc_one rfl rfl) fun w3 x3 r3 s3 => ⟨(by first | exact trivial | exact .inl trivial), ?_⟩
      simp only [↓List.toList_toArray, ↓rgd, ↓rgf, ↓reduceIte, Nat.reduceEqDiff, rg, ow_176, ↓rgm]
      refine hK _ _ ?_; clear hK K
      obtain ⟨g1, g2⟩ := oy.set (i := n2 - 1) (x := none) (by rw [hA]; omega) (by rw [Eo_sz, Nat.mul_one]; exact x3.od) (by rw [Eo_sz, Nat.mul_one]; first | exact r3 | exact (rb_cel _) ▸ r3)
      have hs : (lp' ++ [some g]).set (n2 - 1) none = lp' ++ [none] := by rw [show n2 - 1 = (lp').length by skip; omega]; exact set_last
      rw [hs] at g1
      have s2 : Ss w0 G w3 [ndO Ez iso 1 b cb (ks.set j x) (ptr bc), ndO Ez iso 0 p ((cl - 1 : Nat) : Int) ls (ptr lc), ndO Ez iso 0 q ((cr + 1 : Nat) : Int) (k :: rs) (ptr rc), kdO (ptr bc) ps, kdO (ptr lc) (lp' ++ [none]), kdO (ptr rc) (some g :: rp)] := uy g1 g2 (.inl ⟨rfl, rfl, rfl⟩)
      refine W_st s2 (by simp only [upd_eq, Nat.reduceEqDiff, ↓reduceIte]; exact e0) (by simp only [upd_eq, Nat.reduceEqDiff, ↓reduceIte]; exact e1) (by simp only [upd_eq, Nat.reduceEqDiff, ↓reduceIte]; exact e2) (by simp only [upd_eq, Nat.reduceEqDiff, ↓reduceIte]; exact e6) (by simp only [upd_eq, Nat.reduceEqDiff, ↓reduceIte]; exact e7) ?_
      clear s s2 e0 e1 e2 e6 e7 ol ul vl oy uy x3 r3 s3 g1 g2 hA h2 q1 hi hs
      clear e; intro e w s e0 e1 e2 e6 e7
      obtain ⟨lb, lo, lq, ol, ul, vl⟩ := s.nd 1 rfl
      obtain ⟨yb, yo, yq, oy, uy⟩ := s.kd 4 rfl
      have hA : (lp' ++ [none]).length = n2 := by rw [List.length_append, List.length_singleton]; skip; omega
      have h2 := oy.hd
      have h4 := oy.le
      rw [hA] at h2 h4
      have q1 := wsub1 (n2) (by omega) (by omega)
      have hi : n2 - 1 ≤ yq := by omega
      refine W_sq fun K hK => (W_draw (some none) (some 20) [(0, 0, 0), (0, 1, 0), (0, 2, 0), (0, 3, 0), (0, 4, 0), (0, 5, 0), (0, 6, 0), (0, 7, 0), (0, 8, 0), (0, 9, 0), (0, 10, 0), (0, 11, 0), (0, 12, 0), (0, 13, 0), (0, 14, 0), (0, 15, 0), (0, 16, 0), (0, 17, 0), (0, 18, 0), (0, 19, 0), (1, 20, 0)] mixed (by kernel_rfl) ?_); simp only [↓List.toList_toArray, ↓rgd, ↓rgf, ↓reduceIte, Nat.reduceEqDiff, rg, ow_176, e0, e1, e2, e6, e7, ptr_eq, ol.h3, h2, q1, hi]
      refine do_store (by simp only [evt, evc, upd_eq, Nat.reduceEqDiff, ↓reduceIte, ntT, ntF] <;> rfl) (by simp only [evt, evc, upd_eq, Nat.reduceEqDiff, ↓reduceIte, ntT, ntF] <;> rfl) sz_144 rfl oy.hok (by decide) (oc_one rfl rfl) fun w3 x3 r3 s3 => ⟨(by first | exact trivial | exact .inl trivial), ?_⟩
      simp only [↓List.toList_toArray, ↓rgd, ↓rgf, ↓reduceIte, Nat.reduceEqDiff, rg, ow_176, ↓rgm]
      refine hK _ _ ?_; clear hK K
      obtain ⟨g1, g2⟩ := oy.cut x3.od (by rw [show (lp').length = n2 - 1 by skip; omega]; exact (Row.cons.1 r3).1)
      have s2 : Ss w0 G w3 [ndO Ez iso 1 b cb (ks.set j x) (ptr bc), ndO Ez iso 0 p ((cl - 1 : Nat) : Int) ls (ptr lc), ndO Ez iso 0 q ((cr + 1 : Nat) : Int) (k :: rs) (ptr rc), kdO (ptr bc) ps, kdO (ptr lc) lp', kdO (ptr rc) (some g :: rp)] := uy g1 g2 (.inl ⟨rfl, rfl, rfl⟩)
      refine W_st s2 (by simp only [upd_eq, Nat.reduceEqDiff, ↓reduceIte]; exact e0) (by simp only [upd_eq, Nat.reduceEqDiff, ↓reduceIte]; exact e1) (by simp only [upd_eq, Nat.reduceEqDiff, ↓reduceIte]; exact e2) (by simp only [upd_eq, Nat.reduceEqDiff, ↓reduceIte]; exact e6) (by simp only [upd_eq, Nat.reduceEqDiff, ↓reduceIte]; exact e7) ?_
      clear s s2 e0 e1 e2 e6 e7 ol ul vl oy uy x3 r3 s3 g1 g2 hA h2 h4 q1 hi
      clear e; intro e w s e0 e1 e2 e6 e7
      obtain ⟨lb, lo, lq, ol, ul, vl⟩ := s.nd 1 rfl
      obtain ⟨tb, to, tq, ot, ut, vt⟩ := s.nd 2 rfl
      obtain ⟨zb, zo, zq, oz, uz⟩ := s.kd 5 rfl
      have hgv := oz.ptr_at (j := 0) (p := g) rfl
      rw [Nat.add_zero] at hgv
      have hg1 := s.x.rd hgc (hgG 1)
      have hl0 : 0 < (some g :: rp).length := by simp
      have i0 := ix0 1 zb zo (some g :: rp).length hl0
      have q1 := wsub (cl - 1) cg (by omega) (by omega)
      refine W_sq fun K hK => (W_draw (some none) (some 18) [(0, 0, 0), (0, 1, 0), (0, 2, 0), (0, 3, 0), (0, 4, 0), (0, 5, 0), (0, 6, 0), (0, 7, 0), (0, 8, 0), (0, 9, 0), (0, 10, 0), (0, 11, 0), (0, 12, 0), (0, 13, 0), (0, 14, 0), (0, 15, 0), (0, 16, 0), (0, 17, 0), (1, 18, 0)] mixed (by kernel_rfl) ?_); simp only [↓List.toList_toArray, ↓rgd, ↓rgf, ↓reduceIte, Nat.reduceEqDiff, rg, ow_176, e0, e1, e2, e6, e7, ptr_eq, ol.h1, ot.h3, oz.hd, i0, hgv, hg1, q1]
      refine do_store (by simp only [evt, evc, upd_eq, Nat.reduceEqDiff, ↓reduceIte, ntT, ntF] <;> rfl) (by simp only [evt, evc, upd_eq, Nat.reduceEqDiff, ↓reduceIte, ntT, ntF] <;> rfl) sz_3 rfl ol.wb (by decide) (oc_one rfl rfl) fun w3 x3 r3 s3 => ⟨(by first | exact trivial | exact .inl trivial), ?_⟩
      simp only [↓List.toList_toArray, ↓rgd, ↓rgf, ↓reduceIte, Nat.reduceEqDiff, rg, ow_176, ↓rgm]
      refine hK _ _ ?_; clear hK K
      have s2 : Ss w0 G w3 [ndO Ez iso 1 b cb (ks.set j x) (ptr bc), ndO Ez iso 0 p ((cl - 1 - cg : Nat) : Int) ls (ptr lc), ndO Ez iso 0 q ((cr + 1 : Nat) : Int) (k :: rs) (ptr rc), kdO (ptr bc) ps, kdO (ptr lc) lp', kdO (ptr rc) (some g :: rp)] := vl x3.od (Row.cons.1 r3).1
      refine W_st s2 (by simp only [upd_eq, Nat.reduceEqDiff, ↓reduceIte]; exact e0) (by simp only [upd_eq, Nat.reduceEqDiff, ↓reduceIte]; exact e1) (by simp only [upd_eq, Nat.reduceEqDiff, ↓reduceIte]; exact e2) (by simp only [upd_eq, Nat.reduceEqDiff, ↓reduceIte]; exact e6) (by simp only [upd_eq, Nat.reduceEqDiff, ↓reduceIte]; exact e7) ?_
      clear s s2 e0 e1 e2 e6 e7 ol ul vl ot ut vt oz uz x3 r3 s3 hgv hg1 hl0 i0 q1
      clear e; intro e w s e0 e1 e2 e6 e7
      obtain ⟨tb, to, tq, ot, ut, vt⟩ := s.nd 2 rfl
      obtain ⟨zb, zo, zq, oz, uz⟩ := s.kd 5 rfl
      have hgv := oz.ptr_at (j := 0) (p := g) rfl
      rw [Nat.add_zero] at hgv
      have hg1 := s.x.rd hgc (hgG 1)
      have hl0 : 0 < (some g :: rp).length := by simp
      have i0 := ix0 1 zb zo (some g :: rp).length hl0
      have q1 := wadd (cr + 1) cg (by omega)
      refine W_rg fun K hK => (W_draw (some none) (some 18) [(0, 0, 0), (0, 1, 0), (0, 2, 0), (0, 3, 0), (0, 4, 0), (0, 5, 0), (0, 6, 0), (0, 7, 0), (0, 8, 0), (0, 9, 0), (0, 10, 0), (0, 11, 0), (0, 12, 0), (0, 13, 0), (0, 14, 0), (0, 15, 0), (0, 16, 0), (0, 17, 0), (1, 18, 0)] mixed (by kernel_rfl) ?_); simp only [↓List.toList_toArray, ↓rgd, ↓rgf, ↓reduceIte, Nat.reduceEqDiff, rg, ow_176, e0, e1, e2, e6, e7, ptr_eq, ot.h1, ot.h3, oz.hd, i0, hgv, hg1, q1]
      refine do_store (by simp only [evt, evc, upd_eq, Nat.reduceEqDiff, ↓reduceIte, ntT, ntF] <;> rfl) (by simp only [evt, evc, upd_eq, Nat.reduceEqDiff, ↓reduceIte, ntT, ntF] <;> rfl) sz_3 rfl ot.wb (by decide) (oc_one rfl rfl) fun w3 x3 r3 s3 => ⟨(by first | exact trivial | exact .inl trivial), ?_⟩
      simp only [↓List.toList_toArray, ↓rgd, ↓rgf, ↓reduceIte, Nat.reduceEqDiff, rg, ow_176, ↓rgm]
      refine hK _ _ ?_; clear hK K
      have s2 : Ss w0 G w3 [ndO Ez iso 1 b cb (ks.set j x) (ptr bc), ndO Ez iso 0 p ((cl - 1 - cg : Nat) : Int) ls (ptr lc), ndO Ez iso 0 q ((cr + 1 + cg : Nat) : Int) (k :: rs) (ptr rc), kdO (ptr bc) ps, kdO (ptr lc) lp', kdO (ptr rc) (some g :: rp)] := vt x3.od (Row.cons.1 r3).1
      show endQ _ _ _ _ _ _
      refine endQ_0n ?_
      rw [List.dropLast_concat, show (lp' ++ [some g]).drop ((lp' ++ [some g]).length - 1) = [some g] by simp]
      exact s2
  obtain ⟨nb, no, nc, on, un, vn⟩ := s.nd 0 rfl
  rcases hj with ⟨rfl, hj⟩ | ⟨rfl, hj⟩
  · have hb : ((i0 : Int) == (ks.length : Int)) = false := by simp; omega
    refine W_sq fun K hK => (W_text [true, true, true, true, true, true, true] (by kernel_rfl) ?_); simp only [↓List.toList_toArray, ↓rgd, ↓rgf, ↓reduceIte, Nat.reduceEqDiff, rg, ow_176, e1, e2, ptr_eq, on.h2, hb]
    refine hK _ _ ?_; clear hK K
    refine W_false (by simp only [evt, evc, upd_eq, Nat.reduceEqDiff, ↓reduceIte, ntT, ntF] <;> rfl) (W_skip ?_)
    exact hend _ (by simp only [upd_eq, Nat.reduceEqDiff, ↓reduceIte]; exact e0) (by simp only [upd_eq, Nat.reduceEqDiff, ↓reduceIte]; exact e1) (by simp only [upd_eq, Nat.reduceEqDiff, ↓reduceIte]; exact e2)
  · have hb : ((ks.length : Int) == (ks.length : Int)) = true := by simp
    refine W_sq fun K hK => (W_text [true, true, true, true, true, true, true] (by kernel_rfl) ?_); simp only [↓List.toList_toArray, ↓rgd, ↓rgf, ↓reduceIte, Nat.reduceEqDiff, rg, ow_176, e1, e2, ptr_eq, on.h2, hb]
    refine hK _ _ ?_; clear hK K
    refine W_true (by simp only [evt, evc, upd_eq, Nat.reduceEqDiff, ↓reduceIte, ntT, ntF] <;> rfl) ?_
    have q1 := wsub1 ks.length (by omega) (by omega)
    have hjs : ks.length - 1 = j := by omega
    refine W_rg fun K hK => (W_text [true, true, true] (by kernel_rfl) ?_); simp only [↓List.toList_toArray, ↓rgd, ↓rgf, ↓reduceIte, Nat.reduceEqDiff, rg, ow_176, e2, q1]
    refine hK _ _ ?_; clear hK K
    exact hend _ (by simp only [upd_eq, Nat.reduceEqDiff, ↓reduceIte]; exact e0) (by simp only [upd_eq, Nat.reduceEqDiff, ↓reduceIte]; exact e1) (by simp only [upd_eq, Nat.reduceEqDiff, ↓reduceIte] <;> rw [hjs])
end Go.Proofs.Ytanmjbkbdmeckaa
/-
  nodeRebalance: right to left. No condition.
-/
set_option linter.unusedSimpArgs false
set_option linter.unusedVariables false
namespace Go.Proofs.Ytanmjbkbdmeckaa
open Go Go.Proofs
set_option maxHeartbeats 4000000 in
set_option maxRecDepth 8000 in
theorem zreb_left (m d b p q bc i0 j cl cr : Nat) (iso cb : Int) (ks ls rs : List (Option It)) (k x : Option It) (ps lp rp : List (Option Nat)) (chl chr : Value) (w0 w : World) (G : Nat → Nat → Prop) (hd : 2 ≤ d) (hd' : d ≤ 128) (hc : Cfg w0 m iso d) (hG : ∀ o, ¬ G m o)
    (s : Ss w0 G w [ndO Ez iso 1 b cb ks (ptr bc), ndO Ez iso 0 p (cl : Nat) ls chl, ndO Ez iso 0 q (cr : Nat) (x :: rs) chr, kdO (ptr bc) ps, kdO chl lp, kdO chr rp]) (hj : (i0 = j ∧ j < ks.length) ∨ (i0 = ks.length ∧ j + 1 = ks.length)) (hkl : ks.length ≤ 2 * d - 1) (hk : ks[j]? = some k) (hps : ps.length = ks.length + 1) (hp : ps[j]? = some (some p)) (hq : ps[j + 1]? = some (some q))
    (hch : (chl = .pointer none ∧ chr = .pointer none ∧ lp = [] ∧ rp = []) ∨ ∃ lc rc, chl = ptr lc ∧ chr = ptr rc ∧ lp.length = ls.length + 1 ∧ rp.length = (x :: rs).length + 1) (hll : ls.length ≤ 2 * d - 1) (hrl : (x :: rs).length ≤ 2 * d - 1) (hcl : cl < 2305843009213693952) (hcr : cr < 2305843009213693952) (hlt : 2 * d - 1 ≤ ls.length + (x :: rs).length) (hgt : ls.length ≤ (x :: rs).length) (cg : Nat) (hcg : 1 + cg ≤ cr) (hcgb : cl + cg < 2305843009213693952) (hg : (rp = [] ∧ cg = 0) ∨ ∃ g rp', rp = some g :: rp' ∧ rd w0 g 1 = some (.int .i64 (cg : Nat)) ∧ ∀ o, ¬ G g o) :
    CallK Try.prog 176 #[ptr m, ptr b, .int .i64 (i0 : Nat)] w fun _ w' => Ss w0 G w' [ndO Ez iso 1 b cb (ks.set j x) (ptr bc), ndO Ez iso 0 p ((cl + 1 + cg : Nat) : Int) (ls ++ [k]) chl, ndO Ez iso 0 q ((cr - 1 - cg : Nat) : Int) rs chr, kdO (ptr bc) ps, kdO chl (lp ++ rp.take 1), kdO chr (rp.drop 1)] := by
  have hjn : j < ks.length := (List.getElem?_eq_some_iff.1 hk).1
  refine calls_of_W [] Try.func176 rfl Try.ntmps176 Try.results176 (by simp) fun e he => ?_
  have e0 : e 0 = ptr m := he 0 _ rfl
  have e1 : e 1 = ptr b := he 1 _ rfl
  have e2 : e 2 = .int .i64 (i0 : Nat) := he 2 _ rfl
  clear he
  refine W_sqx fun J hJ => ?_
  have hend : ∀ e, e 0 = ptr m → e 1 = ptr b → e 2 = .int .i64 j → J e w := by
    clear e0 e1 e2 e
    intro e e0 e1 e2
    refine hJ _ _ ?_; clear hJ J
    obtain ⟨nb, no, nc, on, un, vn⟩ := s.nd 0 rfl
    obtain ⟨xb, xo, xc, ox, ux⟩ := s.kd 3 rfl
    obtain ⟨lb, lo, lq, ol, ul, vl⟩ := s.nd 1 rfl
    obtain ⟨tb, to, tq, ot, ut, vt⟩ := s.nd 2 rfl
    have hiso := (hc.ext s.x fun o _ _ => hG o).iso
    have hjp : j < ps.length := by omega
    refine W_sq fun K hK => (W_text [true, true, true, true, true, true, true, true, true, false, true] (by kernel_rfl) ?_); simp only [↓List.toList_toArray, ↓rgd, ↓rgf, ↓reduceIte, Nat.reduceEqDiff, rg, ow_176, e0, e1, e2, ptr_eq, on.h3, ox.hd, hjp]
    refine do_call fn_121 (by simp only [evt, evc, upd_eq, Nat.reduceEqDiff, ↓reduceIte, maT, maC, maN, isnN, isnS] <;> rfl) (isoLoad_any m xb (xo + j) p true iso _ hiso (ox.ptr_at hp) ol.h0) ?_
    rintro _ w1 ⟨rfl, r1⟩
    refine ⟨trivial, ?_⟩
    simp only [↓List.toList_toArray, ↓rgd, ↓rgf, ↓reduceIte, Nat.reduceEqDiff, rg, ow_176]
    refine hK _ _ ?_; clear hK K
    have X1 : Ext noF w w1 := r1.ext
    have on := on.ext X1 fun _ _ _ g => g
    have ox := ox.ext0 X1
    have ot := ot.ext X1 fun _ _ _ g => g
    have hiso := X1.rd hiso fun g => g
    have q1 := wadd1 j (by omega)
    have hjp : j + 1 < ps.length := by omega
    refine W_sq fun K hK => (W_text [true, true, true, true, true, true, true, true, true, true, false, true] (by kernel_rfl) ?_); simp only [↓List.toList_toArray, ↓rgd, ↓rgf, ↓reduceIte, Nat.reduceEqDiff, rg, ow_176, e0, e1, e2, ptr_eq, on.h3, ox.hd, hjp, q1]
    refine do_call fn_121 (by simp only [evt, evc, upd_eq, Nat.reduceEqDiff, ↓reduceIte, maT, maC, maN, isnN, isnS] <;> rfl) (isoLoad_any m xb (xo + (j + 1)) q true iso _ hiso (ox.ptr_at hq) ot.h0) ?_
    rintro _ w2 ⟨rfl, r2⟩
    refine ⟨trivial, ?_⟩
    simp only [↓List.toList_toArray, ↓rgd, ↓rgf, ↓reduceIte, Nat.reduceEqDiff, rg, ow_176]
    refine hK _ _ ?_; clear hK K
    have s2 := (s.ext0 X1).ext0 r2.ext
    refine W_st s2 (by simp only [upd_eq, Nat.reduceEqDiff, ↓reduceIte]; exact e0) (by simp only [upd_eq, Nat.reduceEqDiff, ↓reduceIte]; exact e1) (by simp only [upd_eq, Nat.reduceEqDiff, ↓reduceIte]; exact e2) (by simp only [upd_eq, Nat.reduceEqDiff, ↓reduceIte] <;> rfl) (by simp only [upd_eq, Nat.reduceEqDiff, ↓reduceIte] <;> rfl) ?_
    clear s s2 e0 e1 e2 on un vn ox ux ol ul vl ot ut vt hiso X1 r1 r2 hjp q1
    clear e; intro e w s e0 e1 e2 e6 e7
    obtain ⟨lb, lo, lq, ol, ul, vl⟩ := s.nd 1 rfl
    obtain ⟨tb, to, tq, ot, ut, vt⟩ := s.nd 2 rfl
    have q1 := wadd ls.length (x :: rs).length (by omega)
    have hmx := (hc.ext s.x fun o _ _ => hG o).mx
    have hb : decide (((ls.length + (x :: rs).length : Nat) : Int) < ((2 * d - 1 : Nat) : Int)) = false := by simp only [decide_eq_false_iff_not]; omega
    refine W_sq fun K hK => (W_draw (some none) none [(0, 0, 0), (0, 1, 0), (0, 2, 0), (0, 3, 0), (0, 4, 0), (0, 5, 0), (0, 6, 0), (0, 7, 0), (0, 8, 0), (0, 9, 0), (0, 10, 0), (0, 11, 0), (0, 12, 0), (0, 13, 0), (0, 14, 0), (0, 15, 0)] mixed (by kernel_rfl) ?_); simp only [↓List.toList_toArray, ↓rgd, ↓rgf, ↓reduceIte, Nat.reduceEqDiff, rg, ow_176, e0, e6, e7, ptr_eq, ol.h2, ot.h2, q1, hmx, hb]
    refine hK _ _ ?_; clear hK K
    refine W_false (by simp only [evt, evc, upd_eq, Nat.reduceEqDiff, ↓reduceIte, ntT, ntF] <;> rfl) ?_
    have hb2 : decide (((x :: rs).length : Int) < (ls.length : Int)) = false := by simp only [decide_eq_false_iff_not]; omega
    refine W_sq fun K hK => (W_draw (some none) none [(0, 0, 0), (0, 1, 0), (0, 2, 0), (0, 3, 0), (0, 4, 0), (0, 5, 0), (0, 6, 0), (0, 7, 0), (0, 8, 0), (0, 9, 0), (0, 10, 0)] mixed (by kernel_rfl) ?_); simp only [↓List.toList_toArray, ↓rgd, ↓rgf, ↓reduceIte, Nat.reduceEqDiff, rg, ow_176, e0, e6, e7, ptr_eq, ol.h2, ot.h2, hb2]
    refine hK _ _ ?_; clear hK K
    refine W_false (by simp only [evt, evc, upd_eq, Nat.reduceEqDiff, ↓reduceIte, ntT, ntF] <;> rfl) ?_
    refine W_st (s.ext0 (Ext.dr noF w _)) (by simp only [upd_eq, Nat.reduceEqDiff, ↓reduceIte]; exact e0) (by simp only [upd_eq, Nat.reduceEqDiff, ↓reduceIte]; exact e1) (by simp only [upd_eq, Nat.reduceEqDiff, ↓reduceIte]; exact e2) (by simp only [upd_eq, Nat.reduceEqDiff, ↓reduceIte]; exact e6) (by simp only [upd_eq, Nat.reduceEqDiff, ↓reduceIte]; exact e7) ?_
    clear s e0 e1 e2 e6 e7 ol ul vl ot ut vt q1 hmx hb hb2
    clear e; intro e w s e0 e1 e2 e6 e7
    obtain ⟨n0, hn0⟩ : ∃ n0, n0 = rs.length + 1 := ⟨_, rfl⟩
    have hnl : (x :: rs).length = n0 := by simp [hn0]
    obtain ⟨lb, lo, lq, ol, ul, vl⟩ := s.nd 1 rfl
    obtain ⟨nb, no, nq, on, un, vn⟩ := s.nd 0 rfl
    have hkv := itz_at on.row hk
    have hb_p := wok_lt ol.wb
    have L0 := on1_0 p
    refine W_sq fun K hK => (W_semi (some (some [p])) (.take false 0 (.take false 1 (.take false 2 (.take false 3 (.take false 4 (.take false 5 (.take false 6 (.take false 7 (.take true 8 (.take false 9 (.take false 10 (.take true 11 (.act 12 (.bar 13 (.take false 14 (.take false 15 (.bar 16 .nil))))))))))))))))) mixed (by kernel_rfl) ?_); simp only [↓rgm, ↓List.toList_toArray, ↓rgd, ↓rgf, ↓reduceIte, Nat.reduceEqDiff, rg, ow_176, e0, e1, e2, e6, e7, ptr_eq, ol.h2, on.h2, hjn, hkv, L0, rB_on]
    refine do_bsl rfl (rb_k k) fun w1 n1 => ⟨.inr (n1.keep _ (lt1 hb_p)), ?_⟩
    simp only [↓List.toList_toArray, ↓rgd, ↓rgf, ↓reduceIte, Nat.reduceEqDiff, rg, ow_176, ↓rgm]
    have n1 := n1.od
    have a1 := ol.se.ext0 n1.ext
    refine do_append (by simp only [evt, evc, upd_eq, Nat.reduceEqDiff, ↓reduceIte, ntT, ntF] <;> rfl) (by simp only [evt, evc, upd_eq, Nat.reduceEqDiff, ↓reduceIte, ntT, ntF] <;> rfl) rb_eli rfl ni_140 a1.slV (u := .slice (some ⟨w.heap.size, 0, none⟩) 1 1) (m := 1) (l' := Ez.cel k) ⟨rfl, .inr ⟨_, 0, 1, rfl, Nat.le_refl _, n1.row, n1.wok.R (Nat.le_refl _)⟩⟩ (by omega) (by decide) (Ez.one _) fun v2 w2 a2 => ⟨trivial, ?_⟩
    obtain ⟨gb, go, gc, rfl, wk2, -, nx⟩ := a1.app' (ls := [k]) rfl (by rw [flat_one]; exact a2)
    simp only [↓List.toList_toArray, ↓rgd, ↓rgf, ↓reduceIte, Nat.reduceEqDiff, rg, ow_176, ↓rgm]
    refine do_store (by simp only [evt, evc, upd_eq, Nat.reduceEqDiff, ↓reduceIte, ntT, ntF] <;> rfl) (by simp only [evt, evc, upd_eq, Nat.reduceEqDiff, ↓reduceIte, ntT, ntF] <;> rfl) sz_140 rfl wk2 (by decide) (oc_one rfl rfl) fun w3 x3 r3 s3 => ⟨trivial, ?_⟩
    simp only [↓List.toList_toArray, ↓rgd, ↓rgf, ↓reduceIte, Nat.reduceEqDiff, rg, ow_176, ↓rgm]
    refine hK _ _ ?_; clear hK K
    obtain ⟨g1, g2, g3⟩ := nx w3 x3 (Row.cons.1 r3).1
    have s2 : Ss w0 G w3 [ndO Ez iso 1 b cb ks (ptr bc), ndO Ez iso 0 p (cl : Nat) (ls ++ [k]) chl, ndO Ez iso 0 q (cr : Nat) (x :: rs) chr, kdO (ptr bc) ps, kdO chl lp, kdO chr rp] := ul g1 (n1.ext.trans g2 (fun _ _ h => h.elim) fun _ _ _ h => h) (g3.imp id fun h => ⟨(by have := n1.size; omega), Nat.zero_le _⟩)
    refine W_st s2 (by simp only [upd_eq, Nat.reduceEqDiff, ↓reduceIte]; exact e0) (by simp only [upd_eq, Nat.reduceEqDiff, ↓reduceIte]; exact e1) (by simp only [upd_eq, Nat.reduceEqDiff, ↓reduceIte]; exact e2) (by simp only [upd_eq, Nat.reduceEqDiff, ↓reduceIte]; exact e6) (by simp only [upd_eq, Nat.reduceEqDiff, ↓reduceIte]; exact e7) ?_
    clear s s2 e0 e1 e2 e6 e7 ol ul vl on un vn wk2 nx x3 r3 s3 g1 g2 g3 hkv hb_p n1 a1 a2 L0
    clear e; intro e w s e0 e1 e2 e6 e7
    obtain ⟨lb, lo, lq, ol, ul, vl⟩ := s.nd 1 rfl
    have q1 := wadd1 cl (by omega)
    refine W_sq fun K hK => (W_text [true, true, true, true, true, true, true, false] (by kernel_rfl) ?_); simp only [↓List.toList_toArray, ↓rgd, ↓rgf, ↓reduceIte, Nat.reduceEqDiff, rg, ow_176, e0, e1, e2, e6, e7, ptr_eq, ol.h1, q1]
    refine do_store (by simp only [evt, evc, upd_eq, Nat.reduceEqDiff, ↓reduceIte, ntT, ntF] <;> rfl) (by simp only [evt, evc, upd_eq, Nat.reduceEqDiff, ↓reduceIte, ntT, ntF] <;> rfl) sz_3 rfl ol.wb (by decide) (oc_one rfl rfl) fun w3 x3 r3 s3 => ⟨(by first | exact trivial | exact .inl trivial), ?_⟩
    simp only [↓List.toList_toArray, ↓rgd, ↓rgf, ↓reduceIte, Nat.reduceEqDiff, rg, ow_176, ↓rgm]
    refine hK _ _ ?_; clear hK K
    have s2 : Ss w0 G w3 [ndO Ez iso 1 b cb ks (ptr bc), ndO Ez iso 0 p ((cl + 1 : Nat) : Int) (ls ++ [k]) chl, ndO Ez iso 0 q (cr : Nat) (x :: rs) chr, kdO (ptr bc) ps, kdO chl lp, kdO chr rp] := vl x3 (Row.cons.1 r3).1
    refine W_st s2 (by simp only [upd_eq, Nat.reduceEqDiff, ↓reduceIte]; exact e0) (by simp only [upd_eq, Nat.reduceEqDiff, ↓reduceIte]; exact e1) (by simp only [upd_eq, Nat.reduceEqDiff, ↓reduceIte]; exact e2) (by simp only [upd_eq, Nat.reduceEqDiff, ↓reduceIte]; exact e6) (by simp only [upd_eq, Nat.reduceEqDiff, ↓reduceIte]; exact e7) ?_
    clear s s2 e0 e1 e2 e6 e7 ol ul vl x3 r3 s3  q1
    clear e; intro e w s e0 e1 e2 e6 e7
    obtain ⟨nb, no, nq, on, un, vn⟩ := s.nd 0 rfl
    obtain ⟨tb, to, tq, ot, ut, vt⟩ := s.nd 2 rfl
    have hl0 : 0 < (x :: rs).length := by omega
    have i0 := ix0 1 tb to (x :: rs).length hl0
    have hxv := itz_at ot.row (i := 0) (x := x) rfl
    simp only [Nat.zero_mul, Nat.add_zero] at hxv
    refine W_sq fun K hK => (W_draw (some none) (some 12) [(0, 0, 0), (0, 1, 0), (0, 2, 0), (0, 3, 0), (0, 4, 0), (0, 5, 0), (0, 6, 0), (0, 7, 0), (0, 8, 0), (0, 9, 0), (0, 10, 0), (0, 11, 0), (1, 12, 0)] mixed (by kernel_rfl) ?_); simp only [↓List.toList_toArray, ↓rgd, ↓rgf, ↓reduceIte, Nat.reduceEqDiff, rg, ow_176, e0, e1, e2, e6, e7, ptr_eq, on.h2, ot.h2, hjn, hxv, i0]
    refine do_store (by simp only [evt, evc, upd_eq, Nat.reduceEqDiff, ↓reduceIte, ntT, ntF] <;> rfl) (by simp only [evt, evc, upd_eq, Nat.reduceEqDiff, ↓reduceIte, ntT, ntF] <;> rfl) sz_20 (rb_len x) on.se.wi (by have := on.se.le; rw [Ez_sz]; skip; omega) (rb_oc x) fun w3 x3 r3 s3 => ⟨(by first | exact trivial | exact .inl trivial), ?_⟩
    simp only [↓List.toList_toArray, ↓rgd, ↓rgf, ↓reduceIte, Nat.reduceEqDiff, rg, ow_176, ↓rgm]
    refine hK _ _ ?_; clear hK K
    obtain ⟨g1, g2⟩ := on.se.set (i := j) (x := x) (hjn) (by simp only [Ez_sz, Nat.mul_one]; exact x3.od) (by simp only [Ez_sz, Nat.mul_one]; first | exact r3 | exact (rb_cel _) ▸ r3)
    skip
    have s2 : Ss w0 G w3 [ndO Ez iso 1 b cb (ks.set j x) (ptr bc), ndO Ez iso 0 p ((cl + 1 : Nat) : Int) (ls ++ [k]) chl, ndO Ez iso 0 q (cr : Nat) (x :: rs) chr, kdO (ptr bc) ps, kdO chl lp, kdO chr rp] := un g1 g2 (.inl ⟨rfl, rfl, rfl⟩)
    refine W_st s2 (by simp only [upd_eq, Nat.reduceEqDiff, ↓reduceIte]; exact e0) (by simp only [upd_eq, Nat.reduceEqDiff, ↓reduceIte]; exact e1) (by simp only [upd_eq, Nat.reduceEqDiff, ↓reduceIte]; exact e2) (by simp only [upd_eq, Nat.reduceEqDiff, ↓reduceIte]; exact e6) (by simp only [upd_eq, Nat.reduceEqDiff, ↓reduceIte]; exact e7) ?_
    clear s s2 e0 e1 e2 e6 e7 on un vn ot ut vt x3 r3 s3 g1 g2 hxv hl0 i0
    clear e; intro e w s e0 e1 e2 e6 e7
    obtain ⟨tb, to, tq, ot, ut, vt⟩ := s.nd 2 rfl
    have hil : 0 < (x :: rs).length := by simp
    have hic := ot.se.le
    obtain ⟨o2, h2, -, v2, -⟩ := ot.se.from Ez_sz 1 (by omega)
    have i2 : 1 ≤ (x :: rs).length := by omega
    have h3 : slcX (some 1) (.slice (some ⟨tb, to, none⟩) (x :: rs).length tq) (some (.int .i64 1)) none none = some (slFrom tb to 1 1 (x :: rs).length tq) := slcX_lo _ _ _ _ _ 1 _ i2
    refine W_sq fun K hK => (W_draw (some none) (some 9) [(0, 0, 0), (0, 1, 0), (0, 2, 0), (0, 3, 0), (0, 4, 0), (0, 5, 0), (0, 6, 0), (0, 7, 0), (0, 8, 0), (1, 9, 0)] mixed (by kernel_rfl) ?_); simp only [↓List.toList_toArray, ↓rgd, ↓rgf, ↓reduceIte, Nat.reduceEqDiff, rg, ow_176, e0, e1, e2, e6, e7, ptr_eq, ot.h2, h3, i2, h2]
    refine do_copy (by simp only [evt, evc, upd_eq, Nat.reduceEqDiff, ↓reduceIte, ntT, ntF] <;> rfl) (by simp only [evt, evc, upd_eq, Nat.reduceEqDiff, ↓reduceIte, ntT, ntF] <;> rfl) rb_eli (SlV.ext0 v2 (Ext.dr noF w (w.drawn + 1))) ((Ext.dr noF w (w.drawn + 1)).wok (ot.se.wi.mono (by rw [Ez_sz]; omega))) (flat_oc Ez _) fun w3 x3 r3 s3 => ⟨(by first | exact trivial | exact .inl trivial), ?_⟩
    simp only [↓List.toList_toArray, ↓rgd, ↓rgf, ↓reduceIte, Nat.reduceEqDiff, rg, ow_176, ↓rgm]
    refine hK _ _ ?_; clear hK K
    have hm : min ((x :: rs).length - 1) ((x :: rs).length) = (x :: rs).length - 1 - 0 := by omega
    rw [hm] at x3 r3
    rw [List.take_of_length_le (by rw [flat_length, List.length_drop, Ez_sz]; omega)] at r3
    obtain ⟨z, g1, g2⟩ := ot.se.down (i := 0) hil (by rw [Nat.zero_mul, Nat.add_zero]; exact x3.od) (by rw [Nat.zero_mul, Nat.add_zero]; first | exact r3 | exact (rb_cel _) ▸ r3)
    have s2 : Ss w0 G w3 [ndO Ez iso 1 b cb (ks.set j x) (ptr bc), ndO Ez iso 0 p ((cl + 1 : Nat) : Int) (ls ++ [k]) chl, ndO Ez iso 0 q (cr : Nat) (rs ++ [z]) chr, kdO (ptr bc) ps, kdO chl lp, kdO chr rp] := ut g1 g2 (.inl ⟨rfl, rfl, rfl⟩)
    refine W_st s2 (by simp only [upd_eq, Nat.reduceEqDiff, ↓reduceIte]; exact e0) (by simp only [upd_eq, Nat.reduceEqDiff, ↓reduceIte]; exact e1) (by simp only [upd_eq, Nat.reduceEqDiff, ↓reduceIte]; exact e2) (by simp only [upd_eq, Nat.reduceEqDiff, ↓reduceIte]; exact e6) (by simp only [upd_eq, Nat.reduceEqDiff, ↓reduceIte]; exact e7) ?_
    clear s s2 e0 e1 e2 e6 e7 ot ut vt x3 r3 s3 g1 g2 hm hil hic v2 h2 i2   h3
    clear e; intro e w s e0 e1 e2 e6 e7
    obtain ⟨tb, to, tq, ot, ut, vt⟩ := s.nd 2 rfl
    have hA : (rs ++ [z]).length = n0 := by rw [List.length_append, List.length_singleton]; skip; omega
    have h2 := ot.se.hd
    rw [hA] at h2
    have q1 := wsub1 (n0) (by omega) (by omega)
    have hi : n0 - 1 < n0 := by omega
    have z4 := zIt_at (hc.ext s.x fun o _ _ => hG o)
    refine W_sq fun K hK => (W_draw (some none) (some 15) [(0, 0, 0), (0, 1, 0), (0, 2, 0), (0, 3, 0), (0, 4, 0), (0, 5, 0), (0, 6, 0), (0, 7, 0), (0, 8, 0), (0, 9, 0), (0, 10, 0), (0, 11, 0), (0, 12, 0), (0, 13, 0), (0, 14, 0), (1, 15, 0)] mixed (by kernel_rfl) ?_); simp only [↓List.toList_toArray, ↓rgd, ↓rgf, ↓reduceIte, Nat.reduceEqDiff, rg, ow_176, e0, e1, e2, e6, e7, ptr_eq, h2, q1, hi, z4]
    refine do_store (by simp only [evt, evc, upd_eq, Nat.reduceEqDiff, ↓reduceIte, ntT, ntF] <;> rfl) (by simp only [evt, evc, upd_eq, Nat.reduceEqDiff, ↓reduceIte, ntT, ntF] <;> rfl) sz_20 (rb_len none) ot.se.wi (by have := ot.se.le; rw [Ez_sz]; rw [hA] at this; omega) (rb_oc none) fun w3 x3 r3 s3 => ⟨(by first | exact trivial | exact .inl trivial), ?_⟩
    simp only [↓List.toList_toArray, ↓rgd, ↓rgf, ↓reduceIte, Nat.reduceEqDiff, rg, ow_176, ↓rgm]
    refine hK _ _ ?_; clear hK K
    obtain ⟨g1, g2⟩ := ot.se.set (i := n0 - 1) (x := none) (by rw [hA]; omega) (by simp only [Ez_sz, Nat.mul_one]; exact x3.od) (by simp only [Ez_sz, Nat.mul_one]; first | exact r3 | exact (rb_cel _) ▸ r3)
    have hs : (rs ++ [z]).set (n0 - 1) none = rs ++ [none] := by rw [show n0 - 1 = (rs).length by skip; omega]; exact set_last
    rw [hs] at g1
    have s2 : Ss w0 G w3 [ndO Ez iso 1 b cb (ks.set j x) (ptr bc), ndO Ez iso 0 p ((cl + 1 : Nat) : Int) (ls ++ [k]) chl, ndO Ez iso 0 q (cr : Nat) (rs ++ [none]) chr, kdO (ptr bc) ps, kdO chl lp, kdO chr rp] := ut g1 g2 (.inl ⟨rfl, rfl, rfl⟩)
    refine W_st s2 (by simp only [upd_eq, Nat.reduceEqDiff, ↓reduceIte]; exact e0) (by simp only [upd_eq, Nat.reduceEqDiff, ↓reduceIte]; exact e1) (by simp only [upd_eq, Nat.reduceEqDiff, ↓reduceIte]; exact e2) (by simp only [upd_eq, Nat.reduceEqDiff, ↓reduceIte]; exact e6) (by simp only [upd_eq, Nat.reduceEqDiff, ↓reduceIte]; exact e7) ?_
    clear s s2 e0 e1 e2 e6 e7 ot ut vt x3 r3 s3 g1 g2 hA h2 q1 hi z4 hs
    clear e; intro e w s e0 e1 e2 e6 e7
    obtain ⟨tb, to, tq, ot, ut, vt⟩ := s.nd 2 rfl
    have hA : (rs ++ [none]).length = n0 := by rw [List.length_append, List.length_singleton]; skip; omega
    have h2 := ot.se.hd
    have h4 := ot.se.le
    rw [hA] at h2 h4
    have q1 := wsub1 (n0) (by omega) (by omega)
    have hi : n0 - 1 ≤ tq := by omega
    refine W_sq fun K hK => (W_draw (some none) (some 14) [(0, 0, 0), (0, 1, 0), (0, 2, 0), (0, 3, 0), (0, 4, 0), (0, 5, 0), (0, 6, 0), (0, 7, 0), (0, 8, 0), (0, 9, 0), (0, 10, 0), (0, 11, 0), (0, 12, 0), (0, 13, 0), (1, 14, 0)] mixed (by kernel_rfl) ?_); simp only [↓List.toList_toArray, ↓rgd, ↓rgf, ↓reduceIte, Nat.reduceEqDiff, rg, ow_176, e0, e1, e2, e6, e7, ptr_eq, h2, q1, hi]
    refine do_store (by simp only [evt, evc, upd_eq, Nat.reduceEqDiff, ↓reduceIte, ntT, ntF] <;> rfl) (by simp only [evt, evc, upd_eq, Nat.reduceEqDiff, ↓reduceIte, ntT, ntF] <;> rfl) sz_140 rfl ot.se.hok (by decide) (oc_one rfl rfl) fun w3 x3 r3 s3 => ⟨(by first | exact trivial | exact .inl trivial), ?_⟩
    simp only [↓List.toList_toArray, ↓rgd, ↓rgf, ↓reduceIte, Nat.reduceEqDiff, rg, ow_176, ↓rgm]
    refine hK _ _ ?_; clear hK K
    obtain ⟨g1, g2⟩ := ot.se.cut x3.od (by rw [show (rs).length = n0 - 1 by skip; omega]; exact (Row.cons.1 r3).1)
    have s2 : Ss w0 G w3 [ndO Ez iso 1 b cb (ks.set j x) (ptr bc), ndO Ez iso 0 p ((cl + 1 : Nat) : Int) (ls ++ [k]) chl, ndO Ez iso 0 q (cr : Nat) rs chr, kdO (ptr bc) ps, kdO chl lp, kdO chr rp] := ut g1 g2 (.inl ⟨rfl, rfl, rfl⟩)
    refine W_st s2 (by simp only [upd_eq, Nat.reduceEqDiff, ↓reduceIte]; exact e0) (by simp only [upd_eq, Nat.reduceEqDiff, ↓reduceIte]; exact e1) (by simp only [upd_eq, Nat.reduceEqDiff, ↓reduceIte]; exact e2) (by simp only [upd_eq, Nat.reduceEqDiff, ↓reduceIte]; exact e6) (by simp only [upd_eq, Nat.reduceEqDiff, ↓reduceIte]; exact e7) ?_
    clear s s2 e0 e1 e2 e6 e7 ot ut vt x3 r3 s3 g1 g2 hA h2 h4 q1 hi
    clear e; intro e w s e0 e1 e2 e6 e7
    obtain ⟨tb, to, tq, ot, ut, vt⟩ := s.nd 2 rfl
    have q1 := wsub1 cr (by omega) (by omega)
    refine W_sq fun K hK => (W_text [true, true, true, true, true, true, true, false] (by kernel_rfl) ?_); simp only [↓List.toList_toArray, ↓rgd, ↓rgf, ↓reduceIte, Nat.reduceEqDiff, rg, ow_176, e0, e1, e2, e6, e7, ptr_eq, ot.h1, q1]
    refine do_store (by simp only [evt, evc, upd_eq, Nat.reduceEqDiff, ↓reduceIte, ntT, ntF] <;> rfl) (by simp only [evt, evc, upd_eq, Nat.reduceEqDiff, ↓reduceIte, ntT, ntF] <;> rfl) sz_3 rfl ot.wb (by decide) (oc_one rfl rfl) fun w3 x3 r3 s3 => ⟨(by first | exact trivial | exact .inl trivial), ?_⟩
    simp only [↓List.toList_toArray, ↓rgd, ↓rgf, ↓reduceIte, Nat.reduceEqDiff, rg, ow_176, ↓rgm]
    refine hK _ _ ?_; clear hK K
    have s2 : Ss w0 G w3 [ndO Ez iso 1 b cb (ks.set j x) (ptr bc), ndO Ez iso 0 p ((cl + 1 : Nat) : Int) (ls ++ [k]) chl, ndO Ez iso 0 q ((cr - 1 : Nat) : Int) rs chr, kdO (ptr bc) ps, kdO chl lp, kdO chr rp] := vt x3 (Row.cons.1 r3).1
    refine W_st s2 (by simp only [upd_eq, Nat.reduceEqDiff, ↓reduceIte]; exact e0) (by simp only [upd_eq, Nat.reduceEqDiff, ↓reduceIte]; exact e1) (by simp only [upd_eq, Nat.reduceEqDiff, ↓reduceIte]; exact e2) (by simp only [upd_eq, Nat.reduceEqDiff, ↓reduceIte]; exact e6) (by simp only [upd_eq, Nat.reduceEqDiff, ↓reduceIte]; exact e7) ?_
    clear s s2 e0 e1 e2 e6 e7 ot ut vt x3 r3 s3  q1
    clear e; intro e w s e0 e1 e2 e6 e7
    obtain ⟨lb, lo, lq, ol, ul, vl⟩ := s.nd 1 rfl
    rcases hch with ⟨rfl, rfl, rfl, rfl⟩ | ⟨lc, rc, rfl, rfl, hlp, hrp⟩
    · refine W_sq fun K hK => (W_text [true, false, true] (by kernel_rfl) ?_); simp only [↓List.toList_toArray, ↓rgd, ↓rgf, ↓reduceIte, Nat.reduceEqDiff, rg, ow_176, e6]
      refine do_call fn_122 (by simp only [evt, evc, upd_eq, Nat.reduceEqDiff, ↓reduceIte, maT, maC, maN, isnN, isnS] <;> rfl) (leaf_any p none w ol.h3) ?_
      rintro _ w1 ⟨rfl, hw1⟩
      obtain rfl : w = w1 := hw1.symm
      refine ⟨trivial, ?_⟩
      simp only [↓List.toList_toArray, ↓rgd, ↓rgf, ↓reduceIte, Nat.reduceEqDiff, rg, ow_176]
      refine hK _ _ ?_; clear hK K
      refine W_false (by simp only [evt, evc, upd_eq, Nat.reduceEqDiff, ↓reduceIte, ntT, ntF] <;> rfl) (W_skip ?_)
      show endQ _ _ _ _ _ _
      refine endQ_0n ?_
      obtain rfl : cg = 0 := by
        rcases hg with ⟨_, h⟩ | ⟨g, rp', h, _⟩
        · exact h
        · cases h
      exact s
    · refine W_sq fun K hK => (W_text [true, false, true] (by kernel_rfl) ?_); simp only [↓List.toList_toArray, ↓rgd, ↓rgf, ↓reduceIte, Nat.reduceEqDiff, rg, ow_176, e6]
      refine do_call fn_122 (by simp only [evt, evc, upd_eq, Nat.reduceEqDiff, ↓reduceIte, maT, maC, maN, isnN, isnS] <;> rfl) (leaf_any p (some ⟨lc, 0, none⟩) w ol.h3) ?_
      rintro _ w1 ⟨rfl, hw1⟩
      obtain rfl : w = w1 := hw1.symm
      refine ⟨trivial, ?_⟩
      simp only [↓List.toList_toArray, ↓rgd, ↓rgf, ↓reduceIte, Nat.reduceEqDiff, rg, ow_176]
      refine hK _ _ ?_; clear hK K
      refine W_true (by simp only [evt, evc, upd_eq, Nat.reduceEqDiff, ↓reduceIte, ntT, ntF] <;> rfl) ?_
      refine W_st s (by simp only [upd_eq, Nat.reduceEqDiff, ↓reduceIte]; exact e0) (by simp only [upd_eq, Nat.reduceEqDiff, ↓reduceIte]; exact e1) (by simp only [upd_eq, Nat.reduceEqDiff, ↓reduceIte]; exact e2) (by simp only [upd_eq, Nat.reduceEqDiff, ↓reduceIte]; exact e6) (by simp only [upd_eq, Nat.reduceEqDiff, ↓reduceIte]; exact e7) ?_
      clear s e0 e1 e2 e6 e7 ol ul vl
      clear e; intro e w s e0 e1 e2 e6 e7
      obtain ⟨g, rp', rfl, hgc, hgG⟩ : ∃ g rp', rp = some g :: rp' ∧ rd w0 g 1 = some (.int .i64 (cg : Nat)) ∧ ∀ o, ¬ G g o := by
        rcases hg with ⟨h, _⟩ | h
        · rw [h] at hrp; cases hrp
        · exact h
      obtain ⟨n2, hn2⟩ : ∃ n2, n2 = rp'.length + 1 := ⟨_, rfl⟩
      have hnk : (some g :: rp').length = n2 := by simp [hn2]
      have hlp0 : lp.length ≤ 2 * d := by omega
      have hlp1 : 0 < lp.length := by omega
      have hn2b : n2 ≤ 2 * d := by omega
      clear hlp hrp hll hrl hgt hlt hnl
      obtain ⟨lb, lo, lq, ol, ul, vl⟩ := s.nd 1 rfl
      obtain ⟨yb, yo, yq, oy, uy, fn, fk⟩ := s.kdx 4 rfl (by omega)
      obtain ⟨tb, to, tq, ot, ut, vt⟩ := s.nd 2 rfl
      obtain ⟨zb, zo, zq, oz, uz⟩ := s.kd 5 rfl
      have hb_p := wok_lt ol.wb
      have hb_lc := wok_lt oy.hok
      have hgv := oz.ptr_at (j := 0) (p := g) rfl
      rw [Nat.add_zero] at hgv
      have hl0 : 0 < (some g :: rp').length := by omega
      have i0 := ix0 1 zb zo (some g :: rp').length hl0
      have L0 := on2_0 p lc
      have L1 := on2_1 p lc
      refine W_sq fun K hK => (W_semi (some (some [p, lc])) (.take false 0 (.take false 1 (.take false 2 (.take false 3 (.take false 4 (.take false 5 (.take false 6 (.take false 7 (.take false 8 (.take false 9 (.take false 10 (.take false 11 (.take false 12 (.take true 13 (.take false 14 (.take true 15 (.take false 16 (.take true 17 (.act 18 (.act 19 (.take false 20 (.bar 21 .nil)))))))))))))))))))))) mixed (by kernel_rfl) ?_); simp only [↓rgm, ↓List.toList_toArray, ↓rgd, ↓rgf, ↓reduceIte, Nat.reduceEqDiff, rg, ow_176, e0, e1, e2, e6, e7, ptr_eq, ol.h3, oy.hd, ot.h3, oz.hd, i0, hgv, L0, L1, rB_on]
      refine do_bsl rfl (rb_o (some ⟨g, 0, none⟩)) fun w1 n1 => ⟨.inr (n1.keep _ (lt2 hb_p hb_lc)), ?_⟩
      simp only [↓List.toList_toArray, ↓rgd, ↓rgf, ↓reduceIte, Nat.reduceEqDiff, rg, ow_176, ↓rgm]
      have n1 := n1.od
      have a1 := oy.ext0 n1.ext
      refine do_append (by simp only [evt, evc, upd_eq, Nat.reduceEqDiff, ↓reduceIte, ntT, ntF] <;> rfl) (by simp only [evt, evc, upd_eq, Nat.reduceEqDiff, ↓reduceIte, ntT, ntF] <;> rfl) rb_elk rfl ni_144 a1.slV (u := .slice (some ⟨w.heap.size, 0, none⟩) 1 1) (m := 1) (l' := Eo.cel (some g)) ⟨rfl, .inr ⟨_, 0, 1, rfl, Nat.le_refl _, n1.row, n1.wok.R (Nat.le_refl _)⟩⟩ (by omega) (by decide) (Eo.one _) fun v2 w2 a2 => ⟨.inr (app_keep a2 _ (fkeep2 ⟨wok_lt (n1.ext.wok ol.wb), fn 1 (by decide) rfl⟩ ⟨wok_lt (n1.ext.wok oy.hok), oy.ne.symm⟩)), ?_⟩
      obtain ⟨gb, go, gc, rfl, wk2, -, nx⟩ := a1.app' (ls := [(some g)]) rfl (by rw [flat_one]; exact a2)
      simp only [↓List.toList_toArray, ↓rgd, ↓rgf, ↓reduceIte, Nat.reduceEqDiff, rg, ow_176, ↓rgm]
      refine do_store (by simp only [evt, evc, upd_eq, Nat.reduceEqDiff, ↓reduceIte, ntT, ntF] <;> rfl) (by simp only [evt, evc, upd_eq, Nat.reduceEqDiff, ↓reduceIte, ntT, ntF] <;> rfl) sz_144 rfl wk2 (by decide) (oc_one rfl rfl) fun w3 x3 r3 s3 => ⟨trivial, ?_⟩
      simp only [↓List.toList_toArray, ↓rgd, ↓rgf, ↓reduceIte, Nat.reduceEqDiff, rg, ow_176, ↓rgm]
      refine hK _ _ ?_; clear hK K
      obtain ⟨g1, g2, g3⟩ := nx w3 x3 (Row.cons.1 r3).1
      have s2 : Ss w0 G w3 [ndO Ez iso 1 b cb (ks.set j x) (ptr bc), ndO Ez iso 0 p ((cl + 1 : Nat) : Int) (ls ++ [k]) (ptr lc), ndO Ez iso 0 q ((cr - 1 : Nat) : Int) rs (ptr rc), kdO (ptr bc) ps, kdO (ptr lc) (lp ++ [(some g)]), kdO (ptr rc) (some g :: rp')] := uy g1 (n1.ext.trans g2 (fun _ _ h => h.elim) fun _ _ _ h => h) (g3.imp id fun h => (by have := n1.size; omega))
      refine W_st s2 (by simp only [upd_eq, Nat.reduceEqDiff, ↓reduceIte]; exact e0) (by simp only [upd_eq, Nat.reduceEqDiff, ↓reduceIte]; exact e1) (by simp only [upd_eq, Nat.reduceEqDiff, ↓reduceIte]; exact e2) (by simp only [upd_eq, Nat.reduceEqDiff, ↓reduceIte]; exact e6) (by simp only [upd_eq, Nat.reduceEqDiff, ↓reduceIte]; exact e7) ?_
      clear s s2 e0 e1 e2 e6 e7 ol ul vl oy uy fn fk ot ut vt oz uz wk2 nx x3 r3 s3 g1 g2 g3 hb_p hb_lc hgv hl0 i0 n1 a1 a2 L0 L1
      clear e; intro e w s e0 e1 e2 e6 e7
      obtain ⟨tb, to, tq, ot, ut, vt⟩ := s.nd 2 rfl
      obtain ⟨zb, zo, zq, oz, uz⟩ := s.kd 5 rfl
      have hil : 0 < (some g :: rp').length := by simp
      have hic := oz.le
      obtain ⟨o2, h2, -, v2, -⟩ := oz.from Eo_sz 1 (by omega)
      have i2 : 1 ≤ (some g :: rp').length := by omega
      have h3 : slcX (some 1) (.slice (some ⟨zb, zo, none⟩) (some g :: rp').length zq) (some (.int .i64 1)) none none = some (slFrom zb zo 1 1 (some g :: rp').length zq) := slcX_lo _ _ _ _ _ 1 _ i2
      refine W_sq fun K hK => (W_draw (some none) (some 13) [(0, 0, 0), (0, 1, 0), (0, 2, 0), (0, 3, 0), (0, 4, 0), (0, 5, 0), (0, 6, 0), (0, 7, 0), (0, 8, 0), (0, 9, 0), (0, 10, 0), (0, 11, 0), (0, 12, 0), (1, 13, 0)] mixed (by kernel_rfl) ?_); simp only [↓List.toList_toArray, ↓rgd, ↓rgf, ↓reduceIte, Nat.reduceEqDiff, rg, ow_176, e0, e1, e2, e6, e7, ptr_eq, ot.h3, oz.hd, h3, i2, h2]
      refine do_copy (by simp only [evt, evc, upd_eq, Nat.reduceEqDiff, ↓reduceIte, ntT, ntF] <;> rfl) (by simp only [evt, evc, upd_eq, Nat.reduceEqDiff, ↓reduceIte, ntT, ntF] <;> rfl) rb_elk (SlV.ext0 v2 (Ext.dr noF w (w.drawn + 1))) ((Ext.dr noF w (w.drawn + 1)).wok (oz.wi.mono (by rw [Eo_sz]; omega))) (flat_oc Eo _) fun w3 x3 r3 s3 => ⟨(by first | exact trivial | exact .inl trivial), ?_⟩
      simp only [↓List.toList_toArray, ↓rgd, ↓rgf, ↓reduceIte, Nat.reduceEqDiff, rg, ow_176, ↓rgm]
      refine hK _ _ ?_; clear hK K
      have hm : min ((some g :: rp').length - 1) ((some g :: rp').length) = (some g :: rp').length - 1 - 0 := by omega
      rw [hm] at x3 r3
      rw [List.take_of_length_le (by rw [flat_length, List.length_drop, Eo_sz]; omega)] at r3
      obtain ⟨z, g1, g2⟩ := oz.down (i := 0) hil (by rw [Nat.zero_mul, Nat.add_zero]; exact x3.od) (by rw [Nat.zero_mul, Nat.add_zero]; first | exact r3 | exact (rb_cel _) ▸ r3)
      have s2 : Ss w0 G w3 [ndO Ez iso 1 b cb (ks.set j x) (ptr bc), ndO Ez iso 0 p ((cl + 1 : Nat) : Int) (ls ++ [k]) (ptr lc), ndO Ez iso 0 q ((cr - 1 : Nat) : Int) rs (ptr rc), kdO (ptr bc) ps, kdO (ptr lc) (lp ++ [(some g)]), kdO (ptr rc) (rp' ++ [z])] := uz g1 g2 (.inl ⟨rfl, rfl, rfl⟩)
      refine W_st s2 (by simp only [upd_eq, Nat.reduceEqDiff, ↓reduceIte]; exact e0) (by simp only [upd_eq, Nat.reduceEqDiff, ↓reduceIte]; exact e1) (by simp only [upd_eq, Nat.reduceEqDiff, ↓reduceIte]; exact e2) (by simp only [upd_eq, Nat.reduceEqDiff, ↓reduceIte]; exact e6) (by simp only [upd_eq, Nat.reduceEqDiff, ↓reduceIte]; exact e7) ?_
      clear s s2 e0 e1 e2 e6 e7 ot ut vt oz uz x3 r3 s3 g1 g2 hm hil hic v2 h2 i2   h3
      clear e; intro e w s e0 e1 e2 e6 e7
      obtain ⟨tb, to, tq, ot, ut, vt⟩ := s.nd 2 rfl
      obtain ⟨zb, zo, zq, oz, uz⟩ := s.kd 5 rfl
      have hA : (rp' ++ [z]).length = n2 := by rw [List.length_append, List.length_singleton]; skip; omega
      have h2 := oz.hd
      rw [hA] at h2
      have q1 := wsub1 (n2) (by omega) (by omega)
      have hi : n2 - 1 < n2 := by omega
      refine W_sq fun K hK => (W_draw (some none) (some 15) [(0, 0, 0), (0, 1, 0), (0, 2, 0), (0, 3, 0), (0, 4, 0), (0, 5, 0), (0, 6, 0), (0, 7, 0), (0, 8, 0), (0, 9, 0), (0, 10, 0), (0, 11, 0), (0, 12, 0), (0, 13, 0), (0, 14, 0), (1, 15, 0)] mixed (by kernel_rfl) ?_); simp only [↓List.toList_toArray, ↓rgd, ↓rgf, ↓reduceIte, Nat.reduceEqDiff, rg, ow_176, e0, e1, e2, e6, e7, ptr_eq, ot.h3, h2, q1, hi]
      refine do_store (by simp only [evt, evc, upd_eq, Nat.reduceEqDiff, ↓reduceIte, ntT, ntF] <;> rfl) (by simp only [evt, evc, upd_eq, Nat.reduceEqDiff, ↓reduceIte, ntT, ntF] <;> rfl) sz_106 rfl oz.wi (by have := oz.le; rw [Eo_sz]; rw [hA] at this; omega) (oc_one rfl rfl) fun w3 x3 r3 s3 => ⟨(by first | exact trivial | exact .inl trivial), ?_⟩
      simp only [↓List.toList_toArray, ↓rgd, ↓rgf, ↓reduceIte, Nat.reduceEqDiff, rg, ow_176, ↓rgm]
      refine hK _ _ ?_; clear hK K
      obtain ⟨g1, g2⟩ := oz.set (i := n2 - 1) (x := none) (by rw [hA]; omega) (by rw [Eo_sz, Nat.mul_one]; exact x3.od) (by rw [Eo_sz, Nat.mul_one]; first | exact r3 | exact (rb_cel _) ▸ r3)
      have hs : (rp' ++ [z]).set (n2 - 1) none = rp' ++ [none] := by rw [show n2 - 1 = (rp').length by skip; omega]; exact set_last
      rw [hs] at g1
      have s2 : Ss w0 G w3 [ndO Ez iso 1 b cb (ks.set j x) (ptr bc), ndO Ez iso 0 p ((cl + 1 : Nat) : Int) (ls ++ [k]) (ptr lc), ndO Ez iso 0 q ((cr - 1 : Nat) : Int) rs (ptr rc), kdO (ptr bc) ps, kdO (ptr lc) (lp ++ [(some g)]), kdO (ptr rc) (rp' ++ [none])] := uz g1 g2 (.inl ⟨rfl, rfl, rfl⟩)
      refine W_st s2 (by simp only [upd_eq, Nat.reduceEqDiff, ↓reduceIte]; exact e0) (by simp only [upd_eq, Nat.reduceEqDiff, ↓reduceIte]; exact e1) (by simp only [upd_eq, Nat.reduceEqDiff, ↓reduceIte]; exact e2) (by simp only [upd_eq, Nat.reduceEqDiff, ↓reduceIte]; exact e6) (by simp only [upd_eq, Nat.reduceEqDiff, ↓reduceIte]; exact e7) ?_
      clear s s2 e0 e1 e2 e6 e7 ot ut vt oz uz x3 r3 s3 g1 g2 hA h2 q1 hi hs
      clear e; intro e w s e0 e1 e2 e6 e7
      obtain ⟨tb, to, tq, ot, ut, vt⟩ := s.nd 2 rfl
      obtain ⟨zb, zo, zq, oz, uz⟩ := s.kd 5 rfl
      have hA : (rp' ++ [none]).length = n2 := by rw [List.length_append, List.length_singleton]; skip; omega
      have h2 := oz.hd
      have h4 := oz.le
      rw [hA] at h2 h4
      have q1 := wsub1 (n2) (by omega) (by omega)
      have hi : n2 - 1 ≤ zq := by omega
      refine W_sq fun K hK => (W_draw (some none) (some 20) [(0, 0, 0), (0, 1, 0), (0, 2, 0), (0, 3, 0), (0, 4, 0), (0, 5, 0), (0, 6, 0), (0, 7, 0), (0, 8, 0), (0, 9, 0), (0, 10, 0), (0, 11, 0), (0, 12, 0), (0, 13, 0), (0, 14, 0), (0, 15, 0), (0, 16, 0), (0, 17, 0), (0, 18, 0), (0, 19, 0), (1, 20, 0)] mixed (by kernel_rfl) ?_); simp only [↓List.toList_toArray, ↓rgd, ↓rgf, ↓reduceIte, Nat.reduceEqDiff, rg, ow_176, e0, e1, e2, e6, e7, ptr_eq, ot.h3, h2, q1, hi]
      refine do_store (by simp only [evt, evc, upd_eq, Nat.reduceEqDiff, ↓reduceIte, ntT, ntF] <;> rfl) (by simp only [evt, evc, upd_eq, Nat.reduceEqDiff, ↓reduceIte, ntT, ntF] <;> rfl) sz_144 rfl oz.hok (by decide) (oc_one rfl rfl) fun w3 x3 r3 s3 => ⟨(by first | exact trivial | exact .inl trivial), ?_⟩
      simp only [↓List.toList_toArray, ↓rgd, ↓rgf, ↓reduceIte, Nat.reduceEqDiff, rg, ow_176, ↓rgm]
      refine hK _ _ ?_; clear hK K
      obtain ⟨g1, g2⟩ := oz.cut x3.od (by rw [show (rp').length = n2 - 1 by skip; omega]; exact (Row.cons.1 r3).1)
      have s2 : Ss w0 G w3 [ndO Ez iso 1 b cb (ks.set j x) (ptr bc), ndO Ez iso 0 p ((cl + 1 : Nat) : Int) (ls ++ [k]) (ptr lc), ndO Ez iso 0 q ((cr - 1 : Nat) : Int) rs (ptr rc), kdO (ptr bc) ps, kdO (ptr lc) (lp ++ [(some g)]), kdO (ptr rc) rp'] := uz g1 g2 (.inl ⟨rfl, rfl, rfl⟩)
      refine W_st s2 (by simp only [upd_eq, Nat.reduceEqDiff, ↓reduceIte]; exact e0) (by simp only [upd_eq, Nat.reduceEqDiff, ↓reduceIte]; exact e1) (by simp only [upd_eq, Nat.reduceEqDiff, ↓reduceIte]; exact e2) (by simp only [upd_eq, Nat.reduceEqDiff, ↓reduceIte]; exact e6) (by simp only [upd_eq, Nat.reduceEqDiff, ↓reduceIte]; exact e7) ?_
      clear s s2 e0 e1 e2 e6 e7 ot ut vt oz uz x3 r3 s3 g1 g2 hA h2 h4 q1 hi
      clear e; intro e w s e0 e1 e2 e6 e7
      obtain ⟨lb, lo, lq, ol, ul, vl⟩ := s.nd 1 rfl
      obtain ⟨yb, yo, yq, oy, uy⟩ := s.kd 4 rfl
      obtain ⟨n4, hn4⟩ : ∃ n4, n4 = lp.length + 1 := ⟨_, rfl⟩
      have h2 := oy.hd
      rw [show (lp ++ [some g]).length = n4 by simp [hn4]] at h2
      have q3 := wsub1 n4 (by omega) (by omega)
      have hi : n4 - 1 < n4 := by omega
      have hgv := oy.ptr_at (j := n4 - 1) (p := g) (by simp [hn4])
      have hg1 := s.x.rd hgc (hgG 1)
      have q1 := wadd (cl + 1) cg (by omega)
      refine W_sq fun K hK => (W_draw (some none) (some 26) [(0, 0, 0), (0, 1, 0), (0, 2, 0), (0, 3, 0), (0, 4, 0), (0, 5, 0), (0, 6, 0), (0, 7, 0), (0, 8, 0), (0, 9, 0), (0, 10, 0), (0, 11, 0), (0, 12, 0), (0, 13, 0), (0, 14, 0), (0, 15, 0), (0, 16, 0), (0, 17, 0), (0, 18, 0), (0, 19, 0), (0, 20, 0), (0, 21, 0), (0, 22, 0), (0, 23, 0), (0, 24, 0), (0, 25, 0), (1, 26, 0)] mixed (by kernel_rfl) ?_); simp only [↓List.toList_toArray, ↓rgd, ↓rgf, ↓reduceIte, Nat.reduceEqDiff, rg, ow_176, e0, e1, e2, e6, e7, ptr_eq, ol.h1, h2, q3, hi, hgv, hg1, ol.h3, q1]
      refine do_store (by simp only [evt, evc, upd_eq, Nat.reduceEqDiff, ↓reduceIte, ntT, ntF] <;> rfl) (by simp only [evt, evc, upd_eq, Nat.reduceEqDiff, ↓reduceIte, ntT, ntF] <;> rfl) sz_3 rfl ol.wb (by decide) (oc_one rfl rfl) fun w3 x3 r3 s3 => ⟨(by first | exact trivial | exact .inl trivial), ?_⟩
      simp only [↓List.toList_toArray, ↓rgd, ↓rgf, ↓reduceIte, Nat.reduceEqDiff, rg, ow_176, ↓rgm]
      refine hK _ _ ?_; clear hK K
      have s2 : Ss w0 G w3 [ndO Ez iso 1 b cb (ks.set j x) (ptr bc), ndO Ez iso 0 p ((cl + 1 + cg : Nat) : Int) (ls ++ [k]) (ptr lc), ndO Ez iso 0 q ((cr - 1 : Nat) : Int) rs (ptr rc), kdO (ptr bc) ps, kdO (ptr lc) (lp ++ [(some g)]), kdO (ptr rc) rp'] := vl x3.od (Row.cons.1 r3).1
      refine W_st s2 (by simp only [upd_eq, Nat.reduceEqDiff, ↓reduceIte]; exact e0) (by simp only [upd_eq, Nat.reduceEqDiff, ↓reduceIte]; exact e1) (by simp only [upd_eq, Nat.reduceEqDiff, ↓reduceIte]; exact e2) (by simp only [upd_eq, Nat.reduceEqDiff, ↓reduceIte]; exact e6) (by simp only [upd_eq, Nat.reduceEqDiff, ↓reduceIte]; exact e7) ?_
      clear s s2 e0 e1 e2 e6 e7 ol ul vl oy uy x3 r3 s3 h2 q3 hi hgv hg1 hn4 q1
      clear e; intro e w s e0 e1 e2 e6 e7
      obtain ⟨tb, to, tq, ot, ut, vt⟩ := s.nd 2 rfl
      obtain ⟨lb, lo, lq, ol, ul, vl⟩ := s.nd 1 rfl
      obtain ⟨yb, yo, yq, oy, uy⟩ := s.kd 4 rfl
      obtain ⟨n4, hn4⟩ : ∃ n4, n4 = lp.length + 1 := ⟨_, rfl⟩
      have h2 := oy.hd
      rw [show (lp ++ [some g]).length = n4 by simp [hn4]] at h2
      have q3 := wsub1 n4 (by omega) (by omega)
      have hi : n4 - 1 < n4 := by omega
      have hgv := oy.ptr_at (j := n4 - 1) (p := g) (by simp [hn4])
      have hg1 := s.x.rd hgc (hgG 1)
      have q1 := wsub (cr - 1) cg (by omega) (by omega)
      refine W_rg fun K hK => (W_draw (some none) (some 26) [(0, 0, 0), (0, 1, 0), (0, 2, 0), (0, 3, 0), (0, 4, 0), (0, 5, 0), (0, 6, 0), (0, 7, 0), (0, 8, 0), (0, 9, 0), (0, 10, 0), (0, 11, 0), (0, 12, 0), (0, 13, 0), (0, 14, 0), (0, 15, 0), (0, 16, 0), (0, 17, 0), (0, 18, 0), (0, 19, 0), (0, 20, 0), (0, 21, 0), (0, 22, 0), (0, 23, 0), (0, 24, 0), (0, 25, 0), (1, 26, 0)] mixed (by kernel_rfl) ?_); simp only [↓List.toList_toArray, ↓rgd, ↓rgf, ↓reduceIte, Nat.reduceEqDiff, rg, ow_176, e0, e1, e2, e6, e7, ptr_eq, ot.h1, h2, q3, hi, hgv, hg1, ol.h3, q1]
      refine do_store (by simp only [evt, evc, upd_eq, Nat.reduceEqDiff, ↓reduceIte, ntT, ntF] <;> rfl) (by simp only [evt, evc, upd_eq, Nat.reduceEqDiff, ↓reduceIte, ntT, ntF] <;> rfl) sz_3 rfl ot.wb (by decide) (oc_one rfl rfl) fun w3 x3 r3 s3 => ⟨(by first | exact trivial | exact .inl trivial), ?_⟩
      simp only [↓List.toList_toArray, ↓rgd, ↓rgf, ↓reduceIte, Nat.reduceEqDiff, rg, ow_176, ↓rgm]
      refine hK _ _ ?_; clear hK K
      have s2 : Ss w0 G w3 [ndO Ez iso 1 b cb (ks.set j x) (ptr bc), ndO Ez iso 0 p ((cl + 1 + cg : Nat) : Int) (ls ++ [k]) (ptr lc), ndO Ez iso 0 q ((cr - 1 - cg : Nat) : Int) rs (ptr rc), kdO (ptr bc) ps, kdO (ptr lc) (lp ++ [(some g)]), kdO (ptr rc) rp'] := vt x3.od (Row.cons.1 r3).1
      show endQ _ _ _ _ _ _
      refine endQ_0n ?_
      exact s2
  obtain ⟨nb, no, nc, on, un, vn⟩ := s.nd 0 rfl
  rcases hj with ⟨rfl, hj⟩ | ⟨rfl, hj⟩
  · have hb : ((i0 : Int) == (ks.length : Int)) = false := by simp; omega
    refine W_sq fun K hK => (W_text [true, true, true, true, true, true, true] (by kernel_rfl) ?_); simp only [↓List.toList_toArray, ↓rgd, ↓rgf, ↓reduceIte, Nat.reduceEqDiff, rg, ow_176, e1, e2, ptr_eq, on.h2, hb]
    refine hK _ _ ?_; clear hK K
    refine W_false (by simp only [evt, evc, upd_eq, Nat.reduceEqDiff, ↓reduceIte, ntT, ntF] <;> rfl) (W_skip ?_)
    exact hend _ (by simp only [upd_eq, Nat.reduceEqDiff, ↓reduceIte]; exact e0) (by simp only [upd_eq, Nat.reduceEqDiff, ↓reduceIte]; exact e1) (by simp only [upd_eq, Nat.reduceEqDiff, ↓reduceIte]; exact e2)
  · have hb : ((ks.length : Int) == (ks.length : Int)) = true := by simp
    refine W_sq fun K hK => (W_text [true, true, true, true, true, true, true] (by kernel_rfl) ?_); simp only [↓List.toList_toArray, ↓rgd, ↓rgf, ↓reduceIte, Nat.reduceEqDiff, rg, ow_176, e1, e2, ptr_eq, on.h2, hb]
    refine hK _ _ ?_; clear hK K
    refine W_true (by simp only [evt, evc, upd_eq, Nat.reduceEqDiff, ↓reduceIte, ntT, ntF] <;> rfl) ?_
    have q1 := wsub1 ks.length (by omega) (by omega)
    have hjs : ks.length - 1 = j := by omega
    refine W_rg fun K hK => (W_text [true, true, true] (by kernel_rfl) ?_); simp only [↓List.toList_toArray, ↓rgd, ↓rgf, ↓reduceIte, Nat.reduceEqDiff, rg, ow_176, e2, q1]
    refine hK _ _ ?_; clear hK K
    exact hend _ (by simp only [upd_eq, Nat.reduceEqDiff, ↓reduceIte]; exact e0) (by simp only [upd_eq, Nat.reduceEqDiff, ↓reduceIte]; exact e1) (by simp only [upd_eq, Nat.reduceEqDiff, ↓reduceIte] <;> rw [hjs])
end Go.Proofs.Ytanmjbkbdmeckaa
/-
  nodeRebalance for lists of items. No condition.
-/
set_option linter.unusedSimpArgs false
set_option linter.unusedVariables false
namespace Go.Proofs.Ytanmjbkbdmeckaa
open Go Go.Proofs
theorem reb_merge (m d b p q bc i0 j cl cr : Nat) (iso cb : Int) (ks ls rs : List It) (k : It) (ps lp rp : List (Option Nat)) (chl chr : Value) (w0 w : World) (G : Nat → Nat → Prop) (hd : 2 ≤ d) (hd' : d ≤ 128) (hc : Cfg w0 m iso d) (hG : ∀ o, ¬ G m o)
    (s : Ss w0 G w [ndO E iso 1 b cb ks (ptr bc), ndO E iso 0 p (cl : Nat) ls chl, ndO E iso 0 q (cr : Nat) rs chr, kdO (ptr bc) ps, kdO chl lp, kdO chr rp]) (hj : (i0 = j ∧ j < ks.length) ∨ (i0 = ks.length ∧ j + 1 = ks.length)) (hkl : ks.length ≤ 2 * d - 1) (hk : ks[j]? = some k) (hps : ps.length = ks.length + 1) (hp : ps[j]? = some (some p)) (hq : ps[j + 1]? = some (some q))
    (hch : (chl = .pointer none ∧ chr = .pointer none ∧ lp = [] ∧ rp = []) ∨ ∃ lc rc, chl = ptr lc ∧ chr = ptr rc ∧ lp.length = ls.length + 1 ∧ rp.length = rs.length + 1) (hll : ls.length ≤ 2 * d - 1) (hrl : rs.length ≤ 2 * d - 1) (hcl : cl < 2305843009213693952) (hcr : cr < 2305843009213693952) (hlt : ls.length + rs.length < 2 * d - 1) :
    CallK Try.prog 176 #[ptr m, ptr b, .int .i64 (i0 : Nat)] w fun _ w' => Ss w0 G w' [ndO E iso 1 b cb (ks.eraseIdx j) (ptr bc), ndO E iso 0 p ((cl + (cr + 1) : Nat) : Int) (ls ++ k :: rs) chl, ndO E iso 0 q (cr : Nat) rs chr, kdO (ptr bc) (ps.eraseIdx (j + 1)), kdO chl (lp ++ rp), kdO chr rp] := by
  rw [ndO_z, ndO_z, ndO_z] at s
  refine CallK_mono (zreb_merge m d b p q bc i0 j cl cr iso cb (ks.map some) (ls.map some) (rs.map some) (some k) ps lp rp chl chr w0 w G hd hd' hc hG s (by simpa using hj) (by simpa using hkl) (by simp [hk]) (by simpa using hps) hp hq (by simpa using hch) (by simpa using hll) (by simpa using hrl) hcl hcr (by simpa using hlt)) fun v w' hs => ?_
  rw [ndO_z, ndO_z, ndO_z]
  have e1 : (ks.map some).eraseIdx j = (ks.eraseIdx j).map some := by rw [List.eraseIdx_eq_take_drop_succ, List.eraseIdx_eq_take_drop_succ, List.map_append, List.map_take, List.map_drop]
  rw [e1] at hs
  rw [List.map_append, List.map_cons]
  exact hs
theorem reb_right (m d b p q bc i0 j cl cr : Nat) (iso cb : Int) (ks ls rs : List It) (k x : It) (ps lp rp : List (Option Nat)) (chl chr : Value) (w0 w : World) (G : Nat → Nat → Prop) (hd : 2 ≤ d) (hd' : d ≤ 128) (hc : Cfg w0 m iso d) (hG : ∀ o, ¬ G m o)
    (s : Ss w0 G w [ndO E iso 1 b cb ks (ptr bc), ndO E iso 0 p (cl : Nat) (ls ++ [x]) chl, ndO E iso 0 q (cr : Nat) rs chr, kdO (ptr bc) ps, kdO chl lp, kdO chr rp]) (hj : (i0 = j ∧ j < ks.length) ∨ (i0 = ks.length ∧ j + 1 = ks.length)) (hkl : ks.length ≤ 2 * d - 1) (hk : ks[j]? = some k) (hps : ps.length = ks.length + 1) (hp : ps[j]? = some (some p)) (hq : ps[j + 1]? = some (some q))
    (hch : (chl = .pointer none ∧ chr = .pointer none ∧ lp = [] ∧ rp = []) ∨ ∃ lc rc, chl = ptr lc ∧ chr = ptr rc ∧ lp.length = (ls ++ [x]).length + 1 ∧ rp.length = rs.length + 1) (hll : (ls ++ [x]).length ≤ 2 * d - 1) (hrl : rs.length ≤ 2 * d - 1) (hcl : cl < 2305843009213693952) (hcr : cr < 2305843009213693952) (hlt : 2 * d - 1 ≤ (ls ++ [x]).length + rs.length) (hgt : rs.length < (ls ++ [x]).length) (cg : Nat) (hcg : 1 + cg ≤ cl) (hcgb : cr + cg < 2305843009213693952) (hg : (lp = [] ∧ cg = 0) ∨ ∃ g lp', lp = lp' ++ [some g] ∧ rd w0 g 1 = some (.int .i64 (cg : Nat)) ∧ ∀ o, ¬ G g o) :
    CallK Try.prog 176 #[ptr m, ptr b, .int .i64 (i0 : Nat)] w fun _ w' => Ss w0 G w' [ndO E iso 1 b cb (ks.set j x) (ptr bc), ndO E iso 0 p ((cl - 1 - cg : Nat) : Int) ls chl, ndO E iso 0 q ((cr + 1 + cg : Nat) : Int) (k :: rs) chr, kdO (ptr bc) ps, kdO chl lp.dropLast, kdO chr (lp.drop (lp.length - 1) ++ rp)] := by
  rw [ndO_z, ndO_z, ndO_z, List.map_append, List.map_cons, List.map_nil] at s
  refine CallK_mono (zreb_right m d b p q bc i0 j cl cr iso cb (ks.map some) (ls.map some) (rs.map some) (some k) (some x) ps lp rp chl chr w0 w G hd hd' hc hG s (by simpa using hj) (by simpa using hkl) (by simp [hk]) (by simpa using hps) hp hq (by simpa using hch) (by simpa using hll) (by simpa using hrl) hcl hcr (by simpa using hlt) (by simpa using hgt) cg hcg hcgb hg) fun v w' hs => ?_
  rw [ndO_z, ndO_z, ndO_z, List.map_set, List.map_cons]
  exact hs
theorem reb_left (m d b p q bc i0 j cl cr : Nat) (iso cb : Int) (ks ls rs : List It) (k x : It) (ps lp rp : List (Option Nat)) (chl chr : Value) (w0 w : World) (G : Nat → Nat → Prop) (hd : 2 ≤ d) (hd' : d ≤ 128) (hc : Cfg w0 m iso d) (hG : ∀ o, ¬ G m o)
    (s : Ss w0 G w [ndO E iso 1 b cb ks (ptr bc), ndO E iso 0 p (cl : Nat) ls chl, ndO E iso 0 q (cr : Nat) (x :: rs) chr, kdO (ptr bc) ps, kdO chl lp, kdO chr rp]) (hj : (i0 = j ∧ j < ks.length) ∨ (i0 = ks.length ∧ j + 1 = ks.length)) (hkl : ks.length ≤ 2 * d - 1) (hk : ks[j]? = some k) (hps : ps.length = ks.length + 1) (hp : ps[j]? = some (some p)) (hq : ps[j + 1]? = some (some q))
    (hch : (chl = .pointer none ∧ chr = .pointer none ∧ lp = [] ∧ rp = []) ∨ ∃ lc rc, chl = ptr lc ∧ chr = ptr rc ∧ lp.length = ls.length + 1 ∧ rp.length = (x :: rs).length + 1) (hll : ls.length ≤ 2 * d - 1) (hrl : (x :: rs).length ≤ 2 * d - 1) (hcl : cl < 2305843009213693952) (hcr : cr < 2305843009213693952) (hlt : 2 * d - 1 ≤ ls.length + (x :: rs).length) (hgt : ls.length ≤ (x :: rs).length) (cg : Nat) (hcg : 1 + cg ≤ cr) (hcgb : cl + cg < 2305843009213693952) (hg : (rp = [] ∧ cg = 0) ∨ ∃ g rp', rp = some g :: rp' ∧ rd w0 g 1 = some (.int .i64 (cg : Nat)) ∧ ∀ o, ¬ G g o) :
    CallK Try.prog 176 #[ptr m, ptr b, .int .i64 (i0 : Nat)] w fun _ w' => Ss w0 G w' [ndO E iso 1 b cb (ks.set j x) (ptr bc), ndO E iso 0 p ((cl + 1 + cg : Nat) : Int) (ls ++ [k]) chl, ndO E iso 0 q ((cr - 1 - cg : Nat) : Int) rs chr, kdO (ptr bc) ps, kdO chl (lp ++ rp.take 1), kdO chr (rp.drop 1)] := by
  rw [ndO_z, ndO_z, ndO_z, List.map_cons] at s
  refine CallK_mono (zreb_left m d b p q bc i0 j cl cr iso cb (ks.map some) (ls.map some) (rs.map some) (some k) (some x) ps lp rp chl chr w0 w G hd hd' hc hG s (by simpa using hj) (by simpa using hkl) (by simp [hk]) (by simpa using hps) hp hq (by simpa using hch) (by simpa using hll) (by simpa using hrl) hcl hcr (by simpa using hlt) (by simpa using hgt) cg hcg hcgb hg) fun v w' hs => ?_
  rw [ndO_z, ndO_z, ndO_z, List.map_set, List.map_append, List.map_cons, List.map_nil]
  exact hs
end Go.Proofs.Ytanmjbkbdmeckaa
/-
  A node taken apart into its own part, its children's row and its children, and put together again; two neighbours merged, or one item moved. For items of whatever make. No condition.
-/
set_option linter.unusedSimpArgs false
set_option linter.unusedVariables false
namespace Go.Proofs.Ytanmjbkbdmeckaa
open Go
section
variable {α : Type}
theorem weave_cat : ∀ (g1 g2 : List (List α)) (k1 k2 : List α) (k : α), g1.length = k1.length + 1 → weave (g1 ++ g2) (k1 ++ k :: k2) = weave g1 k1 ++ k :: weave g2 k2
  | [], _, _, _, _, h => by simp at h
  | [c], g2, [], k2, k, _ => rfl
  | c :: d :: g, g2, [], k2, k, h => by simp at h
  | c :: g1, g2, x :: k1, k2, k, h => by
    rw [List.cons_append, List.cons_append, weave_cons, weave_cons, weave_cat g1 g2 k1 k2 k (by simpa using h), List.append_assoc]
    rfl
theorem weave_two : ∀ (A B : List (List α)) (a b : List α) (ks : List α) (k : α), ks[A.length]? = some k → weave (A ++ a :: b :: B) ks = weave (A ++ (a ++ k :: b) :: B) (ks.eraseIdx A.length)
  | [], B, a, b, [], k, h => by simp at h
  | [], B, a, b, x :: ks, k, h => by
    simp at h
    subst h
    cases ks with
    | nil => cases B <;> rfl
    | cons y ks => simp [weave]
  | c :: A, B, a, b, [], k, h => by simp at h
  | c :: A, B, a, b, x :: ks, k, h => by
    rw [List.cons_append, List.cons_append, weave_cons, weave_two A B a b ks k (by simpa using h), List.length_cons, List.eraseIdx_cons_succ, weave_cons]
theorem weave_swap {A B : List (List α)} {a b a' b' : List α} {ks : List α} {k x : α} (hk : ks[A.length]? = some k) (h : a ++ k :: b = a' ++ x :: b') : weave (A ++ a :: b :: B) ks = weave (A ++ a' :: b' :: B) (ks.set A.length x) := by
  rw [weave_two A B a b ks k hk, weave_two A B a' b' (ks.set A.length x) x (by rw [List.getElem?_set_self (List.getElem?_eq_some_iff.1 hk).1]), h]
  congr 1
  have hl := (List.getElem?_eq_some_iff.1 hk).1
  rw [List.eraseIdx_eq_take_drop_succ, List.eraseIdx_eq_take_drop_succ, List.take_set_of_le (Nat.le_refl _), List.drop_set_of_lt (by omega)]
end
variable {α : Type} {E : Enc α} {iso : Int} {mn mx : Nat}
def Dj (F G : Nat → Nat → Prop) : Prop := ∀ y o, F y o → ¬ G y o
theorem Dj.symm {F G : Nat → Nat → Prop} (h : Dj F G) : Dj G F := fun y o g f => h y o f g
/-- The children gs of a node with items ks; ch is the cell's pointer, ps what the row holds. -/
def Kin (E : Enc α) (iso : Int) (mn mx h : Nat) (w : World) (ch : Value) (ps : List (Option Nat)) (ks xs : List α) (gs : List (Kid α)) : Prop :=
  (h = 0 ∧ ch = .pointer none ∧ ps = [] ∧ gs = [] ∧ xs = ks) ∨
  (∃ h', h = h' + 1 ∧ (∃ c, ch = ptr c) ∧ ps = gs.map (fun g => some g.b) ∧ gs.length = ks.length + 1 ∧ xs = weave (gs.map Kid.xs) ks ∧ ∀ c ∈ gs, Tr E iso mn mx h' w mn c.b c.xs c.F)
def kinF (gs : List (Kid α)) : Nat → Nat → Prop := fun y o => ∃ c ∈ gs, c.F y o
structure Lay (F1 F4 : Nat → Nat → Prop) (K1 K4 : Nat) (gs : List (Kid α)) : Prop where
  d : Dj F1 F4
  g1 : ∀ c ∈ gs, Dj c.F F1
  g4 : ∀ c ∈ gs, Dj c.F F4
  two : gs.Pairwise fun c d => Dj c.F d.F
  r : K1 ≠ K4
theorem Kin.ext {h : Nat} {w w' : World} {ch : Value} {ps : List (Option Nat)} {ks xs : List α} {gs : List (Kid α)} {G : Nat → Nat → Prop} (n : Kin E iso mn mx h w ch ps ks xs gs) (x : Ext G w w') (hG : ∀ c ∈ gs, Dj c.F G) : Kin E iso mn mx h w' ch ps ks xs gs :=
  n.imp id fun ⟨h', h1, h2, h3, h4, h5, h6⟩ => ⟨h', h1, h2, h3, h4, h5, fun c hc => (h6 c hc).ext x (hG c hc)⟩
theorem Kin.lt {h : Nat} {w : World} {ch : Value} {ps : List (Option Nat)} {ks xs : List α} {gs : List (Kid α)} (n : Kin E iso mn mx h w ch ps ks xs gs) : ∀ c ∈ gs, ∀ y o, c.F y o → y < w.heap.size := by
  rcases n with ⟨_, _, _, rfl, _⟩ | ⟨h', _, _, _, _, _, h6⟩
  · intro c hc; cases hc
  · intro c hc; exact (h6 c hc).lt
theorem Tr.split {h : Nat} {w : World} {lo b : Nat} {xs : List α} {F : Nat → Nat → Prop} (ht : Tr E iso mn mx h w lo b xs F) :
    ∃ F1 F4 K1 K4 ks ch ps gs, (ndO E iso 0 b xs.length ks ch).p w F1 K1 ∧ (kdO ch ps).p w F4 K4 ∧ Kin E iso mn mx h w ch ps ks xs gs ∧ lo ≤ ks.length ∧ ks.length ≤ mx ∧ Lay F1 F4 K1 K4 gs ∧ ∀ y o, F y o ↔ F1 y o ∨ F4 y o ∨ kinF gs y o := by
  cases h with
  | zero =>
    obtain ⟨bi, oi, cap, ho, h1, h2, hF⟩ := ht
    refine ⟨ownF E b bi oi cap, noF, bi, b, xs, _, [], [], ⟨bi, oi, cap, ho, Nat.zero_le _, rfl, fun _ _ => Iff.rfl⟩, .inl ⟨rfl, rfl, wok_lt ho.wb, fun _ _ g => g⟩, .inl ⟨rfl, rfl, rfl, rfl, rfl⟩, h1, h2,
      ⟨fun _ _ _ g => g, (fun _ hc => by simp at hc), (fun _ hc => by simp at hc), List.Pairwise.nil, ho.ne⟩, fun y o => ?_⟩
    rw [hF]
    exact ⟨.inl, fun g => g.elim id fun g => g.elim False.elim fun ⟨_, hc, _⟩ => by simp at hc⟩
  | succ h =>
    obtain ⟨bi, oi, cap, bc, ba, oa, capc, ks, cs, ho, hk, h1, h2, h3, h4, hT, hA, hF⟩ := ht
    have hps : cs.map (fun g => some g.b) = (cs.map Kid.b).map some := by rw [List.map_map]; rfl
    refine ⟨ownF E b bi oi cap, kidF bc ba oa capc, bi, ba, ks, _, cs.map (fun g => some g.b), cs, ⟨bi, oi, cap, ho, Nat.zero_le _, rfl, fun _ _ => Iff.rfl⟩, .inr ⟨bc, ba, oa, capc, rfl, by rw [hps]; exact hk.se, rfl, fun _ _ => Iff.rfl⟩,
      .inr ⟨h, rfl, ⟨bc, rfl⟩, rfl, h3, h4, hT⟩, h1, h2, ⟨fun y o g k => ?_, hA.own, hA.kid, hA.two, hA.ia⟩, hF⟩
    have := hA.cb; have := hA.ab; have := hA.ic; have := hA.ia
    simp only [ownF, kidF, rng] at g k
    omega
theorem Tr.join {h : Nat} {w : World} {lo z b : Nat} {cnt : Int} {ks xs : List α} {ch : Value} {ps : List (Option Nat)} {gs : List (Kid α)} {F1 F4 : Nat → Nat → Prop} {K1 K4 : Nat} (h1 : (ndO E iso z b cnt ks ch).p w F1 K1) (h4 : (kdO ch ps).p w F4 K4)
    (n : Kin E iso mn mx h w ch ps ks xs gs) (hlo : lo ≤ ks.length) (hmx : ks.length ≤ mx) (hz : 0 < ks.length ∨ 1 ≤ z) (l : Lay F1 F4 K1 K4 gs) (hcnt : cnt = xs.length) : Tr E iso mn mx h w lo b xs fun y o => F1 y o ∨ F4 y o ∨ kinF gs y o := by
  subst hcnt
  obtain ⟨bi, oi, cap, ho, hzc, rfl, hF1⟩ := h1
  rcases n with ⟨rfl, rfl, rfl, rfl, rfl⟩ | ⟨h', rfl, ⟨c, rfl⟩, rfl, g3, g4, g5⟩
  · rcases h4 with ⟨_, _, _, hF4⟩ | ⟨_, _, _, _, hc, _⟩
    · refine ⟨K1, oi, cap, ho, hlo, hmx, fun y o => ?_⟩
      show F1 y o ∨ F4 y o ∨ kinF [] y o ↔ _
      rw [hF1]
      exact ⟨fun g => g.elim id fun g => g.elim (fun g => (hF4 _ _ g).elim) fun ⟨_, hc, _⟩ => by simp at hc, .inl⟩
    · cases hc
  · rcases h4 with ⟨hc, _⟩ | ⟨bc, ba, oa, capc, hc, se, rfl, hF4⟩
    · cases hc
    · obtain rfl : c = bc := by simpa [ptr] using hc
      have hps : gs.map (fun g => some g.b) = (gs.map Kid.b).map some := by rw [List.map_map]; rfl
      rw [hps] at se
      have hk := se.kids
      have hle := hk.le
      rw [List.length_map] at hle
      have hcap : 0 < cap := by have := ho.le; omega
      have hsz := Nat.mul_le_mul_right E.sz hcap
      have hE := E.pos
      refine ⟨K1, oi, cap, c, K4, oa, capc, ks, gs, ho, hk, hlo, hmx, g3, g4, g5, ⟨fun hb => ?_, fun hb => ?_, fun hb => ?_, l.r, fun d hd y o g k => l.g1 d hd y o g ((hF1 _ _).2 k), fun d hd y o g k => l.g4 d hd y o g ((hF4 _ _).2 k), l.two⟩, fun y o => ?_⟩
      · subst hb; exact l.d c 0 ((hF1 _ _).2 (.inl rfl)) ((hF4 _ _).2 (.inl rfl))
      · subst hb; exact l.d K4 oa ((hF1 _ _).2 (.inl rfl)) ((hF4 _ _).2 (.inr ⟨rfl, by omega, by omega⟩))
      · subst hb; exact l.d K1 oi ((hF1 _ _).2 (.inr ⟨rfl, by omega, by omega⟩)) ((hF4 _ _).2 (.inl rfl))
      · show F1 y o ∨ F4 y o ∨ kinF gs y o ↔ _
        rw [hF1, hF4]; rfl
theorem Kin.merge {h : Nat} {w : World} {ch1 ch2 : Value} {p1 p2 : List (Option Nat)} {k1 k2 x1 x2 : List α} {g1 g2 : List (Kid α)} {k : α} (a : Kin E iso mn mx h w ch1 p1 k1 x1 g1) (b : Kin E iso mn mx h w ch2 p2 k2 x2 g2) :
    Kin E iso mn mx h w ch1 (p1 ++ p2) (k1 ++ k :: k2) (x1 ++ k :: x2) (g1 ++ g2) := by
  rcases a with ⟨h0, ha, rfl, rfl, rfl⟩ | ⟨h', rfl, ha, rfl, a3, rfl, a5⟩
  · rcases b with ⟨_, _, rfl, rfl, rfl⟩ | ⟨h', h1, _⟩
    · exact .inl ⟨h0, ha, rfl, rfl, rfl⟩
    · omega
  · rcases b with ⟨h1, _⟩ | ⟨h2, h1, _, rfl, b3, rfl, b5⟩
    · omega
    · obtain rfl : h' = h2 := by omega
      refine .inr ⟨h', rfl, ha, by rw [List.map_append], by simp; omega, ?_, fun c hc => ?_⟩
      · rw [List.map_append, weave_cat _ _ _ _ _ (by simpa using a3)]
      · rcases List.mem_append.1 hc with hc | hc
        · exact a5 c hc
        · exact b5 c hc
theorem Tr.cnt' {w : World} {h lo b : Nat} {xs : List α} {F : Nat → Nat → Prop} (t : Tr E iso mn mx h w lo b xs F) : rd w b 1 = some (.int .i64 (xs.length : Nat)) := by
  obtain ⟨_, _, _, _, _, h, _⟩ := t.open
  exact h.h1
theorem Kin.right {h : Nat} {w : World} {ch1 ch2 : Value} {p1 p2 : List (Option Nat)} {ls k2 x1 x2 : List α} {g1 g2 : List (Kid α)} {k x : α} (a : Kin E iso mn mx h w ch1 p1 (ls ++ [x]) x1 g1) (b : Kin E iso mn mx h w ch2 p2 k2 x2 g2) :
    ∃ cg x1' x2' gl gr, Kin E iso mn mx h w ch1 p1.dropLast ls x1' gl ∧ Kin E iso mn mx h w ch2 (p1.drop (p1.length - 1) ++ p2) (k :: k2) x2' gr ∧ x1 ++ k :: x2 = x1' ++ x :: x2' ∧ gl ++ gr = g1 ++ g2 ∧
      x1'.length = x1.length - 1 - cg ∧ x2'.length = x2.length + 1 + cg ∧ 1 + cg ≤ x1.length ∧ ((p1 = [] ∧ cg = 0) ∨ ∃ c p', p1 = p' ++ [some c.b] ∧ c ∈ g1 ∧ rd w c.b 1 = some (.int .i64 (cg : Nat)) ∧ ∀ o, c.F c.b o) := by
  rcases a with ⟨h0, ha, rfl, rfl, rfl⟩ | ⟨h', rfl, ha, rfl, a3, rfl, a5⟩
  · rcases b with ⟨_, hb, rfl, rfl, rfl⟩ | ⟨h', h1, _⟩
    · exact ⟨0, ls, k :: x2, [], [], .inl ⟨h0, ha, rfl, rfl, rfl⟩, .inl ⟨h0, hb, rfl, rfl, rfl⟩, by simp, rfl, by simp, by simp, by simp, .inl ⟨rfl, rfl⟩⟩
    · omega
  · rcases b with ⟨h1, _⟩ | ⟨h2, h1, hb, rfl, b3, rfl, b5⟩
    · omega
    · obtain rfl : h' = h2 := by omega
      rw [List.length_append, List.length_singleton] at a3
      obtain ⟨gl, g, rfl⟩ : ∃ gl g, g1 = gl ++ [g] := ⟨g1.dropLast, g1.getLast (by intro h; rw [h] at a3; simp at a3), (List.dropLast_concat_getLast _).symm⟩
      rw [List.length_append, List.length_singleton] at a3
      have hw : weave ((gl ++ [g]).map Kid.xs) (ls ++ [x]) = weave (gl.map Kid.xs) ls ++ x :: g.xs := by
        rw [List.map_append, weave_cat _ _ _ _ _ (by simp; omega)]; rfl
      refine ⟨g.xs.length, weave (gl.map Kid.xs) ls, g.xs ++ k :: weave (g2.map Kid.xs) k2, gl, g :: g2, .inr ⟨h', rfl, ha, by simp, by omega, rfl, fun c hc => a5 c (by simp [hc])⟩, .inr ⟨h', rfl, hb, by simp, by simp; omega, by simp [weave_cons], fun c hc => ?_⟩,
        by rw [hw]; simp, by simp, by rw [hw]; simp <;> omega, by simp <;> omega, by rw [hw]; simp <;> omega, .inr ⟨g, gl.map fun g => some g.b, by simp, by simp, (a5 g (by simp)).cnt', (a5 g (by simp)).self⟩⟩
      rcases List.mem_cons.1 hc with rfl | hc
      · exact a5 _ (by simp)
      · exact b5 c hc
theorem Kin.left {h : Nat} {w : World} {ch1 ch2 : Value} {p1 p2 : List (Option Nat)} {k1 rs x1 x2 : List α} {g1 g2 : List (Kid α)} {k x : α} (a : Kin E iso mn mx h w ch1 p1 k1 x1 g1) (b : Kin E iso mn mx h w ch2 p2 (x :: rs) x2 g2) :
    ∃ cg x1' x2' gl gr, Kin E iso mn mx h w ch1 (p1 ++ p2.take 1) (k1 ++ [k]) x1' gl ∧ Kin E iso mn mx h w ch2 (p2.drop 1) rs x2' gr ∧ x1 ++ k :: x2 = x1' ++ x :: x2' ∧ gl ++ gr = g1 ++ g2 ∧
      x1'.length = x1.length + 1 + cg ∧ x2'.length = x2.length - 1 - cg ∧ 1 + cg ≤ x2.length ∧ ((p2 = [] ∧ cg = 0) ∨ ∃ c p', p2 = some c.b :: p' ∧ c ∈ g2 ∧ rd w c.b 1 = some (.int .i64 (cg : Nat)) ∧ ∀ o, c.F c.b o) := by
  rcases a with ⟨h0, ha, rfl, rfl, rfl⟩ | ⟨h', rfl, ha, rfl, a3, rfl, a5⟩
  · rcases b with ⟨_, hb, rfl, rfl, rfl⟩ | ⟨h', h1, _⟩
    · exact ⟨0, x1 ++ [k], rs, [], [], .inl ⟨h0, ha, rfl, rfl, rfl⟩, .inl ⟨h0, hb, rfl, rfl, rfl⟩, by simp, rfl, by simp, by simp, by simp, .inl ⟨rfl, rfl⟩⟩
    · omega
  · rcases b with ⟨h1, _⟩ | ⟨h2, h1, hb, rfl, b3, rfl, b5⟩
    · omega
    · obtain rfl : h' = h2 := by omega
      rw [List.length_cons] at b3
      obtain ⟨g, gr, rfl⟩ : ∃ g gr, g2 = g :: gr := by
        cases g2 with
        | nil => simp at b3
        | cons g gr => exact ⟨g, gr, rfl⟩
      rw [List.length_cons] at b3
      have hw : weave ((g :: gr).map Kid.xs) (x :: rs) = g.xs ++ x :: weave (gr.map Kid.xs) rs := by rw [List.map_cons, weave_cons]
      have hv : weave ((g1 ++ [g]).map Kid.xs) (k1 ++ [k]) = weave (g1.map Kid.xs) k1 ++ k :: g.xs := by
        rw [List.map_append, weave_cat _ _ _ _ _ (by simpa using a3)]; rfl
      refine ⟨g.xs.length, weave (g1.map Kid.xs) k1 ++ k :: g.xs, weave (gr.map Kid.xs) rs, g1 ++ [g], gr, .inr ⟨h', rfl, ha, by simp, by simp; omega, hv.symm, fun c hc => ?_⟩, .inr ⟨h', rfl, hb, by simp, by omega, rfl, fun c hc => b5 c (by simp [hc])⟩,
        by rw [hw]; simp, by simp, by simp <;> omega, by rw [hw]; simp <;> omega, by rw [hw]; simp <;> omega, .inr ⟨g, gr.map fun g => some g.b, by simp, by simp, (b5 g (by simp)).cnt', (b5 g (by simp)).self⟩⟩
      rcases List.mem_append.1 hc with hc | hc
      · exact a5 c hc
      · have : c = g := by simpa using hc
        subst this; exact b5 _ (by simp)
/-- A node, two neighbours among its children, and the others. -/
structure Two (E : Enc α) (iso : Int) (mn mx h : Nat) (w : World) (b bc : Nat) (cnt : Int) (ks : List α) (A B : List (Kid α)) (c1 c2 : Kid α) (F0 F3 : Nat → Nat → Prop) (K0 K3 : Nat)
    (F1 F4 : Nat → Nat → Prop) (K1 K4 : Nat) (k1 : List α) (ch1 : Value) (p1 : List (Option Nat)) (g1 : List (Kid α)) (F2 F5 : Nat → Nat → Prop) (K2 K5 : Nat) (k2 : List α) (ch2 : Value) (p2 : List (Option Nat)) (g2 : List (Kid α)) : Prop where
  n0 : (ndO E iso 1 b cnt ks (ptr bc)).p w F0 K0
  n3 : (kdO (ptr bc) ((A ++ c1 :: c2 :: B).map fun g => some g.b)).p w F3 K3
  l0 : Lay F0 F3 K0 K3 (A ++ c1 :: c2 :: B)
  n1 : (ndO E iso 0 c1.b (c1.xs.length : Nat) k1 ch1).p w F1 K1
  n4 : (kdO ch1 p1).p w F4 K4
  l1 : Lay F1 F4 K1 K4 g1
  f1 : ∀ y o, c1.F y o ↔ F1 y o ∨ F4 y o ∨ kinF g1 y o
  q1 : Kin E iso mn mx h w ch1 p1 k1 c1.xs g1
  n2 : (ndO E iso 0 c2.b (c2.xs.length : Nat) k2 ch2).p w F2 K2
  n5 : (kdO ch2 p2).p w F5 K5
  l2 : Lay F2 F5 K2 K5 g2
  f2 : ∀ y o, c2.F y o ↔ F2 y o ∨ F5 y o ∨ kinF g2 y o
  q2 : Kin E iso mn mx h w ch2 p2 k2 c2.xs g2
  rest : ∀ c ∈ A ++ B, Tr E iso mn mx h w mn c.b c.xs c.F
def six (F0 F1 F2 F3 F4 F5 : Nat → Nat → Prop) : Nat → Nat → Prop := fun y o => F0 y o ∨ F1 y o ∨ F2 y o ∨ F3 y o ∨ F4 y o ∨ F5 y o
section
variable {h : Nat} {w : World} {b bc : Nat} {cnt : Int} {ks : List α} {A B : List (Kid α)} {c1 c2 : Kid α} {F0 F3 : Nat → Nat → Prop} {K0 K3 : Nat}
    {F1 F4 : Nat → Nat → Prop} {K1 K4 : Nat} {k1 : List α} {ch1 : Value} {p1 : List (Option Nat)} {g1 : List (Kid α)} {F2 F5 : Nat → Nat → Prop} {K2 K5 : Nat} {k2 : List α} {ch2 : Value} {p2 : List (Option Nat)} {g2 : List (Kid α)}
theorem Two.apart (t : Two E iso mn mx h w b bc cnt ks A B c1 c2 F0 F3 K0 K3 F1 F4 K1 K4 k1 ch1 p1 g1 F2 F5 K2 K5 k2 ch2 p2 g2) :
    Dj c1.F c2.F ∧ (∀ a ∈ A ++ B, Dj a.F c1.F ∧ Dj a.F c2.F) ∧ (A ++ B).Pairwise fun c d => Dj c.F d.F := by
  obtain ⟨p1, p2, p3⟩ := List.pairwise_append.1 t.l0.two
  obtain ⟨p4, p5⟩ := List.pairwise_cons.1 p2
  obtain ⟨p6, p7⟩ := List.pairwise_cons.1 p5
  refine ⟨p4 c2 (by simp), fun a ha => ?_, List.pairwise_append.2 ⟨p1, p7, fun a ha b hb => p3 a ha b (by simp [hb])⟩⟩
  rcases List.mem_append.1 ha with ha | ha
  · exact ⟨p3 a ha c1 (by simp), p3 a ha c2 (by simp)⟩
  · exact ⟨(p4 a (by simp [ha])).symm, (p6 a ha).symm⟩
theorem Two.init (t : Two E iso mn mx h w b bc cnt ks A B c1 c2 F0 F3 K0 K3 F1 F4 K1 K4 k1 ch1 p1 g1 F2 F5 K2 K5 k2 ch2 p2 g2) :
    Ss w (six F0 F1 F2 F3 F4 F5) w [ndO E iso 1 b cnt ks (ptr bc), ndO E iso 0 c1.b (c1.xs.length : Nat) k1 ch1, ndO E iso 0 c2.b (c2.xs.length : Nat) k2 ch2, kdO (ptr bc) ((A ++ c1 :: c2 :: B).map fun g => some g.b), kdO ch1 p1, kdO ch2 p2] := by
  obtain ⟨a1, -, -⟩ := t.apart
  have s1 : ∀ y o, F1 y o → c1.F y o := fun y o g => (t.f1 y o).2 (.inl g)
  have s4 : ∀ y o, F4 y o → c1.F y o := fun y o g => (t.f1 y o).2 (.inr (.inl g))
  have s2 : ∀ y o, F2 y o → c2.F y o := fun y o g => (t.f2 y o).2 (.inl g)
  have s5 : ∀ y o, F5 y o → c2.F y o := fun y o g => (t.f2 y o).2 (.inr (.inl g))
  have m1 : c1 ∈ A ++ c1 :: c2 :: B := by simp
  have m2 : c2 ∈ A ++ c1 :: c2 :: B := by simp
  have d01 : Dj F0 F1 := fun y o g k => t.l0.g1 c1 m1 y o (s1 y o k) g
  have d02 : Dj F0 F2 := fun y o g k => t.l0.g1 c2 m2 y o (s2 y o k) g
  have d04 : Dj F0 F4 := fun y o g k => t.l0.g1 c1 m1 y o (s4 y o k) g
  have d05 : Dj F0 F5 := fun y o g k => t.l0.g1 c2 m2 y o (s5 y o k) g
  have d31 : Dj F3 F1 := fun y o g k => t.l0.g4 c1 m1 y o (s1 y o k) g
  have d32 : Dj F3 F2 := fun y o g k => t.l0.g4 c2 m2 y o (s2 y o k) g
  have d34 : Dj F3 F4 := fun y o g k => t.l0.g4 c1 m1 y o (s4 y o k) g
  have d35 : Dj F3 F5 := fun y o g k => t.l0.g4 c2 m2 y o (s5 y o k) g
  have d12 : Dj F1 F2 := fun y o g k => a1 y o (s1 y o g) (s2 y o k)
  have d15 : Dj F1 F5 := fun y o g k => a1 y o (s1 y o g) (s5 y o k)
  have d42 : Dj F4 F2 := fun y o g k => a1 y o (s4 y o g) (s2 y o k)
  have d45 : Dj F4 F5 := fun y o g k => a1 y o (s4 y o g) (s5 y o k)
  refine ⟨fun | 0 => F0 | 1 => F1 | 2 => F2 | 3 => F3 | 4 => F4 | _ => F5, fun | 0 => K0 | 1 => K1 | 2 => K2 | 3 => K3 | 4 => K4 | _ => K5, ⟨fun i C hi => ?_, fun i j hi hj hij => ?_, fun i hi y o g => .inl ?_, fun i hi => ?_, Ext.refl _ _⟩⟩
  · match i, hi with
    | 0, hi => cases hi; exact t.n0
    | 1, hi => cases hi; exact t.n1
    | 2, hi => cases hi; exact t.n2
    | 3, hi => cases hi; exact t.n3
    | 4, hi => cases hi; exact t.n4
    | 5, hi => cases hi; exact t.n5
    | n + 6, hi => simp at hi
  · show Dj _ _
    match i, j, hi, hj, hij with
    | 0, 0, _, _, h => exact (h rfl).elim
    | 0, 1, _, _, _ => exact d01
    | 0, 2, _, _, _ => exact d02
    | 0, 3, _, _, _ => exact t.l0.d
    | 0, 4, _, _, _ => exact d04
    | 0, 5, _, _, _ => exact d05
    | 1, 0, _, _, _ => exact d01.symm
    | 1, 1, _, _, h => exact (h rfl).elim
    | 1, 2, _, _, _ => exact d12
    | 1, 3, _, _, _ => exact d31.symm
    | 1, 4, _, _, _ => exact t.l1.d
    | 1, 5, _, _, _ => exact d15
    | 2, 0, _, _, _ => exact d02.symm
    | 2, 1, _, _, _ => exact d12.symm
    | 2, 2, _, _, h => exact (h rfl).elim
    | 2, 3, _, _, _ => exact d32.symm
    | 2, 4, _, _, _ => exact d42.symm
    | 2, 5, _, _, _ => exact t.l2.d
    | 3, 0, _, _, _ => exact t.l0.d.symm
    | 3, 1, _, _, _ => exact d31
    | 3, 2, _, _, _ => exact d32
    | 3, 3, _, _, h => exact (h rfl).elim
    | 3, 4, _, _, _ => exact d34
    | 3, 5, _, _, _ => exact d35
    | 4, 0, _, _, _ => exact d04.symm
    | 4, 1, _, _, _ => exact t.l1.d.symm
    | 4, 2, _, _, _ => exact d42
    | 4, 3, _, _, _ => exact d34.symm
    | 4, 4, _, _, h => exact (h rfl).elim
    | 4, 5, _, _, _ => exact d45
    | 5, 0, _, _, _ => exact d05.symm
    | 5, 1, _, _, _ => exact d15.symm
    | 5, 2, _, _, _ => exact t.l2.d.symm
    | 5, 3, _, _, _ => exact d35.symm
    | 5, 4, _, _, _ => exact d45.symm
    | 5, 5, _, _, h => exact (h rfl).elim
    | n + 6, _, hi, _, _ => exact absurd hi (by simp)
    | _, n + 6, _, hj, _ => exact absurd hj (by simp)
  · match i, hi, g with
    | 0, _, g => exact .inl g
    | 1, _, g => exact .inr (.inl g)
    | 2, _, g => exact .inr (.inr (.inl g))
    | 3, _, g => exact .inr (.inr (.inr (.inl g)))
    | 4, _, g => exact .inr (.inr (.inr (.inr (.inl g))))
    | 5, _, g => exact .inr (.inr (.inr (.inr (.inr g))))
    | n + 6, hi, _ => exact absurd hi (by simp)
  · match i, hi with
    | 0, _ => exact t.l0.r
    | 1, _ => exact t.l1.r
    | 2, _ => exact t.l2.r
    | n + 3, hi => exact absurd hi (by simp)
/-- The other children and the grandchildren lie apart from all that is written. -/
theorem Two.far (t : Two E iso mn mx h w b bc cnt ks A B c1 c2 F0 F3 K0 K3 F1 F4 K1 K4 k1 ch1 p1 g1 F2 F5 K2 K5 k2 ch2 p2 g2) :
    (∀ c ∈ A ++ B, Dj c.F (six F0 F1 F2 F3 F4 F5)) ∧ (∀ c ∈ g1 ++ g2, Dj c.F (six F0 F1 F2 F3 F4 F5)) ∧ (g1 ++ g2).Pairwise (fun c d => Dj c.F d.F) ∧ ∀ a ∈ A ++ B, ∀ c ∈ g1 ++ g2, Dj a.F c.F := by
  obtain ⟨a1, a2, -⟩ := t.apart
  have s1 : ∀ y o, F1 y o → c1.F y o := fun y o g => (t.f1 y o).2 (.inl g)
  have s4 : ∀ y o, F4 y o → c1.F y o := fun y o g => (t.f1 y o).2 (.inr (.inl g))
  have s2 : ∀ y o, F2 y o → c2.F y o := fun y o g => (t.f2 y o).2 (.inl g)
  have s5 : ∀ y o, F5 y o → c2.F y o := fun y o g => (t.f2 y o).2 (.inr (.inl g))
  have m1 : c1 ∈ A ++ c1 :: c2 :: B := by simp
  have m2 : c2 ∈ A ++ c1 :: c2 :: B := by simp
  have e1 : ∀ c ∈ g1, ∀ y o, c.F y o → c1.F y o := fun c hc y o g => (t.f1 y o).2 (.inr (.inr ⟨c, hc, g⟩))
  have e2 : ∀ c ∈ g2, ∀ y o, c.F y o → c2.F y o := fun c hc y o g => (t.f2 y o).2 (.inr (.inr ⟨c, hc, g⟩))
  refine ⟨fun c hc y o g k => ?_, fun c hc y o g k => ?_, List.pairwise_append.2 ⟨t.l1.two, t.l2.two, fun c hc d hd y o g k => a1 y o (e1 c hc y o g) (e2 d hd y o k)⟩, fun a ha c hc y o g k => ?_⟩
  · have hm : c ∈ A ++ c1 :: c2 :: B := by
      rcases List.mem_append.1 hc with h | h
      · simp [h]
      · simp [h]
    obtain ⟨a3, a4⟩ := a2 c hc
    rcases k with k | k | k | k | k | k
    · exact t.l0.g1 c hm y o g k
    · exact a3 y o g (s1 y o k)
    · exact a4 y o g (s2 y o k)
    · exact t.l0.g4 c hm y o g k
    · exact a3 y o g (s4 y o k)
    · exact a4 y o g (s5 y o k)
  · rcases List.mem_append.1 hc with hc | hc
    · have gc := e1 c hc y o g
      rcases k with k | k | k | k | k | k
      · exact t.l0.g1 c1 m1 y o gc k
      · exact t.l1.g1 c hc y o g k
      · exact a1 y o gc (s2 y o k)
      · exact t.l0.g4 c1 m1 y o gc k
      · exact t.l1.g4 c hc y o g k
      · exact a1 y o gc (s5 y o k)
    · have gc := e2 c hc y o g
      rcases k with k | k | k | k | k | k
      · exact t.l0.g1 c2 m2 y o gc k
      · exact a1 y o (s1 y o k) gc
      · exact t.l2.g1 c hc y o g k
      · exact t.l0.g4 c2 m2 y o gc k
      · exact a1 y o (s4 y o k) gc
      · exact t.l2.g4 c hc y o g k
  · obtain ⟨a3, a4⟩ := a2 a ha
    rcases List.mem_append.1 hc with hc | hc
    · exact a3 y o g (e1 c hc y o k)
    · exact a4 y o g (e2 c hc y o k)
/-- One of the two, as it stands behind the run. -/
theorem Two.kid (t : Two E iso mn mx h w b bc cnt ks A B c1 c2 F0 F3 K0 K3 F1 F4 K1 K4 k1 ch1 p1 g1 F2 F5 K2 K5 k2 ch2 p2 g2) {w' : World} {P : List Ob} {F' : Nat → Nat → Nat → Prop} {K' : Nat → Nat}
    (s : St w (six F0 F1 F2 F3 F4 F5) w' P F' K') (i : Nat) {cb : Nat} {cnt' : Int} {ks' xs' : List α} {ch : Value} {ps : List (Option Nat)} {gs : List (Kid α)} (hi : P[i]? = some (ndO E iso 0 cb cnt' ks' ch)) (hj : P[i + 3]? = some (kdO ch ps))
    (q : Kin E iso mn mx h w ch ps ks' xs' gs) (hs : gs.Sublist (g1 ++ g2)) (h1 : mn ≤ ks'.length) (h2 : ks'.length ≤ mx) (h0 : 1 ≤ mn) (hc : cnt' = (xs'.length : Nat)) :
    Tr E iso mn mx h w' mn cb xs' fun y o => F' i y o ∨ F' (i + 3) y o ∨ kinF gs y o := by
  obtain ⟨-, f2, f3, -⟩ := t.far
  have hil := (List.getElem?_eq_some_iff.1 hi).1
  have hjl := (List.getElem?_eq_some_iff.1 hj).1
  have ha : ∀ c ∈ gs, ∀ n, n < P.length → Dj c.F (F' n) := fun c hc n hn y o g k => by
    rcases s.s n hn y o k with k | k
    · exact f2 c (hs.subset hc) y o g k
    · have := q.lt c hc y o g; omega
  exact Tr.join (s.o i _ hi) (s.o (i + 3) _ hj) (q.ext s.x fun c hc => f2 c (hs.subset hc)) h1 h2 (.inl (by omega)) ⟨s.d i (i + 3) hil hjl (by omega), fun c hc => ha c hc i hil, fun c hc => ha c hc (i + 3) hjl, f3.sublist hs, s.r i hjl⟩ hc
/-- The node with new children in the two's place. -/
theorem Two.close (t : Two E iso mn mx h w b bc cnt ks A B c1 c2 F0 F3 K0 K3 F1 F4 K1 K4 k1 ch1 p1 g1 F2 F5 K2 K5 k2 ch2 p2 g2) {w' : World} {P : List Ob} {F' : Nat → Nat → Nat → Prop} {K' : Nat → Nat}
    (s : St w (six F0 F1 F2 F3 F4 F5) w' P F' K') (hP : P.length = 6) (new : List (Kid α)) {ks' : List α} {lo : Nat} (h0 : P[0]? = some (ndO E iso 1 b cnt ks' (ptr bc))) (h3 : P[3]? = some (kdO (ptr bc) ((A ++ (new ++ B)).map fun g => some g.b)))
    (hl : (A ++ (new ++ B)).length = ks'.length + 1) (hT : ∀ n ∈ new, Tr E iso mn mx h w' mn n.b n.xs n.F) (hF : ∀ n ∈ new, ∀ y o, n.F y o → (∃ i, (i = 1 ∨ i = 2 ∨ i = 4 ∨ i = 5) ∧ F' i y o) ∨ kinF (g1 ++ g2) y o)
    (h2 : new.Pairwise fun c d => Dj c.F d.F) (hlo : lo ≤ ks'.length) (hmx : ks'.length ≤ mx) (hc : cnt = ((weave ((A ++ (new ++ B)).map Kid.xs) ks').length : Nat)) :
    ∃ F'', Tr E iso mn mx (h + 1) w' lo b (weave ((A ++ (new ++ B)).map Kid.xs) ks') F'' ∧ ∀ y o, F'' y o → (F0 y o ∨ F3 y o ∨ kinF (A ++ c1 :: c2 :: B) y o) ∨ w.heap.size ≤ y := by
  obtain ⟨f1, f2, f3, f4⟩ := t.far
  obtain ⟨-, -, a3⟩ := t.apart
  have hlt : ∀ c ∈ A ++ B, ∀ y o, c.F y o → y < w.heap.size := fun c hc => (t.rest c hc).lt
  have glt : ∀ c ∈ g1 ++ g2, ∀ y o, c.F y o → y < w.heap.size := fun c hc => by
    rcases List.mem_append.1 hc with hc | hc
    · exact t.q1.lt c hc
    · exact t.q2.lt c hc
  have oldF : ∀ c ∈ A ++ B, ∀ n, n < 6 → Dj c.F (F' n) := fun c hc n hn y o g k => by
    rcases s.s n (by omega) y o k with k | k
    · exact f1 c hc y o g k
    · have := hlt c hc y o g; omega
  have gF : ∀ n, n < 6 → Dj (kinF (g1 ++ g2)) (F' n) := fun n hn y o g k => by
    obtain ⟨c, hc, g⟩ := g
    rcases s.s n (by omega) y o k with k | k
    · exact f2 c hc y o g k
    · have := glt c hc y o g; omega
  have newF : ∀ c ∈ new, ∀ n, n = 0 ∨ n = 3 → Dj c.F (F' n) := fun c hc n hn y o g k => by
    rcases hF c hc y o g with ⟨i, hi, g⟩ | g
    · exact s.d i n (by omega) (by omega) (by omega) y o g k
    · exact gF n (by omega) y o g k
  have oldN : ∀ a ∈ A ++ B, ∀ c ∈ new, Dj a.F c.F := fun a ha c hc y o g k => by
    rcases hF c hc y o k with ⟨i, hi, k⟩ | ⟨e, he, k⟩
    · exact oldF a ha i (by omega) y o g k
    · exact f4 a ha e he y o g k
  have hmem : ∀ c ∈ A ++ (new ++ B), c ∈ A ++ B ∨ c ∈ new := fun c hc => by
    rcases List.mem_append.1 hc with h | h
    · exact .inl (by simp [h])
    · rcases List.mem_append.1 h with h | h
      · exact .inr h
      · exact .inl (by simp [h])
  obtain ⟨p1, p2, p3⟩ := List.pairwise_append.1 a3
  refine ⟨_, Tr.join (s.o 0 _ h0) (s.o 3 _ h3) (.inr ⟨h, rfl, ⟨bc, rfl⟩, rfl, hl, rfl, fun c hc => ?_⟩) hlo hmx (.inr (Nat.le_refl _)) ⟨s.d 0 3 (by omega) (by omega) (by decide), fun c hc => ?_, fun c hc => ?_, ?_, s.r 0 (by omega)⟩ hc, fun y o g => ?_⟩
  · rcases hmem c hc with h | h
    · exact (t.rest c h).ext s.x (f1 c h)
    · exact hT c h
  · rcases hmem c hc with h | h
    · exact oldF c h 0 (by decide)
    · exact newF c h 0 (.inl rfl)
  · rcases hmem c hc with h | h
    · exact oldF c h 3 (by decide)
    · exact newF c h 3 (.inr rfl)
  · refine List.pairwise_append.2 ⟨p1, List.pairwise_append.2 ⟨h2, p2, fun c hc d hd => (oldN d (by simp [hd]) c hc).symm⟩, fun c hc d hd => ?_⟩
    rcases List.mem_append.1 hd with hd | hd
    · exact oldN c (by simp [hc]) d hd
    · exact p3 c hc d hd
  · have six_sub : ∀ y o, six F0 F1 F2 F3 F4 F5 y o → F0 y o ∨ F3 y o ∨ kinF (A ++ c1 :: c2 :: B) y o := fun y o g => by
      rcases g with g | g | g | g | g | g
      · exact .inl g
      · exact .inr (.inr ⟨c1, by simp, (t.f1 y o).2 (.inl g)⟩)
      · exact .inr (.inr ⟨c2, by simp, (t.f2 y o).2 (.inl g)⟩)
      · exact .inr (.inl g)
      · exact .inr (.inr ⟨c1, by simp, (t.f1 y o).2 (.inr (.inl g))⟩)
      · exact .inr (.inr ⟨c2, by simp, (t.f2 y o).2 (.inr (.inl g))⟩)
    have put : ∀ n, n < 6 → F' n y o → (F0 y o ∨ F3 y o ∨ kinF (A ++ c1 :: c2 :: B) y o) ∨ w.heap.size ≤ y := fun n hn g => (s.s n (by omega) y o g).imp (six_sub y o) id
    rcases g with g | g | ⟨c, hc, g⟩
    · exact put 0 (by decide) g
    · exact put 3 (by decide) g
    · rcases hmem c hc with hm | hm
      · refine .inl (.inr (.inr ⟨c, ?_, g⟩))
        rcases List.mem_append.1 hm with h | h
        · simp [h]
        · simp [h]
      · rcases hF c hm y o g with ⟨i, hi, g⟩ | ⟨e, he, g⟩
        · exact put i (by omega) g
        · rcases List.mem_append.1 he with he | he
          · exact .inl (.inr (.inr ⟨c1, by simp, (t.f1 y o).2 (.inr (.inr ⟨e, he, g⟩))⟩))
          · exact .inl (.inr (.inr ⟨c2, by simp, (t.f2 y o).2 (.inr (.inr ⟨e, he, g⟩))⟩))
theorem Two.six (t : Two E iso mn mx h w b bc cnt ks A B c1 c2 F0 F3 K0 K3 F1 F4 K1 K4 k1 ch1 p1 g1 F2 F5 K2 K5 k2 ch2 p2 g2) {y o : Nat} (g : Go.Proofs.Ytanmjbkbdmeckaa.six F0 F1 F2 F3 F4 F5 y o) : F0 y o ∨ F3 y o ∨ kinF (A ++ c1 :: c2 :: B) y o := by
  rcases g with g | g | g | g | g | g
  · exact .inl g
  · exact .inr (.inr ⟨c1, by simp, (t.f1 y o).2 (.inl g)⟩)
  · exact .inr (.inr ⟨c2, by simp, (t.f2 y o).2 (.inl g)⟩)
  · exact .inr (.inl g)
  · exact .inr (.inr ⟨c1, by simp, (t.f1 y o).2 (.inr (.inl g))⟩)
  · exact .inr (.inr ⟨c2, by simp, (t.f2 y o).2 (.inr (.inl g))⟩)
theorem Two.ch (t : Two E iso mn mx h w b bc cnt ks A B c1 c2 F0 F3 K0 K3 F1 F4 K1 K4 k1 ch1 p1 g1 F2 F5 K2 K5 k2 ch2 p2 g2) :
    (ch1 = .pointer none ∧ ch2 = .pointer none ∧ p1 = [] ∧ p2 = []) ∨ ∃ lc rc, ch1 = ptr lc ∧ ch2 = ptr rc ∧ p1.length = k1.length + 1 ∧ p2.length = k2.length + 1 := by
  rcases t.q1 with ⟨h0, ha, hp, _⟩ | ⟨h', h1, ⟨lc, ha⟩, hp, hg, _⟩
  · rcases t.q2 with ⟨_, hb, hq, _⟩ | ⟨h', h1, _⟩
    · exact .inl ⟨ha, hb, hp, hq⟩
    · omega
  · rcases t.q2 with ⟨h0, _⟩ | ⟨_, _, ⟨rc, hb⟩, hq, hg2, _⟩
    · omega
    · exact .inr ⟨lc, rc, ha, hb, by rw [hp, List.length_map]; exact hg, by rw [hq, List.length_map]; exact hg2⟩
end
/-- A node one of whose children may have one key less than it ought to. -/
structure Shr (E : Enc α) (iso : Int) (mn mx h : Nat) (w : World) (b bc : Nat) (cnt : Int) (ks : List α) (A : List (Kid α)) (c : Kid α) (B : List (Kid α)) (F0 F3 : Nat → Nat → Prop) (K0 K3 : Nat) : Prop where
  n0 : (ndO E iso 1 b cnt ks (ptr bc)).p w F0 K0
  n3 : (kdO (ptr bc) ((A ++ c :: B).map fun g => some g.b)).p w F3 K3
  l0 : Lay F0 F3 K0 K3 (A ++ c :: B)
  t : Tr E iso mn mx h w (mn - 1) c.b c.xs c.F
  rest : ∀ a ∈ A ++ B, Tr E iso mn mx h w mn a.b a.xs a.F
theorem Tr.keys {w : World} {h lo b : Nat} {xs : List α} {F : Nat → Nat → Prop} (t : Tr E iso mn mx h w lo b xs F) :
    ∃ a n cap, rd w b 2 = some (.slice (some a) n cap) ∧ lo ≤ n ∧ n ≤ mx ∧ ∀ lo', lo' ≤ n → Tr E iso mn mx h w lo' b xs F := by
  cases h with
  | zero =>
    obtain ⟨bi, oi, cap, ho, h1, h2, hF⟩ := t
    exact ⟨_, _, _, ho.h2, h1, h2, fun lo' hl => ⟨bi, oi, cap, ho, hl, h2, hF⟩⟩
  | succ h =>
    obtain ⟨bi, oi, cap, bc, ba, oa, capc, ks, cs, ho, hk, h1, h2, h3⟩ := t
    exact ⟨_, _, _, ho.h2, h1, h2, fun lo' hl => ⟨bi, oi, cap, bc, ba, oa, capc, ks, cs, ho, hk, hl, h2, h3⟩⟩
theorem Shr.fine {h : Nat} {w : World} {b bc : Nat} {cnt : Int} {ks : List α} {A B : List (Kid α)} {c : Kid α} {F0 F3 : Nat → Nat → Prop} {K0 K3 lo : Nat} (s : Shr E iso mn mx h w b bc cnt ks A c B F0 F3 K0 K3) (hl : (A ++ c :: B).length = ks.length + 1)
    (hc : Tr E iso mn mx h w mn c.b c.xs c.F) (hlo : lo ≤ ks.length) (hmx : ks.length ≤ mx) (hcnt : cnt = ((weave ((A ++ c :: B).map Kid.xs) ks).length : Nat)) :
    Tr E iso mn mx (h + 1) w lo b (weave ((A ++ c :: B).map Kid.xs) ks) fun y o => F0 y o ∨ F3 y o ∨ kinF (A ++ c :: B) y o :=
  Tr.join s.n0 s.n3 (.inr ⟨h, rfl, ⟨bc, rfl⟩, rfl, hl, rfl, fun a ha => by
    rcases List.mem_append.1 ha with ha | ha
    · exact s.rest a (by simp [ha])
    · rcases List.mem_cons.1 ha with rfl | ha
      · exact hc
      · exact s.rest a (by simp [ha])⟩) hlo hmx (.inr (Nat.le_refl _)) s.l0 hcnt
theorem Shr.ext0 {h : Nat} {w w' : World} {b bc : Nat} {cnt : Int} {ks : List α} {A B : List (Kid α)} {c : Kid α} {F0 F3 : Nat → Nat → Prop} {K0 K3 : Nat} (s : Shr E iso mn mx h w b bc cnt ks A c B F0 F3 K0 K3) (x : Ext noF w w') : Shr E iso mn mx h w' b bc cnt ks A c B F0 F3 K0 K3 :=
  ⟨(ndO _ _ _ _ _ _ _).loc s.n0 x fun _ _ _ g => g, (kdO _ _).loc s.n3 x fun _ _ _ g => g, s.l0, s.t.ext x fun _ _ _ g => g, fun a ha => (s.rest a ha).ext x fun _ _ _ g => g⟩
/-- An inner node one of whose children was changed. -/
theorem Inn.shr {h : Nat} {w w' : World} {b : Nat} {xs : List α} {F : Nat → Nat → Prop} {bi oi cap : Nat} {cnt : Int} {ks : List α} {bc ba oa capc : Nat} {cs : List (Kid α)} (o : Own E w b iso cnt bi oi cap ks (ptr bc))
    (n : Inn E iso mn mx h w b xs F bi oi cap ks bc ba oa capc cs) (hk : 1 ≤ ks.length) {i : Nat} {c : Kid α} (hc : cs[i]? = some c) {G : Nat → Nat → Prop} (x : Ext G w w') (hG : ∀ y o, F y o → G y o → c.F y o) {zs : List α} {F' : Nat → Nat → Prop}
    (t : Tr E iso mn mx h w' (mn - 1) c.b zs F') (hF' : ∀ y o, F' y o → c.F y o ∨ w.heap.size ≤ y) :
    Shr E iso mn mx h w' b bc cnt ks (cs.take i) ⟨c.b, zs, F'⟩ (cs.drop (i + 1)) (ownF E b bi oi cap) (kidF bc ba oa capc) bi ba := by
  have hcm := List.mem_of_getElem? hc
  have hi := (List.getElem?_eq_some_iff.1 hc).1
  have hbl := wok_lt o.wb
  have hbil := wok_lt o.wi
  have hbcl := wok_lt n.kids.wc
  have hbal := wok_lt n.kids.wa
  have ap := n.ap.swap (new := [⟨c.b, zs, F'⟩]) (B := w.heap.size) hc (fun d hd y o g => by
    obtain rfl := List.mem_singleton.1 hd
    exact hF' y o g) (List.pairwise_singleton _ _) (fun d hd y o g => (n.sub d hd).lt y o g) hbl hbil hbcl hbal
  have hcs : cs = cs.take i ++ c :: cs.drop (i + 1) := by
    have h3 := List.getElem?_eq_some_iff.1 hc
    have := List.take_append_drop i cs
    rw [List.drop_eq_getElem_cons h3.1, h3.2] at this
    exact this.symm
  have hold : ∀ a ∈ cs.take i ++ cs.drop (i + 1), a ∈ cs ∧ Dj a.F c.F := fun a ha => by
    have h2 := n.ap.two
    rw [hcs] at h2
    obtain ⟨p1, p2, p3⟩ := List.pairwise_append.1 h2
    obtain ⟨p4, p5⟩ := List.pairwise_cons.1 p2
    rcases List.mem_append.1 ha with ha | ha
    · exact ⟨List.mem_of_mem_take ha, p3 a ha c (by simp)⟩
    · exact ⟨List.mem_of_mem_drop ha, fun y o g k => p4 a ha y o k g⟩
  have hown : ∀ y o, ownF E b bi oi cap y o → ¬ G y o := fun y o g k => n.ap.own c hcm y o (hG y o ((n.fp y o).2 (.inl g)) k) g
  have hkid : ∀ y o, kidF bc ba oa capc y o → ¬ G y o := fun y o g k => n.ap.kid c hcm y o (hG y o ((n.fp y o).2 (.inr (.inl g))) k) g
  refine ⟨⟨bi, oi, cap, o.ext x hown, by have := o.le; omega, rfl, fun _ _ => Iff.rfl⟩, .inr ⟨bc, ba, oa, capc, rfl, ?_, rfl, fun _ _ => Iff.rfl⟩, ⟨fun y o g k => ?_, ap.own, ap.kid, ap.two, ap.ia⟩, t, fun a ha => ?_⟩
  · have hm : ((cs.take i ++ ⟨c.b, zs, F'⟩ :: cs.drop (i + 1)).map fun g => some g.b) = (cs.map Kid.b).map some := by
      conv => rhs; rw [hcs]
      simp
      rfl
    rw [hm]
    exact (n.kids.ext x hkid).se
  · have := ap.cb; have := ap.ab; have := ap.ic; have := ap.ia
    simp only [ownF, kidF, rng] at g k
    omega
  · obtain ⟨h1, h2⟩ := hold a ha
    exact (n.sub a h1).ext x fun y o g k => h2 y o g (hG y o ((n.fp y o).2 (.inr (.inr ⟨a, h1, g⟩))) k)
theorem Inn.shr_fp {h : Nat} {w : World} {b : Nat} {xs : List α} {F : Nat → Nat → Prop} {bi oi cap : Nat} {ks : List α} {bc ba oa capc : Nat} {cs : List (Kid α)}
    (n : Inn E iso mn mx h w b xs F bi oi cap ks bc ba oa capc cs) {i : Nat} {c : Kid α} (hc : cs[i]? = some c) {zs : List α} {F' : Nat → Nat → Prop} (hF' : ∀ y o, F' y o → c.F y o ∨ w.heap.size ≤ y) (y o : Nat)
    (g : ownF E b bi oi cap y o ∨ kidF bc ba oa capc y o ∨ kinF (cs.take i ++ ⟨c.b, zs, F'⟩ :: cs.drop (i + 1)) y o) : F y o ∨ w.heap.size ≤ y := by
  rcases g with g | g | ⟨a, ha, g⟩
  · exact .inl ((n.fp y o).2 (.inl g))
  · exact .inl ((n.fp y o).2 (.inr (.inl g)))
  · rcases List.mem_append.1 ha with ha | ha
    · exact .inl ((n.fp y o).2 (.inr (.inr ⟨a, List.mem_of_mem_take ha, g⟩)))
    · rcases List.mem_cons.1 ha with rfl | ha
      · exact (hF' y o g).imp (fun g => (n.fp y o).2 (.inr (.inr ⟨c, List.mem_of_getElem? hc, g⟩))) id
      · exact .inl ((n.fp y o).2 (.inr (.inr ⟨a, List.mem_of_mem_drop ha, g⟩)))
theorem shr_xs {cs : List (Kid α)} {i : Nat} {c : Kid α} (hc : cs[i]? = some c) {b : Nat} {zs : List α} {F' : Nat → Nat → Prop} : (cs.take i ++ ⟨b, zs, F'⟩ :: cs.drop (i + 1)).map Kid.xs = (cs.map Kid.xs).set i zs := by
  have hi := (List.getElem?_eq_some_iff.1 hc).1
  rw [List.set_eq_take_append_cons_drop, if_pos (by rw [List.length_map]; exact hi), List.map_append, List.map_cons, List.map_take, List.map_drop]
theorem shr_len {cs : List (Kid α)} {i : Nat} {c d : Kid α} (hc : cs[i]? = some c) : (cs.take i ++ d :: cs.drop (i + 1)).length = cs.length ∧ (cs.take i).length = i := by
  have hi := (List.getElem?_eq_some_iff.1 hc).1
  simp only [List.length_append, List.length_take, List.length_cons, List.length_drop]
  omega
end Go.Proofs.Ytanmjbkbdmeckaa
/-
  nodeRebalance: what it leaves of the tree. No condition.
-/
set_option linter.unusedSimpArgs false
set_option linter.unusedVariables false
namespace Go.Proofs.Ytanmjbkbdmeckaa
open Go Go.Proofs
theorem map_erase {α β : Type} (f : α → β) (l : List α) (i : Nat) : (l.map f).eraseIdx i = (l.eraseIdx i).map f := by
  rw [List.eraseIdx_eq_take_drop_succ, List.eraseIdx_eq_take_drop_succ, List.map_append, List.map_take, List.map_drop]
variable {h : Nat} {w : World} {b bc : Nat} {cnt : Int} {ks : List It} {A B : List (Kid It)} {c1 c2 : Kid It} {F0 F3 : Nat → Nat → Prop} {K0 K3 : Nat}
    {F1 F4 : Nat → Nat → Prop} {K1 K4 : Nat} {k1 : List It} {ch1 : Value} {p1 : List (Option Nat)} {g1 : List (Kid It)} {F2 F5 : Nat → Nat → Prop} {K2 K5 : Nat} {k2 : List It} {ch2 : Value} {p2 : List (Option Nat)} {g2 : List (Kid It)}
set_option maxHeartbeats 1000000 in
theorem reb_two (m d i0 : Nat) (iso : Int) (hd : 2 ≤ d) (hd' : d ≤ 128) (hc : Cfg w m iso d) (t : Two E iso (d - 1) (2 * d - 1) h w b bc cnt ks A B c1 c2 F0 F3 K0 K3 F1 F4 K1 K4 k1 ch1 p1 g1 F2 F5 K2 K5 k2 ch2 p2 g2)
    (hm : ∀ o, ¬ (F0 m o ∨ F3 m o ∨ kinF (A ++ c1 :: c2 :: B) m o)) (hlen : (A ++ c1 :: c2 :: B).length = ks.length + 1) (hj : (i0 = A.length ∧ A.length < ks.length) ∨ (i0 = ks.length ∧ A.length + 1 = ks.length)) (hks : ks.length ≤ 2 * d - 1)
    (hcnt : cnt = ((weave ((A ++ c1 :: c2 :: B).map Kid.xs) ks).length : Nat)) (hbig : (weave ((A ++ c1 :: c2 :: B).map Kid.xs) ks).length < 1152921504606846976) (h1 : d - 2 ≤ k1.length) (h2 : d - 2 ≤ k2.length) (h1' : k1.length ≤ 2 * d - 1) (h2' : k2.length ≤ 2 * d - 1)
    (hsh : k1.length < d - 1 ∨ k2.length < d - 1) :
    CallK Try.prog 176 #[ptr m, ptr b, .int .i64 (i0 : Nat)] w fun _ w' => ∃ F'', Tr E iso (d - 1) (2 * d - 1) (h + 1) w' (ks.length - 1) b (weave ((A ++ c1 :: c2 :: B).map Kid.xs) ks) F'' ∧
      Ext (fun y o => F0 y o ∨ F3 y o ∨ kinF (A ++ c1 :: c2 :: B) y o) w w' ∧ ∀ y o, F'' y o → (F0 y o ∨ F3 y o ∨ kinF (A ++ c1 :: c2 :: B) y o) ∨ w.heap.size ≤ y := by
  have hAk : A.length < ks.length := by omega
  obtain ⟨k, hk⟩ : ∃ k, ks[A.length]? = some k := ⟨_, List.getElem?_eq_getElem hAk⟩
  have s := t.init
  have hG : ∀ o, ¬ six F0 F1 F2 F3 F4 F5 m o := fun o g => hm o (t.six g)
  have hp : ((A ++ c1 :: c2 :: B).map fun g => some g.b)[A.length]? = some (some c1.b) := by simp
  have hq : ((A ++ c1 :: c2 :: B).map fun g => some g.b)[A.length + 1]? = some (some c2.b) := by simp
  have hps : ((A ++ c1 :: c2 :: B).map fun g => some g.b).length = ks.length + 1 := by rw [List.length_map]; exact hlen
  have hmap : (A ++ c1 :: c2 :: B).map Kid.xs = A.map Kid.xs ++ c1.xs :: c2.xs :: B.map Kid.xs := by simp
  have hk' : ks[(A.map Kid.xs).length]? = some k := by rw [List.length_map]; exact hk
  have hx1 : c1.xs.length < 1152921504606846976 ∧ c2.xs.length < 1152921504606846976 := by
    have e1 := weave_mem_length ((A ++ c1 :: c2 :: B).map Kid.xs) ks (by rw [List.length_map]; exact hlen) c1.xs (by simp)
    have e2 := weave_mem_length ((A ++ c1 :: c2 :: B).map Kid.xs) ks (by rw [List.length_map]; exact hlen) c2.xs (by simp)
    omega
  have hlA : (A ++ c1 :: c2 :: B).length = A.length + B.length + 2 := by simp; omega
  have far : ∀ {c : Kid It}, c ∈ g1 ++ g2 → (∀ o, c.F c.b o) → ∀ o, ¬ six F0 F1 F2 F3 F4 F5 c.b o := fun hc hs o g => t.far.2.1 _ hc _ o (hs o) g
  by_cases hlt : k1.length + k2.length < 2 * d - 1
  · refine CallK_mono (reb_merge m d b c1.b c2.b bc i0 A.length c1.xs.length c2.xs.length iso cnt ks k1 k2 k _ p1 p2 ch1 ch2 w w _ hd hd' hc hG s hj hks hk hps hp hq t.ch h1' h2' (by omega) (by omega) hlt) ?_
    rintro v w' hs
    have X := hs.x
    obtain ⟨F', K', s'⟩ := hs
    have q := t.q1.merge (k := k) t.q2
    have hw := weave_two (A.map Kid.xs) (B.map Kid.xs) c1.xs c2.xs ks k hk'
    rw [List.length_map] at hw
    have hle := List.length_eraseIdx_of_lt hAk
    have T := t.kid s' 1 rfl rfl q (List.Sublist.refl _) (by simp; omega) (by simp; omega) (by omega) (by simp <;> omega)
    have hpe : ((A ++ c1 :: c2 :: B).map fun g => some g.b).eraseIdx (A.length + 1) = (A ++ ([Kid.mk c1.b (c1.xs ++ k :: c2.xs) (fun y o => F' 1 y o ∨ F' 4 y o ∨ kinF (g1 ++ g2) y o)] ++ B)).map fun g => some g.b := by
      rw [map_erase, List.eraseIdx_append_of_length_le (by omega)]
      simp
    have hwe : (A ++ ([Kid.mk c1.b (c1.xs ++ k :: c2.xs) (fun y o => F' 1 y o ∨ F' 4 y o ∨ kinF (g1 ++ g2) y o)] ++ B)).map Kid.xs = A.map Kid.xs ++ (c1.xs ++ k :: c2.xs) :: B.map Kid.xs := by simp
    obtain ⟨F'', T', hF''⟩ := t.close s' rfl [Kid.mk c1.b (c1.xs ++ k :: c2.xs) (fun y o => F' 1 y o ∨ F' 4 y o ∨ kinF (g1 ++ g2) y o)] (ks' := ks.eraseIdx A.length) (lo := ks.length - 1) rfl (by rw [← hpe]; rfl)
      (by simp only [List.length_append, List.length_cons, List.length_nil]; omega) (fun n hn => by obtain rfl := List.mem_singleton.1 hn; exact T)
      (fun n hn y o g => by
        obtain rfl := List.mem_singleton.1 hn
        rcases g with g | g | g
        · exact .inl ⟨1, .inl rfl, g⟩
        · exact .inl ⟨4, by decide, g⟩
        · exact .inr g) (List.pairwise_singleton _ _) (by omega) (by omega) (by rw [hwe, ← hw, ← hmap]; exact hcnt)
    rw [hwe, ← hw, ← hmap] at T'
    exact ⟨F'', T', X.mono fun y o _ g => t.six g, hF''⟩
  · have two : ∀ {w' : World} {F' : Nat → Nat → Nat → Prop} {K' : Nat → Nat} {P : List Ob} {x : It} {x1' x2' l1 l2 : List It} {q1 q2 : List (Option Nat)} {gl gr : List (Kid It)} {n1 n2 : Int}, St w (six F0 F1 F2 F3 F4 F5) w' P F' K' →
        P = [ndO E iso 1 b cnt (ks.set A.length x) (ptr bc), ndO E iso 0 c1.b n1 l1 ch1, ndO E iso 0 c2.b n2 l2 ch2, kdO (ptr bc) ((A ++ c1 :: c2 :: B).map fun g => some g.b), kdO ch1 q1, kdO ch2 q2] →
        Kin E iso (d - 1) (2 * d - 1) h w ch1 q1 l1 x1' gl → Kin E iso (d - 1) (2 * d - 1) h w ch2 q2 l2 x2' gr → c1.xs ++ k :: c2.xs = x1' ++ x :: x2' → gl ++ gr = g1 ++ g2 → n1 = (x1'.length : Nat) → n2 = (x2'.length : Nat) →
        d - 1 ≤ l1.length → l1.length ≤ 2 * d - 1 → d - 1 ≤ l2.length → l2.length ≤ 2 * d - 1 →
        ∃ F'', Tr E iso (d - 1) (2 * d - 1) (h + 1) w' (ks.length - 1) b (weave ((A ++ c1 :: c2 :: B).map Kid.xs) ks) F'' ∧
          Ext (fun y o => F0 y o ∨ F3 y o ∨ kinF (A ++ c1 :: c2 :: B) y o) w w' ∧ ∀ y o, F'' y o → (F0 y o ∨ F3 y o ∨ kinF (A ++ c1 :: c2 :: B) y o) ∨ w.heap.size ≤ y := by
      intro w' F' K' P x x1' x2' l1 l2 q1 q2 gl gr n1 n2 s' hP Q1 Q2 hxx hgg hn1 hn2 hl1 hl1' hl2 hl2'
      subst hP
      have T1 := t.kid s' 1 rfl rfl Q1 (by rw [← hgg]; exact List.sublist_append_left _ _) hl1 hl1' (by omega) hn1
      have T2 := t.kid s' 2 rfl rfl Q2 (by rw [← hgg]; exact List.sublist_append_right _ _) hl2 hl2' (by omega) hn2
      have hw := weave_swap (A := A.map Kid.xs) (B := B.map Kid.xs) hk' hxx
      rw [List.length_map] at hw
      have hpe : (A ++ c1 :: c2 :: B).map (fun g => some g.b) = (A ++ ([Kid.mk c1.b x1' (fun y o => F' 1 y o ∨ F' 4 y o ∨ kinF gl y o), Kid.mk c2.b x2' (fun y o => F' 2 y o ∨ F' 5 y o ∨ kinF gr y o)] ++ B)).map fun g => some g.b := by simp
      have hwe : (A ++ ([Kid.mk c1.b x1' (fun y o => F' 1 y o ∨ F' 4 y o ∨ kinF gl y o), Kid.mk c2.b x2' (fun y o => F' 2 y o ∨ F' 5 y o ∨ kinF gr y o)] ++ B)).map Kid.xs = A.map Kid.xs ++ x1' :: x2' :: B.map Kid.xs := by simp
      obtain ⟨f1, f2, f3, f4⟩ := t.far
      have gF : ∀ c ∈ gl ++ gr, ∀ n, n < 6 → Dj c.F (F' n) := fun c hc n hn y o g k => by
        rw [hgg] at hc
        rcases s'.s n hn y o k with k | k
        · exact f2 c hc y o g k
        · have : y < w.heap.size := by
            rcases List.mem_append.1 hc with hc | hc
            · exact t.q1.lt c hc y o g
            · exact t.q2.lt c hc y o g
          omega
      have hd12 : Dj (fun y o => F' 1 y o ∨ F' 4 y o ∨ kinF gl y o) (fun y o => F' 2 y o ∨ F' 5 y o ∨ kinF gr y o) := by
        intro y o g k
        rcases g with g | g | ⟨c, hc, g⟩ <;> rcases k with k | k | ⟨e, he, k⟩
        · exact s'.d 1 2 (by simp) (by simp) (by decide) y o g k
        · exact s'.d 1 5 (by simp) (by simp) (by decide) y o g k
        · exact gF e (by simp [he]) 1 (by decide) y o k g
        · exact s'.d 4 2 (by simp) (by simp) (by decide) y o g k
        · exact s'.d 4 5 (by simp) (by simp) (by decide) y o g k
        · exact gF e (by simp [he]) 4 (by decide) y o k g
        · exact gF c (by simp [hc]) 2 (by decide) y o g k
        · exact gF c (by simp [hc]) 5 (by decide) y o g k
        · rw [← hgg] at f3
          exact (List.pairwise_append.1 f3).2.2 c hc e he y o g k
      have hls : (ks.set A.length x).length = ks.length := List.length_set
      obtain ⟨F'', T', hF''⟩ := t.close s' rfl [Kid.mk c1.b x1' (fun y o => F' 1 y o ∨ F' 4 y o ∨ kinF gl y o), Kid.mk c2.b x2' (fun y o => F' 2 y o ∨ F' 5 y o ∨ kinF gr y o)] (ks' := ks.set A.length x) (lo := ks.length - 1) rfl (by rw [← hpe]; rfl)
        (by simp only [List.length_append, List.length_cons, List.length_nil]; omega)
        (fun n hn => by
          rcases List.mem_cons.1 hn with rfl | hn
          · exact T1
          · obtain rfl := List.mem_singleton.1 hn; exact T2)
        (fun n hn y o g => by
          rcases List.mem_cons.1 hn with rfl | hn
          · rcases g with g | g | ⟨c, hc, g⟩
            · exact .inl ⟨1, by decide, g⟩
            · exact .inl ⟨4, by decide, g⟩
            · exact .inr ⟨c, by rw [← hgg]; simp [hc], g⟩
          · obtain rfl := List.mem_singleton.1 hn
            rcases g with g | g | ⟨c, hc, g⟩
            · exact .inl ⟨2, by decide, g⟩
            · exact .inl ⟨5, by decide, g⟩
            · exact .inr ⟨c, by rw [← hgg]; simp [hc], g⟩)
        (List.pairwise_pair.2 hd12) (by omega) (by omega) (by rw [hwe, ← hw, ← hmap]; exact hcnt)
      rw [hwe, ← hw, ← hmap] at T'
      exact ⟨F'', T', s'.x.mono fun y o _ g => t.six g, hF''⟩
    by_cases hgt : k2.length < k1.length
    · obtain ⟨ls, x, rfl⟩ : ∃ ls x, k1 = ls ++ [x] := ⟨k1.dropLast, k1.getLast (by intro h; rw [h] at hgt; simp at hgt), (List.dropLast_concat_getLast _).symm⟩
      obtain ⟨cg, x1', x2', gl, gr, Q1, Q2, hxx, hgg, e1, e2, e3, hg⟩ := t.q1.right (k := k) t.q2
      have hsx : x1'.length + 1 + x2'.length = c1.xs.length + 1 + c2.xs.length := by
        have := congrArg List.length hxx
        simp only [List.length_append, List.length_cons] at this
        omega
      refine CallK_mono (reb_right m d b c1.b c2.b bc i0 A.length c1.xs.length c2.xs.length iso cnt ks ls k2 k x _ p1 p2 ch1 ch2 w w _ hd hd' hc hG s hj hks hk hps hp hq t.ch h1' h2' (by omega) (by omega) (by omega) hgt cg e3 (by omega) ?_) ?_
      · rcases hg with hg | ⟨c, p', hp', hcm, hr, hself⟩
        · exact .inl hg
        · exact .inr ⟨c.b, p', hp', hr, far (by simp [hcm]) hself⟩
      · rintro v w' ⟨F', K', s'⟩
        rw [List.length_append, List.length_singleton] at h1 h1' hlt hgt hsh
        exact two s' rfl Q1 Q2 hxx hgg (by rw [e1]) (by rw [e2]) (by omega) (by omega) (by rw [List.length_cons]; omega) (by rw [List.length_cons]; omega)
    · obtain ⟨x, rs, rfl⟩ : ∃ x rs, k2 = x :: rs := by
        cases k2 with
        | nil => rw [List.length_nil] at hgt hlt; omega
        | cons x rs => exact ⟨x, rs, rfl⟩
      obtain ⟨cg, x1', x2', gl, gr, Q1, Q2, hxx, hgg, e1, e2, e3, hg⟩ := t.q1.left (k := k) t.q2
      have hsx : x1'.length + 1 + x2'.length = c1.xs.length + 1 + c2.xs.length := by
        have := congrArg List.length hxx
        simp only [List.length_append, List.length_cons] at this
        omega
      refine CallK_mono (reb_left m d b c1.b c2.b bc i0 A.length c1.xs.length c2.xs.length iso cnt ks k1 rs k x _ p1 p2 ch1 ch2 w w _ hd hd' hc hG s hj hks hk hps hp hq t.ch h1' h2' (by omega) (by omega) (by omega) (by omega) cg e3 (by omega) ?_) ?_
      · rcases hg with hg | ⟨c, p', hp', hcm, hr, hself⟩
        · exact .inl hg
        · exact .inr ⟨c.b, p', hp', hr, far (by simp [hcm]) hself⟩
      · rintro v w' ⟨F', K', s'⟩
        rw [List.length_cons] at h2 h2' hlt hgt hsh
        exact two s' rfl Q1 Q2 hxx hgg (by rw [e1]) (by rw [e2]) (by rw [List.length_append, List.length_singleton]; omega) (by rw [List.length_append, List.length_singleton]; omega) (by omega) (by omega)
theorem nd_len {w : World} {z b n cap : Nat} {cnt : Int} {k : List It} {ch : Value} {a : Option Addr} {F : Nat → Nat → Prop} {K : Nat} {iso : Int} (h : (ndO E iso z b cnt k ch).p w F K) (h2 : rd w b 2 = some (.slice a n cap)) : k.length = n := by
  obtain ⟨_, _, _, ho, _⟩ := h
  have := ho.h2.symm.trans h2
  simp only [Option.some.injEq, Value.slice.injEq] at this
  exact this.2.1
/-- A node with a child that is too short: what nodeRebalance leaves. -/
theorem reb_shr (m d : Nat) (iso : Int) (hd : 2 ≤ d) (hd' : d ≤ 128) (hc : Cfg w m iso d) {c : Kid It} (s : Shr E iso (d - 1) (2 * d - 1) h w b bc cnt ks A c B F0 F3 K0 K3) (hm : ∀ o, ¬ (F0 m o ∨ F3 m o ∨ kinF (A ++ c :: B) m o))
    (hlen : (A ++ c :: B).length = ks.length + 1) (hk0 : 1 ≤ ks.length) (hks : ks.length ≤ 2 * d - 1) (hcnt : cnt = ((weave ((A ++ c :: B).map Kid.xs) ks).length : Nat)) (hbig : (weave ((A ++ c :: B).map Kid.xs) ks).length < 1152921504606846976)
    {a : Option Addr} {n cap : Nat} (hr : rd w c.b 2 = some (.slice a n cap)) (hn : n < d - 1) :
    CallK Try.prog 176 #[ptr m, ptr b, .int .i64 (A.length : Nat)] w fun _ w' => ∃ F'', Tr E iso (d - 1) (2 * d - 1) (h + 1) w' (ks.length - 1) b (weave ((A ++ c :: B).map Kid.xs) ks) F'' ∧
      Ext (fun y o => F0 y o ∨ F3 y o ∨ kinF (A ++ c :: B) y o) w w' ∧ ∀ y o, F'' y o → (F0 y o ∨ F3 y o ∨ kinF (A ++ c :: B) y o) ∨ w.heap.size ≤ y := by
  obtain ⟨F1, F4, K1, K4, k1, ch1, p1, g1, n1, n4, q1, h1, h1', l1, f1⟩ := s.t.split
  have hk1 := nd_len n1 hr
  have hl : (A ++ c :: B).length = A.length + B.length + 1 := by simp; omega
  by_cases hA : A.length < ks.length
  · cases B with
    | nil => rw [List.length_nil] at hl; omega
    | cons c2 B =>
      obtain ⟨F2, F5, K2, K5, k2, ch2, p2, g2, n2, n5, q2, h2, h2', l2, f2⟩ := (s.rest c2 (by simp)).split
      have t : Two E iso (d - 1) (2 * d - 1) h w b bc cnt ks A B c c2 F0 F3 K0 K3 F1 F4 K1 K4 k1 ch1 p1 g1 F2 F5 K2 K5 k2 ch2 p2 g2 := ⟨s.n0, s.n3, s.l0, n1, n4, l1, f1, q1, n2, n5, l2, f2, q2, fun e he => s.rest e (by
        rcases List.mem_append.1 he with he | he
        · simp [he]
        · simp [he])⟩
      exact reb_two m d A.length iso hd hd' hc t hm hlen (.inl ⟨rfl, hA⟩) hks hcnt hbig (by omega) (by omega) h1' h2' (.inl (by omega))
  · obtain ⟨A, c0, rfl⟩ : ∃ A' c0, A = A' ++ [c0] := ⟨A.dropLast, A.getLast (by intro h; rw [h, List.length_nil] at hA; omega), (List.dropLast_concat_getLast _).symm⟩
    have hB : B = [] := List.eq_nil_of_length_eq_zero (by omega)
    subst hB
    obtain ⟨F2, F5, K2, K5, k2, ch2, p2, g2, n2, n5, q2, h2, h2', l2, f2⟩ := (s.rest c0 (by simp)).split
    have e : A ++ [c0] ++ [c] = A ++ c0 :: c :: [] := by simp
    obtain ⟨s1, s2, s3, s4, s5⟩ := s
    rw [List.length_append, List.length_singleton] at hl hA
    rw [e] at s2 s3 hm hlen hcnt hbig ⊢
    have t : Two E iso (d - 1) (2 * d - 1) h w b bc cnt ks A [] c0 c F0 F3 K0 K3 F2 F5 K2 K5 k2 ch2 p2 g2 F1 F4 K1 K4 k1 ch1 p1 g1 := ⟨s1, s2, s3, n2, n5, l2, f2, q2, n1, n4, l1, f1, q1, fun e he => s5 e (by
      simp at he; simp [he])⟩
    have hi : (A ++ [c0]).length = ks.length := by
      rw [List.length_append, List.length_singleton]
      simp only [List.length_append, List.length_cons, List.length_nil] at hlen
      omega
    exact reb_two m d (A ++ [c0]).length iso hd hd' hc t hm hlen (.inr ⟨hi, by rw [← hi]; simp⟩) hks hcnt hbig (by omega) (by omega) h2' h1' (.inr (by omega))
end Go.Proofs.Ytanmjbkbdmeckaa
