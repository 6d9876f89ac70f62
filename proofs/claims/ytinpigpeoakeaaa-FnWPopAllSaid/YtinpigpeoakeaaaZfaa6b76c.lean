/-
  A node behind the split of one of its children is a tree again. No condition.
-/
import Derived.Test.YtinpigpeoakeaaaZ45fc7f84
import Derived.Test.YtinpigpeoakeaaaZA
/-
  A node taken apart into its own part, its children's row and its children, and put together again; two neighbours merged, or one item moved. For items of whatever make. No condition.
-/
set_option linter.unusedSimpArgs false
set_option linter.unusedVariables false
namespace Go.Proofs.Ytinpigpeoakeaaa
open Go
section
variable {α : Type}
theorem weave_cat : ∀ (g1 g2 : List (List α)) (k1 k2 : List α) (k : α), g1.length = k1.length + 1 → weave (g1 ++ g2) (k1 ++ k :: k2) = weave g1 k1 ++ k :: weave g2 k2
  | [], _, _, _, _, h => by simp at h
  | [c], g2, [], k2, k, _ => rfl
  | c :: d :: g, g2, [], k2, k, h => by simp at h
  | c :: g1, g2, x :: k1, k2, k, h => by
    rw [List.cons_append, List.cons_append, weave_cons, weave_cons, weave_cat g1 g2 k1 k2 k (by simpa using h), List.append_assoc]
    rfl
theorem weave_two : ∀ (A B : List (List α)) (a b : List α) (ks : List α) (k : α), ks[A.length]? = some k → weave (A ++ a :: b :: B) ks = weave (A ++ (a ++ k :: b) :: B) (ks.eraseIdx A.length)
  | [], B, a, b, [], k, h => by simp at h
  | [], B, a, b, x :: ks, k, h => by
    simp at h
    subst h
    cases ks with
    | nil => cases B <;> rfl
    | cons y ks => simp [weave]
  | c :: A, B, a, b, [], k, h => by simp at h
  | c :: A, B, a, b, x :: ks, k, h => by
    rw [List.cons_append, List.cons_append, weave_cons, weave_two A B a b ks k (by simpa using h), List.length_cons, List.eraseIdx_cons_succ, weave_cons]
theorem weave_swap {A B : List (List α)} {a b a' b' : List α} {ks : List α} {k x : α} (hk : ks[A.length]? = some k) (h : a ++ k :: b = a' ++ x :: b') : weave (A ++ a :: b :: B) ks = weave (A ++ a' :: b' :: B) (ks.set A.length x) := by
  rw [weave_two A B a b ks k hk, weave_two A B a' b' (ks.set A.length x) x (by rw [List.getElem?_set_self (List.getElem?_eq_some_iff.1 hk).1]), h]
  congr 1
  have hl := (List.getElem?_eq_some_iff.1 hk).1
  rw [List.eraseIdx_eq_take_drop_succ, List.eraseIdx_eq_take_drop_succ, List.take_set_of_le (Nat.le_refl _), List.drop_set_of_lt (by omega)]
end
variable {α : Type} {E : Enc α} {iso : Int} {mn mx : Nat}
def Dj (F G : Nat → Nat → Prop) : Prop := ∀ y o, F y o → ¬ G y o
theorem Dj.symm {F G : Nat → Nat → Prop} (h : Dj F G) : Dj G F := fun y o g f => h y o f g
/-- The children gs of a node with items ks; ch is the cell's pointer, ps what the row holds. -/
def Kin (E : Enc α) (iso : Int) (mn mx h : Nat) (w : World) (ch : Value) (ps : List (Option Nat)) (ks xs : List α) (gs : List (Kid α)) : Prop :=
  (h = 0 ∧ ch = .pointer none ∧ ps = [] ∧ gs = [] ∧ xs = ks) ∨
  (∃ h', h = h' + 1 ∧ (∃ c, ch = ptr c) ∧ ps = gs.map (fun g => some g.b) ∧ gs.length = ks.length + 1 ∧ xs = weave (gs.map Kid.xs) ks ∧ ∀ c ∈ gs, Tr E iso mn mx h' w mn c.b c.xs c.F)
def kinF (gs : List (Kid α)) : Nat → Nat → Prop := fun y o => ∃ c ∈ gs, c.F y o
structure Lay (F1 F4 : Nat → Nat → Prop) (K1 K4 : Nat) (gs : List (Kid α)) : Prop where
  d : Dj F1 F4
  g1 : ∀ c ∈ gs, Dj c.F F1
  g4 : ∀ c ∈ gs, Dj c.F F4
  two : gs.Pairwise fun c d => Dj c.F d.F
  r : K1 ≠ K4
theorem Kin.ext {h : Nat} {w w' : World} {ch : Value} {ps : List (Option Nat)} {ks xs : List α} {gs : List (Kid α)} {G : Nat → Nat → Prop} (n : Kin E iso mn mx h w ch ps ks xs gs) (x : Ext G w w') (hG : ∀ c ∈ gs, Dj c.F G) : Kin E iso mn mx h w' ch ps ks xs gs :=
  n.imp id fun ⟨h', h1, h2, h3, h4, h5, h6⟩ => ⟨h', h1, h2, h3, h4, h5, fun c hc => (h6 c hc).ext x (hG c hc)⟩
theorem Kin.lt {h : Nat} {w : World} {ch : Value} {ps : List (Option Nat)} {ks xs : List α} {gs : List (Kid α)} (n : Kin E iso mn mx h w ch ps ks xs gs) : ∀ c ∈ gs, ∀ y o, c.F y o → y < w.heap.size := by
  rcases n with ⟨_, _, _, rfl, _⟩ | ⟨h', _, _, _, _, _, h6⟩
  · intro c hc; cases hc
  · intro c hc; exact (h6 c hc).lt
theorem Tr.split {h : Nat} {w : World} {lo b : Nat} {xs : List α} {F : Nat → Nat → Prop} (ht : Tr E iso mn mx h w lo b xs F) :
    ∃ F1 F4 K1 K4 ks ch ps gs, (ndO E iso 0 b xs.length ks ch).p w F1 K1 ∧ (kdO ch ps).p w F4 K4 ∧ Kin E iso mn mx h w ch ps ks xs gs ∧ lo ≤ ks.length ∧ ks.length ≤ mx ∧ Lay F1 F4 K1 K4 gs ∧ ∀ y o, F y o ↔ F1 y o ∨ F4 y o ∨ kinF gs y o := by
  cases h with
  | zero =>
    obtain ⟨bi, oi, cap, ho, h1, h2, hF⟩ := ht
    refine ⟨ownF E b bi oi cap, noF, bi, b, xs, _, [], [], ⟨bi, oi, cap, ho, Nat.zero_le _, rfl, fun _ _ => Iff.rfl⟩, .inl ⟨rfl, rfl, wok_lt ho.wb, fun _ _ g => g⟩, .inl ⟨rfl, rfl, rfl, rfl, rfl⟩, h1, h2,
      ⟨fun _ _ _ g => g, (fun _ hc => by simp at hc), (fun _ hc => by simp at hc), List.Pairwise.nil, ho.ne⟩, fun y o => ?_⟩
    rw [hF]
    exact ⟨.inl, fun g => g.elim id fun g => g.elim False.elim fun ⟨_, hc, _⟩ => by simp at hc⟩
  | succ h =>
    obtain ⟨bi, oi, cap, bc, ba, oa, capc, ks, cs, ho, hk, h1, h2, h3, h4, hT, hA, hF⟩ := ht
    have hps : cs.map (fun g => some g.b) = (cs.map Kid.b).map some := by rw [List.map_map]; rfl
    refine ⟨ownF E b bi oi cap, kidF bc ba oa capc, bi, ba, ks, _, cs.map (fun g => some g.b), cs, ⟨bi, oi, cap, ho, Nat.zero_le _, rfl, fun _ _ => Iff.rfl⟩, .inr ⟨bc, ba, oa, capc, rfl, by rw [hps]; exact hk.se, rfl, fun _ _ => Iff.rfl⟩,
      .inr ⟨h, rfl, ⟨bc, rfl⟩, rfl, h3, h4, hT⟩, h1, h2, ⟨fun y o g k => ?_, hA.own, hA.kid, hA.two, hA.ia⟩, hF⟩
    have := hA.cb; have := hA.ab; have := hA.ic; have := hA.ia
    simp only [ownF, kidF, rng] at g k
    omega
theorem Tr.join {h : Nat} {w : World} {lo z b : Nat} {cnt : Int} {ks xs : List α} {ch : Value} {ps : List (Option Nat)} {gs : List (Kid α)} {F1 F4 : Nat → Nat → Prop} {K1 K4 : Nat} (h1 : (ndO E iso z b cnt ks ch).p w F1 K1) (h4 : (kdO ch ps).p w F4 K4)
    (n : Kin E iso mn mx h w ch ps ks xs gs) (hlo : lo ≤ ks.length) (hmx : ks.length ≤ mx) (hz : 0 < ks.length ∨ 1 ≤ z) (l : Lay F1 F4 K1 K4 gs) (hcnt : cnt = xs.length) : Tr E iso mn mx h w lo b xs fun y o => F1 y o ∨ F4 y o ∨ kinF gs y o := by
  subst hcnt
  obtain ⟨bi, oi, cap, ho, hzc, rfl, hF1⟩ := h1
  rcases n with ⟨rfl, rfl, rfl, rfl, rfl⟩ | ⟨h', rfl, ⟨c, rfl⟩, rfl, g3, g4, g5⟩
  · rcases h4 with ⟨_, _, _, hF4⟩ | ⟨_, _, _, _, hc, _⟩
    · refine ⟨K1, oi, cap, ho, hlo, hmx, fun y o => ?_⟩
      show F1 y o ∨ F4 y o ∨ kinF [] y o ↔ _
      rw [hF1]
      exact ⟨fun g => g.elim id fun g => g.elim (fun g => (hF4 _ _ g).elim) fun ⟨_, hc, _⟩ => by simp at hc, .inl⟩
    · cases hc
  · rcases h4 with ⟨hc, _⟩ | ⟨bc, ba, oa, capc, hc, se, rfl, hF4⟩
    · cases hc
    · obtain rfl : c = bc := by simpa [ptr] using hc
      have hps : gs.map (fun g => some g.b) = (gs.map Kid.b).map some := by rw [List.map_map]; rfl
      rw [hps] at se
      have hk := se.kids
      have hle := hk.le
      rw [List.length_map] at hle
      have hcap : 0 < cap := by have := ho.le; omega
      have hsz := Nat.mul_le_mul_right E.sz hcap
      have hE := E.pos
      refine ⟨K1, oi, cap, c, K4, oa, capc, ks, gs, ho, hk, hlo, hmx, g3, g4, g5, ⟨fun hb => ?_, fun hb => ?_, fun hb => ?_, l.r, fun d hd y o g k => l.g1 d hd y o g ((hF1 _ _).2 k), fun d hd y o g k => l.g4 d hd y o g ((hF4 _ _).2 k), l.two⟩, fun y o => ?_⟩
      · subst hb; exact l.d c 0 ((hF1 _ _).2 (.inl rfl)) ((hF4 _ _).2 (.inl rfl))
      · subst hb; exact l.d K4 oa ((hF1 _ _).2 (.inl rfl)) ((hF4 _ _).2 (.inr ⟨rfl, by omega, by omega⟩))
      · subst hb; exact l.d K1 oi ((hF1 _ _).2 (.inr ⟨rfl, by omega, by omega⟩)) ((hF4 _ _).2 (.inl rfl))
      · show F1 y o ∨ F4 y o ∨ kinF gs y o ↔ _
        rw [hF1, hF4]; rfl
theorem Kin.merge {h : Nat} {w : World} {ch1 ch2 : Value} {p1 p2 : List (Option Nat)} {k1 k2 x1 x2 : List α} {g1 g2 : List (Kid α)} {k : α} (a : Kin E iso mn mx h w ch1 p1 k1 x1 g1) (b : Kin E iso mn mx h w ch2 p2 k2 x2 g2) :
    Kin E iso mn mx h w ch1 (p1 ++ p2) (k1 ++ k :: k2) (x1 ++ k :: x2) (g1 ++ g2) := by
  rcases a with ⟨h0, ha, rfl, rfl, rfl⟩ | ⟨h', rfl, ha, rfl, a3, rfl, a5⟩
  · rcases b with ⟨_, _, rfl, rfl, rfl⟩ | ⟨h', h1, _⟩
    · exact .inl ⟨h0, ha, rfl, rfl, rfl⟩
    · omega
  · rcases b with ⟨h1, _⟩ | ⟨h2, h1, _, rfl, b3, rfl, b5⟩
    · omega
    · obtain rfl : h' = h2 := by omega
      refine .inr ⟨h', rfl, ha, by rw [List.map_append], by simp; omega, ?_, fun c hc => ?_⟩
      · rw [List.map_append, weave_cat _ _ _ _ _ (by simpa using a3)]
      · rcases List.mem_append.1 hc with hc | hc
        · exact a5 c hc
        · exact b5 c hc
theorem Tr.cnt' {w : World} {h lo b : Nat} {xs : List α} {F : Nat → Nat → Prop} (t : Tr E iso mn mx h w lo b xs F) : rd w b 1 = some (.int .i64 (xs.length : Nat)) := by
  obtain ⟨_, _, _, _, _, h, _⟩ := t.open
  exact h.h1
theorem Kin.right {h : Nat} {w : World} {ch1 ch2 : Value} {p1 p2 : List (Option Nat)} {ls k2 x1 x2 : List α} {g1 g2 : List (Kid α)} {k x : α} (a : Kin E iso mn mx h w ch1 p1 (ls ++ [x]) x1 g1) (b : Kin E iso mn mx h w ch2 p2 k2 x2 g2) :
    ∃ cg x1' x2' gl gr, Kin E iso mn mx h w ch1 p1.dropLast ls x1' gl ∧ Kin E iso mn mx h w ch2 (p1.drop (p1.length - 1) ++ p2) (k :: k2) x2' gr ∧ x1 ++ k :: x2 = x1' ++ x :: x2' ∧ gl ++ gr = g1 ++ g2 ∧
      x1'.length = x1.length - 1 - cg ∧ x2'.length = x2.length + 1 + cg ∧ 1 + cg ≤ x1.length ∧ ((p1 = [] ∧ cg = 0) ∨ ∃ c p', p1 = p' ++ [some c.b] ∧ c ∈ g1 ∧ rd w c.b 1 = some (.int .i64 (cg : Nat)) ∧ ∀ o, c.F c.b o) := by
  rcases a with ⟨h0, ha, rfl, rfl, rfl⟩ | ⟨h', rfl, ha, rfl, a3, rfl, a5⟩
  · rcases b with ⟨_, hb, rfl, rfl, rfl⟩ | ⟨h', h1, _⟩
    · exact ⟨0, ls, k :: x2, [], [], .inl ⟨h0, ha, rfl, rfl, rfl⟩, .inl ⟨h0, hb, rfl, rfl, rfl⟩, by simp, rfl, by simp, by simp, by simp, .inl ⟨rfl, rfl⟩⟩
    · omega
  · rcases b with ⟨h1, _⟩ | ⟨h2, h1, hb, rfl, b3, rfl, b5⟩
    · omega
    · obtain rfl : h' = h2 := by omega
      rw [List.length_append, List.length_singleton] at a3
      obtain ⟨gl, g, rfl⟩ : ∃ gl g, g1 = gl ++ [g] := ⟨g1.dropLast, g1.getLast (by intro h; rw [h] at a3; simp at a3), (List.dropLast_concat_getLast _).symm⟩
      rw [List.length_append, List.length_singleton] at a3
      have hw : weave ((gl ++ [g]).map Kid.xs) (ls ++ [x]) = weave (gl.map Kid.xs) ls ++ x :: g.xs := by
        rw [List.map_append, weave_cat _ _ _ _ _ (by simp; omega)]; rfl
      refine ⟨g.xs.length, weave (gl.map Kid.xs) ls, g.xs ++ k :: weave (g2.map Kid.xs) k2, gl, g :: g2, .inr ⟨h', rfl, ha, by simp, by omega, rfl, fun c hc => a5 c (by simp [hc])⟩, .inr ⟨h', rfl, hb, by simp, by simp; omega, by simp [weave_cons], fun c hc => ?_⟩,
        by rw [hw]; simp, by simp, by rw [hw]; simp <;> omega, by simp <;> omega, by rw [hw]; simp <;> omega, .inr ⟨g, gl.map fun g => some g.b, by simp, by simp, (a5 g (by simp)).cnt', (a5 g (by simp)).self⟩⟩
      rcases List.mem_cons.1 hc with rfl | hc
      · exact a5 _ (by simp)
      · exact b5 c hc
theorem Kin.left {h : Nat} {w : World} {ch1 ch2 : Value} {p1 p2 : List (Option Nat)} {k1 rs x1 x2 : List α} {g1 g2 : List (Kid α)} {k x : α} (a : Kin E iso mn mx h w ch1 p1 k1 x1 g1) (b : Kin E iso mn mx h w ch2 p2 (x :: rs) x2 g2) :
    ∃ cg x1' x2' gl gr, Kin E iso mn mx h w ch1 (p1 ++ p2.take 1) (k1 ++ [k]) x1' gl ∧ Kin E iso mn mx h w ch2 (p2.drop 1) rs x2' gr ∧ x1 ++ k :: x2 = x1' ++ x :: x2' ∧ gl ++ gr = g1 ++ g2 ∧
      x1'.length = x1.length + 1 + cg ∧ x2'.length = x2.length - 1 - cg ∧ 1 + cg ≤ x2.length ∧ ((p2 = [] ∧ cg = 0) ∨ ∃ c p', p2 = some c.b :: p' ∧ c ∈ g2 ∧ rd w c.b 1 = some (.int .i64 (cg : Nat)) ∧ ∀ o, c.F c.b o) := by
  rcases a with ⟨h0, ha, rfl, rfl, rfl⟩ | ⟨h', rfl, ha, rfl, a3, rfl, a5⟩
  · rcases b with ⟨_, hb, rfl, rfl, rfl⟩ | ⟨h', h1, _⟩
    · exact ⟨0, x1 ++ [k], rs, [], [], .inl ⟨h0, ha, rfl, rfl, rfl⟩, .inl ⟨h0, hb, rfl, rfl, rfl⟩, by simp, rfl, by simp, by simp, by simp, .inl ⟨rfl, rfl⟩⟩
    · omega
  · rcases b with ⟨h1, _⟩ | ⟨h2, h1, hb, rfl, b3, rfl, b5⟩
    · omega
    · obtain rfl : h' = h2 := by omega
      rw [List.length_cons] at b3
      obtain ⟨g, gr, rfl⟩ : ∃ g gr, g2 = g :: gr := by
        cases g2 with
        | nil => simp at b3
        | cons g gr => exact ⟨g, gr, rfl⟩
      rw [List.length_cons] at b3
      have hw : weave ((g :: gr).map Kid.xs) (x :: rs) = g.xs ++ x :: weave (gr.map Kid.xs) rs := by rw [List.map_cons, weave_cons]
      have hv : weave ((g1 ++ [g]).map Kid.xs) (k1 ++ [k]) = weave (g1.map Kid.xs) k1 ++ k :: g.xs := by
        rw [List.map_append, weave_cat _ _ _ _ _ (by simpa using a3)]; rfl
      refine ⟨g.xs.length, weave (g1.map Kid.xs) k1 ++ k :: g.xs, weave (gr.map Kid.xs) rs, g1 ++ [g], gr, .inr ⟨h', rfl, ha, by simp, by simp; omega, hv.symm, fun c hc => ?_⟩, .inr ⟨h', rfl, hb, by simp, by omega, rfl, fun c hc => b5 c (by simp [hc])⟩,
        by rw [hw]; simp, by simp, by simp <;> omega, by rw [hw]; simp <;> omega, by rw [hw]; simp <;> omega, .inr ⟨g, gr.map fun g => some g.b, by simp, by simp, (b5 g (by simp)).cnt', (b5 g (by simp)).self⟩⟩
      rcases List.mem_append.1 hc with hc | hc
      · exact a5 c hc
      · have : c = g := by simpa using hc
        subst this; exact b5 _ (by simp)
/-- A node, two neighbours among its children, and the others. -/
structure Two (E : Enc α) (iso : Int) (mn mx h : Nat) (w : World) (b bc : Nat) (cnt : Int) (ks : List α) (A B : List (Kid α)) (c1 c2 : Kid α) (F0 F3 : Nat → Nat → Prop) (K0 K3 : Nat)
    (F1 F4 : Nat → Nat → Prop) (K1 K4 : Nat) (k1 : List α) (ch1 : Value) (p1 : List (Option Nat)) (g1 : List (Kid α)) (F2 F5 : Nat → Nat → Prop) (K2 K5 : Nat) (k2 : List α) (ch2 : Value) (p2 : List (Option Nat)) (g2 : List (Kid α)) : Prop where
  n0 : (ndO E iso 1 b cnt ks (ptr bc)).p w F0 K0
  n3 : (kdO (ptr bc) ((A ++ c1 :: c2 :: B).map fun g => some g.b)).p w F3 K3
  l0 : Lay F0 F3 K0 K3 (A ++ c1 :: c2 :: B)
  n1 : (ndO E iso 0 c1.b (c1.xs.length : Nat) k1 ch1).p w F1 K1
  n4 : (kdO ch1 p1).p w F4 K4
  l1 : Lay F1 F4 K1 K4 g1
  f1 : ∀ y o, c1.F y o ↔ F1 y o ∨ F4 y o ∨ kinF g1 y o
  q1 : Kin E iso mn mx h w ch1 p1 k1 c1.xs g1
  n2 : (ndO E iso 0 c2.b (c2.xs.length : Nat) k2 ch2).p w F2 K2
  n5 : (kdO ch2 p2).p w F5 K5
  l2 : Lay F2 F5 K2 K5 g2
  f2 : ∀ y o, c2.F y o ↔ F2 y o ∨ F5 y o ∨ kinF g2 y o
  q2 : Kin E iso mn mx h w ch2 p2 k2 c2.xs g2
  rest : ∀ c ∈ A ++ B, Tr E iso mn mx h w mn c.b c.xs c.F
def six (F0 F1 F2 F3 F4 F5 : Nat → Nat → Prop) : Nat → Nat → Prop := fun y o => F0 y o ∨ F1 y o ∨ F2 y o ∨ F3 y o ∨ F4 y o ∨ F5 y o
section
variable {h : Nat} {w : World} {b bc : Nat} {cnt : Int} {ks : List α} {A B : List (Kid α)} {c1 c2 : Kid α} {F0 F3 : Nat → Nat → Prop} {K0 K3 : Nat}
    {F1 F4 : Nat → Nat → Prop} {K1 K4 : Nat} {k1 : List α} {ch1 : Value} {p1 : List (Option Nat)} {g1 : List (Kid α)} {F2 F5 : Nat → Nat → Prop} {K2 K5 : Nat} {k2 : List α} {ch2 : Value} {p2 : List (Option Nat)} {g2 : List (Kid α)}
theorem Two.apart (t : Two E iso mn mx h w b bc cnt ks A B c1 c2 F0 F3 K0 K3 F1 F4 K1 K4 k1 ch1 p1 g1 F2 F5 K2 K5 k2 ch2 p2 g2) :
    Dj c1.F c2.F ∧ (∀ a ∈ A ++ B, Dj a.F c1.F ∧ Dj a.F c2.F) ∧ (A ++ B).Pairwise fun c d => Dj c.F d.F := by
  obtain ⟨p1, p2, p3⟩ := List.pairwise_append.1 t.l0.two
  obtain ⟨p4, p5⟩ := List.pairwise_cons.1 p2
  obtain ⟨p6, p7⟩ := List.pairwise_cons.1 p5
  refine ⟨p4 c2 (by simp), fun a ha => ?_, List.pairwise_append.2 ⟨p1, p7, fun a ha b hb => p3 a ha b (by simp [hb])⟩⟩
  rcases List.mem_append.1 ha with ha | ha
  · exact ⟨p3 a ha c1 (by simp), p3 a ha c2 (by simp)⟩
  · exact ⟨(p4 a (by simp [ha])).symm, (p6 a ha).symm⟩
theorem Two.init (t : Two E iso mn mx h w b bc cnt ks A B c1 c2 F0 F3 K0 K3 F1 F4 K1 K4 k1 ch1 p1 g1 F2 F5 K2 K5 k2 ch2 p2 g2) :
    Ss w (six F0 F1 F2 F3 F4 F5) w [ndO E iso 1 b cnt ks (ptr bc), ndO E iso 0 c1.b (c1.xs.length : Nat) k1 ch1, ndO E iso 0 c2.b (c2.xs.length : Nat) k2 ch2, kdO (ptr bc) ((A ++ c1 :: c2 :: B).map fun g => some g.b), kdO ch1 p1, kdO ch2 p2] := by
  obtain ⟨a1, -, -⟩ := t.apart
  have s1 : ∀ y o, F1 y o → c1.F y o := fun y o g => (t.f1 y o).2 (.inl g)
  have s4 : ∀ y o, F4 y o → c1.F y o := fun y o g => (t.f1 y o).2 (.inr (.inl g))
  have s2 : ∀ y o, F2 y o → c2.F y o := fun y o g => (t.f2 y o).2 (.inl g)
  have s5 : ∀ y o, F5 y o → c2.F y o := fun y o g => (t.f2 y o).2 (.inr (.inl g))
  have m1 : c1 ∈ A ++ c1 :: c2 :: B := by simp
  have m2 : c2 ∈ A ++ c1 :: c2 :: B := by simp
  have d01 : Dj F0 F1 := fun y o g k => t.l0.g1 c1 m1 y o (s1 y o k) g
  have d02 : Dj F0 F2 := fun y o g k => t.l0.g1 c2 m2 y o (s2 y o k) g
  have d04 : Dj F0 F4 := fun y o g k => t.l0.g1 c1 m1 y o (s4 y o k) g
  have d05 : Dj F0 F5 := fun y o g k => t.l0.g1 c2 m2 y o (s5 y o k) g
  have d31 : Dj F3 F1 := fun y o g k => t.l0.g4 c1 m1 y o (s1 y o k) g
  have d32 : Dj F3 F2 := fun y o g k => t.l0.g4 c2 m2 y o (s2 y o k) g
  have d34 : Dj F3 F4 := fun y o g k => t.l0.g4 c1 m1 y o (s4 y o k) g
  have d35 : Dj F3 F5 := fun y o g k => t.l0.g4 c2 m2 y o (s5 y o k) g
  have d12 : Dj F1 F2 := fun y o g k => a1 y o (s1 y o g) (s2 y o k)
  have d15 : Dj F1 F5 := fun y o g k => a1 y o (s1 y o g) (s5 y o k)
  have d42 : Dj F4 F2 := fun y o g k => a1 y o (s4 y o g) (s2 y o k)
  have d45 : Dj F4 F5 := fun y o g k => a1 y o (s4 y o g) (s5 y o k)
  refine ⟨fun | 0 => F0 | 1 => F1 | 2 => F2 | 3 => F3 | 4 => F4 | _ => F5, fun | 0 => K0 | 1 => K1 | 2 => K2 | 3 => K3 | 4 => K4 | _ => K5, ⟨fun i C hi => ?_, fun i j hi hj hij => ?_, fun i hi y o g => .inl ?_, fun i hi => ?_, Ext.refl _ _⟩⟩
  · match i, hi with
    | 0, hi => cases hi; exact t.n0
    | 1, hi => cases hi; exact t.n1
    | 2, hi => cases hi; exact t.n2
    | 3, hi => cases hi; exact t.n3
    | 4, hi => cases hi; exact t.n4
    | 5, hi => cases hi; exact t.n5
    | n + 6, hi => simp at hi
  · show Dj _ _
    match i, j, hi, hj, hij with
    | 0, 0, _, _, h => exact (h rfl).elim
    | 0, 1, _, _, _ => exact d01
    | 0, 2, _, _, _ => exact d02
    | 0, 3, _, _, _ => exact t.l0.d
    | 0, 4, _, _, _ => exact d04
    | 0, 5, _, _, _ => exact d05
    | 1, 0, _, _, _ => exact d01.symm
    | 1, 1, _, _, h => exact (h rfl).elim
    | 1, 2, _, _, _ => exact d12
    | 1, 3, _, _, _ => exact d31.symm
    | 1, 4, _, _, _ => exact t.l1.d
    | 1, 5, _, _, _ => exact d15
    | 2, 0, _, _, _ => exact d02.symm
    | 2, 1, _, _, _ => exact d12.symm
    | 2, 2, _, _, h => exact (h rfl).elim
    | 2, 3, _, _, _ => exact d32.symm
    | 2, 4, _, _, _ => exact d42.symm
    | 2, 5, _, _, _ => exact t.l2.d
    | 3, 0, _, _, _ => exact t.l0.d.symm
    | 3, 1, _, _, _ => exact d31
    | 3, 2, _, _, _ => exact d32
    | 3, 3, _, _, h => exact (h rfl).elim
    | 3, 4, _, _, _ => exact d34
    | 3, 5, _, _, _ => exact d35
    | 4, 0, _, _, _ => exact d04.symm
    | 4, 1, _, _, _ => exact t.l1.d.symm
    | 4, 2, _, _, _ => exact d42
    | 4, 3, _, _, _ => exact d34.symm
    | 4, 4, _, _, h => exact (h rfl).elim
    | 4, 5, _, _, _ => exact d45
    | 5, 0, _, _, _ => exact d05.symm
    | 5, 1, _, _, _ => exact d15.symm
    | 5, 2, _, _, _ => exact t.l2.d.symm
    | 5, 3, _, _, _ => exact d35.symm
    | 5, 4, _, _, _ => exact d45.symm
    | 5, 5, _, _, h => exact (h rfl).elim
    | n + 6, _, hi, _, _ => exact absurd hi (by simp)
    | _, n + 6, _, hj, _ => exact absurd hj (by simp)
  · match i, hi, g with
    | 0, _, g => exact .inl g
    | 1, _, g => exact .inr (.inl g)
    | 2, _, g => exact .inr (.inr (.inl g))
    | 3, _, g => exact .inr (.inr (.inr (.inl g)))
    | 4, _, g => exact .inr (.inr (.inr (.inr (.inl g))))
    | 5, _, g => exact .inr (.inr (.inr (.inr (.inr g))))
    | n + 6, hi, _ => exact absurd hi (by simp)
  · match i, hi with
    | 0, _ => exact t.l0.r
    | 1, _ => exact t.l1.r
    | 2, _ => exact t.l2.r
    | n + 3, hi => exact absurd hi (by simp)
/-- The other children and the grandchildren lie apart from all that is written. -/
theorem Two.far (t : Two E iso mn mx h w b bc cnt ks A B c1 c2 F0 F3 K0 K3 F1 F4 K1 K4 k1 ch1 p1 g1 F2 F5 K2 K5 k2 ch2 p2 g2) :
    (∀ c ∈ A ++ B, Dj c.F (six F0 F1 F2 F3 F4 F5)) ∧ (∀ c ∈ g1 ++ g2, Dj c.F (six F0 F1 F2 F3 F4 F5)) ∧ (g1 ++ g2).Pairwise (fun c d => Dj c.F d.F) ∧ ∀ a ∈ A ++ B, ∀ c ∈ g1 ++ g2, Dj a.F c.F := by
  obtain ⟨a1, a2, -⟩ := t.apart
  have s1 : ∀ y o, F1 y o → c1.F y o := fun y o g => (t.f1 y o).2 (.inl g)
  have s4 : ∀ y o, F4 y o → c1.F y o := fun y o g => (t.f1 y o).2 (.inr (.inl g))
  have s2 : ∀ y o, F2 y o → c2.F y o := fun y o g => (t.f2 y o).2 (.inl g)
  have s5 : ∀ y o, F5 y o → c2.F y o := fun y o g => (t.f2 y o).2 (.inr (.inl g))
  have m1 : c1 ∈ A ++ c1 :: c2 :: B := by simp
  have m2 : c2 ∈ A ++ c1 :: c2 :: B := by simp
  have e1 : ∀ c ∈ g1, ∀ y o, c.F y o → c1.F y o := fun c hc y o g => (t.f1 y o).2 (.inr (.inr ⟨c, hc, g⟩))
  have e2 : ∀ c ∈ g2, ∀ y o, c.F y o → c2.F y o := fun c hc y o g => (t.f2 y o).2 (.inr (.inr ⟨c, hc, g⟩))
  refine ⟨fun c hc y o g k => ?_, fun c hc y o g k => ?_, List.pairwise_append.2 ⟨t.l1.two, t.l2.two, fun c hc d hd y o g k => a1 y o (e1 c hc y o g) (e2 d hd y o k)⟩, fun a ha c hc y o g k => ?_⟩
  · have hm : c ∈ A ++ c1 :: c2 :: B := by
      rcases List.mem_append.1 hc with h | h
      · simp [h]
      · simp [h]
    obtain ⟨a3, a4⟩ := a2 c hc
    rcases k with k | k | k | k | k | k
    · exact t.l0.g1 c hm y o g k
    · exact a3 y o g (s1 y o k)
    · exact a4 y o g (s2 y o k)
    · exact t.l0.g4 c hm y o g k
    · exact a3 y o g (s4 y o k)
    · exact a4 y o g (s5 y o k)
  · rcases List.mem_append.1 hc with hc | hc
    · have gc := e1 c hc y o g
      rcases k with k | k | k | k | k | k
      · exact t.l0.g1 c1 m1 y o gc k
      · exact t.l1.g1 c hc y o g k
      · exact a1 y o gc (s2 y o k)
      · exact t.l0.g4 c1 m1 y o gc k
      · exact t.l1.g4 c hc y o g k
      · exact a1 y o gc (s5 y o k)
    · have gc := e2 c hc y o g
      rcases k with k | k | k | k | k | k
      · exact t.l0.g1 c2 m2 y o gc k
      · exact a1 y o (s1 y o k) gc
      · exact t.l2.g1 c hc y o g k
      · exact t.l0.g4 c2 m2 y o gc k
      · exact a1 y o (s4 y o k) gc
      · exact t.l2.g4 c hc y o g k
  · obtain ⟨a3, a4⟩ := a2 a ha
    rcases List.mem_append.1 hc with hc | hc
    · exact a3 y o g (e1 c hc y o k)
    · exact a4 y o g (e2 c hc y o k)
/-- One of the two, as it stands behind the run. -/
theorem Two.kid (t : Two E iso mn mx h w b bc cnt ks A B c1 c2 F0 F3 K0 K3 F1 F4 K1 K4 k1 ch1 p1 g1 F2 F5 K2 K5 k2 ch2 p2 g2) {w' : World} {P : List Ob} {F' : Nat → Nat → Nat → Prop} {K' : Nat → Nat}
    (s : St w (six F0 F1 F2 F3 F4 F5) w' P F' K') (i : Nat) {cb : Nat} {cnt' : Int} {ks' xs' : List α} {ch : Value} {ps : List (Option Nat)} {gs : List (Kid α)} (hi : P[i]? = some (ndO E iso 0 cb cnt' ks' ch)) (hj : P[i + 3]? = some (kdO ch ps))
    (q : Kin E iso mn mx h w ch ps ks' xs' gs) (hs : gs.Sublist (g1 ++ g2)) (h1 : mn ≤ ks'.length) (h2 : ks'.length ≤ mx) (h0 : 1 ≤ mn) (hc : cnt' = (xs'.length : Nat)) :
    Tr E iso mn mx h w' mn cb xs' fun y o => F' i y o ∨ F' (i + 3) y o ∨ kinF gs y o := by
  obtain ⟨-, f2, f3, -⟩ := t.far
  have hil := (List.getElem?_eq_some_iff.1 hi).1
  have hjl := (List.getElem?_eq_some_iff.1 hj).1
  have ha : ∀ c ∈ gs, ∀ n, n < P.length → Dj c.F (F' n) := fun c hc n hn y o g k => by
    rcases s.s n hn y o k with k | k
    · exact f2 c (hs.subset hc) y o g k
    · have := q.lt c hc y o g; omega
  exact Tr.join (s.o i _ hi) (s.o (i + 3) _ hj) (q.ext s.x fun c hc => f2 c (hs.subset hc)) h1 h2 (.inl (by omega)) ⟨s.d i (i + 3) hil hjl (by omega), fun c hc => ha c hc i hil, fun c hc => ha c hc (i + 3) hjl, f3.sublist hs, s.r i hjl⟩ hc
/-- The node with new children in the two's place. -/
theorem Two.close (t : Two E iso mn mx h w b bc cnt ks A B c1 c2 F0 F3 K0 K3 F1 F4 K1 K4 k1 ch1 p1 g1 F2 F5 K2 K5 k2 ch2 p2 g2) {w' : World} {P : List Ob} {F' : Nat → Nat → Nat → Prop} {K' : Nat → Nat}
    (s : St w (six F0 F1 F2 F3 F4 F5) w' P F' K') (hP : P.length = 6) (new : List (Kid α)) {ks' : List α} {lo : Nat} (h0 : P[0]? = some (ndO E iso 1 b cnt ks' (ptr bc))) (h3 : P[3]? = some (kdO (ptr bc) ((A ++ (new ++ B)).map fun g => some g.b)))
    (hl : (A ++ (new ++ B)).length = ks'.length + 1) (hT : ∀ n ∈ new, Tr E iso mn mx h w' mn n.b n.xs n.F) (hF : ∀ n ∈ new, ∀ y o, n.F y o → (∃ i, (i = 1 ∨ i = 2 ∨ i = 4 ∨ i = 5) ∧ F' i y o) ∨ kinF (g1 ++ g2) y o)
    (h2 : new.Pairwise fun c d => Dj c.F d.F) (hlo : lo ≤ ks'.length) (hmx : ks'.length ≤ mx) (hc : cnt = ((weave ((A ++ (new ++ B)).map Kid.xs) ks').length : Nat)) :
    ∃ F'', Tr E iso mn mx (h + 1) w' lo b (weave ((A ++ (new ++ B)).map Kid.xs) ks') F'' ∧ ∀ y o, F'' y o → (F0 y o ∨ F3 y o ∨ kinF (A ++ c1 :: c2 :: B) y o) ∨ w.heap.size ≤ y := by
  obtain ⟨f1, f2, f3, f4⟩ := t.far
  obtain ⟨-, -, a3⟩ := t.apart
  have hlt : ∀ c ∈ A ++ B, ∀ y o, c.F y o → y < w.heap.size := fun c hc => (t.rest c hc).lt
  have glt : ∀ c ∈ g1 ++ g2, ∀ y o, c.F y o → y < w.heap.size := fun c hc => by
    rcases List.mem_append.1 hc with hc | hc
    · exact t.q1.lt c hc
    · exact t.q2.lt c hc
  have oldF : ∀ c ∈ A ++ B, ∀ n, n < 6 → Dj c.F (F' n) := fun c hc n hn y o g k => by
    rcases s.s n (by omega) y o k with k | k
    · exact f1 c hc y o g k
    · have := hlt c hc y o g; omega
  have gF : ∀ n, n < 6 → Dj (kinF (g1 ++ g2)) (F' n) := fun n hn y o g k => by
    obtain ⟨c, hc, g⟩ := g
    rcases s.s n (by omega) y o k with k | k
    · exact f2 c hc y o g k
    · have := glt c hc y o g; omega
  have newF : ∀ c ∈ new, ∀ n, n = 0 ∨ n = 3 → Dj c.F (F' n) := fun c hc n hn y o g k => by
    rcases hF c hc y o g with ⟨i, hi, g⟩ | g
    · exact s.d i n (by omega) (by omega) (by omega) y o g k
    · exact gF n (by omega) y o g k
  have oldN : ∀ a ∈ A ++ B, ∀ c ∈ new, Dj a.F c.F := fun a ha c hc y o g k => by
    rcases hF c hc y o k with ⟨i, hi, k⟩ | ⟨e, he, k⟩
    · exact oldF a ha i (by omega) y o g k
    · exact f4 a ha e he y o g k
  have hmem : ∀ c ∈ A ++ (new ++ B), c ∈ A ++ B ∨ c ∈ new := fun c hc => by
    rcases List.mem_append.1 hc with h | h
    · exact .inl (by simp [h])
    · rcases List.mem_append.1 h with h | h
      · exact .inr h
      · exact .inl (by simp [h])
  obtain ⟨p1, p2, p3⟩ := List.pairwise_append.1 a3
  refine ⟨_, Tr.join (s.o 0 _ h0) (s.o 3 _ h3) (.inr ⟨h, rfl, ⟨bc, rfl⟩, rfl, hl, rfl, fun c hc => ?_⟩) hlo hmx (.inr (Nat.le_refl _)) ⟨s.d 0 3 (by omega) (by omega) (by decide), fun c hc => ?_, fun c hc => ?_, ?_, s.r 0 (by omega)⟩ hc, fun y o g => ?_⟩
  · rcases hmem c hc with h | h
    · exact (t.rest c h).ext s.x (f1 c h)
    · exact hT c h
  · rcases hmem c hc with h | h
    · exact oldF c h 0 (by decide)
    · exact newF c h 0 (.inl rfl)
  · rcases hmem c hc with h | h
    · exact oldF c h 3 (by decide)
    · exact newF c h 3 (.inr rfl)
  · refine List.pairwise_append.2 ⟨p1, List.pairwise_append.2 ⟨h2, p2, fun c hc d hd => (oldN d (by simp [hd]) c hc).symm⟩, fun c hc d hd => ?_⟩
    rcases List.mem_append.1 hd with hd | hd
    · exact oldN c (by simp [hc]) d hd
    · exact p3 c hc d hd
  · have six_sub : ∀ y o, six F0 F1 F2 F3 F4 F5 y o → F0 y o ∨ F3 y o ∨ kinF (A ++ c1 :: c2 :: B) y o := fun y o g => by
      rcases g with g | g | g | g | g | g
      · exact .inl g
      · exact .inr (.inr ⟨c1, by simp, (t.f1 y o).2 (.inl g)⟩)
      · exact .inr (.inr ⟨c2, by simp, (t.f2 y o).2 (.inl g)⟩)
      · exact .inr (.inl g)
      · exact .inr (.inr ⟨c1, by simp, (t.f1 y o).2 (.inr (.inl g))⟩)
      · exact .inr (.inr ⟨c2, by simp, (t.f2 y o).2 (.inr (.inl g))⟩)
    have put : ∀ n, n < 6 → F' n y o → (F0 y o ∨ F3 y o ∨ kinF (A ++ c1 :: c2 :: B) y o) ∨ w.heap.size ≤ y := fun n hn g => (s.s n (by omega) y o g).imp (six_sub y o) id
    rcases g with g | g | ⟨c, hc, g⟩
    · exact put 0 (by decide) g
    · exact put 3 (by decide) g
    · rcases hmem c hc with hm | hm
      · refine .inl (.inr (.inr ⟨c, ?_, g⟩))
        rcases List.mem_append.1 hm with h | h
        · simp [h]
        · simp [h]
      · rcases hF c hm y o g with ⟨i, hi, g⟩ | ⟨e, he, g⟩
        · exact put i (by omega) g
        · rcases List.mem_append.1 he with he | he
          · exact .inl (.inr (.inr ⟨c1, by simp, (t.f1 y o).2 (.inr (.inr ⟨e, he, g⟩))⟩))
          · exact .inl (.inr (.inr ⟨c2, by simp, (t.f2 y o).2 (.inr (.inr ⟨e, he, g⟩))⟩))
theorem Two.six (t : Two E iso mn mx h w b bc cnt ks A B c1 c2 F0 F3 K0 K3 F1 F4 K1 K4 k1 ch1 p1 g1 F2 F5 K2 K5 k2 ch2 p2 g2) {y o : Nat} (g : Go.Proofs.Ytinpigpeoakeaaa.six F0 F1 F2 F3 F4 F5 y o) : F0 y o ∨ F3 y o ∨ kinF (A ++ c1 :: c2 :: B) y o := by
  rcases g with g | g | g | g | g | g
  · exact .inl g
  · exact .inr (.inr ⟨c1, by simp, (t.f1 y o).2 (.inl g)⟩)
  · exact .inr (.inr ⟨c2, by simp, (t.f2 y o).2 (.inl g)⟩)
  · exact .inr (.inl g)
  · exact .inr (.inr ⟨c1, by simp, (t.f1 y o).2 (.inr (.inl g))⟩)
  · exact .inr (.inr ⟨c2, by simp, (t.f2 y o).2 (.inr (.inl g))⟩)
theorem Two.ch (t : Two E iso mn mx h w b bc cnt ks A B c1 c2 F0 F3 K0 K3 F1 F4 K1 K4 k1 ch1 p1 g1 F2 F5 K2 K5 k2 ch2 p2 g2) :
    (ch1 = .pointer none ∧ ch2 = .pointer none ∧ p1 = [] ∧ p2 = []) ∨ ∃ lc rc, ch1 = ptr lc ∧ ch2 = ptr rc ∧ p1.length = k1.length + 1 ∧ p2.length = k2.length + 1 := by
  rcases t.q1 with ⟨h0, ha, hp, _⟩ | ⟨h', h1, ⟨lc, ha⟩, hp, hg, _⟩
  · rcases t.q2 with ⟨_, hb, hq, _⟩ | ⟨h', h1, _⟩
    · exact .inl ⟨ha, hb, hp, hq⟩
    · omega
  · rcases t.q2 with ⟨h0, _⟩ | ⟨_, _, ⟨rc, hb⟩, hq, hg2, _⟩
    · omega
    · exact .inr ⟨lc, rc, ha, hb, by rw [hp, List.length_map]; exact hg, by rw [hq, List.length_map]; exact hg2⟩
end
/-- A node one of whose children may have one key less than it ought to. -/
structure Shr (E : Enc α) (iso : Int) (mn mx h : Nat) (w : World) (b bc : Nat) (cnt : Int) (ks : List α) (A : List (Kid α)) (c : Kid α) (B : List (Kid α)) (F0 F3 : Nat → Nat → Prop) (K0 K3 : Nat) : Prop where
  n0 : (ndO E iso 1 b cnt ks (ptr bc)).p w F0 K0
  n3 : (kdO (ptr bc) ((A ++ c :: B).map fun g => some g.b)).p w F3 K3
  l0 : Lay F0 F3 K0 K3 (A ++ c :: B)
  t : Tr E iso mn mx h w (mn - 1) c.b c.xs c.F
  rest : ∀ a ∈ A ++ B, Tr E iso mn mx h w mn a.b a.xs a.F
theorem Tr.keys {w : World} {h lo b : Nat} {xs : List α} {F : Nat → Nat → Prop} (t : Tr E iso mn mx h w lo b xs F) :
    ∃ a n cap, rd w b 2 = some (.slice (some a) n cap) ∧ lo ≤ n ∧ n ≤ mx ∧ ∀ lo', lo' ≤ n → Tr E iso mn mx h w lo' b xs F := by
  cases h with
  | zero =>
    obtain ⟨bi, oi, cap, ho, h1, h2, hF⟩ := t
    exact ⟨_, _, _, ho.h2, h1, h2, fun lo' hl => ⟨bi, oi, cap, ho, hl, h2, hF⟩⟩
  | succ h =>
    obtain ⟨bi, oi, cap, bc, ba, oa, capc, ks, cs, ho, hk, h1, h2, h3⟩ := t
    exact ⟨_, _, _, ho.h2, h1, h2, fun lo' hl => ⟨bi, oi, cap, bc, ba, oa, capc, ks, cs, ho, hk, hl, h2, h3⟩⟩
theorem Shr.fine {h : Nat} {w : World} {b bc : Nat} {cnt : Int} {ks : List α} {A B : List (Kid α)} {c : Kid α} {F0 F3 : Nat → Nat → Prop} {K0 K3 lo : Nat} (s : Shr E iso mn mx h w b bc cnt ks A c B F0 F3 K0 K3) (hl : (A ++ c :: B).length = ks.length + 1)
    (hc : Tr E iso mn mx h w mn c.b c.xs c.F) (hlo : lo ≤ ks.length) (hmx : ks.length ≤ mx) (hcnt : cnt = ((weave ((A ++ c :: B).map Kid.xs) ks).length : Nat)) :
    Tr E iso mn mx (h + 1) w lo b (weave ((A ++ c :: B).map Kid.xs) ks) fun y o => F0 y o ∨ F3 y o ∨ kinF (A ++ c :: B) y o :=
  Tr.join s.n0 s.n3 (.inr ⟨h, rfl, ⟨bc, rfl⟩, rfl, hl, rfl, fun a ha => by
    rcases List.mem_append.1 ha with ha | ha
    · exact s.rest a (by simp [ha])
    · rcases List.mem_cons.1 ha with rfl | ha
      · exact hc
      · exact s.rest a (by simp [ha])⟩) hlo hmx (.inr (Nat.le_refl _)) s.l0 hcnt
theorem Shr.ext0 {h : Nat} {w w' : World} {b bc : Nat} {cnt : Int} {ks : List α} {A B : List (Kid α)} {c : Kid α} {F0 F3 : Nat → Nat → Prop} {K0 K3 : Nat} (s : Shr E iso mn mx h w b bc cnt ks A c B F0 F3 K0 K3) (x : Ext noF w w') : Shr E iso mn mx h w' b bc cnt ks A c B F0 F3 K0 K3 :=
  ⟨(ndO _ _ _ _ _ _ _).loc s.n0 x fun _ _ _ g => g, (kdO _ _).loc s.n3 x fun _ _ _ g => g, s.l0, s.t.ext x fun _ _ _ g => g, fun a ha => (s.rest a ha).ext x fun _ _ _ g => g⟩
/-- An inner node one of whose children was changed. -/
theorem Inn.shr {h : Nat} {w w' : World} {b : Nat} {xs : List α} {F : Nat → Nat → Prop} {bi oi cap : Nat} {cnt : Int} {ks : List α} {bc ba oa capc : Nat} {cs : List (Kid α)} (o : Own E w b iso cnt bi oi cap ks (ptr bc))
    (n : Inn E iso mn mx h w b xs F bi oi cap ks bc ba oa capc cs) (hk : 1 ≤ ks.length) {i : Nat} {c : Kid α} (hc : cs[i]? = some c) {G : Nat → Nat → Prop} (x : Ext G w w') (hG : ∀ y o, F y o → G y o → c.F y o) {zs : List α} {F' : Nat → Nat → Prop}
    (t : Tr E iso mn mx h w' (mn - 1) c.b zs F') (hF' : ∀ y o, F' y o → c.F y o ∨ w.heap.size ≤ y) :
    Shr E iso mn mx h w' b bc cnt ks (cs.take i) ⟨c.b, zs, F'⟩ (cs.drop (i + 1)) (ownF E b bi oi cap) (kidF bc ba oa capc) bi ba := by
  have hcm := List.mem_of_getElem? hc
  have hi := (List.getElem?_eq_some_iff.1 hc).1
  have hbl := wok_lt o.wb
  have hbil := wok_lt o.wi
  have hbcl := wok_lt n.kids.wc
  have hbal := wok_lt n.kids.wa
  have ap := n.ap.swap (new := [⟨c.b, zs, F'⟩]) (B := w.heap.size) hc (fun d hd y o g => by
    obtain rfl := List.mem_singleton.1 hd
    exact hF' y o g) (List.pairwise_singleton _ _) (fun d hd y o g => (n.sub d hd).lt y o g) hbl hbil hbcl hbal
  have hcs : cs = cs.take i ++ c :: cs.drop (i + 1) := by
    have h3 := List.getElem?_eq_some_iff.1 hc
    have := List.take_append_drop i cs
    rw [List.drop_eq_getElem_cons h3.1, h3.2] at this
    exact this.symm
  have hold : ∀ a ∈ cs.take i ++ cs.drop (i + 1), a ∈ cs ∧ Dj a.F c.F := fun a ha => by
    have h2 := n.ap.two
    rw [hcs] at h2
    obtain ⟨p1, p2, p3⟩ := List.pairwise_append.1 h2
    obtain ⟨p4, p5⟩ := List.pairwise_cons.1 p2
    rcases List.mem_append.1 ha with ha | ha
    · exact ⟨List.mem_of_mem_take ha, p3 a ha c (by simp)⟩
    · exact ⟨List.mem_of_mem_drop ha, fun y o g k => p4 a ha y o k g⟩
  have hown : ∀ y o, ownF E b bi oi cap y o → ¬ G y o := fun y o g k => n.ap.own c hcm y o (hG y o ((n.fp y o).2 (.inl g)) k) g
  have hkid : ∀ y o, kidF bc ba oa capc y o → ¬ G y o := fun y o g k => n.ap.kid c hcm y o (hG y o ((n.fp y o).2 (.inr (.inl g))) k) g
  refine ⟨⟨bi, oi, cap, o.ext x hown, by have := o.le; omega, rfl, fun _ _ => Iff.rfl⟩, .inr ⟨bc, ba, oa, capc, rfl, ?_, rfl, fun _ _ => Iff.rfl⟩, ⟨fun y o g k => ?_, ap.own, ap.kid, ap.two, ap.ia⟩, t, fun a ha => ?_⟩
  · have hm : ((cs.take i ++ ⟨c.b, zs, F'⟩ :: cs.drop (i + 1)).map fun g => some g.b) = (cs.map Kid.b).map some := by
      conv => rhs; rw [hcs]
      simp
      rfl
    rw [hm]
    exact (n.kids.ext x hkid).se
  · have := ap.cb; have := ap.ab; have := ap.ic; have := ap.ia
    simp only [ownF, kidF, rng] at g k
    omega
  · obtain ⟨h1, h2⟩ := hold a ha
    exact (n.sub a h1).ext x fun y o g k => h2 y o g (hG y o ((n.fp y o).2 (.inr (.inr ⟨a, h1, g⟩))) k)
theorem Inn.shr_fp {h : Nat} {w : World} {b : Nat} {xs : List α} {F : Nat → Nat → Prop} {bi oi cap : Nat} {ks : List α} {bc ba oa capc : Nat} {cs : List (Kid α)}
    (n : Inn E iso mn mx h w b xs F bi oi cap ks bc ba oa capc cs) {i : Nat} {c : Kid α} (hc : cs[i]? = some c) {zs : List α} {F' : Nat → Nat → Prop} (hF' : ∀ y o, F' y o → c.F y o ∨ w.heap.size ≤ y) (y o : Nat)
    (g : ownF E b bi oi cap y o ∨ kidF bc ba oa capc y o ∨ kinF (cs.take i ++ ⟨c.b, zs, F'⟩ :: cs.drop (i + 1)) y o) : F y o ∨ w.heap.size ≤ y := by
  rcases g with g | g | ⟨a, ha, g⟩
  · exact .inl ((n.fp y o).2 (.inl g))
  · exact .inl ((n.fp y o).2 (.inr (.inl g)))
  · rcases List.mem_append.1 ha with ha | ha
    · exact .inl ((n.fp y o).2 (.inr (.inr ⟨a, List.mem_of_mem_take ha, g⟩)))
    · rcases List.mem_cons.1 ha with rfl | ha
      · exact (hF' y o g).imp (fun g => (n.fp y o).2 (.inr (.inr ⟨c, List.mem_of_getElem? hc, g⟩))) id
      · exact .inl ((n.fp y o).2 (.inr (.inr ⟨a, List.mem_of_mem_drop ha, g⟩)))
theorem shr_xs {cs : List (Kid α)} {i : Nat} {c : Kid α} (hc : cs[i]? = some c) {b : Nat} {zs : List α} {F' : Nat → Nat → Prop} : (cs.take i ++ ⟨b, zs, F'⟩ :: cs.drop (i + 1)).map Kid.xs = (cs.map Kid.xs).set i zs := by
  have hi := (List.getElem?_eq_some_iff.1 hc).1
  rw [List.set_eq_take_append_cons_drop, if_pos (by rw [List.length_map]; exact hi), List.map_append, List.map_cons, List.map_take, List.map_drop]
theorem shr_len {cs : List (Kid α)} {i : Nat} {c d : Kid α} (hc : cs[i]? = some c) : (cs.take i ++ d :: cs.drop (i + 1)).length = cs.length ∧ (cs.take i).length = i := by
  have hi := (List.getElem?_eq_some_iff.1 hc).1
  simp only [List.length_append, List.length_take, List.length_cons, List.length_drop]
  omega
end Go.Proofs.Ytinpigpeoakeaaa
/-
  nodeRebalance: what it leaves of the tree. No condition.
-/
set_option linter.unusedSimpArgs false
set_option linter.unusedVariables false
namespace Go.Proofs.Ytinpigpeoakeaaa
open Go Go.Proofs
theorem map_erase {α β : Type} (f : α → β) (l : List α) (i : Nat) : (l.map f).eraseIdx i = (l.eraseIdx i).map f := by
  rw [List.eraseIdx_eq_take_drop_succ, List.eraseIdx_eq_take_drop_succ, List.map_append, List.map_take, List.map_drop]
variable {h : Nat} {w : World} {b bc : Nat} {cnt : Int} {ks : List It} {A B : List (Kid It)} {c1 c2 : Kid It} {F0 F3 : Nat → Nat → Prop} {K0 K3 : Nat}
    {F1 F4 : Nat → Nat → Prop} {K1 K4 : Nat} {k1 : List It} {ch1 : Value} {p1 : List (Option Nat)} {g1 : List (Kid It)} {F2 F5 : Nat → Nat → Prop} {K2 K5 : Nat} {k2 : List It} {ch2 : Value} {p2 : List (Option Nat)} {g2 : List (Kid It)}
set_option maxHeartbeats 1000000 in
theorem reb_two (m d i0 : Nat) (iso : Int) (hd : 2 ≤ d) (hd' : d ≤ 128) (hc : Cfg w m iso d) (t : Two E iso (d - 1) (2 * d - 1) h w b bc cnt ks A B c1 c2 F0 F3 K0 K3 F1 F4 K1 K4 k1 ch1 p1 g1 F2 F5 K2 K5 k2 ch2 p2 g2)
    (hm : ∀ o, ¬ (F0 m o ∨ F3 m o ∨ kinF (A ++ c1 :: c2 :: B) m o)) (hlen : (A ++ c1 :: c2 :: B).length = ks.length + 1) (hj : (i0 = A.length ∧ A.length < ks.length) ∨ (i0 = ks.length ∧ A.length + 1 = ks.length)) (hks : ks.length ≤ 2 * d - 1)
    (hcnt : cnt = ((weave ((A ++ c1 :: c2 :: B).map Kid.xs) ks).length : Nat)) (hbig : (weave ((A ++ c1 :: c2 :: B).map Kid.xs) ks).length < 1152921504606846976) (h1 : d - 2 ≤ k1.length) (h2 : d - 2 ≤ k2.length) (h1' : k1.length ≤ 2 * d - 1) (h2' : k2.length ≤ 2 * d - 1)
    (hsh : k1.length < d - 1 ∨ k2.length < d - 1) :
    CallK Try.prog 72 #[ptr m, ptr b, .int .i64 (i0 : Nat)] w fun _ w' => ∃ F'', Tr E iso (d - 1) (2 * d - 1) (h + 1) w' (ks.length - 1) b (weave ((A ++ c1 :: c2 :: B).map Kid.xs) ks) F'' ∧
      Ext (fun y o => F0 y o ∨ F3 y o ∨ kinF (A ++ c1 :: c2 :: B) y o) w w' ∧ ∀ y o, F'' y o → (F0 y o ∨ F3 y o ∨ kinF (A ++ c1 :: c2 :: B) y o) ∨ w.heap.size ≤ y := by
  have hAk : A.length < ks.length := by omega
  obtain ⟨k, hk⟩ : ∃ k, ks[A.length]? = some k := ⟨_, List.getElem?_eq_getElem hAk⟩
  have s := t.init
  have hG : ∀ o, ¬ six F0 F1 F2 F3 F4 F5 m o := fun o g => hm o (t.six g)
  have hp : ((A ++ c1 :: c2 :: B).map fun g => some g.b)[A.length]? = some (some c1.b) := by simp
  have hq : ((A ++ c1 :: c2 :: B).map fun g => some g.b)[A.length + 1]? = some (some c2.b) := by simp
  have hps : ((A ++ c1 :: c2 :: B).map fun g => some g.b).length = ks.length + 1 := by rw [List.length_map]; exact hlen
  have hmap : (A ++ c1 :: c2 :: B).map Kid.xs = A.map Kid.xs ++ c1.xs :: c2.xs :: B.map Kid.xs := by simp
  have hk' : ks[(A.map Kid.xs).length]? = some k := by rw [List.length_map]; exact hk
  have hx1 : c1.xs.length < 1152921504606846976 ∧ c2.xs.length < 1152921504606846976 := by
    have e1 := weave_mem_length ((A ++ c1 :: c2 :: B).map Kid.xs) ks (by rw [List.length_map]; exact hlen) c1.xs (by simp)
    have e2 := weave_mem_length ((A ++ c1 :: c2 :: B).map Kid.xs) ks (by rw [List.length_map]; exact hlen) c2.xs (by simp)
    omega
  have hlA : (A ++ c1 :: c2 :: B).length = A.length + B.length + 2 := by simp; omega
  have far : ∀ {c : Kid It}, c ∈ g1 ++ g2 → (∀ o, c.F c.b o) → ∀ o, ¬ six F0 F1 F2 F3 F4 F5 c.b o := fun hc hs o g => t.far.2.1 _ hc _ o (hs o) g
  by_cases hlt : k1.length + k2.length < 2 * d - 1
  · refine CallK_mono (reb_merge m d b c1.b c2.b bc i0 A.length c1.xs.length c2.xs.length iso cnt ks k1 k2 k _ p1 p2 ch1 ch2 w w _ hd hd' hc hG s hj hks hk hps hp hq t.ch h1' h2' (by omega) (by omega) hlt) ?_
    rintro v w' hs
    have X := hs.x
    obtain ⟨F', K', s'⟩ := hs
    have q := t.q1.merge (k := k) t.q2
    have hw := weave_two (A.map Kid.xs) (B.map Kid.xs) c1.xs c2.xs ks k hk'
    rw [List.length_map] at hw
    have hle := List.length_eraseIdx_of_lt hAk
    have T := t.kid s' 1 rfl rfl q (List.Sublist.refl _) (by simp; omega) (by simp; omega) (by omega) (by simp <;> omega)
    have hpe : ((A ++ c1 :: c2 :: B).map fun g => some g.b).eraseIdx (A.length + 1) = (A ++ ([Kid.mk c1.b (c1.xs ++ k :: c2.xs) (fun y o => F' 1 y o ∨ F' 4 y o ∨ kinF (g1 ++ g2) y o)] ++ B)).map fun g => some g.b := by
      rw [map_erase, List.eraseIdx_append_of_length_le (by omega)]
      simp
    have hwe : (A ++ ([Kid.mk c1.b (c1.xs ++ k :: c2.xs) (fun y o => F' 1 y o ∨ F' 4 y o ∨ kinF (g1 ++ g2) y o)] ++ B)).map Kid.xs = A.map Kid.xs ++ (c1.xs ++ k :: c2.xs) :: B.map Kid.xs := by simp
    obtain ⟨F'', T', hF''⟩ := t.close s' rfl [Kid.mk c1.b (c1.xs ++ k :: c2.xs) (fun y o => F' 1 y o ∨ F' 4 y o ∨ kinF (g1 ++ g2) y o)] (ks' := ks.eraseIdx A.length) (lo := ks.length - 1) rfl (by rw [← hpe]; rfl)
      (by simp only [List.length_append, List.length_cons, List.length_nil]; omega) (fun n hn => by obtain rfl := List.mem_singleton.1 hn; exact T)
      (fun n hn y o g => by
        obtain rfl := List.mem_singleton.1 hn
        rcases g with g | g | g
        · exact .inl ⟨1, .inl rfl, g⟩
        · exact .inl ⟨4, by decide, g⟩
        · exact .inr g) (List.pairwise_singleton _ _) (by omega) (by omega) (by rw [hwe, ← hw, ← hmap]; exact hcnt)
    rw [hwe, ← hw, ← hmap] at T'
    exact ⟨F'', T', X.mono fun y o _ g => t.six g, hF''⟩
  · have two : ∀ {w' : World} {F' : Nat → Nat → Nat → Prop} {K' : Nat → Nat} {P : List Ob} {x : It} {x1' x2' l1 l2 : List It} {q1 q2 : List (Option Nat)} {gl gr : List (Kid It)} {n1 n2 : Int}, St w (six F0 F1 F2 F3 F4 F5) w' P F' K' →
        P = [ndO E iso 1 b cnt (ks.set A.length x) (ptr bc), ndO E iso 0 c1.b n1 l1 ch1, ndO E iso 0 c2.b n2 l2 ch2, kdO (ptr bc) ((A ++ c1 :: c2 :: B).map fun g => some g.b), kdO ch1 q1, kdO ch2 q2] →
        Kin E iso (d - 1) (2 * d - 1) h w ch1 q1 l1 x1' gl → Kin E iso (d - 1) (2 * d - 1) h w ch2 q2 l2 x2' gr → c1.xs ++ k :: c2.xs = x1' ++ x :: x2' → gl ++ gr = g1 ++ g2 → n1 = (x1'.length : Nat) → n2 = (x2'.length : Nat) →
        d - 1 ≤ l1.length → l1.length ≤ 2 * d - 1 → d - 1 ≤ l2.length → l2.length ≤ 2 * d - 1 →
        ∃ F'', Tr E iso (d - 1) (2 * d - 1) (h + 1) w' (ks.length - 1) b (weave ((A ++ c1 :: c2 :: B).map Kid.xs) ks) F'' ∧
          Ext (fun y o => F0 y o ∨ F3 y o ∨ kinF (A ++ c1 :: c2 :: B) y o) w w' ∧ ∀ y o, F'' y o → (F0 y o ∨ F3 y o ∨ kinF (A ++ c1 :: c2 :: B) y o) ∨ w.heap.size ≤ y := by
      intro w' F' K' P x x1' x2' l1 l2 q1 q2 gl gr n1 n2 s' hP Q1 Q2 hxx hgg hn1 hn2 hl1 hl1' hl2 hl2'
      subst hP
      have T1 := t.kid s' 1 rfl rfl Q1 (by rw [← hgg]; exact List.sublist_append_left _ _) hl1 hl1' (by omega) hn1
      have T2 := t.kid s' 2 rfl rfl Q2 (by rw [← hgg]; exact List.sublist_append_right _ _) hl2 hl2' (by omega) hn2
      have hw := weave_swap (A := A.map Kid.xs) (B := B.map Kid.xs) hk' hxx
      rw [List.length_map] at hw
      have hpe : (A ++ c1 :: c2 :: B).map (fun g => some g.b) = (A ++ ([Kid.mk c1.b x1' (fun y o => F' 1 y o ∨ F' 4 y o ∨ kinF gl y o), Kid.mk c2.b x2' (fun y o => F' 2 y o ∨ F' 5 y o ∨ kinF gr y o)] ++ B)).map fun g => some g.b := by simp
      have hwe : (A ++ ([Kid.mk c1.b x1' (fun y o => F' 1 y o ∨ F' 4 y o ∨ kinF gl y o), Kid.mk c2.b x2' (fun y o => F' 2 y o ∨ F' 5 y o ∨ kinF gr y o)] ++ B)).map Kid.xs = A.map Kid.xs ++ x1' :: x2' :: B.map Kid.xs := by simp
      obtain ⟨f1, f2, f3, f4⟩ := t.far
      have gF : ∀ c ∈ gl ++ gr, ∀ n, n < 6 → Dj c.F (F' n) := fun c hc n hn y o g k => by
        rw [hgg] at hc
        rcases s'.s n hn y o k with k | k
        · exact f2 c hc y o g k
        · have : y < w.heap.size := by
            rcases List.mem_append.1 hc with hc | hc
            · exact t.q1.lt c hc y o g
            · exact t.q2.lt c hc y o g
          omega
      have hd12 : Dj (fun y o => F' 1 y o ∨ F' 4 y o ∨ kinF gl y o) (fun y o => F' 2 y o ∨ F' 5 y o ∨ kinF gr y o) := by
        intro y o g k
        rcases g with g | g | ⟨c, hc, g⟩ <;> rcases k with k | k | ⟨e, he, k⟩
        · exact s'.d 1 2 (by simp) (by simp) (by decide) y o g k
        · exact s'.d 1 5 (by simp) (by simp) (by decide) y o g k
        · exact gF e (by simp [he]) 1 (by decide) y o k g
        · exact s'.d 4 2 (by simp) (by simp) (by decide) y o g k
        · exact s'.d 4 5 (by simp) (by simp) (by decide) y o g k
        · exact gF e (by simp [he]) 4 (by decide) y o k g
        · exact gF c (by simp [hc]) 2 (by decide) y o g k
        · exact gF c (by simp [hc]) 5 (by decide) y o g k
        · rw [← hgg] at f3
          exact (List.pairwise_append.1 f3).2.2 c hc e he y o g k
      have hls : (ks.set A.length x).length = ks.length := List.length_set
      obtain ⟨F'', T', hF''⟩ := t.close s' rfl [Kid.mk c1.b x1' (fun y o => F' 1 y o ∨ F' 4 y o ∨ kinF gl y o), Kid.mk c2.b x2' (fun y o => F' 2 y o ∨ F' 5 y o ∨ kinF gr y o)] (ks' := ks.set A.length x) (lo := ks.length - 1) rfl (by rw [← hpe]; rfl)
        (by simp only [List.length_append, List.length_cons, List.length_nil]; omega)
        (fun n hn => by
          rcases List.mem_cons.1 hn with rfl | hn
          · exact T1
          · obtain rfl := List.mem_singleton.1 hn; exact T2)
        (fun n hn y o g => by
          rcases List.mem_cons.1 hn with rfl | hn
          · rcases g with g | g | ⟨c, hc, g⟩
            · exact .inl ⟨1, by decide, g⟩
            · exact .inl ⟨4, by decide, g⟩
            · exact .inr ⟨c, by rw [← hgg]; simp [hc], g⟩
          · obtain rfl := List.mem_singleton.1 hn
            rcases g with g | g | ⟨c, hc, g⟩
            · exact .inl ⟨2, by decide, g⟩
            · exact .inl ⟨5, by decide, g⟩
            · exact .inr ⟨c, by rw [← hgg]; simp [hc], g⟩)
        (List.pairwise_pair.2 hd12) (by omega) (by omega) (by rw [hwe, ← hw, ← hmap]; exact hcnt)
      rw [hwe, ← hw, ← hmap] at T'
      exact ⟨F'', T', s'.x.mono fun y o _ g => t.six g, hF''⟩
    by_cases hgt : k2.length < k1.length
    · obtain ⟨ls, x, rfl⟩ : ∃ ls x, k1 = ls ++ [x] := ⟨k1.dropLast, k1.getLast (by intro h; rw [h] at hgt; simp at hgt), (List.dropLast_concat_getLast _).symm⟩
      obtain ⟨cg, x1', x2', gl, gr, Q1, Q2, hxx, hgg, e1, e2, e3, hg⟩ := t.q1.right (k := k) t.q2
      have hsx : x1'.length + 1 + x2'.length = c1.xs.length + 1 + c2.xs.length := by
        have := congrArg List.length hxx
        simp only [List.length_append, List.length_cons] at this
        omega
      refine CallK_mono (reb_right m d b c1.b c2.b bc i0 A.length c1.xs.length c2.xs.length iso cnt ks ls k2 k x _ p1 p2 ch1 ch2 w w _ hd hd' hc hG s hj hks hk hps hp hq t.ch h1' h2' (by omega) (by omega) (by omega) hgt cg e3 (by omega) ?_) ?_
      · rcases hg with hg | ⟨c, p', hp', hcm, hr, hself⟩
        · exact .inl hg
        · exact .inr ⟨c.b, p', hp', hr, far (by simp [hcm]) hself⟩
      · rintro v w' ⟨F', K', s'⟩
        rw [List.length_append, List.length_singleton] at h1 h1' hlt hgt hsh
        exact two s' rfl Q1 Q2 hxx hgg (by rw [e1]) (by rw [e2]) (by omega) (by omega) (by rw [List.length_cons]; omega) (by rw [List.length_cons]; omega)
    · obtain ⟨x, rs, rfl⟩ : ∃ x rs, k2 = x :: rs := by
        cases k2 with
        | nil => rw [List.length_nil] at hgt hlt; omega
        | cons x rs => exact ⟨x, rs, rfl⟩
      obtain ⟨cg, x1', x2', gl, gr, Q1, Q2, hxx, hgg, e1, e2, e3, hg⟩ := t.q1.left (k := k) t.q2
      have hsx : x1'.length + 1 + x2'.length = c1.xs.length + 1 + c2.xs.length := by
        have := congrArg List.length hxx
        simp only [List.length_append, List.length_cons] at this
        omega
      refine CallK_mono (reb_left m d b c1.b c2.b bc i0 A.length c1.xs.length c2.xs.length iso cnt ks k1 rs k x _ p1 p2 ch1 ch2 w w _ hd hd' hc hG s hj hks hk hps hp hq t.ch h1' h2' (by omega) (by omega) (by omega) (by omega) cg e3 (by omega) ?_) ?_
      · rcases hg with hg | ⟨c, p', hp', hcm, hr, hself⟩
        · exact .inl hg
        · exact .inr ⟨c.b, p', hp', hr, far (by simp [hcm]) hself⟩
      · rintro v w' ⟨F', K', s'⟩
        rw [List.length_cons] at h2 h2' hlt hgt hsh
        exact two s' rfl Q1 Q2 hxx hgg (by rw [e1]) (by rw [e2]) (by rw [List.length_append, List.length_singleton]; omega) (by rw [List.length_append, List.length_singleton]; omega) (by omega) (by omega)
theorem nd_len {w : World} {z b n cap : Nat} {cnt : Int} {k : List It} {ch : Value} {a : Option Addr} {F : Nat → Nat → Prop} {K : Nat} {iso : Int} (h : (ndO E iso z b cnt k ch).p w F K) (h2 : rd w b 2 = some (.slice a n cap)) : k.length = n := by
  obtain ⟨_, _, _, ho, _⟩ := h
  have := ho.h2.symm.trans h2
  simp only [Option.some.injEq, Value.slice.injEq] at this
  exact this.2.1
/-- A node with a child that is too short: what nodeRebalance leaves. -/
theorem reb_shr (m d : Nat) (iso : Int) (hd : 2 ≤ d) (hd' : d ≤ 128) (hc : Cfg w m iso d) {c : Kid It} (s : Shr E iso (d - 1) (2 * d - 1) h w b bc cnt ks A c B F0 F3 K0 K3) (hm : ∀ o, ¬ (F0 m o ∨ F3 m o ∨ kinF (A ++ c :: B) m o))
    (hlen : (A ++ c :: B).length = ks.length + 1) (hk0 : 1 ≤ ks.length) (hks : ks.length ≤ 2 * d - 1) (hcnt : cnt = ((weave ((A ++ c :: B).map Kid.xs) ks).length : Nat)) (hbig : (weave ((A ++ c :: B).map Kid.xs) ks).length < 1152921504606846976)
    {a : Option Addr} {n cap : Nat} (hr : rd w c.b 2 = some (.slice a n cap)) (hn : n < d - 1) :
    CallK Try.prog 72 #[ptr m, ptr b, .int .i64 (A.length : Nat)] w fun _ w' => ∃ F'', Tr E iso (d - 1) (2 * d - 1) (h + 1) w' (ks.length - 1) b (weave ((A ++ c :: B).map Kid.xs) ks) F'' ∧
      Ext (fun y o => F0 y o ∨ F3 y o ∨ kinF (A ++ c :: B) y o) w w' ∧ ∀ y o, F'' y o → (F0 y o ∨ F3 y o ∨ kinF (A ++ c :: B) y o) ∨ w.heap.size ≤ y := by
  obtain ⟨F1, F4, K1, K4, k1, ch1, p1, g1, n1, n4, q1, h1, h1', l1, f1⟩ := s.t.split
  have hk1 := nd_len n1 hr
  have hl : (A ++ c :: B).length = A.length + B.length + 1 := by simp; omega
  by_cases hA : A.length < ks.length
  · cases B with
    | nil => rw [List.length_nil] at hl; omega
    | cons c2 B =>
      obtain ⟨F2, F5, K2, K5, k2, ch2, p2, g2, n2, n5, q2, h2, h2', l2, f2⟩ := (s.rest c2 (by simp)).split
      have t : Two E iso (d - 1) (2 * d - 1) h w b bc cnt ks A B c c2 F0 F3 K0 K3 F1 F4 K1 K4 k1 ch1 p1 g1 F2 F5 K2 K5 k2 ch2 p2 g2 := ⟨s.n0, s.n3, s.l0, n1, n4, l1, f1, q1, n2, n5, l2, f2, q2, fun e he => s.rest e (by
        rcases List.mem_append.1 he with he | he
        · simp [he]
        · simp [he])⟩
      exact reb_two m d A.length iso hd hd' hc t hm hlen (.inl ⟨rfl, hA⟩) hks hcnt hbig (by omega) (by omega) h1' h2' (.inl (by omega))
  · obtain ⟨A, c0, rfl⟩ : ∃ A' c0, A = A' ++ [c0] := ⟨A.dropLast, A.getLast (by intro h; rw [h, List.length_nil] at hA; omega), (List.dropLast_concat_getLast _).symm⟩
    have hB : B = [] := List.eq_nil_of_length_eq_zero (by omega)
    subst hB
    obtain ⟨F2, F5, K2, K5, k2, ch2, p2, g2, n2, n5, q2, h2, h2', l2, f2⟩ := (s.rest c0 (by simp)).split
    have e : A ++ [c0] ++ [c] = A ++ c0 :: c :: [] := by simp
    obtain ⟨s1, s2, s3, s4, s5⟩ := s
    rw [List.length_append, List.length_singleton] at hl hA
    rw [e] at s2 s3 hm hlen hcnt hbig ⊢
    have t : Two E iso (d - 1) (2 * d - 1) h w b bc cnt ks A [] c0 c F0 F3 K0 K3 F2 F5 K2 K5 k2 ch2 p2 g2 F1 F4 K1 K4 k1 ch1 p1 g1 := ⟨s1, s2, s3, n2, n5, l2, f2, q2, n1, n4, l1, f1, q1, fun e he => s5 e (by
      simp at he; simp [he])⟩
    have hi : (A ++ [c0]).length = ks.length := by
      rw [List.length_append, List.length_singleton]
      simp only [List.length_append, List.length_cons, List.length_nil] at hlen
      omega
    exact reb_two m d (A ++ [c0]).length iso hd hd' hc t hm hlen (.inr ⟨hi, by rw [← hi]; simp⟩) hks hcnt hbig (by omega) (by omega) h2' h1' (.inr (by omega))
end Go.Proofs.Ytinpigpeoakeaaa
/-
  The map's search in a node, and its small functions. No condition.
-/
set_option linter.unusedSimpArgs false
set_option linter.unusedVariables false
namespace Go.Proofs.Ytinpigpeoakeaaa
open Go Go.Proofs
/-- What the search hands back. -/
def srch (ks : List It) (q : Rk) : Value := .tuple #[.int .i64 (lb O κ q ks : Nat), .bool (hit O κ q ks)]
set_option maxHeartbeats 40000 in
theorem search_any (t : Value) (b bi oi cap : Nat) (ks : List It) (q : Rk) (w : World) (h2 : rd w b 2 = some (.slice (some ⟨bi, oi, none⟩) ks.length cap)) (row : Row w bi oi (flat E ks))
    (hlen : ks.length < 4611686018427387904) (ha : Asc O κ ks) :
    CallK Try.prog 67 #[t, ptr b, kV q] w fun v w' => v = srch ks q ∧ RO w w' := by
  refine calls_of_W [.tmp 6, .tmp 7] Try.func67 rfl Try.ntmps67 Try.results67 (by simp) fun e he => ?_
  have h0 : e 1 = ptr b := he 1 _ rfl
  have h1 : e 2 = kV q := he 2 _ rfl
  clear he
  refine W_sq fun K hK => (W_text [true, true] (by kernel_rfl) ?_); simp only [↓List.toList_toArray, ↓rgd, ↓rgf, ↓reduceIte, Nat.reduceEqDiff, rg, ow_67]
  refine hK _ _ ?_; clear hK K
  refine W_sq fun K hK => (W_draw (some none) none [(0, 0, 0), (0, 1, 0), (0, 2, 0), (0, 3, 0), (0, 4, 0), (0, 5, 0), (0, 6, 0)] mixed (by kernel_rfl) ?_); simp only [↓List.toList_toArray, ↓rgd, ↓rgf, ↓reduceIte, Nat.reduceEqDiff, rg, ow_67, h0, ptr_eq, h2]
  refine hK _ _ ?_; clear hK K
  refine W_seq (W_block (W_loop (fun m e w' => RO w w' ∧ ∃ lo hi : Nat, m = hi - lo ∧ lo ≤ hi ∧ hi ≤ ks.length ∧ e 1 = ptr b ∧ e 2 = kV q ∧ e 8 = .int .i64 lo ∧ e 9 = .int .i64 hi ∧
    (∀ i x, i < lo → ks[i]? = some x → O.lt q (κ x) = false) ∧ (∀ i x, hi ≤ i → ks[i]? = some x → O.lt q (κ x) = true)) ks.length ⟨RO.dr _ _, 0, ks.length, by simp, by simp, by simp, ?_, ?_, ?_, ?_, ?_, ?_⟩ ?_))
  · simp only [upd_eq, Nat.reduceEqDiff, ↓reduceIte]; exact h0
  · simp only [upd_eq, Nat.reduceEqDiff, ↓reduceIte]; exact h1
  · simp only [upd_eq, Nat.reduceEqDiff, ↓reduceIte]; rfl
  · simp only [upd_eq, Nat.reduceEqDiff, ↓reduceIte]
  · intro i x hi; omega
  · intro i x hi hx; have := (List.getElem?_eq_some_iff.1 hx).1; omega
  · clear h0 h1 e
    rintro m e w' ⟨⟨nd, rfl⟩, lo, hi, rfl, hle, hhi, h0, h1, h8, h9, hlo, hup⟩
    refine W_seq ?_
    by_cases hlt : lo < hi
    · have ht := lt_tt lo hi hlt
      refine W_sq fun K hK => (W_text [true, true, true] (by kernel_rfl) ?_); simp only [↓List.toList_toArray, ↓rgd, ↓rgf, ↓reduceIte, Nat.reduceEqDiff, rg, ow_67, h8, h9, ht]
      refine hK _ _ ?_; clear hK K
      refine W_true (by simp only [evt, upd_eq, Nat.reduceEqDiff, ↓reduceIte, ntT, ntF]) (W_skip ?_)
      have e1 := wadd lo hi (by omega)
      have e2 := wdiv2 (lo + hi) (by omega)
      refine W_block ?_
      refine W_sq fun K hK => (W_text [true, true, true, true, true] (by kernel_rfl) ?_); simp only [↓List.toList_toArray, ↓rgd, ↓rgf, ↓reduceIte, Nat.reduceEqDiff, rg, ow_67, h8, h9, e1, e2]
      refine hK _ _ ?_; clear hK K
      obtain ⟨x, hx⟩ : ∃ x, ks[(lo + hi) / 2]? = some x := ⟨_, List.getElem?_eq_getElem (by omega)⟩
      have hk := key_at row hx
      have hi1 : (lo + hi) / 2 < ks.length := by omega
      refine W_sq fun K hK => (W_text [true, true, true, true, true, true, true, true, true, true, true] (by kernel_rfl) ?_); simp only [↓List.toList_toArray, ↓rgd, ↓rgf, ↓reduceIte, Nat.reduceEqDiff, rg, ow_67, h0, h1, ptr_eq, h2, hi1, hk, kV_lt]
      refine hK _ _ ?_; clear hK K
      cases hq : O.lt q (κ x) with
      | true =>
        refine W_false (by simp only [evt, upd_eq, ↓reduceIte, ntT, ntF]) ?_
        refine W_rg fun K hK => (W_text [true, true] (by kernel_rfl) ?_); simp only [↓List.toList_toArray, ↓rgd, ↓rgf, ↓reduceIte, Nat.reduceEqDiff, rg, ow_67]
        refine hK _ _ ?_; clear hK K
        refine ⟨_, ?_, RO.dr _ _, lo, (lo + hi) / 2, rfl, by omega, by omega, ?_, ?_, ?_, ?_, hlo, ?_⟩
        · omega
        · simp only [upd_eq, Nat.reduceEqDiff, ↓reduceIte]; exact h0
        · simp only [upd_eq, Nat.reduceEqDiff, ↓reduceIte]; exact h1
        · simp only [upd_eq, Nat.reduceEqDiff, ↓reduceIte]; exact h8
        · simp only [upd_eq, Nat.reduceEqDiff, ↓reduceIte]
        · intro i y hi' hy
          by_cases he : i = (lo + hi) / 2
          · subst he; rw [hx] at hy; cases hy; exact hq
          · have hsp := List.pairwise_iff_getElem.1 ha ((lo + hi) / 2) i (by omega) (List.getElem?_eq_some_iff.1 hy).1 (by omega)
            rw [(List.getElem?_eq_some_iff.1 hx).2, (List.getElem?_eq_some_iff.1 hy).2] at hsp
            exact O.tr _ _ _ hq hsp
      | false =>
        refine W_true (by simp only [evt, upd_eq, ↓reduceIte, ntT, ntF]) ?_
        have e3 := wadd1 ((lo + hi) / 2) (by omega)
        refine W_rg fun K hK => (W_text [true, true, true] (by kernel_rfl) ?_); simp only [↓List.toList_toArray, ↓rgd, ↓rgf, ↓reduceIte, Nat.reduceEqDiff, rg, ow_67, e3]
        refine hK _ _ ?_; clear hK K
        refine ⟨_, ?_, RO.dr _ _, (lo + hi) / 2 + 1, hi, rfl, by omega, by omega, ?_, ?_, ?_, ?_, ?_, hup⟩
        · omega
        · simp only [upd_eq, Nat.reduceEqDiff, ↓reduceIte]; exact h0
        · simp only [upd_eq, Nat.reduceEqDiff, ↓reduceIte]; exact h1
        · simp only [upd_eq, Nat.reduceEqDiff, ↓reduceIte]
        · simp only [upd_eq, Nat.reduceEqDiff, ↓reduceIte]; exact h9
        · intro i y hi' hy
          by_cases he : i = (lo + hi) / 2
          · subst he; rw [hx] at hy; cases hy; exact hq
          · have hsp := List.pairwise_iff_getElem.1 ha i ((lo + hi) / 2) (List.getElem?_eq_some_iff.1 hy).1 (by omega) (by omega)
            rw [(List.getElem?_eq_some_iff.1 hx).2, (List.getElem?_eq_some_iff.1 hy).2] at hsp
            cases hqy : O.lt q (κ y) with
            | false => rfl
            | true => have := O.tr _ _ _ hqy hsp; rw [hq] at this; cases this
    · obtain rfl : lo = hi := by omega
      have ht := lt_ff lo lo (by omega)
      refine W_sq fun K hK => (W_text [true, true, true] (by kernel_rfl) ?_); simp only [↓List.toList_toArray, ↓rgd, ↓rgf, ↓reduceIte, Nat.reduceEqDiff, rg, ow_67, h8, h9, ht]
      refine hK _ _ ?_; clear hK K
      refine W_false (by simp only [evt, upd_eq, Nat.reduceEqDiff, ↓reduceIte, ntT, ntF]) (W_exit ?_)
      show W _ _ _ _ _ _
      refine W_seq ?_
      by_cases h00 : 0 < lo
      · obtain ⟨x, hx⟩ : ∃ x, ks[lo - 1]? = some x := ⟨_, List.getElem?_eq_getElem (by omega)⟩
        have hk := key_at row hx
        have hi1 : lo - 1 < ks.length := by omega
        have e3 := wsub1 lo h00 (by omega)
        have ht0 : decide (0 < (lo : Int)) = true := by simp; omega
        refine W_sq fun K hK => (W_text [true, true, true, true, true, true, true, true, true, true, true, true, true, true, true, true] (by kernel_rfl) ?_); simp only [↓List.toList_toArray, ↓rgd, ↓rgf, ↓reduceIte, Nat.reduceEqDiff, rg, ow_67, h0, h1, h8, ptr_eq, h2, hi1, hk, kV_lt, ht0, e3]
        refine hK _ _ ?_; clear hK K
        cases hq : O.lt (κ x) q with
        | true =>
          obtain ⟨f1, f2⟩ := missed_at O κ ha (q := q) (u := lo) hhi (fun y hy => hup lo y (Nat.le_refl _) hy) (fun y _ hy => by rw [hx] at hy; cases hy; exact hq)
          refine W_false (by simp only [evt, upd_eq, ↓reduceIte, ntT, ntF]) (W_skip ?_)
          show W _ _ _ _ _ _
          refine W_sq fun K hK => (W_text [true, true, true] (by kernel_rfl) ?_); simp only [↓List.toList_toArray, ↓rgd, ↓rgf, ↓reduceIte, Nat.reduceEqDiff, rg, ow_67, h8]
          refine hK _ _ ?_; clear hK K
          have hs : Value.tuple #[.int .i64 (lo : Nat), .bool false] = srch ks q := by rw [srch, f1, f2]
          exact W_ret (endQ_2 (by simp only [upd_eq, Nat.reduceEqDiff, ↓reduceIte]) (by simp only [upd_eq, Nat.reduceEqDiff, ↓reduceIte]) ⟨hs, RO.dr _ _⟩)
        | false =>
          obtain ⟨f1, f2⟩ := found_at O κ ha (q := q) (u := lo) hhi hlo (fun y hy => hup lo y (Nat.le_refl _) hy) h00 hx hq
          refine W_true (by simp only [evt, upd_eq, ↓reduceIte, ntT, ntF]) ?_
          refine W_sq fun K hK => (W_text [true, true, true, true] (by kernel_rfl) ?_); simp only [↓List.toList_toArray, ↓rgd, ↓rgf, ↓reduceIte, Nat.reduceEqDiff, rg, ow_67, h8, e3]
          refine hK _ _ ?_; clear hK K
          refine W_ret ?_
          simp only [andThen_ret, inBlk_ret]
          have hs : Value.tuple #[.int .i64 (lo - 1 : Nat), .bool true] = srch ks q := by rw [srch, f1, f2]
          exact endQ_2 (by simp only [upd_eq, Nat.reduceEqDiff, ↓reduceIte]) (by simp only [upd_eq, Nat.reduceEqDiff, ↓reduceIte]) ⟨hs, RO.dr _ _⟩
      · have ht0 : decide (0 < (lo : Int)) = false := by simp; omega
        refine W_sq fun K hK => (W_text [true, true, true, true, true, true, true, true, true, true, true, true, true, true, true, true] (by kernel_rfl) ?_); simp only [↓List.toList_toArray, ↓rgd, ↓rgf, ↓reduceIte, Nat.reduceEqDiff, rg, ow_67, h8, ht0]
        refine hK _ _ ?_; clear hK K
        obtain ⟨f1, f2⟩ := missed_at O κ ha (q := q) (u := lo) hhi (fun y hy => hup lo y (Nat.le_refl _) hy) (fun y h _ => by omega)
        refine W_false (by simp only [evt, upd_eq, Nat.reduceEqDiff, ↓reduceIte, ntT, ntF]) (W_skip ?_)
        show W _ _ _ _ _ _
        refine W_sq fun K hK => (W_text [true, true, true] (by kernel_rfl) ?_); simp only [↓List.toList_toArray, ↓rgd, ↓rgf, ↓reduceIte, Nat.reduceEqDiff, rg, ow_67, h8]
        refine hK _ _ ?_; clear hK K
        have hs : Value.tuple #[.int .i64 (lo : Nat), .bool false] = srch ks q := by rw [srch, f1, f2]
        exact W_ret (endQ_2 (by simp only [upd_eq, Nat.reduceEqDiff, ↓reduceIte]) (by simp only [upd_eq, Nat.reduceEqDiff, ↓reduceIte]) ⟨hs, RO.dr _ _⟩)
end Go.Proofs.Ytinpigpeoakeaaa
/-
  What a deletion leaves of a list, and how it passes to a child's list. No program in sight. No condition.
-/
set_option linter.unusedSimpArgs false
set_option linter.unusedVariables false
namespace Go.Proofs.Ytinpigpeoakeaaa
open Go
section
variable {α R : Type} (O : SOrd R) (κ : α → R)
/-- A deletion: of the last one, or of the one with rank q; the one that goes, and those that stay. -/
def delR (mx : Bool) (q : R) (xs : List α) : Option (α × List α) :=
  if mx = true then xs.getLast?.map fun y => (y, xs.dropLast) else (at? O κ q xs).map fun y => (y, del O κ q xs)
variable {O κ}
theorem delR_max {q : R} {A m : List α} (hm : m ≠ []) : delR O κ true q (A ++ m) = (delR O κ true q m).map fun p => (p.1, A ++ p.2) := by
  simp only [delR, ↓reduceIte]
  obtain ⟨l, x, rfl⟩ : ∃ l x, m = l ++ [x] := ⟨m.dropLast, m.getLast hm, (List.dropLast_concat_getLast hm).symm⟩
  rw [← List.append_assoc, List.getLast?_concat, List.getLast?_concat, List.dropLast_concat, List.dropLast_concat]
  rfl
theorem delR_last {q : R} {l : List α} {x : α} : delR O κ true q (l ++ [x]) = some (x, l) := by
  simp only [delR, ↓reduceIte, List.getLast?_concat, List.dropLast_concat, Option.map_some]
theorem delR_key {A C : List α} {k : α} (ha : Asc O κ (A ++ k :: C)) : delR O κ false (κ k) (A ++ k :: C) = some (k, A ++ C) := by
  obtain ⟨h1, h2⟩ := found_mid O κ ha
  have h3 : (A ++ k :: C)[A.length]? = some k := by simp
  simp only [delR, at?, del, h2, h1, ↓reduceIte, h3, Option.map_some, Bool.false_eq_true]
  rw [List.eraseIdx_append_of_length_le (Nat.le_refl _)]
  simp
theorem delR_leaf {q : R} {xs : List α} {k : α} (hh : hit O κ q xs = true) (hk : xs[lb O κ q xs]? = some k) : delR O κ false q xs = some (k, xs.eraseIdx (lb O κ q xs)) := by
  simp only [delR, at?, del, hh, ↓reduceIte, hk, Option.map_some, Bool.false_eq_true]
theorem delR_miss {q : R} {xs : List α} (hh : hit O κ q xs = false) : delR O κ false q xs = none := by
  simp only [delR, at?, hh, ↓reduceIte, Option.map_none, Bool.false_eq_true]
theorem delR_mid {q : R} {a m c : List α} (ha : ∀ x ∈ a, O.lt (κ x) q = true) (hc : ∀ x ∈ c.head?, O.lt q (κ x) = true) : delR O κ false q (a ++ m ++ c) = (delR O κ false q m).map fun p => (p.1, a ++ p.2 ++ c) := by
  cases hh : hit O κ q m with
  | false => rw [delR_miss hh, delR_miss (by rw [hit_mid O κ ha hc]; exact hh)]; rfl
  | true =>
    obtain ⟨k, hk, _⟩ := hit_at O κ hh
    have hl := lb_mid O κ (q := q) (a := a) (m := m) (c := c) ha fun x hx => O.asym (hc x hx)
    have hi := (List.getElem?_eq_some_iff.1 hk).1
    rw [delR_leaf hh hk, delR_leaf (k := k) (by rw [hit_mid O κ ha hc]; exact hh) (by
      rw [hl, List.append_assoc, List.getElem?_append_right (by omega), Nat.add_sub_cancel_left, List.getElem?_append_left hi]; exact hk), hl]
    simp only [Option.map_some, List.append_assoc]
    rw [List.eraseIdx_append_of_length_le (by omega), Nat.add_sub_cancel_left, List.eraseIdx_append_of_lt_length hi]
theorem delR_len {mx : Bool} {q : R} {xs ys : List α} {y : α} (h : delR O κ mx q xs = some (y, ys)) : ys.length + 1 = xs.length := by
  cases mx with
  | true =>
    rcases List.eq_nil_or_concat xs with rfl | ⟨l, x, rfl⟩
    · simp [delR] at h
    · rw [List.concat_eq_append, delR_last] at h
      cases h
      simp
  | false =>
    cases hh : hit O κ q xs with
    | false => rw [delR_miss hh] at h; cases h
    | true =>
      obtain ⟨k, hk, _⟩ := hit_at O κ hh
      have hi := (List.getElem?_eq_some_iff.1 hk).1
      rw [delR_leaf hh hk] at h
      cases h
      rw [List.length_eraseIdx_of_lt hi]; omega
theorem delR_asc {mx : Bool} {q : R} {xs ys : List α} {y : α} (ha : Asc O κ xs) (h : delR O κ mx q xs = some (y, ys)) : Asc O κ ys := by
  cases mx with
  | true =>
    rcases List.eq_nil_or_concat xs with rfl | ⟨l, x, rfl⟩
    · simp [delR] at h
    · rw [List.concat_eq_append, delR_last] at h
      rw [List.concat_eq_append] at ha
      cases h
      exact ((Asc.append O κ).1 ha).1
  | false =>
    cases hh : hit O κ q xs with
    | false => rw [delR_miss hh] at h; cases h
    | true =>
      obtain ⟨k, hk, _⟩ := hit_at O κ hh
      rw [delR_leaf hh hk] at h
      cases h
      exact ha.sublist (List.eraseIdx_sublist _ _)
/-- The last child's list is the end of the whole. -/
theorem weave_end : ∀ (L : List (List α)) (ks : List α), L.length = ks.length → ∃ A, ∀ c, weave (L ++ [c]) ks = A ++ c
  | [], [], _ => ⟨[], fun _ => rfl⟩
  | [], _ :: _, h => by simp at h
  | _ :: _, [], h => by simp at h
  | a :: L, k :: ks, h => by
    obtain ⟨A, hA⟩ := weave_end L ks (by simpa using h)
    exact ⟨a ++ k :: A, fun c => by rw [List.cons_append, weave_cons, hA]; simp⟩
/-- A key and the child ahead of it. -/
theorem weave_ahead {L B : List (List α)} {ks : List α} {k : α} (hk : ks[L.length]? = some k) : ∃ A C, ∀ c y, weave (L ++ c :: B) (ks.set L.length y) = A ++ c ++ y :: C := by
  have hi := (List.getElem?_eq_some_iff.1 hk).1
  obtain ⟨A, hA⟩ := weave_end L (ks.take L.length) (by rw [List.length_take]; omega)
  refine ⟨A, weave B (ks.drop (L.length + 1)), fun c y => ?_⟩
  rw [List.set_eq_take_append_cons_drop, if_pos hi, ← hA c]
  have := weave_cat (L ++ [c]) B (ks.take L.length) (ks.drop (L.length + 1)) y (by rw [List.length_append, List.length_take, List.length_singleton]; omega)
  rw [List.append_assoc] at this
  exact this
end
end Go.Proofs.Ytinpigpeoakeaaa
/-
  Deleting an item from a node of a tree. No condition.
-/
set_option linter.unusedSimpArgs false
set_option linter.unusedVariables false
namespace Go.Proofs.Ytinpigpeoakeaaa
open Go Go.Proofs
/-- A hint's cells. -/
structure HintAt (w : World) (hb : Nat) : Prop where
  wok : wok w hb 16
  used : ∀ i, i < 8 → ∃ u : Bool, rd w hb i = some (.bool u)
  path : ∀ i, i < 8 → ∃ p : Nat, p < 256 ∧ rd w hb (8 + i) = some (.int .u8 p)
theorem HintAt.ext {w w' : World} {G : Nat → Nat → Prop} {hb : Nat} (h : HintAt w hb) (x : Ext G w w') (hG : ∀ o, ¬ G hb o) : HintAt w' hb :=
  ⟨x.wok h.wok, fun i hi => (h.used i hi).imp fun _ g => x.rd g (hG _), fun i hi => (h.path i hi).imp fun _ g => ⟨g.1, x.rd g.2 (hG _)⟩⟩
/-- The cells of a hint, if there is one. -/
def hF (hp : Option Nat) : Nat → Nat → Prop := fun y _ => hp = some y
def hV (hp : Option Nat) : Value := .pointer (hp.map fun b => ⟨b, 0, none⟩)
theorem hV_none : hV none = .pointer none := id (Eq.trans rfl rfl)
theorem hV_some (b : Nat) : hV (some b) = ptr b := id (Eq.trans rfl rfl)
def HOk (hp : Option Nat) (w : World) : Prop := ∀ hb, hp = some hb → HintAt w hb
theorem HOk.ext {w w' : World} {G : Nat → Nat → Prop} {hp : Option Nat} (h : HOk hp w) (x : Ext G w w') (hG : ∀ hb, hp = some hb → ∀ o, ¬ G hb o) : HOk hp w' := fun hb e => (h hb e).ext x (hG hb e)
theorem HOk.ext0 {w w' : World} {hp : Option Nat} (h : HOk hp w) (x : Ext noF w w') : HOk hp w' := h.ext x fun _ _ _ g => g
theorem HOk.none (w : World) : HOk none w := fun _ h => by cases h
theorem dA_at {w : World} {b o : Nat} {x : It} (h : Row w b o (E.cel x)) : rdA w b o 2 = some (itV x) := h.rdA 2 (by simp [E])
theorem dk_z {w : World} {m : Nat} (h : Row w m 4 (E.cel zIt)) : rd w m 5 = some (kV (κ zIt)) := row_cell h (j := 1) rfl
def DelQ (d : Nat) (iso : Int) (h lo b : Nat) (xs : List It) (mx : Bool) (kq : Rk) (hp : Option Nat) (F : Nat → Nat → Prop) (w : World) (v : Value) (w' : World) : Prop :=
  Ext (fun y o => F y o ∨ hF hp y o) w w' ∧ HOk hp w' ∧ ∃ F' : Nat → Nat → Prop, (∀ y o, F' y o → F y o ∨ w.heap.size ≤ y) ∧
    ((delR O κ mx kq xs = none ∧ v = .tuple #[itV zIt, .bool false] ∧ Tr E iso (d - 1) (2 * d - 1) h w' lo b xs F') ∨
     ∃ y ys, delR O κ mx kq xs = some (y, ys) ∧ v = .tuple #[itV y, .bool true] ∧ Tr E iso (d - 1) (2 * d - 1) h w' (lo - 1) b ys F')
theorem dz_it : zK Try.prog 71 = some (E.cel zIt) := by kernel_rfl
theorem dsrch (ks : List It) (q : Rk) : srch ks q = .tuple #[.int .i64 (lb O κ q ks : Nat), .bool (hit O κ q ks)] := id (Eq.trans rfl rfl)
theorem dropL {α : Type} {l : List α} (h : 0 < l.length) : l.eraseIdx (l.length - 1) = l.dropLast := by
  rw [List.eraseIdx_eq_take_drop_succ, List.drop_eq_nil_of_le (by omega), List.append_nil, List.dropLast_eq_take]
set_option maxHeartbeats 8000000 in
set_option maxRecDepth 8000 in
theorem del_any (m d : Nat) (iso : Int) (hd : 2 ≤ d) (hd' : d ≤ 128) : ∀ (h lo b : Nat) (xs : List It) (F : Nat → Nat → Prop) (w : World) (pc po : Nat) (mx : Bool) (kq : Rk) (hp : Option Nat), Cfg w m iso d →
    (∀ o, ¬ F m o) → 1 ≤ lo → Tr E iso (d - 1) (2 * d - 1) h w lo b xs F → Asc O κ xs → xs.length < 1152921504606846976 → rd w pc po = some (ptr b) → HOk hp w → (∀ hb, hp = some hb → m < hb ∧ ∀ o, ¬ F hb o) →
    CallK Try.prog 69 #[ptr m, .pointer (some ⟨pc, po, none⟩), .bool mx, kV kq] w (DelQ d iso h lo b xs mx kq hp F w) := by
  intro h
  induction h using Nat.strongRecOn with
  | _ h ihh =>
  intro lo b xs F w pc po mx kq hp hc hm hlo ht ha hbig hpp hH hHF
  obtain ⟨bi, oi, cap, ks, ch, ho, hl1, hl2, hoF, hin⟩ := ht.open
  have hbl := wok_lt ho.wb
  have hbil := wok_lt ho.wi
  have hml := wok_lt hc.wok
  have hcap := ho.le
  have hFh : ∀ y o, F y o → ¬ hF hp y o := fun y o g k => (hHF y k).2 o g
  have hHl : ∀ y o, hF hp y o → y < w.heap.size := fun y o g => wok_lt (hH y g).wok
  have hmh : ∀ o, ¬ hF hp m o := fun o g => by have := (hHF m g).1; omega
  have hak : Asc O κ ks := by
    rcases hin with ⟨_, _, hx, _⟩ | ⟨_, _, _, _, _, cs, _, _, n⟩
    · rw [← hx]; exact ha
    · refine List.Pairwise.sublist ?_ ha
      rw [n.eq]; exact weave_sub _ _ (by simpa using n.len)
  have hkb : ks.length < 4611686018427387904 := Nat.lt_of_le_of_lt hl2 (by clear hin hoF hFh; omega)
  have hch : ∃ cc, ch = .pointer cc := by
    rcases hin with ⟨_, h, _⟩ | ⟨_, bc, _, _, _, _, _, h, _⟩
    · exact ⟨_, h⟩
    · exact ⟨_, h⟩
  obtain ⟨cc, hcc⟩ := hch
  refine calls_of_W [.cell 8 71, .tmp 9] Try.func69 rfl Try.ntmps69 Try.results69 (by simp) fun e he => ?_
  have e0 : e 0 = ptr m := he 0 _ rfl
  have e1 : e 1 = .pointer (some ⟨pc, po, none⟩) := he 1 _ rfl
  have e2 : e 2 = .bool mx := he 2 _ rfl
  have e3 : e 3 = kV kq := he 3 _ rfl
  clear he
  refine W_sq fun K hK => (W_text [false, true] (by kernel_rfl) ?_); simp only [↓List.toList_toArray, ↓rgd, ↓rgf, ↓reduceIte, Nat.reduceEqDiff, rg, ow_69]
  refine do_alloc dz_it fun w2 n2 => ⟨trivial, ?_⟩
  simp only [↓List.toList_toArray, ↓rgd, ↓rgf, ↓reduceIte, Nat.reduceEqDiff, rg, ow_69]
  refine hK _ _ ?_; clear hK K
  have X2 : Ext noF w w2 := n2.ext
  have s2 := n2.size
  obtain ⟨r0, hr0⟩ : ∃ r0, r0 = w.heap.size := ⟨_, rfl⟩
  have wr2 : wok w2 r0 2 := by rw [hr0]; exact n2.wok
  rw [← hr0]
  have hr0' := hr0
  have p2 := X2.rd hpp fun g => g
  have i2 := X2.rd hc.iso fun g => g
  have b2 := X2.rd ho.h0 fun g => g
  refine W_sq fun K hK => (W_text [true, true, false, true] (by kernel_rfl) ?_); simp only [↓List.toList_toArray, ↓rgd, ↓rgf, ↓reduceIte, Nat.reduceEqDiff, rg, ow_69, e0, e1]
  refine do_call fn_60 (by simp only [evt, evc, upd_eq, Nat.reduceEqDiff, ↓reduceIte, maT, maC, maN, isnN, isnS] <;> rfl) (isoLoad_any m pc po b true iso w2 i2 p2 b2) ?_
  rintro _ w3 ⟨rfl, r3⟩
  refine ⟨trivial, ?_⟩
  simp only [↓List.toList_toArray, ↓rgd, ↓rgf, ↓reduceIte, Nat.reduceEqDiff, rg, ow_69]
  refine hK _ _ ?_; clear hK K
  have x3 : Ext noF w2 w3 := r3.ext
  have X3 : Ext noF w w3 := X2.tr x3
  have wr3 := x3.wok wr2
  have s3 := x3.size
  have hs3 : w.heap.size + 1 ≤ w3.heap.size := by omega
  clear n2 X2 wr2 x3 r3 p2 i2 b2
  refine W_sq fun K hK => (W_text [true] (by kernel_rfl) ?_); simp only [↓List.toList_toArray, ↓rgd, ↓rgf, ↓reduceIte, Nat.reduceEqDiff, rg, ow_69]
  refine hK _ _ ?_; clear hK K
  refine W_sq fun K hK => (W_text [true] (by kernel_rfl) ?_); simp only [↓List.toList_toArray, ↓rgd, ↓rgf, ↓reduceIte, Nat.reduceEqDiff, rg, ow_69]
  refine hK _ _ ?_; clear hK K
  refine W_sqx fun J hJ => ?_
  have hend : ∀ (e : Env) (w3 : World) (fnd : Bool) (i : Nat), ((mx = true ∧ fnd = true ∧ i = ks.length - 1) ∨ (mx = false ∧ i = lb O κ kq ks ∧ fnd = hit O κ kq ks)) → Ext (hF hp) w w3 → HOk hp w3 → wok w3 r0 2 → w.heap.size + 1 ≤ w3.heap.size →
      e 0 = ptr m → e 2 = .bool mx → e 3 = kV kq → e 8 = ptr r0 → e 10 = ptr b → e 11 = .int .i64 i → e 12 = .bool fnd → J e w3 := by
    clear e0 e1 e2 e3 X3 wr3 s2 s3 hs3
    clear e w3
    intro e w3 fnd i hfi X3 hH3 wr3 s3 e0 e2 e3 e12 e14 e15 e16
    refine hJ _ _ ?_; clear hJ J
    have o3 := ho.ext X3 fun y o g => hFh y o (hoF y o g)
    have c3 := hc.ext X3 fun o _ _ => hmh o
    refine W_seq ?_
    rcases (id hin : _ ∨ _) with ⟨rfl, hcn, hxk, hFo⟩ | ⟨h', bc, ba, oa, capc, cs, rfl, hcn, n⟩
    · have hxk := hxk.symm
      subst hxk
      rw [hcn] at o3
      refine W_sq fun K hK => (W_text [true, false] (by kernel_rfl) ?_); simp only [↓List.toList_toArray, ↓rgd, ↓rgf, ↓reduceIte, Nat.reduceEqDiff, rg, ow_69, e14]
      refine do_call fn_58 (by simp only [evt, evc, upd_eq, Nat.reduceEqDiff, ↓reduceIte, maT, maC, maN, isnN, isnS] <;> rfl) (leaf_any b none w3 o3.h3) ?_
      rintro _ w4 ⟨rfl, hw4⟩
      obtain rfl : w3 = w4 := hw4.symm
      refine ⟨trivial, ?_⟩
      simp only [↓List.toList_toArray, ↓rgd, ↓rgf, ↓reduceIte, Nat.reduceEqDiff, rg, ow_69]
      refine hK _ _ ?_; clear hK K
      refine W_true (by simp only [evt, evc, upd_eq, Nat.reduceEqDiff, ↓reduceIte, ntT, ntF] <;> rfl) (W_seq ?_)
      refine W_sq fun K hK => (W_text [true] (by kernel_rfl) ?_); simp only [↓List.toList_toArray, ↓rgd, ↓rgf, ↓reduceIte, Nat.reduceEqDiff, rg, ow_69, e16]
      refine hK _ _ ?_; clear hK K
      cases fnd with
      | false =>
        refine W_false (by simp only [evt, evc, upd_eq, Nat.reduceEqDiff, ↓reduceIte, ntT, ntF] <;> rfl) (W_skip ?_)
        show W _ _ _ _ _ _
        have z3 := zIt_at c3
        refine W_sq fun K hK => (W_text [true, true, true, true, false, true] (by kernel_rfl) ?_); simp only [↓List.toList_toArray, ↓rgd, ↓rgf, ↓reduceIte, Nat.reduceEqDiff, rg, ow_69, e0, ptr_eq, z3]
        refine do_store (by simp only [evt, evc, upd_eq, Nat.reduceEqDiff, ↓reduceIte]; exact e12) (by simp only [evt, evc, upd_eq, Nat.reduceEqDiff, ↓reduceIte, ntT, ntF] <;> rfl) sz_71 (rb_len zIt) wr3 (by decide) (rb_oc zIt) fun w5 x5 r5 s5 => ⟨trivial, ?_⟩
        simp only [↓List.toList_toArray, ↓rgd, ↓rgf, ↓reduceIte, Nat.reduceEqDiff, rg, ow_69]
        refine hK _ _ ?_; clear hK K
        obtain ⟨hmx, hi, hh⟩ : mx = false ∧ i = lb O κ kq ks ∧ false = hit O κ kq ks := by
          rcases hfi with ⟨_, h, _⟩ | h
          · cases h
          · exact h
        subst hmx
        have X5 : Ext (hF hp) w w5 := X3.trans x5 (fun _ _ g => g) fun y o hy g => by simp only [rng] at g; omega
        refine W_ret (endQ_ct (by simp only [upd_eq, Nat.reduceEqDiff, ↓reduceIte]; exact e12) (by simp only [upd_eq, Nat.reduceEqDiff, ↓reduceIte] <;> rfl) ld_71 (dA_at (show Row w5 r0 0 (E.cel zIt) from r5)) ⟨X5.mono fun _ _ _ g => .inr g, hH3.ext x5 (fun hb hh o g => ?_), F, fun _ _ g => .inl g, .inl ⟨delR_miss hh.symm, rfl, ht.ext X5 hFh⟩⟩)
        have := hHl hb 0 hh
        simp only [rng] at g; omega
      | true =>
        refine W_true (by simp only [evt, evc, upd_eq, Nat.reduceEqDiff, ↓reduceIte, ntT, ntF] <;> rfl) ?_
        have hi : i < ks.length := by
          rcases hfi with ⟨_, _, h⟩ | ⟨_, h, hh⟩
          · omega
          · obtain ⟨k, hk, _⟩ := hit_at O κ hh.symm
            rw [h]; exact (List.getElem?_eq_some_iff.1 hk).1
        obtain ⟨k, hk⟩ : ∃ k, ks[i]? = some k := ⟨_, List.getElem?_eq_getElem hi⟩
        have hdel : delR O κ mx kq ks = some (k, ks.eraseIdx i) := by
          rcases hfi with ⟨rfl, _, h⟩ | ⟨rfl, h, hh⟩
          · have : ks = ks.dropLast ++ [k] := by
              conv => lhs; rw [← List.dropLast_concat_getLast (l := ks) (by intro h; rw [h] at hi; simp at hi)]
              congr 2
              rw [List.getLast_eq_getElem]
              subst h
              exact (List.getElem?_eq_some_iff.1 hk).2
            rw [h, dropL (by omega)]
            conv => lhs; rw [this]
            exact delR_last
          · rw [h] at hk ⊢
            exact delR_leaf hh.symm hk
        have hkv := it_at o3.row hk
        refine W_sq fun K hK => (W_text [true, true, true, true, true, true, true, false, false] (by kernel_rfl) ?_); simp only [↓List.toList_toArray, ↓rgd, ↓rgf, ↓reduceIte, Nat.reduceEqDiff, rg, ow_69, e14, e15, ptr_eq, o3.h2, hi, hkv]
        refine do_alloc dz_it fun w4 n4 => ⟨trivial, ?_⟩
        simp only [↓List.toList_toArray, ↓rgd, ↓rgf, ↓reduceIte, Nat.reduceEqDiff, rg, ow_69]
        refine do_store (by simp only [evt, evc, upd_eq, Nat.reduceEqDiff, ↓reduceIte, ntT, ntF] <;> rfl) (by simp only [evt, evc, upd_eq, Nat.reduceEqDiff, ↓reduceIte, ntT, ntF] <;> rfl) sz_71 (rb_len k) n4.wok (by decide) (rb_oc k) fun w5 x5 r5 s5 => ⟨trivial, ?_⟩
        simp only [↓List.toList_toArray, ↓rgd, ↓rgf, ↓reduceIte, Nat.reduceEqDiff, rg, ow_69]
        refine hK _ _ ?_; clear hK K
        have s4 := n4.size
        have X5 : Ext noF w3 w5 := noF_of n4.ext x5 fun y o hy g => by simp only [rng] at g; omega
        obtain ⟨q, hq⟩ : ∃ q, q = w3.heap.size := ⟨_, rfl⟩
        rw [← hq] at r5 ⊢
        have rq5 : Row w5 q 0 (E.cel k) := r5
        have o5 := o3.ext X5 fun _ _ _ g => g
        have hqo : ∀ o, ¬ ownF E b bi oi cap q o := fun o g => by have := ho.lt g; omega
        have hro : ∀ o, ¬ ownF E b bi oi cap r0 o := fun o g => by have := ho.lt g; omega
        have hmo : ∀ o, ¬ ownF E b bi oi cap m o := fun o g => hm o (hoF _ _ g)
        have q1 := wadd1 i (by omega)
        have i1 : i ≤ ks.length := by omega
        have i2 : i + 1 ≤ ks.length := by omega
        obtain ⟨o1, h1, h1', -, k1⟩ := o5.se.from E_sz i i1
        have h1' := h1' (by omega)
        (try simp only [Nat.mul_one] at h1')
        subst h1'
        obtain ⟨o2, h2, -, v2, -⟩ := o5.se.from E_sz (i + 1) i2
        refine W_sq fun K hK => (W_draw (some none) (some 13) [(0, 0, 0), (0, 1, 0), (0, 2, 0), (0, 3, 0), (0, 4, 0), (0, 5, 0), (0, 6, 0), (0, 7, 0), (0, 8, 0), (0, 9, 0), (0, 10, 0), (0, 11, 0), (0, 12, 0), (1, 13, 0)] mixed (by kernel_rfl) ?_); simp only [↓List.toList_toArray, ↓rgd, ↓rgf, ↓reduceIte, Nat.reduceEqDiff, rg, ow_69, e14, e15, ptr_eq, o5.h2, q1, i1, i2, h1, h2]
        refine do_copy (by simp only [evt, evc, upd_eq, Nat.reduceEqDiff, ↓reduceIte, ntT, ntF] <;> rfl) (by simp only [evt, evc, upd_eq, Nat.reduceEqDiff, ↓reduceIte, ntT, ntF] <;> rfl) rb_eli (SlV.ext0 v2 (Ext.dr noF w5 (w5.drawn + 1))) ((Ext.dr noF w5 (w5.drawn + 1)).wok k1) (flat_oc E _) fun w6 x6 r6 s6 => ⟨(by first | exact trivial | exact .inl trivial), ?_⟩
        simp only [↓List.toList_toArray, ↓rgd, ↓rgf, ↓reduceIte, Nat.reduceEqDiff, rg, ow_69]
        refine hK _ _ ?_; clear hK K
        have hmn : min (ks.length - (i + 1)) (ks.length - i) = ks.length - 1 - i := by omega
        rw [hmn] at x6 r6
        rw [List.take_of_length_le (by rw [flat_length, List.length_drop, E_sz]; omega)] at r6
        obtain ⟨z, g1, g2⟩ := o5.se.down (i := i) hi (by simp only [E_sz, Nat.mul_one]; (try simp only [Nat.mul_one] at x6); exact x6.od) (by simp only [E_sz, Nat.mul_one]; (try simp only [Nat.mul_one] at r6); exact r6)
        have o6 := o5.step g1 g2
        have X6 : Ext (ownF E b bi oi cap) w3 w6 := X5.trans g2 (fun _ _ g => g.elim) fun _ _ _ g => seF_own g
        have le := List.length_eraseIdx_of_lt hi
        have hA : (ks.eraseIdx i ++ [z]).length = ks.length := by rw [List.length_append, List.length_singleton]; omega
        have h26 := o6.h2
        have h46 := o6.le
        rw [hA] at h26 h46
        have q2 := wsub1 ks.length (by omega) (by omega)
        have i3 : ks.length - 1 < ks.length := by omega
        have z6 := zIt_at (c3.ext X6 fun o _ _ => hmo o)
        refine W_sq fun K hK => (W_draw (some none) (some 15) [(0, 0, 0), (0, 1, 0), (0, 2, 0), (0, 3, 0), (0, 4, 0), (0, 5, 0), (0, 6, 0), (0, 7, 0), (0, 8, 0), (0, 9, 0), (0, 10, 0), (0, 11, 0), (0, 12, 0), (0, 13, 0), (0, 14, 0), (1, 15, 0)] mixed (by kernel_rfl) ?_); simp only [↓List.toList_toArray, ↓rgd, ↓rgf, ↓reduceIte, Nat.reduceEqDiff, rg, ow_69, e0, e14, ptr_eq, h26, q2, i3, z6]
        refine do_store (by simp only [evt, evc, upd_eq, Nat.reduceEqDiff, ↓reduceIte, ntT, ntF] <;> rfl) (by simp only [evt, evc, upd_eq, Nat.reduceEqDiff, ↓reduceIte, ntT, ntF] <;> rfl) sz_71 (rb_len zIt) o6.wi (by rw [E_sz]; omega) (rb_oc zIt) fun w7 x7 r7 s7 => ⟨(by first | exact trivial | exact .inl trivial), ?_⟩
        simp only [↓List.toList_toArray, ↓rgd, ↓rgf, ↓reduceIte, Nat.reduceEqDiff, rg, ow_69]
        refine hK _ _ ?_; clear hK K
        obtain ⟨g3, g4⟩ := o6.se.set (i := ks.length - 1) (x := zIt) (by rw [hA]; omega) (by simp only [E_sz, Nat.mul_one]; exact x7.od) (by simp only [E_sz, Nat.mul_one]; exact r7)
        rw [show (ks.eraseIdx i ++ [z]).set (ks.length - 1) zIt = ks.eraseIdx i ++ [zIt] by rw [show ks.length - 1 = (ks.eraseIdx i).length by omega]; exact set_last] at g3
        have o7 := o6.step g3 g4
        have X7 : Ext (ownF E b bi oi cap) w3 w7 := X6.tr (g4.mono fun _ _ _ g => seF_own g)
        have hA' : (ks.eraseIdx i ++ [zIt]).length = ks.length := by rw [List.length_append, List.length_singleton]; omega
        have h27 := o7.h2
        rw [hA'] at h27
        have i4 : ks.length - 1 ≤ cap := by omega
        refine W_sq fun K hK => (W_draw (some none) (some 14) [(0, 0, 0), (0, 1, 0), (0, 2, 0), (0, 3, 0), (0, 4, 0), (0, 5, 0), (0, 6, 0), (0, 7, 0), (0, 8, 0), (0, 9, 0), (0, 10, 0), (0, 11, 0), (0, 12, 0), (0, 13, 0), (1, 14, 0)] mixed (by kernel_rfl) ?_); simp only [↓List.toList_toArray, ↓rgd, ↓rgf, ↓reduceIte, Nat.reduceEqDiff, rg, ow_69, e14, ptr_eq, h27, q2, i4]
        refine do_store (by simp only [evt, evc, upd_eq, Nat.reduceEqDiff, ↓reduceIte, ntT, ntF] <;> rfl) (by simp only [evt, evc, upd_eq, Nat.reduceEqDiff, ↓reduceIte, ntT, ntF] <;> rfl) sz_87 rfl o7.wb (by decide) (oc_one rfl rfl) fun w8 x8 r8 s8 => ⟨(by first | exact trivial | exact .inl trivial), ?_⟩
        simp only [↓List.toList_toArray, ↓rgd, ↓rgf, ↓reduceIte, Nat.reduceEqDiff, rg, ow_69]
        refine hK _ _ ?_; clear hK K
        obtain ⟨g5, g6⟩ := o7.se.cut x8.od (by rw [le]; exact (Row.cons.1 r8).1)
        have o8 := o7.step g5 g6
        have X8 : Ext (ownF E b bi oi cap) w3 w8 := X7.tr (g6.mono fun _ _ _ g => seF_own g)
        refine W_sq fun K hK => (W_text [true, true, true, true, true, true, true, false] (by kernel_rfl) ?_); simp only [↓List.toList_toArray, ↓rgd, ↓rgf, ↓reduceIte, Nat.reduceEqDiff, rg, ow_69, e14, ptr_eq, o8.h1, q2]
        refine do_store (by simp only [evt, evc, upd_eq, Nat.reduceEqDiff, ↓reduceIte, ntT, ntF] <;> rfl) (by simp only [evt, evc, upd_eq, Nat.reduceEqDiff, ↓reduceIte, ntT, ntF] <;> rfl) sz_3 rfl o8.wb (by decide) (oc_one rfl rfl) fun w9 x9 r9 s9 => ⟨trivial, ?_⟩
        simp only [↓List.toList_toArray, ↓rgd, ↓rgf, ↓reduceIte, Nat.reduceEqDiff, rg, ow_69]
        refine hK _ _ ?_; clear hK K
        have o9 := o8.cnt' x9 (Row.cons.1 r9).1
        have X9 : Ext (ownF E b bi oi cap) w3 w9 := X8.tr (x9.mono fun _ _ _ g => .inl g.1)
        have sz9 := X9.size
        have Y9 : Ext (ownF E b bi oi cap) w5 w9 := (((g2.mono fun _ _ _ g => seF_own g).tr (g4.mono fun _ _ _ g => seF_own g)).tr (g6.mono fun _ _ _ g => seF_own g)).tr (x9.mono fun _ _ _ g => .inl g.1)
        have kq9 := dA_at (Y9.row rq5 fun j _ => hqo _)
        refine W_sq fun K hK => (W_text [true, false, true] (by kernel_rfl) ?_); simp only [↓List.toList_toArray, ↓rgd, ↓rgf, ↓reduceIte, Nat.reduceEqDiff, rg, ow_69, kq9]
        refine do_store (by simp only [evt, evc, upd_eq, Nat.reduceEqDiff, ↓reduceIte]; exact e12) (by simp only [evt, evc, upd_eq, Nat.reduceEqDiff, ↓reduceIte, ntT, ntF] <;> rfl) sz_71 (rb_len k) (X9.wok wr3) (by decide) (rb_oc k) fun w10 x10 r10 s10 => ⟨trivial, ?_⟩
        simp only [↓List.toList_toArray, ↓rgd, ↓rgf, ↓reduceIte, Nat.reduceEqDiff, rg, ow_69]
        refine hK _ _ ?_; clear hK K
        have X10 : Ext (fun y o => F y o ∨ hF hp y o) w w10 := (X3.trans X9 (fun _ _ g => .inr g) fun y o _ g => .inl (hoF y o g)).trans x10 (fun _ _ g => g) fun y o hy g => by simp only [rng] at g; omega
        have H10 : HOk hp w10 := (hH3.ext X9 fun hb hh o g => (hHF hb hh).2 o (hoF _ _ g)).ext x10 fun hb hh o g => by
          have := hHl hb 0 hh
          simp only [rng] at g; omega
        refine W_ret (endQ_ct (by simp only [upd_eq, Nat.reduceEqDiff, ↓reduceIte]; exact e12) (by simp only [upd_eq, Nat.reduceEqDiff, ↓reduceIte] <;> rfl) ld_71 (dA_at (show Row w10 r0 0 (E.cel k) from r10)) ⟨X10, H10, F, fun _ _ g => .inl g, .inr ⟨k, ks.eraseIdx i, hdel, rfl, bi, oi, cap, ?_, by omega, by omega, hFo⟩⟩)
        have o10 := o9.ext x10 fun y o g h => by
          simp only [rng] at h
          exact hro o (by rw [← h.1]; exact g)
        rw [le]
        exact o10
    · rw [hcn] at o3
      have hkF : ∀ y o, kidF bc ba oa capc y o → F y o := fun y o g => (n.fp y o).2 (.inr (.inl g))
      have hcF : ∀ c ∈ cs, ∀ y o, c.F y o → F y o := fun c hc y o g => (n.fp y o).2 (.inr (.inr ⟨c, hc, g⟩))
      have n3 := n.ext X3 (fun y o g => hFh y o (hkF y o g)) fun c hc y o g => hFh y o (hcF c hc y o g)
      refine W_sq fun K hK => (W_text [true, false] (by kernel_rfl) ?_); simp only [↓List.toList_toArray, ↓rgd, ↓rgf, ↓reduceIte, Nat.reduceEqDiff, rg, ow_69, e14]
      refine do_call fn_58 (by simp only [evt, evc, upd_eq, Nat.reduceEqDiff, ↓reduceIte, maT, maC, maN, isnN, isnS] <;> rfl) (leaf_any b (some ⟨bc, 0, none⟩) w3 o3.h3) ?_
      rintro _ w4 ⟨rfl, hw4⟩
      obtain rfl : w3 = w4 := hw4.symm
      refine ⟨trivial, ?_⟩
      simp only [↓List.toList_toArray, ↓rgd, ↓rgf, ↓reduceIte, Nat.reduceEqDiff, rg, ow_69]
      refine hK _ _ ?_; clear hK K
      refine W_false (by simp only [evt, evc, upd_eq, Nat.reduceEqDiff, ↓reduceIte, ntT, ntF] <;> rfl) (W_skip ?_)
      show W _ _ _ _ _ _
      refine W_sq fun K hK => (W_text [false] (by kernel_rfl) ?_); simp only [↓List.toList_toArray, ↓rgd, ↓rgf, ↓reduceIte, Nat.reduceEqDiff, rg, ow_69]
      refine do_alloc dz_it fun w4 n4 => ⟨trivial, ?_⟩
      simp only [↓List.toList_toArray, ↓rgd, ↓rgf, ↓reduceIte, Nat.reduceEqDiff, rg, ow_69]
      refine hK _ _ ?_; clear hK K
      refine W_sq fun K hK => (W_text [true] (by kernel_rfl) ?_); simp only [↓List.toList_toArray, ↓rgd, ↓rgf, ↓reduceIte, Nat.reduceEqDiff, rg, ow_69]
      refine hK _ _ ?_; clear hK K
      obtain ⟨q, hq⟩ : ∃ q, q = w3.heap.size := ⟨_, rfl⟩
      have wq4 : wok w4 q 2 := by rw [hq]; exact n4.wok
      have s4 := n4.size
      have x4 : Ext noF w3 w4 := n4.ext
      rw [← hq]
      have X4 : Ext (hF hp) w w4 := X3.trans x4 (fun _ _ g => g) fun _ _ _ g => g.elim
      have H4 := hH3.ext0 x4
      have wr4 := x4.wok wr3
      have hs4 : w.heap.size + 2 ≤ w4.heap.size := by omega
      have hqs : w.heap.size + 1 ≤ q ∧ q < w4.heap.size := by omega
      have o4 := o3.ext x4 fun _ _ _ g => g
      have nn := n3.ext x4 (fun _ _ _ g => g) fun _ _ _ _ _ g => g
      have hrq : r0 ≠ q := by omega
      clear n3 o3 c3 X3 hH3 wr3 s3 n4 x4 s4 hq
      refine W_sqx fun J hJ => ?_
      have hyes : ∀ (e : Env) (w5 : World) (y : It) (A Bq : List (Kid It)) (c : Kid It) (ks' ys : List It) (F0 F3 : Nat → Nat → Prop) (K0 K3 : Nat), Shr E iso (d - 1) (2 * d - 1) h' w5 b bc (xs.length : Nat) ks' A c Bq F0 F3 K0 K3 → ks'.length = ks.length → (A ++ c :: Bq).length = ks'.length + 1 →
          ys = weave ((A ++ c :: Bq).map Kid.xs) ks' → delR O κ mx kq xs = some (y, ys) → Ext (fun y o => F y o ∨ hF hp y o) w w5 → HOk hp w5 → (∀ y o, (F0 y o ∨ F3 y o ∨ kinF (A ++ c :: Bq) y o) → F y o ∨ w.heap.size ≤ y) → Row w5 q 0 (E.cel y) → wok w5 r0 2 →
          (∀ o, ¬ (F0 q o ∨ F3 q o ∨ kinF (A ++ c :: Bq) q o)) → (∀ o, ¬ (F0 r0 o ∨ F3 r0 o ∨ kinF (A ++ c :: Bq) r0 o)) →
          e 0 = ptr m → e 8 = ptr r0 → e 10 = ptr b → e 11 = .int .i64 (A.length : Nat) → e 14 = ptr q → e 15 = .bool true → J e w5 := by
        clear e0 e2 e3 e12 e14 e15 e16 X4 H4 wr4 wq4 o4 nn
        clear e
        intro e w5 y A Bq c ks' ys F0 F3 K0 K3 sh hkl hlen hys hdel X5 H5 hFs rq5 wr5 hqF hrF e0 e12 e14 e15 e18 e19
        refine hJ _ _ ?_; clear hJ J
        have hyl := delR_len hdel
        refine W_seq ?_
        refine W_sq fun K hK => (W_text [true, true] (by kernel_rfl) ?_); simp only [↓List.toList_toArray, ↓rgd, ↓rgf, ↓reduceIte, Nat.reduceEqDiff, rg, ow_69, e19]
        refine hK _ _ ?_; clear hK K
        refine W_false (by simp only [evt, evc, upd_eq, Nat.reduceEqDiff, ↓reduceIte, ntT, ntF] <;> rfl) (W_skip ?_)
        show W _ _ _ _ _ _
        obtain ⟨bi', oi', cap', o5, hz, hK, hF0⟩ := sh.n0
        have q1 := wsub1 xs.length (by omega) (by omega)
        refine W_sq fun K hK => (W_text [true, true, true, true, true, true, true, false] (by kernel_rfl) ?_); simp only [↓List.toList_toArray, ↓rgd, ↓rgf, ↓reduceIte, Nat.reduceEqDiff, rg, ow_69, e14, ptr_eq, o5.h1, q1]
        refine do_store (by simp only [evt, evc, upd_eq, Nat.reduceEqDiff, ↓reduceIte, ntT, ntF] <;> rfl) (by simp only [evt, evc, upd_eq, Nat.reduceEqDiff, ↓reduceIte, ntT, ntF] <;> rfl) sz_3 rfl o5.wb (by decide) (oc_one rfl rfl) fun w6 x6 r6 s6 => ⟨trivial, ?_⟩
        simp only [↓List.toList_toArray, ↓rgd, ↓rgf, ↓reduceIte, Nat.reduceEqDiff, rg, ow_69]
        refine hK _ _ ?_; clear hK K
        have hb0 : ∀ y o, rng b 1 1 y o → F0 y o := fun y o g => (hF0 y o).2 (.inl g.1)
        have x6' : Ext F0 w5 w6 := x6.mono fun y o _ g => hb0 y o g
        have sh6 : Shr E iso (d - 1) (2 * d - 1) h' w6 b bc (ys.length : Nat) ks' A c Bq F0 F3 K0 K3 := ⟨⟨bi', oi', cap', by rw [show ys.length = xs.length - 1 by omega]; exact o5.cnt' x6 (Row.cons.1 r6).1, hz, hK, hF0⟩,
          (kdO _ _).loc sh.n3 x6' sh.l0.d.symm, sh.l0, sh.t.ext x6' (sh.l0.g1 c (by simp)), fun a ha => (sh.rest a ha).ext x6' (sh.l0.g1 a (by
            rcases List.mem_append.1 ha with ha | ha
            · simp [ha]
            · simp [ha]))⟩
        have X6 : Ext (fun y o => F y o ∨ hF hp y o) w w6 := X5.trans x6' (fun _ _ g => g) fun y o hy g => by
          rcases hFs y o (.inl g) with h | h
          · exact .inl h
          · omega
        have H6 : HOk hp w6 := H5.ext x6' fun hb hh o g => by
          rcases hFs hb o (.inl g) with h | h
          · exact (hHF hb hh).2 o h
          · have := hHl hb 0 hh; omega
        have rq6 := x6'.row rq5 fun j _ g => hqF _ (.inl g)
        have wr6 := x6'.wok wr5
        clear sh o5 X5 H5 rq5 wr5 x6 r6 s6 x6' hb0 q1 hz hK hF0
        have hmF : ∀ o, ¬ (F0 m o ∨ F3 m o ∨ kinF (A ++ c :: Bq) m o) := fun o g => by
          rcases hFs m o g with h | h
          · exact hm o h
          · omega
        have c6 := hc.ext X6 fun o _ _ g => g.elim (hm o) (hmh o)
        refine W_sqx fun J hJ => ?_
        have hfin : ∀ (e : Env) (w7 : World) (F'' : Nat → Nat → Prop), Tr E iso (d - 1) (2 * d - 1) (h' + 1) w7 (lo - 1) b ys F'' → Ext (fun y o => F0 y o ∨ F3 y o ∨ kinF (A ++ c :: Bq) y o) w6 w7 → (∀ y o, F'' y o → (F0 y o ∨ F3 y o ∨ kinF (A ++ c :: Bq) y o) ∨ w6.heap.size ≤ y) →
            e 8 = ptr r0 → e 14 = ptr q → J e w7 := by
          clear e0 e12 e14 e15 e18 e19
          clear e
          intro e w7 F'' T7 x7 hF'' e12 e18
          refine hJ _ _ ?_; clear hJ J
          have rq7 := x7.row rq6 fun j _ g => hqF _ g
          have kq7 := dA_at rq7
          have s6 := X6.size
          have s7 := x7.size
          refine W_sq fun K hK => (W_text [true, false, true] (by kernel_rfl) ?_); simp only [↓List.toList_toArray, ↓rgd, ↓rgf, ↓reduceIte, Nat.reduceEqDiff, rg, ow_69, e18, ptr_eq, kq7]
          refine do_store (by simp only [evt, evc, upd_eq, Nat.reduceEqDiff, ↓reduceIte]; exact e12) (by simp only [evt, evc, upd_eq, Nat.reduceEqDiff, ↓reduceIte, ntT, ntF] <;> rfl) sz_71 (rb_len y) (x7.wok wr6) (by decide) (rb_oc y) fun w8 x8 r8 s8 => ⟨trivial, ?_⟩
          simp only [↓List.toList_toArray, ↓rgd, ↓rgf, ↓reduceIte, Nat.reduceEqDiff, rg, ow_69]
          refine hK _ _ ?_; clear hK K
          have hold : ∀ y o, (F0 y o ∨ F3 y o ∨ kinF (A ++ c :: Bq) y o) → y < w.heap.size → F y o := fun y o g hy => (hFs y o g).resolve_right (by omega)
          refine W_ret (endQ_ct (by simp only [upd_eq, Nat.reduceEqDiff, ↓reduceIte]; exact e12) (by simp only [upd_eq, Nat.reduceEqDiff, ↓reduceIte] <;> rfl) ld_71 (dA_at (show Row w8 r0 0 (E.cel y) from r8)) ⟨(X6.trans x7 (fun _ _ g => g) fun y o hy g => .inl (hold y o g hy)).trans x8 (fun _ _ g => g) fun y o hy g => by simp only [rng] at g; omega,
            (H6.ext x7 fun hb hh o g => ?_).ext x8 fun hb hh o g => ?_, F'', fun y o g => ?_, .inr ⟨y, ys, hdel, rfl, T7.ext x8 fun y o g k => ?_⟩⟩)
          · have := hHl hb 0 hh
            exact (hHF hb hh).2 o (hold hb o g this)
          · have := hHl hb 0 hh
            simp only [rng] at g; omega
          · rcases hF'' y o g with g | g
            · exact hFs y o g
            · exact .inr (by omega)
          · simp only [rng] at k
            rcases hF'' y o g with g | g
            · exact hrF o (by rw [← k.1]; exact g)
            · have := wok_lt wr6
              omega
        obtain ⟨a, nk, capn, hkn, hk1, hk2, hraise⟩ := sh6.t.keys
        obtain ⟨bi', oi', cap', o6, hz, hK, hF0⟩ := sh6.n0
        rcases sh6.n3 with ⟨h, _⟩ | ⟨bc', ba', oa', capc', hbc, k6, _, _⟩
        · cases h
        obtain rfl : bc = bc' := by simpa [ptr] using hbc
        have hil : A.length < ((A ++ c :: Bq).map fun g => some g.b).length := by simp
        have hcp := k6.ptr_at (j := A.length) (p := c.b) (by simp)
        by_cases hsh : nk < d - 1
        · have hb : decide ((nk : Int) < ((d - 1 : Nat) : Int)) = true := by simp only [decide_eq_true_eq]; omega
          refine W_sq fun K hK => (W_draw (some none) none [(0, 0, 0), (0, 1, 0), (0, 2, 0), (0, 3, 0), (0, 4, 0), (0, 5, 0), (0, 6, 0), (0, 7, 0), (0, 8, 0), (0, 9, 0), (0, 10, 0), (0, 11, 0), (0, 12, 0), (0, 13, 0), (0, 14, 0), (0, 15, 0), (0, 16, 0), (0, 17, 0)] mixed (by kernel_rfl) ?_); simp only [↓List.toList_toArray, ↓rgd, ↓rgf, ↓reduceIte, Nat.reduceEqDiff, rg, ow_69, e0, e14, e15, ptr_eq, o6.h3, k6.hd, hil, hcp, hkn, c6.mn, hb]
          refine hK _ _ ?_; clear hK K
          refine W_true (by simp only [evt, evc, upd_eq, Nat.reduceEqDiff, ↓reduceIte, ntT, ntF] <;> rfl) ?_
          have D := Ext.dr noF w6 (w6.drawn + 1)
          refine W_rg fun K hK => (W_text [true, true, true, false] (by kernel_rfl) ?_); simp only [↓List.toList_toArray, ↓rgd, ↓rgf, ↓reduceIte, Nat.reduceEqDiff, rg, ow_69, e0, e14, e15]
          refine do_call fn_72 (by simp only [evt, evc, upd_eq, Nat.reduceEqDiff, ↓reduceIte, maT, maC, maN, isnN, isnS] <;> rfl) (reb_shr m d iso hd hd' (c6.ext D fun _ _ _ g => g) (sh6.ext0 D) hmF hlen (by omega) (by omega) (by rw [hys]) (by rw [← hys]; omega) (D.rd hkn fun g => g) hsh) ?_
          rintro _ w7 ⟨F'', T7, x7, hF''⟩
          refine ⟨trivial, ?_⟩
          simp only [↓List.toList_toArray, ↓rgd, ↓rgf, ↓reduceIte, Nat.reduceEqDiff, rg, ow_69]
          refine hK _ _ ?_; clear hK K
          rw [← hys] at T7
          exact hfin _ _ F'' (T7.mono (by omega)) x7.od hF'' (by simp only [upd_eq, Nat.reduceEqDiff, ↓reduceIte]; exact e12) (by simp only [upd_eq, Nat.reduceEqDiff, ↓reduceIte]; exact e18)
        · have hb : decide ((nk : Int) < ((d - 1 : Nat) : Int)) = false := by simp only [decide_eq_false_iff_not]; omega
          refine W_sq fun K hK => (W_draw (some none) none [(0, 0, 0), (0, 1, 0), (0, 2, 0), (0, 3, 0), (0, 4, 0), (0, 5, 0), (0, 6, 0), (0, 7, 0), (0, 8, 0), (0, 9, 0), (0, 10, 0), (0, 11, 0), (0, 12, 0), (0, 13, 0), (0, 14, 0), (0, 15, 0), (0, 16, 0), (0, 17, 0)] mixed (by kernel_rfl) ?_); simp only [↓List.toList_toArray, ↓rgd, ↓rgf, ↓reduceIte, Nat.reduceEqDiff, rg, ow_69, e0, e14, e15, ptr_eq, o6.h3, k6.hd, hil, hcp, hkn, c6.mn, hb]
          refine hK _ _ ?_; clear hK K
          refine W_false (by simp only [evt, evc, upd_eq, Nat.reduceEqDiff, ↓reduceIte, ntT, ntF] <;> rfl) (W_skip ?_)
          have T6 := sh6.fine (lo := lo - 1) hlen (hraise (d - 1) (by omega)) (by omega) (by omega) (by rw [hys])
          rw [← hys] at T6
          exact hfin _ _ _ (T6.ext (Ext.dr noF _ _) fun _ _ _ g => g) ((Ext.dr noF _ _).mono fun _ _ _ g => g.elim) (fun y o g => .inl g) (by simp only [upd_eq, Nat.reduceEqDiff, ↓reduceIte]; exact e12) (by simp only [upd_eq, Nat.reduceEqDiff, ↓reduceIte]; exact e18)
      have hlt : ∀ y o, F y o → y < w.heap.size := ht.lt
      have hno : ∀ (e : Env) (w5 : World) (F' : Nat → Nat → Prop), delR O κ mx kq xs = none → Tr E iso (d - 1) (2 * d - 1) (h' + 1) w5 lo b xs F' → (∀ y o, F' y o → F y o ∨ w.heap.size ≤ y) → (∀ o, ¬ F' r0 o) → Ext (fun y o => F y o ∨ hF hp y o) w w5 → HOk hp w5 → wok w5 r0 2 →
          e 0 = ptr m → e 8 = ptr r0 → e 15 = .bool false → J e w5 := by
        clear e0 e2 e3 e12 e14 e15 e16 X4 H4 wr4 wq4 o4 nn hyes
        clear e
        intro e w5 F' hdel T5 hF' hFr X5 H5 wr5 e0 e12 e19
        refine hJ _ _ ?_; clear hJ J
        refine W_seq ?_
        refine W_sq fun K hK => (W_text [true, true] (by kernel_rfl) ?_); simp only [↓List.toList_toArray, ↓rgd, ↓rgf, ↓reduceIte, Nat.reduceEqDiff, rg, ow_69, e19]
        refine hK _ _ ?_; clear hK K
        refine W_true (by simp only [evt, evc, upd_eq, Nat.reduceEqDiff, ↓reduceIte, ntT, ntF] <;> rfl) ?_
        have z5 := zIt_at (hc.ext X5 fun o _ _ g => g.elim (hm o) (hmh o))
        refine W_sq fun K hK => (W_text [true, true, true, true, false, true] (by kernel_rfl) ?_); simp only [↓List.toList_toArray, ↓rgd, ↓rgf, ↓reduceIte, Nat.reduceEqDiff, rg, ow_69, e0, ptr_eq, z5]
        refine do_store (by simp only [evt, evc, upd_eq, Nat.reduceEqDiff, ↓reduceIte]; exact e12) (by simp only [evt, evc, upd_eq, Nat.reduceEqDiff, ↓reduceIte, ntT, ntF] <;> rfl) sz_71 (rb_len zIt) wr5 (by decide) (rb_oc zIt) fun w6 x6 r6 s6 => ⟨trivial, ?_⟩
        simp only [↓List.toList_toArray, ↓rgd, ↓rgf, ↓reduceIte, Nat.reduceEqDiff, rg, ow_69]
        refine hK _ _ ?_; clear hK K
        refine W_ret (endQ_ct (by simp only [upd_eq, Nat.reduceEqDiff, ↓reduceIte]; exact e12) (by simp only [upd_eq, Nat.reduceEqDiff, ↓reduceIte] <;> rfl) ld_71 (dA_at (show Row w6 r0 0 (E.cel zIt) from r6)) ⟨X5.trans x6 (fun _ _ g => g) fun y o hy g => by simp only [rng] at g; omega,
          H5.ext x6 fun hb hh o g => ?_, F', hF', .inl ⟨hdel, rfl, T5.ext x6 fun y o g k => ?_⟩⟩)
        · have := hHl hb 0 hh
          simp only [rng] at g; omega
        · simp only [rng] at k
          exact hFr o (by rw [← k.1]; exact g)
      have hpost : ∀ (e : Env) (w5 w6 : World) (i : Nat) (c : Kid It) (F' : Nat → Nat → Prop) (y : It) (zs : List It) (dl : Bool), cs[i]? = some c → Ext (fun y o => c.F y o ∨ hF hp y o) w4 w5 → HOk hp w5 → (∀ y o, F' y o → c.F y o ∨ w4.heap.size ≤ y) → Ext (rng q 0 2) w5 w6 → Row w6 q 0 (E.cel y) →
          ((dl = true ∧ Tr E iso (d - 1) (2 * d - 1) h' w5 (d - 1 - 1) c.b zs F' ∧ delR O κ mx kq xs = some (y, weave ((cs.map Kid.xs).set i zs) ks)) ∨ (dl = false ∧ zs = c.xs ∧ Tr E iso (d - 1) (2 * d - 1) h' w5 (d - 1) c.b c.xs F' ∧ delR O κ mx kq xs = none)) →
          e 0 = ptr m → e 8 = ptr r0 → e 10 = ptr b → e 11 = .int .i64 (i : Nat) → e 14 = ptr q → e 15 = .bool dl → J e w6 := by
        clear e0 e2 e3 e12 e14 e15 e16
        clear e
        intro e w5 w6 i c F' y zs dl hcs x5 H5 hF' x6 r6 hres e0 e12 e14 e15 e18 e19
        have hcm := List.mem_of_getElem? hcs
        have hcl : ∀ y o, c.F y o → y < w.heap.size := fun y o g => hlt y o (hcF c hcm y o g)
        have x46 : Ext (fun y o => (c.F y o ∨ hF hp y o) ∨ y = q) w4 w6 := x5.trans x6 (fun _ _ g => .inl g) fun y o _ g => .inr g.1
        have hG : ∀ y o, F y o → ((c.F y o ∨ hF hp y o) ∨ y = q) → c.F y o := fun y o g k => by
          rcases k with (k | k) | k
          · exact k
          · exact (hFh y o g k).elim
          · have := hlt y o g; omega
        have hF'q : ∀ o, ¬ F' q o := fun o g => by
          rcases hF' q o g with g | g
          · have := hcl q o g; omega
          · omega
        have T6 : ∀ {lo' : Nat} {zs' : List It}, Tr E iso (d - 1) (2 * d - 1) h' w5 lo' c.b zs' F' → Tr E iso (d - 1) (2 * d - 1) h' w6 lo' c.b zs' F' := fun T => T.ext x6 fun y o g k => hF'q o (by rw [← k.1]; exact g)
        have X6 : Ext (fun y o => F y o ∨ hF hp y o) w w6 := X4.trans x46 (fun _ _ g => .inr g) fun y o hy g => by
          rcases g with (g | g) | g
          · exact .inl (hcF c hcm y o g)
          · exact .inr g
          · omega
        have H6 : HOk hp w6 := H5.ext x6 fun hb hh o g => by
          have := hHl hb 0 hh
          simp only [rng] at g; omega
        have wr6 : wok w6 r0 2 := x46.wok wr4
        obtain ⟨l1, l2⟩ := shr_len (d := (⟨c.b, zs, F'⟩ : Kid It)) hcs
        have hfp : ∀ y o, (ownF E b bi oi cap y o ∨ kidF bc ba oa capc y o ∨ kinF (cs.take i ++ (⟨c.b, zs, F'⟩ : Kid It) :: cs.drop (i + 1)) y o) → F y o ∨ w4.heap.size ≤ y := fun y o g => nn.shr_fp hcs hF' y o g
        have hfp' : ∀ y o, (ownF E b bi oi cap y o ∨ kidF bc ba oa capc y o ∨ kinF (cs.take i ++ (⟨c.b, zs, F'⟩ : Kid It) :: cs.drop (i + 1)) y o) → F y o ∨ w.heap.size ≤ y := fun y o g => (hfp y o g).imp id fun g => by omega
        have hfq : ∀ (r : Nat) (o : Nat), w.heap.size ≤ r → r < w4.heap.size → ¬ (ownF E b bi oi cap r o ∨ kidF bc ba oa capc r o ∨ kinF (cs.take i ++ (⟨c.b, zs, F'⟩ : Kid It) :: cs.drop (i + 1)) r o) := fun r o h1 h2 g => by
          rcases hfp r o g with g | g
          · have := hlt r o g; omega
          · omega
        rcases hres with ⟨rfl, T5, hdel⟩ | ⟨rfl, rfl, T5, hdel⟩
        · have sh := nn.shr o4 (by omega) hcs x46 hG (T6 T5) hF'
          exact hyes e w6 y (cs.take i) (cs.drop (i + 1)) ⟨c.b, zs, F'⟩ ks _ _ _ _ _ sh rfl (by rw [l1]; exact n.len) rfl (by rw [shr_xs hcs]; exact hdel) X6 H6 hfp' r6 wr6 (fun o g => hfq q o (by omega) (by omega) g) (fun o g => hfq r0 o (by omega) (by omega) g) e0 e12 e14 (by rw [l2]; exact e15) e18 e19
        · have sh := nn.shr o4 (by omega) hcs x46 hG ((T6 T5).mono (by omega)) hF'
          have hset : (cs.map Kid.xs).set i c.xs = cs.map Kid.xs := by
            obtain ⟨g1, g2⟩ := List.getElem?_eq_some_iff.1 (show (cs.map Kid.xs)[i]? = some c.xs by rw [List.getElem?_map, hcs]; rfl)
            rw [← g2]; exact List.set_getElem_self g1
          have hxe : weave ((cs.take i ++ ⟨c.b, c.xs, F'⟩ :: cs.drop (i + 1)).map Kid.xs) ks = xs := by rw [shr_xs hcs, hset]; exact n.eq.symm
          have T := sh.fine (lo := lo) (by rw [l1]; exact n.len) (T6 T5) hl1 hl2 (by rw [hxe])
          rw [hxe] at T
          exact hno e w6 _ hdel T hfp' (fun o g => hfq r0 o (by omega) (by omega) g) X6 H6 wr6 e0 e12 e19
      have hcell : ∀ {i : Nat} {c : Kid It}, cs[i]? = some c → rd w4 ba (oa + i) = some (ptr c.b) := fun hcs => nn.kids.se.ptr_at (by simp [hcs])
      have hk0 := nn.kids.c0
      have hlenc : ∀ {i : Nat} {c : Kid It}, cs[i]? = some c → c.xs.length ≤ xs.length := fun hcs => by
        rw [n.eq]; exact weave_mem_length _ _ (by simpa using n.len) _ (List.mem_map_of_mem (List.mem_of_getElem? hcs))
      have c4 := hc.ext X4 fun o _ _ => hmh o
      have z4 := zIt_at c4
      have kz4 := dk_z c4.ez
      have hcnl := n.len
      have hll : (cs.map Kid.b).length = cs.length := List.length_map _
      have D := Ext.dr noF w4 (w4.drawn + 1)
      refine W_sq fun K hK => (W_text [true] (by kernel_rfl) ?_); simp only [↓List.toList_toArray, ↓rgd, ↓rgf, ↓reduceIte, Nat.reduceEqDiff, rg, ow_69, e16]
      refine hK _ _ ?_; clear hK K
      cases fnd with
      | false =>
        refine W_false (by simp only [evt, evc, upd_eq, Nat.reduceEqDiff, ↓reduceIte, ntT, ntF] <;> rfl) ?_
        obtain ⟨rfl, hi, hh⟩ : mx = false ∧ i = lb O κ kq ks ∧ false = hit O κ kq ks := by
          rcases hfi with ⟨_, h, _⟩ | h
          · cases h
          · exact h
        have hik : i ≤ ks.length := by rw [hi]; exact lb_le O κ _ _
        obtain ⟨c, hcs⟩ : ∃ c, cs[i]? = some c := ⟨_, List.getElem?_eq_getElem (by omega)⟩
        have hcm := List.mem_of_getElem? hcs
        have hce := hcell hcs
        have hil : i < (cs.map Kid.b).length := by omega
        obtain ⟨A, C, hw⟩ := weave_at i (cs.map Kid.xs) ks (by simpa using n.len) hik
        have hcx : (cs.map Kid.xs)[i]? = some c.xs := by rw [List.getElem?_map, hcs]; rfl
        have hxs : xs = A ++ c.xs ++ C := n.eq.trans (hw.eq hcx)
        have hac : Asc O κ c.xs := by
          rw [hxs] at ha
          exact ((Asc.append O κ).1 ((Asc.append O κ).1 ha).1).2.1
        obtain ⟨hA, hC⟩ := hw.mid O κ hcx (n.eq ▸ ha) hi.symm hh.symm
        have hdm := delR_mid (O := O) (κ := κ) (m := c.xs) hA hC
        rw [← hxs] at hdm
        have hle := hlenc hcs
        refine W_rg fun K hK => (W_text [true, true, true, true, true, true, true, true, true, true, true, false, true, true, true, false, true] (by kernel_rfl) ?_); simp only [↓List.toList_toArray, ↓rgd, ↓rgf, ↓reduceIte, Nat.reduceEqDiff, rg, ow_69, e0, e2, e3, e14, e15, ptr_eq, o4.h3, hk0, hil, hce]
        refine do_call fn_69 (by simp only [evt, evc, upd_eq, Nat.reduceEqDiff, ↓reduceIte, maT, maC, maN, isnN, isnS] <;> rfl) (ihh h' (by omega) (d - 1) c.b c.xs c.F _ ba (oa + i) false kq hp c4 (fun o g => hm o (hcF c hcm m o g)) (by omega) (nn.sub c hcm) hac (by omega) hce H4 fun hb hh => ⟨(hHF hb hh).1, fun o g => (hHF hb hh).2 o (hcF c hcm hb o g)⟩) ?_
        rintro _ w5 ⟨X5, H5, F', hF', hres⟩
        have x45 := X5
        rcases hres with ⟨hd0, rfl, T5⟩ | ⟨y, yl, hd1, rfl, T5⟩
        · refine ⟨trivial, ?_⟩
          simp only [↓List.toList_toArray, ↓rgd, ↓rgf, ↓reduceIte, Nat.reduceEqDiff, rg, ow_69]
          refine do_store (by simp only [evt, evc, upd_eq, Nat.reduceEqDiff, ↓reduceIte, ntT, ntF] <;> rfl) (by simp only [evt, evc, upd_eq, Nat.reduceEqDiff, ↓reduceIte, ntT, ntF] <;> rfl) sz_71 (rb_len zIt) (x45.wok wq4) (by decide) (rb_oc zIt) fun w6 x6 r6 s6 => ⟨trivial, ?_⟩
          simp only [↓List.toList_toArray, ↓rgd, ↓rgf, ↓reduceIte, Nat.reduceEqDiff, rg, ow_69]
          refine hK _ _ ?_; clear hK K
          exact hpost _ w5 w6 i c F' zIt c.xs false hcs x45 H5 hF' x6 r6 (.inr ⟨rfl, rfl, T5, by rw [hdm, hd0]; rfl⟩) (by simp only [upd_eq, Nat.reduceEqDiff, ↓reduceIte]; exact e0) (by simp only [upd_eq, Nat.reduceEqDiff, ↓reduceIte]; exact e12) (by simp only [upd_eq, Nat.reduceEqDiff, ↓reduceIte]; exact e14) (by simp only [upd_eq, Nat.reduceEqDiff, ↓reduceIte]; exact e15) (by simp only [upd_eq, Nat.reduceEqDiff, ↓reduceIte] <;> rfl) (by simp only [upd_eq, Nat.reduceEqDiff, ↓reduceIte] <;> rfl)
        · refine ⟨trivial, ?_⟩
          simp only [↓List.toList_toArray, ↓rgd, ↓rgf, ↓reduceIte, Nat.reduceEqDiff, rg, ow_69]
          refine do_store (by simp only [evt, evc, upd_eq, Nat.reduceEqDiff, ↓reduceIte, ntT, ntF] <;> rfl) (by simp only [evt, evc, upd_eq, Nat.reduceEqDiff, ↓reduceIte, ntT, ntF] <;> rfl) sz_71 (rb_len y) (x45.wok wq4) (by decide) (rb_oc y) fun w6 x6 r6 s6 => ⟨trivial, ?_⟩
          simp only [↓List.toList_toArray, ↓rgd, ↓rgf, ↓reduceIte, Nat.reduceEqDiff, rg, ow_69]
          refine hK _ _ ?_; clear hK K
          exact hpost _ w5 w6 i c F' y yl true hcs x45 H5 hF' x6 r6 (.inl ⟨rfl, T5, by rw [hdm, hd1, hw.set]; rfl⟩) (by simp only [upd_eq, Nat.reduceEqDiff, ↓reduceIte]; exact e0) (by simp only [upd_eq, Nat.reduceEqDiff, ↓reduceIte]; exact e12) (by simp only [upd_eq, Nat.reduceEqDiff, ↓reduceIte]; exact e14) (by simp only [upd_eq, Nat.reduceEqDiff, ↓reduceIte]; exact e15) (by simp only [upd_eq, Nat.reduceEqDiff, ↓reduceIte] <;> rfl) (by simp only [upd_eq, Nat.reduceEqDiff, ↓reduceIte] <;> rfl)
      | true =>
        refine W_true (by simp only [evt, evc, upd_eq, Nat.reduceEqDiff, ↓reduceIte, ntT, ntF] <;> rfl) ?_
        have hpos : ∀ {i : Nat} {c : Kid It}, cs[i]? = some c → c.xs ≠ [] := fun hcs hnil => by
          obtain ⟨bi1, oi1, cap1, ks1, ch1, ho1, hl11, hl12, hoF1, hin1⟩ := (n.sub _ (List.mem_of_getElem? hcs)).open
          rcases hin1 with ⟨_, _, hx, _⟩ | ⟨_, _, _, _, _, cs1, _, _, n1⟩
          · rw [hnil] at hx; rw [← hx] at hl11; simp at hl11; omega
          · have := (weave_sub (cs1.map Kid.xs) ks1 (by rw [List.length_map]; exact n1.len)).length_le
            rw [← n1.eq, hnil] at this
            simp at this; rw [this] at hl11; simp at hl11; omega
        cases mx with
        | true =>
          refine W_sq fun K hK => (W_text [true] (by kernel_rfl) ?_); simp only [↓List.toList_toArray, ↓rgd, ↓rgf, ↓reduceIte, Nat.reduceEqDiff, rg, ow_69, e2]
          refine hK _ _ ?_; clear hK K
          refine W_true (by simp only [evt, evc, upd_eq, Nat.reduceEqDiff, ↓reduceIte, ntT, ntF] <;> rfl) ?_
          have hi : i = ks.length - 1 := by
            rcases hfi with ⟨_, _, h⟩ | ⟨h, _⟩
            · exact h
            · cases h
          have q1 := wadd1 i (by omega)
          refine W_sq fun K hK => (W_text [true, true, true] (by kernel_rfl) ?_); simp only [↓List.toList_toArray, ↓rgd, ↓rgf, ↓reduceIte, Nat.reduceEqDiff, rg, ow_69, e15, q1]
          refine hK _ _ ?_; clear hK K
          have hik : i + 1 = ks.length := by omega
          obtain ⟨c, hcs⟩ : ∃ c, cs[i + 1]? = some c := ⟨_, List.getElem?_eq_getElem (by omega)⟩
          have hcm := List.mem_of_getElem? hcs
          have hce := hcell hcs
          have hil : i + 1 < (cs.map Kid.b).length := by omega
          have hle := hlenc hcs
          have hne := hpos hcs
          have hsp : cs.map Kid.xs = (cs.take (i + 1)).map Kid.xs ++ [c.xs] := by
            have h3 := List.getElem?_eq_some_iff.1 hcs
            have := List.take_append_drop (i + 1) cs
            rw [List.drop_eq_getElem_cons h3.1, h3.2, List.drop_eq_nil_of_le (by omega)] at this
            conv => lhs; rw [← this]
            simp
          have hLl : ((cs.take (i + 1)).map Kid.xs).length = ks.length := by rw [List.length_map, List.length_take]; omega
          obtain ⟨A, hA⟩ := weave_end ((cs.take (i + 1)).map Kid.xs) ks hLl
          have hxs : xs = A ++ c.xs := by rw [n.eq, hsp, hA]
          have hac : Asc O κ c.xs := by
            rw [hxs] at ha
            exact ((Asc.append O κ).1 ha).2.1
          have hdm := delR_max (O := O) (κ := κ) (q := kq) (A := A) hne
          rw [← hxs] at hdm
          refine W_rg fun K hK => (W_semi (some none) (.take false 0 (.take false 1 (.take false 2 (.take false 3 (.take true 4 (.take false 5 (.take true 6 (.take false 7 (.take false 8 (.take false 9 (.take false 10 (.take false 11 (.take false 12 (.take true 13 (.bar 14 (.take false 15 (.take false 16 (.take false 17 (.bar 18 (.take false 19 .nil)))))))))))))))))))) mixed (by kernel_rfl) ?_); simp only [↓rgm, ↓List.toList_toArray, ↓rgd, ↓rgf, ↓reduceIte, Nat.reduceEqDiff, rg, ow_69, e0, e14, ptr_eq, o4.h3, hk0, hil, hce, kz4]
          refine do_call fn_69 (by simp only [evt, evc, upd_eq, Nat.reduceEqDiff, ↓reduceIte, maT, maC, maN, isnN, isnS] <;> rfl) (ihh h' (by omega) (d - 1) c.b c.xs c.F _ ba (oa + (i + 1)) true (κ zIt) none (c4.ext D fun _ _ _ g => g) (fun o g => hm o (hcF c hcm m o g)) (by omega) ((nn.sub c hcm).ext D fun _ _ _ g => g) hac (by omega) (D.rd hce fun g => g) (HOk.none _) fun hb hh => by cases hh) ?_
          rintro _ w5 ⟨X5, _, F', hF', hres⟩
          have x45 : Ext (fun y o => c.F y o ∨ hF hp y o) w4 w5 := X5.od.mono fun y o _ g => g.elim .inl fun g => by cases g
          rcases hres with ⟨hd0, rfl, T5⟩ | ⟨y, yl, hd1, rfl, T5⟩
          · exfalso
            have := delR_last (O := O) (κ := κ) (q := κ zIt) (l := c.xs.dropLast) (x := c.xs.getLast hne)
            rw [List.dropLast_concat_getLast, hd0] at this
            cases this
          · refine ⟨trivial, ?_⟩
            simp only [↓List.toList_toArray, ↓rgd, ↓rgf, ↓reduceIte, Nat.reduceEqDiff, rg, ow_69, ↓rgm]
            refine do_store (by simp only [evt, evc, upd_eq, Nat.reduceEqDiff, ↓reduceIte, ntT, ntF] <;> rfl) (by simp only [evt, evc, upd_eq, Nat.reduceEqDiff, ↓reduceIte, ntT, ntF] <;> rfl) sz_71 (rb_len y) (x45.wok wq4) (by decide) (rb_oc y) fun w6 x6 r6 s6 => ⟨trivial, ?_⟩
            simp only [↓List.toList_toArray, ↓rgd, ↓rgf, ↓reduceIte, Nat.reduceEqDiff, rg, ow_69, ↓rgm]
            refine hK _ _ ?_; clear hK K
            have H5 : HOk hp w5 := H4.ext X5.od fun hb hh o g => by
              rcases g with g | g
              · exact (hHF hb hh).2 o (hcF c hcm hb o g)
              · cases g
            refine hpost _ w5 w6 (i + 1) c F' y yl true hcs x45 H5 hF' x6 r6 (.inl ⟨rfl, T5, ?_⟩) (by simp only [upd_eq, Nat.reduceEqDiff, ↓reduceIte]; exact e0) (by simp only [upd_eq, Nat.reduceEqDiff, ↓reduceIte]; exact e12) (by simp only [upd_eq, Nat.reduceEqDiff, ↓reduceIte]; exact e14) (by simp only [upd_eq, Nat.reduceEqDiff, ↓reduceIte] <;> rfl) (by simp only [upd_eq, Nat.reduceEqDiff, ↓reduceIte] <;> rfl) (by simp only [upd_eq, Nat.reduceEqDiff, ↓reduceIte] <;> rfl)
            have hset : (cs.map Kid.xs).set (i + 1) yl = (cs.take (i + 1)).map Kid.xs ++ [yl] := by
              have := set_last (A := (cs.take (i + 1)).map Kid.xs) (z := c.xs) (x := yl)
              rw [hLl, ← hik] at this
              rw [hsp]
              exact this
            rw [hset, hA, hdm]
            rw [show delR O κ true kq c.xs = delR O κ true (κ zIt) c.xs from rfl, hd1]
            rfl
        | false =>
          refine W_sq fun K hK => (W_text [true] (by kernel_rfl) ?_); simp only [↓List.toList_toArray, ↓rgd, ↓rgf, ↓reduceIte, Nat.reduceEqDiff, rg, ow_69, e2]
          refine hK _ _ ?_; clear hK K
          refine W_false (by simp only [evt, evc, upd_eq, Nat.reduceEqDiff, ↓reduceIte, ntT, ntF] <;> rfl) ?_
          obtain ⟨hi, hh⟩ : i = lb O κ kq ks ∧ true = hit O κ kq ks := by
            rcases hfi with ⟨h, _⟩ | ⟨_, h⟩
            · cases h
            · exact h
          obtain ⟨kk, hk1, hk2⟩ := hit_at O κ hh.symm
          rw [← hi] at hk1
          have hik := (List.getElem?_eq_some_iff.1 hk1).1
          obtain ⟨c, hcs⟩ : ∃ c, cs[i]? = some c := ⟨_, List.getElem?_eq_getElem (by omega)⟩
          have hcm := List.mem_of_getElem? hcs
          have hil : i < (cs.map Kid.b).length := by omega
          have hle := hlenc hcs
          have hne := hpos hcs
          have hkv := it_at o4.row hk1
          have hsp : cs.map Kid.xs = (cs.take i).map Kid.xs ++ c.xs :: (cs.drop (i + 1)).map Kid.xs := by
            have h3 := List.getElem?_eq_some_iff.1 hcs
            have := List.take_append_drop i cs
            rw [List.drop_eq_getElem_cons h3.1, h3.2] at this
            conv => lhs; rw [← this]
            simp
          have hLl : ((cs.take i).map Kid.xs).length = i := by rw [List.length_map, List.length_take]; omega
          obtain ⟨A, C, hA⟩ := weave_ahead (L := (cs.take i).map Kid.xs) (B := (cs.drop (i + 1)).map Kid.xs) (ks := ks) (k := kk) (by rw [hLl]; exact hk1)
          rw [hLl] at hA
          have hxs : xs = A ++ c.xs ++ kk :: C := by
            rw [n.eq, hsp, ← hA c.xs kk]
            obtain ⟨g1, g2⟩ := List.getElem?_eq_some_iff.1 hk1
            rw [← g2, List.set_getElem_self g1]
          have hac : Asc O κ c.xs := by
            rw [hxs] at ha
            exact ((Asc.append O κ).1 ((Asc.append O κ).1 ha).1).2.1
          have hdk : delR O κ false kq xs = some (kk, A ++ c.xs ++ C) := by
            rw [hk2, hxs]
            exact delR_key (by rw [← hxs]; exact ha)
          refine W_sq fun K hK => (W_text [true, true, true, true, true, true, true, false] (by kernel_rfl) ?_); simp only [↓List.toList_toArray, ↓rgd, ↓rgf, ↓reduceIte, Nat.reduceEqDiff, rg, ow_69, e14, e15, ptr_eq, o4.h2, hik, hkv]
          refine do_store (by simp only [evt, evc, upd_eq, Nat.reduceEqDiff, ↓reduceIte, ntT, ntF] <;> rfl) (by simp only [evt, evc, upd_eq, Nat.reduceEqDiff, ↓reduceIte, ntT, ntF] <;> rfl) sz_71 (rb_len kk) wq4 (by decide) (rb_oc kk) fun w5 x5 r5 s5 => ⟨trivial, ?_⟩
          simp only [↓List.toList_toArray, ↓rgd, ↓rgf, ↓reduceIte, Nat.reduceEqDiff, rg, ow_69]
          refine hK _ _ ?_; clear hK K
          have hqn : ∀ y o, F y o → ¬ rng q 0 2 y o := fun y o g k => by have := hlt y o g; have := k.1; omega
          have o5 := o4.ext x5 fun y o g => hqn y o (hoF y o g)
          have n5 := nn.ext x5 (fun y o g => hqn y o (hkF y o g)) fun a ha y o g => hqn y o (hcF a ha y o g)
          have hmq : ∀ o, ¬ rng q 0 2 m o := fun o k => by have := k.1; omega
          have c5 := c4.ext x5 fun o _ _ => hmq o
          have kz5 := dk_z c5.ez
          have hce5 := n5.kids.se.ptr_at (j := i) (p := c.b) (by simp [hcs])
          have hk5 := n5.kids.c0
          have X5 : Ext (fun y o => F y o ∨ hF hp y o) w w5 := (X4.mono fun _ _ _ g => .inr g).trans x5 (fun _ _ g => g) fun y o hy g => by have := g.1; omega
          have H5 : HOk hp w5 := H4.ext x5 fun hb hh o g => by
            have := hHl hb 0 hh
            have := g.1; omega
          have wr5 := x5.wok wr4
          have rq5 : Row w5 q 0 (E.cel kk) := r5
          have hq5 : q < w5.heap.size := by have := x5.size; omega
          have L0 := on3_0 b bc m
          have L1 := on3_1 b bc m
          have L2 := on3_2 b bc m
          have hbcl := wok_lt n5.kids.wc
          have hb5 : b < w5.heap.size ∧ m < w5.heap.size := ⟨by omega, by omega⟩
          have hcb : ∀ o, ¬ c.F b o := fun o g => n.ap.own c hcm b o g (.inl rfl)
          have hcbc : ∀ o, ¬ c.F bc o := fun o g => n.ap.kid c hcm bc o g (.inl rfl)
          have hcmF : ∀ o, ¬ c.F m o := fun o g => hm o (hcF c hcm m o g)
          have D5 := Ext.dr noF w5 (w5.drawn + 1)
          have kin3 : ∀ {G : Nat → Nat → Prop} {u v : World}, Ext G u v → (∀ x ∈ [b, bc, m], x < u.heap.size ∧ ∀ o, ¬ G x o) → keeps (some (some [b, bc, m])) u v := fun x h => keeps_on x h
          clear D hk0 c4 z4 kz4 X4 H4 wr4 o4 x5 r5 hpost hno
          refine W_sq fun K hK => (W_free (some (some [b, bc, m])) (.take 0 (.take 1 (.take 2 (.take 3 (.take 4 (.take 5 (.take 6 (.take 7 (.take 8 (.take 9 (.take 10 (.take 11 (.take 12 (.take 13 (.split 14 (.take 15 (.take 16 (.take 17 (.act 18 (.act 19 (.take 20 .nil)))))) 18 (.act 14 (.take 15 (.take 16 (.take 17 (.act 19 (.take 20 .nil))))))))))))))))))))) mixed (by kernel_rfl) ?_); simp only [↓List.toList_toArray, ↓rgd, ↓rgf, ↓reduceIte, Nat.reduceEqDiff, rg, ow_69, e0, e14, e15, ptr_eq, o5.h3, hk5, hil, hce5, kz5, L0, L1, L2, rB_on]
          have hjoin : ∀ (e : Env) (w8 : World) (t : Nat) (y : It) (yl : List It) (F' : Nat → Nat → Prop), delR O κ true (κ zIt) c.xs = some (y, yl) → Tr E iso (d - 1) (2 * d - 1) h' w8 (d - 1 - 1) c.b yl F' → (∀ y o, F' y o → c.F y o ∨ w5.heap.size ≤ y) → Ext c.F w5 w8 → Row w8 t 0 (E.cel y) →
              e 0 = ptr m → e 8 = ptr r0 → e 10 = ptr b → e 11 = .int .i64 (i : Nat) → e 14 = ptr q → e 16 = ptr t → K e w8 := by
            clear e0 e2 e3 e12 e14 e15 e16
            clear e
            intro e w8 t y yl F' hdl T8 hF' x58 rt8 e0 e12 e14 e15 e18 e20
            refine hK _ _ ?_; clear hK K
            refine W_sq fun K hK => (W_text [true] (by kernel_rfl) ?_); simp only [↓List.toList_toArray, ↓rgd, ↓rgf, ↓reduceIte, Nat.reduceEqDiff, rg, ow_69]
            refine hK _ _ ?_; clear hK K
            have hown : ∀ y o, ownF E b bi oi cap y o → ¬ c.F y o := fun y o g k => n.ap.own c hcm y o k g
            have o8 := o5.ext x58 hown
            have ky := dA_at rt8
            refine W_rg fun K hK => (W_draw (some none) (some 7) [(0, 0, 0), (0, 1, 0), (0, 2, 0), (0, 3, 0), (0, 4, 0), (0, 5, 0), (0, 6, 0), (1, 7, 0)] mixed (by kernel_rfl) ?_); simp only [↓List.toList_toArray, ↓rgd, ↓rgf, ↓reduceIte, Nat.reduceEqDiff, rg, ow_69, e14, e15, e20, ptr_eq, o8.h2, hik, ky]
            refine do_store (by simp only [evt, evc, upd_eq, Nat.reduceEqDiff, ↓reduceIte, ntT, ntF] <;> rfl) (by simp only [evt, evc, upd_eq, Nat.reduceEqDiff, ↓reduceIte, ntT, ntF] <;> rfl) sz_71 (rb_len y) o8.wi (by rw [E_sz]; omega) (rb_oc y) fun w9 x9 r9 s9 => ⟨(by first | exact trivial | exact .inl trivial), ?_⟩
            simp only [↓List.toList_toArray, ↓rgd, ↓rgf, ↓reduceIte, Nat.reduceEqDiff, rg, ow_69]
            refine hK _ _ ?_; clear hK K
            have o9 := o8.set hik (by simp only [E_sz, Nat.mul_one]; exact x9.od) (by simp only [E_sz, Nat.mul_one]; exact r9)
            have x9' : Ext (ownF E b bi oi cap) w8 w9 := x9.od.mono fun y o _ g => .inr (by simp only [rng] at g ⊢; rw [E_sz]; omega)
            obtain ⟨l1, l2⟩ := shr_len (d := (⟨c.b, yl, F'⟩ : Kid It)) hcs
            have sh := n5.shr o5 (by omega) hcs x58 (fun _ _ _ g => g) T8 hF'
            have hfp : ∀ y o, (ownF E b bi oi cap y o ∨ kidF bc ba oa capc y o ∨ kinF (cs.take i ++ (⟨c.b, yl, F'⟩ : Kid It) :: cs.drop (i + 1)) y o) → F y o ∨ w5.heap.size ≤ y := fun y o g => n5.shr_fp hcs hF' y o g
            have s5' := X5.size
            have sh9 : Shr E iso (d - 1) (2 * d - 1) h' w9 b bc (xs.length : Nat) (ks.set i y) (cs.take i) ⟨c.b, yl, F'⟩ (cs.drop (i + 1)) (ownF E b bi oi cap) (kidF bc ba oa capc) bi ba :=
              ⟨⟨bi, oi, cap, o9, by omega, rfl, fun _ _ => Iff.rfl⟩, (kdO _ _).loc sh.n3 x9' sh.l0.d.symm, sh.l0, sh.t.ext x9' (sh.l0.g1 _ (by simp)), fun a ha => (sh.rest a ha).ext x9' (sh.l0.g1 a (by
                rcases List.mem_append.1 ha with ha | ha
                · simp [ha]
                · simp [ha]))⟩
            have X9 : Ext (fun y o => F y o ∨ hF hp y o) w w9 := (X5.trans x58 (fun _ _ g => g) fun y o _ g => .inl (hcF c hcm y o g)).trans x9' (fun _ _ g => g) fun y o _ g => .inl (hoF y o g)
            have H9 : HOk hp w9 := (H5.ext x58 fun hb hh o g => (hHF hb hh).2 o (hcF c hcm hb o g)).ext x9' fun hb hh o g => (hHF hb hh).2 o (hoF hb o g)
            have hcq : ∀ o, ¬ c.F q o := fun o g => by have := hlt q o (hcF c hcm q o g); omega
            have hoq : ∀ o, ¬ ownF E b bi oi cap q o := fun o g => by have := hlt q o (hoF q o g); omega
            have rq9 := x9'.row (x58.row rq5 fun j _ => hcq _) fun j _ => hoq _
            have wr9 := x9'.wok (x58.wok wr5)
            have hcxs : c.xs = yl ++ [y] := by
              have := delR_last (O := O) (κ := κ) (q := κ zIt) (l := c.xs.dropLast) (x := c.xs.getLast hne)
              rw [List.dropLast_concat_getLast, hdl] at this
              simp only [Option.some.injEq, Prod.mk.injEq] at this
              rw [this.1, this.2, List.dropLast_concat_getLast]
            refine hyes _ w9 kk (cs.take i) (cs.drop (i + 1)) ⟨c.b, yl, F'⟩ (ks.set i y) (A ++ c.xs ++ C) _ _ _ _ sh9 List.length_set (by rw [l1, List.length_set]; exact n.len) ?_ hdk X9 H9 (fun y o g => (hfp y o g).imp id fun g => by omega) rq9 wr9 (fun o g => ?_) (fun o g => ?_)
              (by simp only [upd_eq, Nat.reduceEqDiff, ↓reduceIte]; exact e0) (by simp only [upd_eq, Nat.reduceEqDiff, ↓reduceIte]; exact e12) (by simp only [upd_eq, Nat.reduceEqDiff, ↓reduceIte]; exact e14) (by simp only [upd_eq, Nat.reduceEqDiff, ↓reduceIte]; rw [l2]; exact e15) (by simp only [upd_eq, Nat.reduceEqDiff, ↓reduceIte]; exact e18) (by simp only [upd_eq, Nat.reduceEqDiff, ↓reduceIte] <;> rfl)
            · rw [List.map_append, List.map_cons, hA, hcxs]; simp
            · rcases hfp q o g with g | g
              · have := hlt q o g; omega
              · omega
            · rcases hfp r0 o g with g | g
              · have := hlt r0 o g; omega
              · omega
          have hx3 : ∀ x ∈ [b, bc, m], x < w5.heap.size ∧ ∀ o, ¬ (c.F x o ∨ hF none x o) := fun x hx => by
            simp only [List.mem_cons, List.not_mem_nil, or_false] at hx
            rcases hx with rfl | rfl | rfl
            · exact ⟨hb5.1, fun o g => g.elim (hcb o) fun g => by cases g⟩
            · exact ⟨hbcl, fun o g => g.elim (hcbc o) fun g => by cases g⟩
            · exact ⟨hb5.2, fun o g => g.elim (hcmF o) fun g => by cases g⟩
          have hx3l : ∀ x ∈ [b, bc, m], x < w5.heap.size := fun x hx => (hx3 x hx).1
          have hcl : ∀ y o, c.F y o → y < w5.heap.size := fun y o g => by have := hlt y o (hcF c hcm y o g); omega
          have nohit : ∀ {P : Prop}, delR O κ true (κ zIt) c.xs = none → P := fun hd0 => by
            have := delR_last (O := O) (κ := κ) (q := κ zIt) (l := c.xs.dropLast) (x := c.xs.getLast hne)
            rw [List.dropLast_concat_getLast, hd0] at this
            cases this
          refine ⟨?_, ?_⟩
          · refine do_call fn_69 (by simp only [evt, evc, upd_eq, Nat.reduceEqDiff, ↓reduceIte, maT, maC, maN, isnN, isnS] <;> rfl) (ihh h' (by omega) (d - 1) c.b c.xs c.F _ ba (oa + i) true (κ zIt) none (c5.ext D5 fun _ _ _ g => g) (fun o g => hm o (hcF c hcm m o g)) (by omega) ((n5.sub c hcm).ext D5 fun _ _ _ g => g) hac (by omega) (D5.rd hce5 fun g => g) (HOk.none _) fun hb hh => by cases hh) ?_
            rintro _ w6 ⟨X6, _, F', hF', hres⟩
            rcases hres with ⟨hd0, _⟩ | ⟨y, yl, hd1, rfl, T6⟩
            · exact nohit hd0
            · have x56 : Ext c.F w5 w6 := X6.od.mono fun y o _ g => g.elim id fun g => by cases g
              have s56 := x56.size
              refine ⟨.inr (kin3 X6 hx3), ?_⟩
              simp only [↓List.toList_toArray, ↓rgd, ↓rgf, ↓reduceIte, Nat.reduceEqDiff, rg, ow_69]
              refine do_alloc dz_it fun w7 n7 => ⟨.inr (n7.keep _ fun x hx => by have := hx3l x hx; omega), ?_⟩
              simp only [↓List.toList_toArray, ↓rgd, ↓rgf, ↓reduceIte, Nat.reduceEqDiff, rg, ow_69]
              have s7 := n7.size
              refine do_store (by simp only [evt, evc, upd_eq, Nat.reduceEqDiff, ↓reduceIte, ntT, ntF] <;> rfl) (by simp only [evt, evc, upd_eq, Nat.reduceEqDiff, ↓reduceIte, ntT, ntF] <;> rfl) sz_71 (rb_len y) n7.wok (by decide) (rb_oc y) fun w8 x8 r8 s8 => ⟨.inr (kin3 x8 fun x hx => ⟨by have := hx3l x hx; omega, fun o g => by have := hx3l x hx; have := g.1; omega⟩), ?_⟩
              simp only [↓List.toList_toArray, ↓rgd, ↓rgf, ↓reduceIte, Nat.reduceEqDiff, rg, ow_69]
              refine hjoin _ w8 w6.heap.size y yl F' hd1 ((T6.ext n7.ext fun _ _ _ g => g).ext x8 fun y o g k => ?_) hF' ((x56.trans n7.ext (fun _ _ g => g) fun _ _ _ g => g.elim).trans x8 (fun _ _ g => g) fun y o hy g => ?_) r8
                (by simp only [upd_eq, Nat.reduceEqDiff, ↓reduceIte]; exact e0) (by simp only [upd_eq, Nat.reduceEqDiff, ↓reduceIte]; exact e12) (by simp only [upd_eq, Nat.reduceEqDiff, ↓reduceIte]; exact e14) (by simp only [upd_eq, Nat.reduceEqDiff, ↓reduceIte]; exact e15) (by simp only [upd_eq, Nat.reduceEqDiff, ↓reduceIte] <;> rfl) (by simp only [upd_eq, Nat.reduceEqDiff, ↓reduceIte] <;> rfl)
              · have := T6.lt y o g; have := k.1; omega
              · have := g.1; omega
          · refine do_alloc dz_it fun w6 n6 => ⟨.inr (n6.keep _ hx3l), ?_⟩
            simp only [↓List.toList_toArray, ↓rgd, ↓rgf, ↓reduceIte, Nat.reduceEqDiff, rg, ow_69]
            have n6' := n6.od
            have s6 := n6'.size
            refine do_call fn_69 (by simp only [evt, evc, upd_eq, Nat.reduceEqDiff, ↓reduceIte, maT, maC, maN, isnN, isnS] <;> rfl) (ihh h' (by omega) (d - 1) c.b c.xs c.F w6 ba (oa + i) true (κ zIt) none (c5.ext n6'.ext fun _ _ _ g => g) (fun o g => hm o (hcF c hcm m o g)) (by omega) ((n5.sub c hcm).ext n6'.ext fun _ _ _ g => g) hac (by omega) (n6'.ext.rd hce5 fun g => g) (HOk.none _) fun hb hh => by cases hh) ?_
            rintro _ w7 ⟨X7, _, F', hF', hres⟩
            rcases hres with ⟨hd0, _⟩ | ⟨y, yl, hd1, rfl, T7⟩
            · exact nohit hd0
            · have x67 : Ext c.F w6 w7 := X7.mono fun y o _ g => g.elim id fun g => by cases g
              have x57 : Ext c.F w5 w7 := n6'.ext.trans x67 (fun _ _ g => g.elim) fun _ _ _ g => g
              refine ⟨.inr (kin3 X7 fun x hx => ⟨by have := hx3l x hx; omega, (hx3 x hx).2⟩), ?_⟩
              simp only [↓List.toList_toArray, ↓rgd, ↓rgf, ↓reduceIte, Nat.reduceEqDiff, rg, ow_69]
              have s67 := x67.size
              refine do_store (by simp only [evt, evc, upd_eq, Nat.reduceEqDiff, ↓reduceIte, ntT, ntF] <;> rfl) (by simp only [evt, evc, upd_eq, Nat.reduceEqDiff, ↓reduceIte, ntT, ntF] <;> rfl) sz_71 (rb_len y) (x67.wok n6.wok) (by decide) (rb_oc y) fun w8 x8 r8 s8 => ⟨.inr (kin3 x8 fun x hx => ⟨by have := hx3l x hx; omega, fun o g => by have := hx3l x hx; have := g.1; rw [sz_dr] at this; omega⟩), ?_⟩
              simp only [↓List.toList_toArray, ↓rgd, ↓rgf, ↓reduceIte, Nat.reduceEqDiff, rg, ow_69]
              refine hjoin _ w8 w5.heap.size y yl F' hd1 (T7.ext x8 fun y o g k => ?_) (fun y o g => (hF' y o g).imp id fun g => by omega) (x57.trans x8 (fun _ _ g => g) fun y o hy g => ?_) r8
                (by simp only [upd_eq, Nat.reduceEqDiff, ↓reduceIte]; exact e0) (by simp only [upd_eq, Nat.reduceEqDiff, ↓reduceIte]; exact e12) (by simp only [upd_eq, Nat.reduceEqDiff, ↓reduceIte]; exact e14) (by simp only [upd_eq, Nat.reduceEqDiff, ↓reduceIte]; exact e15) (by simp only [upd_eq, Nat.reduceEqDiff, ↓reduceIte] <;> rfl) (by simp only [upd_eq, Nat.reduceEqDiff, ↓reduceIte] <;> rfl)
              · have h1 : y = w5.heap.size := k.1
                rcases hF' y o g with g | g
                · have := hcl y o g; omega
                · omega
              · have h1 : y = w5.heap.size := g.1
                omega
  have o3 := ho.ext X3 fun _ _ _ g => g
  refine W_sq fun K hK => (W_text [true] (by kernel_rfl) ?_); simp only [↓List.toList_toArray, ↓rgd, ↓rgf, ↓reduceIte, Nat.reduceEqDiff, rg, ow_69, e2]
  refine hK _ _ ?_; clear hK K
  cases mx with
  | true =>
    refine W_true (by simp only [evt, evc, upd_eq, Nat.reduceEqDiff, ↓reduceIte, ntT, ntF] <;> rfl) ?_
    have q1 := wsub1 ks.length (by omega) (by omega)
    refine W_rg fun K hK => (W_text [true, true, true, true, true, true, true, true] (by kernel_rfl) ?_); simp only [↓List.toList_toArray, ↓rgd, ↓rgf, ↓reduceIte, Nat.reduceEqDiff, rg, ow_69, ptr_eq, o3.h2, q1]
    refine hK _ _ ?_; clear hK K
    exact hend _ _ true (ks.length - 1) (.inl ⟨rfl, rfl, rfl⟩) (X3.mono fun _ _ _ g => g.elim) (hH.ext0 X3) wr3 (by omega) (by simp only [upd_eq, Nat.reduceEqDiff, ↓reduceIte]; exact e0) (by simp only [upd_eq, Nat.reduceEqDiff, ↓reduceIte]; exact e2) (by simp only [upd_eq, Nat.reduceEqDiff, ↓reduceIte]; exact e3) (by simp only [upd_eq, Nat.reduceEqDiff, ↓reduceIte] <;> rfl) (by simp only [upd_eq, Nat.reduceEqDiff, ↓reduceIte] <;> rfl) (by simp only [upd_eq, Nat.reduceEqDiff, ↓reduceIte] <;> rfl) (by simp only [upd_eq, Nat.reduceEqDiff, ↓reduceIte] <;> rfl)
  | false =>
    refine W_false (by simp only [evt, evc, upd_eq, Nat.reduceEqDiff, ↓reduceIte, ntT, ntF] <;> rfl) ?_
    refine W_rg fun K hK => (W_text [true, true, true, false, true, true, true, true, true] (by kernel_rfl) ?_); simp only [↓List.toList_toArray, ↓rgd, ↓rgf, ↓reduceIte, Nat.reduceEqDiff, rg, ow_69, e0, e3]
    refine do_call fn_67 (by simp only [evt, evc, upd_eq, Nat.reduceEqDiff, ↓reduceIte, maT, maC, maN, isnN, isnS] <;> rfl) (search_any (ptr m) b bi oi cap ks kq w3 o3.h2 o3.row hkb hak) ?_
    rintro _ w4 ⟨rfl, r4⟩
    have X4 : Ext noF w3 w4 := r4.ext
    refine ⟨trivial, ?_⟩
    simp only [↓List.toList_toArray, ↓rgd, ↓rgf, ↓reduceIte, Nat.reduceEqDiff, rg, ow_69, dsrch]
    refine hK _ _ ?_; clear hK K
    have s4 := X4.size
    exact hend _ _ _ _ (.inr ⟨rfl, rfl, rfl⟩) ((X3.tr X4).mono fun _ _ _ g => g.elim) (hH.ext0 (X3.tr X4)) (X4.wok wr3) (by omega) (by simp only [upd_eq, Nat.reduceEqDiff, ↓reduceIte]; exact e0) (by simp only [upd_eq, Nat.reduceEqDiff, ↓reduceIte]; exact e2) (by simp only [upd_eq, Nat.reduceEqDiff, ↓reduceIte]; exact e3) (by simp only [upd_eq, Nat.reduceEqDiff, ↓reduceIte] <;> rfl) (by simp only [upd_eq, Nat.reduceEqDiff, ↓reduceIte] <;> rfl) (by simp only [upd_eq, Nat.reduceEqDiff, ↓reduceIte] <;> rfl) (by simp only [upd_eq, Nat.reduceEqDiff, ↓reduceIte] <;> rfl)
end Go.Proofs.Ytinpigpeoakeaaa
/-
  A map in memory. No condition.
-/
set_option linter.unusedSimpArgs false
set_option linter.unusedVariables false
namespace Go.Proofs.Ytinpigpeoakeaaa
open Go Go.Proofs
/-- The map at m holds the ascending list xs. -/
structure MapAt (w : World) (m d : Nat) (iso : Int) (xs : List It) (F : Nat → Nat → Prop) : Prop where
  cfg : Cfg w m iso d
  cnt : rd w m 3 = some (.int .i64 xs.length)
  asc : Asc O κ xs
  root : (xs = [] ∧ rd w m 2 = some (.pointer none)) ∨ ∃ h b, rd w m 2 = some (ptr b) ∧ Tr E iso (d - 1) (2 * d - 1) h w 1 b xs F
  off : ∀ o, ¬ F m o
  lt : ∀ y o, F y o → y < w.heap.size
def mapF (m : Nat) (F : Nat → Nat → Prop) : Nat → Nat → Prop := fun y o => F y o ∨ y = m ∧ (o = 2 ∨ o = 3)
theorem MapAt.extG {w w' : World} {G : Nat → Nat → Prop} {m d : Nat} {iso : Int} {xs : List It} {F : Nat → Nat → Prop} (h : MapAt w m d iso xs F) (x : Ext G w w') (hF : ∀ y o, F y o → ¬ G y o) (hm : ∀ o, ¬ G m o) : MapAt w' m d iso xs F :=
  ⟨h.cfg.ext x fun o _ _ => hm o, x.rd h.cnt (hm 3), h.asc, h.root.imp (fun ⟨h1, h2⟩ => ⟨h1, x.rd h2 (hm 2)⟩) fun ⟨h', b, h1, h2⟩ => ⟨h', b, x.rd h1 (hm 2), h2.ext x hF⟩, h.off, fun y o g => Nat.lt_of_lt_of_le (h.lt y o g) x.size⟩
theorem MapAt.ext {w w' : World} {m d : Nat} {iso : Int} {xs : List It} {F : Nat → Nat → Prop} (h : MapAt w m d iso xs F) (x : Ext noF w w') : MapAt w' m d iso xs F := h.extG x (fun _ _ _ g => g) fun _ g => g
theorem MapAt.mlt {w : World} {m d : Nat} {iso : Int} {xs : List It} {F : Nat → Nat → Prop} (h : MapAt w m d iso xs F) : m < w.heap.size := wok_lt h.cfg.wok
end Go.Proofs.Ytinpigpeoakeaaa
/-
  A new node of a map. No condition.
-/
set_option linter.unusedSimpArgs false
set_option linter.unusedVariables false
namespace Go.Proofs.Ytinpigpeoakeaaa
open Go Go.Proofs
theorem z_node : zK Try.prog 90 = some [.int .u64 0, .int .i64 0, .slice none 0 0, .pointer none] := by kernel_rfl
set_option maxHeartbeats 400000 in
set_option maxRecDepth 8000 in
theorem newNode_any (m : Nat) (lf : Bool) (iso : Int) (w : World) (h0 : rd w m 0 = some (.int .u64 iso)) :
    CallK Try.prog 54 #[ptr m, .bool lf] w fun v w' => ∃ b, v = ptr b ∧ Ext noF w w' ∧ NewN w' w.heap.size b iso lf := by
  refine calls_of_W [.tmp 4] Try.func54 rfl Try.ntmps54 Try.results54 (by simp) fun e he => ?_
  have e0 : e 0 = ptr m := he 0 _ rfl
  have e1 : e 1 = .bool lf := he 1 _ rfl
  clear he
  refine W_sq fun K hK => (W_text [true] (by kernel_rfl) ?_); simp only [↓List.toList_toArray, ↓rgd, ↓rgf, ↓reduceIte, Nat.reduceEqDiff, rg, ow_54]
  refine hK _ _ ?_; clear hK K
  refine W_sq fun K hK => (W_text [false, true] (by kernel_rfl) ?_); simp only [↓List.toList_toArray, ↓rgd, ↓rgf, ↓reduceIte, Nat.reduceEqDiff, rg, ow_54]
  refine do_alloc z_node fun w1 n1 => ⟨trivial, ?_⟩
  simp only [↓List.toList_toArray, ↓rgd, ↓rgf, ↓reduceIte, Nat.reduceEqDiff, rg, ow_54]
  refine hK _ _ ?_; clear hK K
  have r1 := n1.row
  simp only [Row.cons] at r1
  obtain ⟨c0, c1, c2, c3, -⟩ := r1
  have hm := rd_lt h0
  have h01 := n1.ext.rd h0 (fun h => h)
  refine W_sq fun K hK => (W_text [true, true, true, true, true, true, true, false] (by kernel_rfl) ?_); simp only [↓List.toList_toArray, ↓rgd, ↓rgf, ↓reduceIte, Nat.reduceEqDiff, rg, ow_54, e0, ptr_eq, h01]
  refine do_store (by simp only [evt, upd_eq, Nat.reduceEqDiff, ↓reduceIte, ntT, ntF] <;> rfl) (by simp only [evt, upd_eq, Nat.reduceEqDiff, ↓reduceIte, ntT, ntF] <;> rfl) sz_67 rfl n1.wok (by decide) (oc_one rfl rfl) fun w2 x2 r2 s2 => ⟨trivial, ?_⟩
  simp only [↓List.toList_toArray, ↓rgd, ↓rgf, ↓reduceIte, Nat.reduceEqDiff, rg, ow_54]
  refine hK _ _ ?_; clear hK K
  have d0 : rd w2 w.heap.size 0 = some (.int .u64 iso) := (Row.cons.1 r2).1
  have d1 := x2.rd c1 (by simp [rng])
  have d2 := x2.rd c2 (by simp [rng])
  have d3 := x2.rd c3 (by simp [rng])
  have dw := x2.wok n1.wok
  have X2 : Ext noF w w2 := noF_of n1.ext x2 fun x o hx h => by simp only [rng] at h; omega
  refine W_seq ?_
  refine W_sq fun K hK => (W_text [true, true] (by kernel_rfl) ?_); simp only [↓List.toList_toArray, ↓rgd, ↓rgf, ↓reduceIte, Nat.reduceEqDiff, rg, ow_54, e1]
  refine hK _ _ ?_; clear hK K
  cases lf with
  | true =>
    refine W_false (by simp only [evt, upd_eq, Nat.reduceEqDiff, ↓reduceIte, ntT, ntF] <;> rfl) (W_skip ?_)
    show W _ _ _ _ _ _
    refine W_sq fun K hK => (W_text [true, true] (by kernel_rfl) ?_); simp only [↓List.toList_toArray, ↓rgd, ↓rgf, ↓reduceIte, Nat.reduceEqDiff, rg, ow_54]
    refine hK _ _ ?_; clear hK K
    refine W_ret (endQ_1 (by simp only [upd_eq, Nat.reduceEqDiff, ↓reduceIte] <;> rfl) ⟨_, rfl, X2, ⟨Nat.le_refl _, d0, d1, d2, dw, fun _ => d3, (fun h => by cases h)⟩⟩)
  | false =>
    refine W_true (by simp only [evt, upd_eq, Nat.reduceEqDiff, ↓reduceIte, ntT, ntF] <;> rfl) ?_
    refine W_rg fun K hK => (W_text [true, false, true, true, false] (by kernel_rfl) ?_); simp only [↓List.toList_toArray, ↓rgd, ↓rgf, ↓reduceIte, Nat.reduceEqDiff, rg, ow_54]
    refine do_alloc z_kids fun w3 n3 => ⟨trivial, ?_⟩
    simp only [↓List.toList_toArray, ↓rgd, ↓rgf, ↓reduceIte, Nat.reduceEqDiff, rg, ow_54]
    have hs : w2.heap.size = w.heap.size + 1 := by rw [s2, n1.size]
    refine do_store (by simp only [evt, upd_eq, Nat.reduceEqDiff, ↓reduceIte, ntT, ntF] <;> rfl) (by simp only [evt, upd_eq, Nat.reduceEqDiff, ↓reduceIte, ntT, ntF] <;> rfl) sz_88 rfl (n3.ext.wok dw) (by decide) (oc_one rfl rfl) fun w4 x4 r4 s4 => ⟨trivial, ?_⟩
    simp only [↓List.toList_toArray, ↓rgd, ↓rgf, ↓reduceIte, Nat.reduceEqDiff, rg, ow_54]
    refine hK _ _ ?_; clear hK K
    show W _ _ _ _ _ _
    refine W_sq fun K hK => (W_text [true, true] (by kernel_rfl) ?_); simp only [↓List.toList_toArray, ↓rgd, ↓rgf, ↓reduceIte, Nat.reduceEqDiff, rg, ow_54]
    refine hK _ _ ?_; clear hK K
    have X4 : Ext noF w w4 := noF_of (X2.tr n3.ext) x4 fun x o hx h => by simp only [rng] at h; omega
    refine W_ret (endQ_1 (by simp only [upd_eq, Nat.reduceEqDiff, ↓reduceIte] <;> rfl) ⟨_, rfl, X4, ⟨Nat.le_refl _, x4.rd (n3.ext.rd d0 (fun h => h)) (by simp [rng]), x4.rd (n3.ext.rd d1 (fun h => h)) (by simp [rng]), x4.rd (n3.ext.rd d2 (fun h => h)) (by simp [rng]),
      x4.wok (n3.ext.wok dw), (fun h => by cases h), fun _ => ⟨w2.heap.size, (Row.cons.1 r4).1, by omega, by omega, x4.rd (Row.cons.1 n3.row).1 (by simp [rng] <;> omega), x4.wok n3.wok⟩⟩⟩)
end Go.Proofs.Ytinpigpeoakeaaa
/-
  A node's count: its items and what its children hold. No condition.
-/
set_option linter.unusedSimpArgs false
set_option linter.unusedVariables false
namespace Go.Proofs.Ytinpigpeoakeaaa
open Go Go.Proofs
theorem ptr_at {w : World} {b o : Nat} {ps : List Nat} (h : Row w b o (ps.map ptr)) {i p : Nat} (hi : ps[i]? = some p) : rd w b (o + i) = some (ptr p) := h i _ (by simp [hi])
def cntP (cn : Nat → Nat) (ps : List Nat) : Nat := (ps.map cn).sum
theorem cntP_take (cn : Nat → Nat) (ps : List Nat) (i p : Nat) (h : ps[i]? = some p) : cntP cn (ps.take (i + 1)) = cntP cn (ps.take i) + cn p := by
  simp [cntP, List.take_add_one, h]
theorem cntP_le (cn : Nat → Nat) (ps : List Nat) (i : Nat) : cntP cn (ps.take i) ≤ cntP cn ps := by
  have : cntP cn ps = cntP cn (ps.take i) + cntP cn (ps.drop i) := by
    rw [cntP, cntP, cntP, ← List.sum_append, ← List.map_append, List.take_append_drop]
  omega
theorem ar_cong {P : Program} {f : Nat} {a b : Array Value} {w : World} {K : Value → World → Prop} (h : CallK P f b w K) (he : a = b) : CallK P f a w K := he ▸ h
set_option maxHeartbeats 400000 in
set_option maxRecDepth 8000 in
theorem count_kids (b n cap bc ba oa capc : Nat) (a : Addr) (ps : List Nat) (cn : Nat → Nat) (w : World) (h2 : rd w b 2 = some (.slice (some a) n cap)) (h3 : rd w b 3 = some (ptr bc)) (wb : wok w b 4)
    (hk : Kids w bc ba oa capc ps) (hbc : bc ≠ b) (hba : ba ≠ b) (hps : ∀ p ∈ ps, rd w p 1 = some (.int .i64 (cn p)) ∧ p ≠ b) (hbig : n + cntP cn ps < 4611686018427387904) (hpl : ps.length < 4611686018427387904) :
    CallK Try.prog 57 #[ptr b] w fun _ w' => Ext (rng b 1 1) w w' ∧ rd w' b 1 = some (.int .i64 (n + cntP cn ps : Nat)) ∧ w'.heap.size = w.heap.size := by
  refine calls_of_W [] Try.func57 rfl Try.ntmps57 Try.results57 (by simp) fun e he => ?_
  have e0 : e 0 = ptr b := he 0 _ rfl
  clear he
  refine W_sq fun K hK => (W_text [true, true, true, true, true, true, true, true, false] (by kernel_rfl) ?_); simp only [↓List.toList_toArray, ↓rgd, ↓rgf, ↓reduceIte, Nat.reduceEqDiff, rg, ow_57, e0, ptr_eq, h2]
  refine do_store (by simp only [evt, upd_eq, Nat.reduceEqDiff, ↓reduceIte, ntT, ntF] <;> rfl) (by simp only [evt, upd_eq, Nat.reduceEqDiff, ↓reduceIte, ntT, ntF] <;> rfl) sz_3 rfl wb (by decide) (oc_one rfl rfl) fun w1 x1 r1 s1 => ⟨trivial, ?_⟩
  simp only [↓List.toList_toArray, ↓rgd, ↓rgf, ↓reduceIte, Nat.reduceEqDiff, rg, ow_57]
  refine hK _ _ ?_; clear hK K
  have d3 := x1.rd h3 (by simp [rng])
  have d1 := (Row.cons.1 r1).1
  refine W_sq fun K hK => (W_text [true, false, true] (by kernel_rfl) ?_); simp only [↓List.toList_toArray, ↓rgd, ↓rgf, ↓reduceIte, Nat.reduceEqDiff, rg, ow_57, e0]
  refine do_call fn_58 (by simp only [evt, evc, upd_eq, Nat.reduceEqDiff, ↓reduceIte, maT, maC, maN]) (leaf_any b (some ⟨bc, 0, none⟩) w1 d3) ?_
  rintro v w2 ⟨rfl, rfl⟩
  refine ⟨trivial, ?_⟩
  simp only [↓List.toList_toArray, ↓rgd, ↓rgf, ↓reduceIte, Nat.reduceEqDiff, rg, ow_57]
  refine hK _ _ ?_; clear hK K
  refine W_true (by simp only [evt, upd_eq, Nat.reduceEqDiff, ↓reduceIte, ntT, ntF] <;> rfl) ?_
  refine W_sq fun K hK => (W_text [true] (by kernel_rfl) ?_); simp only [↓List.toList_toArray, ↓rgd, ↓rgf, ↓reduceIte, Nat.reduceEqDiff, rg, ow_57]
  refine hK _ _ ?_; clear hK K
  refine W_block (W_loop (fun m e w' => ∃ i : Nat, m = ps.length - i ∧ i ≤ ps.length ∧ e 0 = ptr b ∧ e 2 = .int .i64 i ∧ Ext (rng b 1 1) w w' ∧ rd w' b 1 = some (.int .i64 (n + cntP cn (ps.take i) : Nat)) ∧ w'.heap.size = w.heap.size)
    ps.length ⟨0, by simp, by simp, ?_, ?_, x1, ?_, s1⟩ ?_)
  · simp only [upd_eq, Nat.reduceEqDiff, ↓reduceIte]; exact e0
  · simp only [upd_eq, Nat.reduceEqDiff, ↓reduceIte]; rfl
  · rw [d1]; simp [cntP]
  · clear d1 r1 d3 x1 s1 e0 e
    rintro m e w' ⟨i, rfl, hi, e0, e2, x, d1, sz⟩
    have g0 := x.rd hk.c0 (by simp only [rng]; omega)
    have g3 := x.rd h3 (by simp [rng])
    refine W_seq ?_
    by_cases hlt : i < ps.length
    · have ht := lt_tt i ps.length hlt
      refine W_sq fun K hK => (W_text [true, true, true, true, true, true, true, true, true] (by kernel_rfl) ?_); simp only [↓List.toList_toArray, ↓rgd, ↓rgf, ↓reduceIte, Nat.reduceEqDiff, rg, ow_57, e0, e2, ptr_eq, g3, g0, ht]
      refine hK _ _ ?_; clear hK K
      refine W_true (by simp only [evt, upd_eq, Nat.reduceEqDiff, ↓reduceIte, ntT, ntF] <;> rfl) (W_skip ?_)
      show W _ _ _ _ _ _
      obtain ⟨p, hp⟩ : ∃ p, ps[i]? = some p := ⟨_, List.getElem?_eq_getElem hlt⟩
      obtain ⟨hp1, hpb⟩ := hps p (List.mem_of_getElem? hp)
      have g1 := x.rd hp1 (by simp only [rng]; omega)
      have ga := x.rd (ptr_at hk.row hp) (by simp only [rng]; omega)
      have ea := wadd (n + cntP cn (ps.take i)) (cn p) (by have := cntP_take cn ps i p hp; have := cntP_le cn ps (i + 1); omega)
      refine W_seq (W_block ?_)
      refine W_rg fun K hK => (W_draw (some none) (some 19) [(0, 0, 0), (0, 1, 0), (0, 2, 0), (0, 3, 0), (0, 4, 0), (0, 5, 0), (0, 6, 0), (0, 7, 0), (0, 8, 0), (0, 9, 0), (0, 10, 0), (0, 11, 0), (0, 12, 0), (0, 13, 0), (0, 14, 0), (0, 15, 0), (0, 16, 0), (0, 17, 0), (0, 18, 0), (1, 19, 0)] mixed (by kernel_rfl) ?_); simp only [↓List.toList_toArray, ↓rgd, ↓rgf, ↓reduceIte, Nat.reduceEqDiff, rg, ow_57, e0, e2, ptr_eq, d1, g3, g0, hlt, ga, g1, ea]
      refine do_store (by simp only [evt, upd_eq, Nat.reduceEqDiff, ↓reduceIte, ntT, ntF] <;> rfl) (by simp only [evt, upd_eq, Nat.reduceEqDiff, ↓reduceIte, ntT, ntF] <;> rfl) sz_3 rfl (x.wok wb) (by decide) (oc_one rfl rfl) fun w1 x1 r1 s1 => ⟨.inl trivial, ?_⟩
      simp only [↓List.toList_toArray, ↓rgd, ↓rgf, ↓reduceIte, Nat.reduceEqDiff, rg, ow_57]
      refine hK _ _ ?_; clear hK K
      show W _ _ _ _ _ _
      have e3 := wadd1 i (by omega)
      refine W_rg fun K hK => (W_text [true, true, true] (by kernel_rfl) ?_); simp only [↓List.toList_toArray, ↓rgd, ↓rgf, ↓reduceIte, Nat.reduceEqDiff, rg, ow_57, e2, e3]
      refine hK _ _ ?_; clear hK K
      refine ⟨_, ?_, i + 1, rfl, hlt, ?_, ?_, x.tr x1.od, ?_, by rw [s1]; exact sz⟩
      · omega
      · simp only [upd_eq, Nat.reduceEqDiff, ↓reduceIte]; exact e0
      · simp only [upd_eq, Nat.reduceEqDiff, ↓reduceIte]
      · rw [cntP_take cn ps i p hp, ← Nat.add_assoc]; exact (Row.cons.1 r1).1
    · obtain rfl : i = ps.length := by omega
      have ht := lt_ff ps.length ps.length (by omega)
      refine W_sq fun K hK => (W_text [true, true, true, true, true, true, true, true, true] (by kernel_rfl) ?_); simp only [↓List.toList_toArray, ↓rgd, ↓rgf, ↓reduceIte, Nat.reduceEqDiff, rg, ow_57, e0, e2, ptr_eq, g3, g0, ht]
      refine hK _ _ ?_; clear hK K
      refine W_false (by simp only [evt, upd_eq, Nat.reduceEqDiff, ↓reduceIte, ntT, ntF] <;> rfl) (W_exit ?_)
      simp only [andThen_exit, inBlk_exit, ↓reduceIte]
      exact endQ_0n ⟨x, by rw [d1, List.take_length], sz⟩
end Go.Proofs.Ytinpigpeoakeaaa
/-
  A full node is split: its items and children up to the middle stay, those behind go to a new node. No condition.
-/
set_option linter.unusedSimpArgs false
set_option linter.unusedVariables false
namespace Go.Proofs.Ytinpigpeoakeaaa
open Go Go.Proofs
theorem slFrom_ne {b o sz l n c : Nat} (h : c ≠ l) : slFrom b o sz l n c = .slice (some ⟨b, o + l * sz, none⟩) (n - l) (c - l) := by simp [slFrom, h]
theorem z_it : zK Try.prog 71 = some (E.cel zIt) := by kernel_rfl
theorem itV_cells (x : It) : (itV x).cells.toList = E.cel x := rfl
theorem itV_len (x : It) : (itV x).cells.toList.length = 2 := rfl
theorem itV_oc (x : It) : oc (itV x).cells.toList := E.one x
set_option maxHeartbeats 400000 in
set_option maxRecDepth 8000 in
theorem split_leaf (m d b bi oi cap : Nat) (iso cnt : Int) (ks : List It) (w : World) (hd : 2 ≤ d) (hd' : d ≤ 128) (hc : Cfg w m iso d) (ho : Own E w b iso cnt bi oi cap ks (.pointer none)) (hl : ks.length = 2 * d - 1)
    (hm : ∀ o, ¬ ownF E b bi oi cap m o) :
    CallK Try.prog 56 #[ptr m, ptr b] w fun v w' => ∃ rb x, v = .tuple #[ptr rb, itV x] ∧ ks[d - 1]? = some x ∧ Ext (ownF E b bi oi cap) w w' ∧ w.heap.size ≤ rb ∧
      Own E w' b iso (d - 1 : Nat) bi oi (d - 1) (ks.take (d - 1)) (.pointer none) ∧ Own E w' rb iso (d - 1 : Nat) bi (oi + d * 2) (cap - d) (ks.drop d) (.pointer none) := by
  refine calls_of_W [.tmp 4, .cell 5 71] Try.func56 rfl Try.ntmps56 Try.results56 (by simp) fun e he => ?_
  have e0 : e 0 = ptr m := he 0 _ rfl
  have e1 : e 1 = ptr b := he 1 _ rfl
  clear he
  obtain ⟨x, hx⟩ : ∃ x, ks[d - 1]? = some x := ⟨_, List.getElem?_eq_getElem (by omega)⟩
  have hcap := ho.le
  have wi : wok w bi (oi + cap * 2) := (by have h := ho.wi; simp only [E_sz, Nat.mul_one] at h; exact h)
  have hbl := wok_lt ho.wb
  have hbil := wok_lt ho.wi
  have hml := wok_lt hc.wok
  have hmb : m ≠ b := fun h => hm 0 (.inl h)
  have q1 : IntKind.i64.wrap (((2 * d - 1 : Nat) : Int).tdiv 2) = ((d - 1 : Nat) : Int) := by rw [wdiv2 _ (by omega)]; congr 1; omega
  have q2 : IntKind.i64.wrap (((d - 1 : Nat) : Int) + 1) = ((d : Nat) : Int) := by rw [wadd1 _ (by omega)]; congr 1; omega
  have i1 : d - 1 < ks.length := by omega
  have i2 : d ≤ ks.length := by omega
  have i3 : d - 1 ≤ cap := by omega
  refine W_sq fun K hK => (W_text [true, false] (by kernel_rfl) ?_); simp only [↓List.toList_toArray, ↓rgd, ↓rgf, ↓reduceIte, Nat.reduceEqDiff, rg, ow_56]
  refine do_alloc z_it fun w1 n1 => ⟨trivial, ?_⟩
  simp only [↓List.toList_toArray, ↓rgd, ↓rgf, ↓reduceIte, Nat.reduceEqDiff, rg, ow_56]
  refine hK _ _ ?_; clear hK K
  have X1 := n1.ext
  have c1 := hc.ext X1 fun _ _ _ h => h
  refine W_sq fun K hK => (W_text [true, true, true, true, true, true] (by kernel_rfl) ?_); simp only [↓List.toList_toArray, ↓rgd, ↓rgf, ↓reduceIte, Nat.reduceEqDiff, rg, ow_56, e0, ptr_eq, c1.mx, q1]
  refine hK _ _ ?_; clear hK K
  have o1 := ho.ext X1 fun _ _ _ h => h
  have it1 := it_at o1.row hx
  refine W_sq fun K hK => (W_text [true, true, true, true, true, true, true, false] (by kernel_rfl) ?_); simp only [↓List.toList_toArray, ↓rgd, ↓rgf, ↓reduceIte, Nat.reduceEqDiff, rg, ow_56, e1, ptr_eq, o1.h2, i1, it1]
  refine do_store (by simp only [evt, evc, upd_eq, Nat.reduceEqDiff, ↓reduceIte, ntT, ntF] <;> rfl) (by simp only [evt, evc, upd_eq, Nat.reduceEqDiff, ↓reduceIte, ntT, ntF] <;> rfl) sz_71 (itV_len x) n1.wok (by decide) (itV_oc x) fun w2 x2 r2 s2 => ⟨trivial, ?_⟩
  simp only [↓List.toList_toArray, ↓rgd, ↓rgf, ↓reduceIte, Nat.reduceEqDiff, rg, ow_56]
  refine hK _ _ ?_; clear hK K
  have X2 : Ext noF w w2 := noF_of X1 x2 fun x o hx h => by simp only [rng] at h; omega
  have o2 := ho.ext X2 fun _ _ _ h => h
  have c2 := hc.ext X2 fun _ _ _ h => h
  have s2' : w2.heap.size = w.heap.size + 1 := by rw [s2, n1.size]
  refine W_sq fun K hK => (W_text [true, true, false, false, true] (by kernel_rfl) ?_); simp only [↓List.toList_toArray, ↓rgd, ↓rgf, ↓reduceIte, Nat.reduceEqDiff, rg, ow_56, e0, e1]
  refine do_call fn_58 (by simp only [evt, evc, upd_eq, Nat.reduceEqDiff, ↓reduceIte, maT, maC, maN, isnN, isnS] <;> rfl) (leaf_any b none w2 o2.h3) ?_
  rintro v w3 ⟨rfl, rfl⟩
  refine ⟨trivial, ?_⟩
  simp only [↓List.toList_toArray, ↓rgd, ↓rgf, ↓reduceIte, Nat.reduceEqDiff, rg, ow_56]
  refine do_call fn_54 (by simp only [evt, evc, upd_eq, Nat.reduceEqDiff, ↓reduceIte, maT, maC, maN, isnN, isnS] <;> rfl) (newNode_any m true iso w3 c2.iso) ?_
  rintro v w4 ⟨rb, rfl, x4, nn⟩
  refine ⟨trivial, ?_⟩
  simp only [↓List.toList_toArray, ↓rgd, ↓rgf, ↓reduceIte, Nat.reduceEqDiff, rg, ow_56]
  refine hK _ _ ?_; clear hK K
  have X4 := X2.tr x4
  have o4 := ho.ext X4 fun _ _ _ h => h
  have c4 := hc.ext X4 fun _ _ _ h => h
  have s4 := x4.size
  have nrb := nn.ge
  have hs : slFrom bi oi 2 d ks.length cap = .slice (some ⟨bi, oi + d * 2, none⟩) (ks.length - d) (cap - d) := by (rw [slFrom_ne (by omega)]; try rw [Nat.mul_one])
  refine W_sq fun K hK => (W_text [true, true, true, true, true, true, true, true, true, true, false] (by kernel_rfl) ?_); simp only [↓List.toList_toArray, ↓rgd, ↓rgf, ↓reduceIte, Nat.reduceEqDiff, rg, ow_56, e1, ptr_eq, o4.h2, q2, i2, hs]
  refine do_store (by simp only [evt, evc, upd_eq, Nat.reduceEqDiff, ↓reduceIte, ntT, ntF] <;> rfl) (by simp only [evt, evc, upd_eq, Nat.reduceEqDiff, ↓reduceIte, ntT, ntF] <;> rfl) sz_87 rfl nn.wb (by decide) (oc_one rfl rfl) fun w5 x5 r5 s5 => ⟨trivial, ?_⟩
  simp only [↓List.toList_toArray, ↓rgd, ↓rgf, ↓reduceIte, Nat.reduceEqDiff, rg, ow_56]
  refine hK _ _ ?_; clear hK K
  have X5 : Ext noF w w5 := noF_of X4 x5 fun x o hx h => by simp only [rng] at h; omega
  have o5 := ho.ext X5 fun _ _ _ h => h
  refine W_seq ?_
  refine W_sq fun K hK => (W_text [true, false, true] (by kernel_rfl) ?_); simp only [↓List.toList_toArray, ↓rgd, ↓rgf, ↓reduceIte, Nat.reduceEqDiff, rg, ow_56, e1]
  refine do_call fn_58 (by simp only [evt, evc, upd_eq, Nat.reduceEqDiff, ↓reduceIte, maT, maC, maN, isnN, isnS] <;> rfl) (leaf_any b none w5 o5.h3) ?_
  rintro v w6 ⟨rfl, rfl⟩
  refine ⟨trivial, ?_⟩
  simp only [↓List.toList_toArray, ↓rgd, ↓rgf, ↓reduceIte, Nat.reduceEqDiff, rg, ow_56]
  refine hK _ _ ?_; clear hK K
  refine W_false (by simp only [evt, evc, upd_eq, Nat.reduceEqDiff, ↓reduceIte, ntT, ntF] <;> rfl) (W_skip ?_)
  show W _ _ _ _ _ _
  have nl := x5.rd (nn.leaf rfl) (by simp [rng])
  refine W_sq fun K hK => (W_text [true, false] (by kernel_rfl) ?_); simp only [↓List.toList_toArray, ↓rgd, ↓rgf, ↓reduceIte, Nat.reduceEqDiff, rg, ow_56]
  refine do_call fn_57 (by simp only [evt, evc, upd_eq, Nat.reduceEqDiff, ↓reduceIte, maT, maC, maN, isnN, isnS] <;> rfl) (count_leaf rb (ks.length - d) (cap - d) _ w6 (Row.cons.1 r5).1 nl (x5.wok nn.wb)) ?_
  rintro v w7 ⟨x7, r7, s7⟩
  refine ⟨trivial, ?_⟩
  simp only [↓List.toList_toArray, ↓rgd, ↓rgf, ↓reduceIte, Nat.reduceEqDiff, rg, ow_56]
  refine hK _ _ ?_; clear hK K
  have X7 : Ext noF w w7 := noF_of X5 x7 fun x o hx h => by simp only [rng] at h; omega
  have o7 := ho.ext X7 fun _ _ _ h => h
  have c7 := hc.ext X7 fun _ _ _ h => h
  have z7 := zIt_at c7
  refine W_sq fun K hK => (W_draw (some none) (some 10) [(0, 0, 0), (0, 1, 0), (0, 2, 0), (0, 3, 0), (0, 4, 0), (0, 5, 0), (0, 6, 0), (0, 7, 0), (0, 8, 0), (0, 9, 0), (1, 10, 0)] mixed (by kernel_rfl) ?_); simp only [↓List.toList_toArray, ↓rgd, ↓rgf, ↓reduceIte, Nat.reduceEqDiff, rg, ow_56, e0, e1, ptr_eq, o7.h2, i1, z7]
  refine do_store (by simp only [evt, evc, upd_eq, Nat.reduceEqDiff, ↓reduceIte, ntT, ntF] <;> rfl) (by simp only [evt, evc, upd_eq, Nat.reduceEqDiff, ↓reduceIte, ntT, ntF] <;> rfl) sz_71 (itV_len zIt) (X7.wok wi) (by omega) (itV_oc zIt) fun w8 x8 r8 s8 => ⟨.inl trivial, ?_⟩
  simp only [↓List.toList_toArray, ↓rgd, ↓rgf, ↓reduceIte, Nat.reduceEqDiff, rg, ow_56]
  refine hK _ _ ?_; clear hK K
  have x8 := x8.od
  have b2 := x8.rd o7.h2 (by simp only [rng]; have := ho.ne; omega)
  have b3 := x8.rd o7.h3 (by simp only [rng]; have := ho.ne; omega)
  refine W_sq fun K hK => (W_text [true, true, true, true, true, true, true, true, true, true, false] (by kernel_rfl) ?_); simp only [↓List.toList_toArray, ↓rgd, ↓rgf, ↓reduceIte, Nat.reduceEqDiff, rg, ow_56, e1, ptr_eq, b2, i3]
  refine do_store (by simp only [evt, evc, upd_eq, Nat.reduceEqDiff, ↓reduceIte, ntT, ntF] <;> rfl) (by simp only [evt, evc, upd_eq, Nat.reduceEqDiff, ↓reduceIte, ntT, ntF] <;> rfl) sz_87 rfl (x8.wok o7.wb) (by decide) (oc_one rfl rfl) fun w9 x9 r9 s9 => ⟨trivial, ?_⟩
  simp only [↓List.toList_toArray, ↓rgd, ↓rgf, ↓reduceIte, Nat.reduceEqDiff, rg, ow_56]
  refine hK _ _ ?_; clear hK K
  have b3 := x9.rd b3 (by simp [rng])
  refine W_seq ?_
  refine W_sq fun K hK => (W_text [true, false, true] (by kernel_rfl) ?_); simp only [↓List.toList_toArray, ↓rgd, ↓rgf, ↓reduceIte, Nat.reduceEqDiff, rg, ow_56, e1]
  refine do_call fn_58 (by simp only [evt, evc, upd_eq, Nat.reduceEqDiff, ↓reduceIte, maT, maC, maN, isnN, isnS] <;> rfl) (leaf_any b none w9 b3) ?_
  rintro v w10 ⟨rfl, rfl⟩
  refine ⟨trivial, ?_⟩
  simp only [↓List.toList_toArray, ↓rgd, ↓rgf, ↓reduceIte, Nat.reduceEqDiff, rg, ow_56]
  refine hK _ _ ?_; clear hK K
  refine W_false (by simp only [evt, evc, upd_eq, Nat.reduceEqDiff, ↓reduceIte, ntT, ntF] <;> rfl) (W_skip ?_)
  show W _ _ _ _ _ _
  refine W_sq fun K hK => (W_text [true, false] (by kernel_rfl) ?_); simp only [↓List.toList_toArray, ↓rgd, ↓rgf, ↓reduceIte, Nat.reduceEqDiff, rg, ow_56, e1]
  have b2 := (Row.cons.1 r9).1
  refine do_call fn_57 (by simp only [evt, evc, upd_eq, Nat.reduceEqDiff, ↓reduceIte, maT, maC, maN, isnN, isnS] <;> rfl) (count_leaf b (d - 1) (d - 1) _ w10 b2 b3 (x9.wok (x8.wok o7.wb))) ?_
  rintro v w11 ⟨x11, r11, s11⟩
  refine ⟨trivial, ?_⟩
  simp only [↓List.toList_toArray, ↓rgd, ↓rgf, ↓reduceIte, Nat.reduceEqDiff, rg, ow_56]
  refine hK _ _ ?_; clear hK K
  have md : ∀ {w' : World} {G : Nat → Nat → Prop}, Ext G w3 w' → (∀ o, ¬ G w.heap.size o) → Row w' w.heap.size 0 (itV x).cells.toList := fun h hG => h.row r2 fun i _ => hG _
  have ma : Row w11 w.heap.size 0 (itV x).cells.toList :=
    x11.row (x9.row (x8.row (x7.row (x5.row (x4.row r2 fun i _ h => h) fun i _ h => by simp only [rng] at h; omega) fun i _ h => by simp only [rng] at h; omega) fun i _ h => by simp only [rng] at h; omega) fun i _ h => by simp only [rng] at h; omega) fun i _ h => by simp only [rng] at h; omega
  have mv : rdA w11 w.heap.size 0 2 = some (itV x) := ma.rdA 2 (Nat.le_of_eq (itV_len x).symm)
  have mw : wok w11 w.heap.size 2 := x11.wok (x9.wok (x8.wok (x7.wok (x5.wok (x4.wok (x2.wok n1.wok))))))
  refine W_sq fun K hK => (W_draw (some none) (some 3) [(0, 0, 0), (0, 1, 0), (0, 2, 0), (1, 3, 0)] mixed (by kernel_rfl) ?_); simp only [↓List.toList_toArray, ↓rgd, ↓rgf, ↓reduceIte, Nat.reduceEqDiff, rg, ow_56, e1, mv]
  refine do_store (by simp only [evt, evc, upd_eq, Nat.reduceEqDiff, ↓reduceIte, ntT, ntF] <;> rfl) (by simp only [evt, evc, upd_eq, Nat.reduceEqDiff, ↓reduceIte, ntT, ntF] <;> rfl) sz_71 (itV_len x) mw (by decide) (itV_oc x) fun w12 x12 r12 s12 => ⟨.inl trivial, ?_⟩
  simp only [↓List.toList_toArray, ↓rgd, ↓rgf, ↓reduceIte, Nat.reduceEqDiff, rg, ow_56]
  refine hK _ _ ?_; clear hK K
  have x12 := x12.od
  have Y : Ext (fun x o => (x = b ∧ (o = 1 ∨ o = 2)) ∨ rng bi (oi + (d - 1) * 2) 2 x o ∨ x = w.heap.size) w7 w12 :=
    (((x8.trans x9 (H := fun x o => (x = b ∧ (o = 1 ∨ o = 2)) ∨ rng bi (oi + (d - 1) * 2) 2 x o ∨ x = w.heap.size) (fun _ _ h => .inr (.inl h)) fun x o _ h => by simp only [rng] at h; omega).trans x11 (fun _ _ h => h) fun x o _ h => by simp only [rng] at h; omega).trans x12 (fun _ _ h => h) fun x o _ h => by simp only [rng] at h; omega)
  have hne := ho.ne
  have hrb7 := wok_lt (x7.wok (x5.wok nn.wb))
  refine W_ret (endQ_tc (by simp only [upd_eq, Nat.reduceEqDiff, ↓reduceIte] <;> rfl) (by simp only [upd_eq, Nat.reduceEqDiff, ↓reduceIte] <;> rfl) ld_71 (r12.rdA 2 (Nat.le_of_eq (itV_len x).symm)) ⟨rb, x, rfl, hx, ?_, by omega, ?_, ?_⟩)
  · refine X7.trans Y (fun _ _ h => h.elim) fun y o hy h => ?_
    rcases h with ⟨rfl, _⟩ | h | rfl
    · exact .inl rfl
    · simp only [rng] at h; exact .inr ⟨h.1, by omega, by rw [E_sz]; omega⟩
    · omega
  · have hrow : Row w12 bi oi (flat E (ks.take (d - 1))) := by
      rw [← flat_take]
      exact Y.row (o7.row.take _) fun i hi => by rw [List.length_take] at hi; simp only [rng]; rw [E_sz] at hi; omega
    have hlen : (ks.take (d - 1)).length = d - 1 := by rw [List.length_take]; omega
    refine ⟨Y.rd o7.h0 (by simp only [rng]; omega), x12.rd r11 (by simp only [rng]; omega), ?_, Y.rd o7.h3 (by simp only [rng]; omega), Y.wok o7.wb, hrow, (Y.wok (X7.wok wi)).mono ?_, Nat.le_of_eq hlen, hne⟩
    · rw [hlen]; exact x12.rd (x11.rd b2 (by simp only [rng]; omega)) (by simp only [rng]; omega)
    · rw [E_sz]; omega
  · have hrow : Row w12 bi (oi + d * 2) (flat E (ks.drop d)) := by
      have hr := o7.row.drop (d * E.sz)
      rw [flat_drop] at hr; simp only [E_sz, Nat.mul_one] at hr
      exact Y.row hr fun i hi => by simp only [rng]; omega
    have hlen : (ks.drop d).length = ks.length - d := by rw [List.length_drop]
    have hl2 : ks.length - d = d - 1 := by omega
    have k0 := x7.rd (x5.rd nn.h0 (by simp only [rng]; omega)) (by simp only [rng]; omega)
    have k2 := x7.rd (Row.cons.1 r5).1 (by simp only [rng]; omega)
    have k3 := x7.rd nl (by simp only [rng]; omega)
    refine ⟨Y.rd k0 (by simp only [rng]; omega), ?_, ?_, Y.rd k3 (by simp only [rng]; omega), Y.wok (x7.wok (x5.wok nn.wb)), hrow, (Y.wok (X7.wok wi)).mono ?_, ?_, by omega⟩
    · rw [← hl2]; exact Y.rd r7 (by simp only [rng]; omega)
    · rw [hlen]; exact Y.rd k2 (by simp only [rng]; omega)
    · rw [E_sz]; omega
    · rw [hlen]; omega
theorem cntP_drop (cn : Nat → Nat) (ps : List Nat) (i : Nat) : cntP cn (ps.drop i) ≤ cntP cn ps := by
  have : cntP cn ps = cntP cn (ps.take i) + cntP cn (ps.drop i) := by
    rw [cntP, cntP, cntP, ← List.sum_append, ← List.map_append, List.take_append_drop]
  omega
set_option maxHeartbeats 400000 in
set_option maxRecDepth 8000 in
theorem split_inner (m d b bi oi cap bc ba oa capc : Nat) (ps : List Nat) (cn : Nat → Nat) (iso cnt : Int) (ks : List It) (w : World) (hd : 2 ≤ d) (hd' : d ≤ 128) (hc : Cfg w m iso d) (ho : Own E w b iso cnt bi oi cap ks (ptr bc)) (hk : Kids w bc ba oa capc ps) (hpl : ps.length = 2 * d) (hbc : bc ≠ b) (hba : ba ≠ b) (hic : bi ≠ bc) (hia : bi ≠ ba) (hl : ks.length = 2 * d - 1)
    (hm : ∀ o, ¬ ownF E b bi oi cap m o) (hm' : ∀ o, ¬ kidF bc ba oa capc m o) (hps : ∀ p ∈ ps, rd w p 1 = some (.int .i64 (cn p)) ∧ ∀ o, ¬ ownF E b bi oi cap p o ∧ ¬ kidF bc ba oa capc p o)
    (hbig : cntP cn ps < 2305843009213693952) :
    CallK Try.prog 56 #[ptr m, ptr b] w fun v w' => ∃ rb x, v = .tuple #[ptr rb, itV x] ∧ ks[d - 1]? = some x ∧ Ext (fun x o => ownF E b bi oi cap x o ∨ kidF bc ba oa capc x o) w w' ∧ w.heap.size ≤ rb ∧ ∃ rbc, w.heap.size ≤ rbc ∧ rbc ≠ rb ∧
      Own E w' b iso (d - 1 + cntP cn (ps.take d) : Nat) bi oi (d - 1) (ks.take (d - 1)) (ptr bc) ∧ Own E w' rb iso (d - 1 + cntP cn (ps.drop d) : Nat) bi (oi + d * 2) (cap - d) (ks.drop d) (ptr rbc) ∧
      Kids w' bc ba oa d (ps.take d) ∧ Kids w' rbc ba (oa + d) (capc - d) (ps.drop d) := by
  refine calls_of_W [.tmp 4, .cell 5 71] Try.func56 rfl Try.ntmps56 Try.results56 (by simp) fun e he => ?_
  have e0 : e 0 = ptr m := he 0 _ rfl
  have e1 : e 1 = ptr b := he 1 _ rfl
  clear he
  obtain ⟨x, hx⟩ : ∃ x, ks[d - 1]? = some x := ⟨_, List.getElem?_eq_getElem (by omega)⟩
  have hcap := ho.le
  have wi : wok w bi (oi + cap * 2) := (by have h := ho.wi; simp only [E_sz, Nat.mul_one] at h; exact h)
  have hbl := wok_lt ho.wb
  have hbil := wok_lt ho.wi
  have hml := wok_lt hc.wok
  have hmb : m ≠ b := fun h => hm 0 (.inl h)
  have q1 : IntKind.i64.wrap (((2 * d - 1 : Nat) : Int).tdiv 2) = ((d - 1 : Nat) : Int) := by rw [wdiv2 _ (by omega)]; congr 1; omega
  have q2 : IntKind.i64.wrap (((d - 1 : Nat) : Int) + 1) = ((d : Nat) : Int) := by rw [wadd1 _ (by omega)]; congr 1; omega
  have i1 : d - 1 < ks.length := by omega
  have i2 : d ≤ ks.length := by omega
  have i3 : d - 1 ≤ cap := by omega
  refine W_sq fun K hK => (W_text [true, false] (by kernel_rfl) ?_); simp only [↓List.toList_toArray, ↓rgd, ↓rgf, ↓reduceIte, Nat.reduceEqDiff, rg, ow_56]
  refine do_alloc z_it fun w1 n1 => ⟨trivial, ?_⟩
  simp only [↓List.toList_toArray, ↓rgd, ↓rgf, ↓reduceIte, Nat.reduceEqDiff, rg, ow_56]
  refine hK _ _ ?_; clear hK K
  have X1 := n1.ext
  have c1 := hc.ext X1 fun _ _ _ h => h
  refine W_sq fun K hK => (W_text [true, true, true, true, true, true] (by kernel_rfl) ?_); simp only [↓List.toList_toArray, ↓rgd, ↓rgf, ↓reduceIte, Nat.reduceEqDiff, rg, ow_56, e0, ptr_eq, c1.mx, q1]
  refine hK _ _ ?_; clear hK K
  have o1 := ho.ext X1 fun _ _ _ h => h
  have it1 := it_at o1.row hx
  refine W_sq fun K hK => (W_text [true, true, true, true, true, true, true, false] (by kernel_rfl) ?_); simp only [↓List.toList_toArray, ↓rgd, ↓rgf, ↓reduceIte, Nat.reduceEqDiff, rg, ow_56, e1, ptr_eq, o1.h2, i1, it1]
  refine do_store (by simp only [evt, evc, upd_eq, Nat.reduceEqDiff, ↓reduceIte, ntT, ntF] <;> rfl) (by simp only [evt, evc, upd_eq, Nat.reduceEqDiff, ↓reduceIte, ntT, ntF] <;> rfl) sz_71 (itV_len x) n1.wok (by decide) (itV_oc x) fun w2 x2 r2 s2 => ⟨trivial, ?_⟩
  simp only [↓List.toList_toArray, ↓rgd, ↓rgf, ↓reduceIte, Nat.reduceEqDiff, rg, ow_56]
  refine hK _ _ ?_; clear hK K
  have X2 : Ext noF w w2 := noF_of X1 x2 fun x o hx h => by simp only [rng] at h; omega
  have o2 := ho.ext X2 fun _ _ _ h => h
  have c2 := hc.ext X2 fun _ _ _ h => h
  have s2' : w2.heap.size = w.heap.size + 1 := by rw [s2, n1.size]
  refine W_sq fun K hK => (W_text [true, true, false, false, true] (by kernel_rfl) ?_); simp only [↓List.toList_toArray, ↓rgd, ↓rgf, ↓reduceIte, Nat.reduceEqDiff, rg, ow_56, e0, e1]
  refine do_call fn_58 (by simp only [evt, evc, upd_eq, Nat.reduceEqDiff, ↓reduceIte, maT, maC, maN, isnN, isnS] <;> rfl) (leaf_any b (some ⟨bc, 0, none⟩) w2 o2.h3) ?_
  rintro v w3 ⟨rfl, rfl⟩
  refine ⟨trivial, ?_⟩
  simp only [↓List.toList_toArray, ↓rgd, ↓rgf, ↓reduceIte, Nat.reduceEqDiff, rg, ow_56]
  refine do_call fn_54 (by simp only [evt, evc, upd_eq, Nat.reduceEqDiff, ↓reduceIte, maT, maC, maN, isnN, isnS] <;> rfl) (newNode_any m false iso w3 c2.iso) ?_
  rintro v w4 ⟨rb, rfl, x4, nn⟩
  refine ⟨trivial, ?_⟩
  simp only [↓List.toList_toArray, ↓rgd, ↓rgf, ↓reduceIte, Nat.reduceEqDiff, rg, ow_56]
  refine hK _ _ ?_; clear hK K
  have X4 := X2.tr x4
  have o4 := ho.ext X4 fun _ _ _ h => h
  have c4 := hc.ext X4 fun _ _ _ h => h
  have s4 := x4.size
  have nrb := nn.ge
  have hs : slFrom bi oi 2 d ks.length cap = .slice (some ⟨bi, oi + d * 2, none⟩) (ks.length - d) (cap - d) := by (rw [slFrom_ne (by omega)]; try rw [Nat.mul_one])
  refine W_sq fun K hK => (W_text [true, true, true, true, true, true, true, true, true, true, false] (by kernel_rfl) ?_); simp only [↓List.toList_toArray, ↓rgd, ↓rgf, ↓reduceIte, Nat.reduceEqDiff, rg, ow_56, e1, ptr_eq, o4.h2, q2, i2, hs]
  refine do_store (by simp only [evt, evc, upd_eq, Nat.reduceEqDiff, ↓reduceIte, ntT, ntF] <;> rfl) (by simp only [evt, evc, upd_eq, Nat.reduceEqDiff, ↓reduceIte, ntT, ntF] <;> rfl) sz_87 rfl nn.wb (by decide) (oc_one rfl rfl) fun w5 x5 r5 s5 => ⟨trivial, ?_⟩
  simp only [↓List.toList_toArray, ↓rgd, ↓rgf, ↓reduceIte, Nat.reduceEqDiff, rg, ow_56]
  refine hK _ _ ?_; clear hK K
  have X5 : Ext noF w w5 := noF_of X4 x5 fun x o hx h => by simp only [rng] at h; omega
  have o5 := ho.ext X5 fun _ _ _ h => h
  refine W_seq ?_
  refine W_sq fun K hK => (W_text [true, false, true] (by kernel_rfl) ?_); simp only [↓List.toList_toArray, ↓rgd, ↓rgf, ↓reduceIte, Nat.reduceEqDiff, rg, ow_56, e1]
  refine do_call fn_58 (by simp only [evt, evc, upd_eq, Nat.reduceEqDiff, ↓reduceIte, maT, maC, maN, isnN, isnS] <;> rfl) (leaf_any b (some ⟨bc, 0, none⟩) w5 o5.h3) ?_
  rintro v w6 ⟨rfl, rfl⟩
  refine ⟨trivial, ?_⟩
  simp only [↓List.toList_toArray, ↓rgd, ↓rgf, ↓reduceIte, Nat.reduceEqDiff, rg, ow_56]
  refine hK _ _ ?_; clear hK K
  obtain ⟨rbc, nk, nk1, nk2, nk3, nk4⟩ := nn.kids rfl
  refine W_true (by simp only [evt, evc, upd_eq, Nat.reduceEqDiff, ↓reduceIte, ntT, ntF] <;> rfl) ?_
  have nl := x5.rd nk (by simp [rng])
  have g0 := X5.rd hk.c0 (fun h => h)
  have hs' : slFrom ba oa 1 d ps.length capc = .slice (some ⟨ba, oa + d * 1, none⟩) (ps.length - d) (capc - d) := slFrom_ne (by have := hk.le; omega)
  have i4 : d ≤ ps.length := by omega
  refine W_rg fun K hK => (W_draw (some none) (some 14) [(0, 0, 0), (0, 1, 0), (0, 2, 0), (0, 3, 0), (0, 4, 0), (0, 5, 0), (0, 6, 0), (0, 7, 0), (0, 8, 0), (0, 9, 0), (0, 10, 0), (0, 11, 0), (0, 12, 0), (0, 13, 0), (1, 14, 0)] mixed (by kernel_rfl) ?_); simp only [↓List.toList_toArray, ↓rgd, ↓rgf, ↓reduceIte, Nat.reduceEqDiff, rg, ow_56, e1, ptr_eq, o5.h3, g0, nl, q2, i4, hs']
  refine do_store (by simp only [evt, evc, upd_eq, Nat.reduceEqDiff, ↓reduceIte, ntT, ntF] <;> rfl) (by simp only [evt, evc, upd_eq, Nat.reduceEqDiff, ↓reduceIte, ntT, ntF] <;> rfl) sz_96 rfl (x5.wok nk4) (by decide) (oc_one rfl rfl) fun wk xk rk sk => ⟨.inl trivial, ?_⟩
  simp only [↓List.toList_toArray, ↓rgd, ↓rgf, ↓reduceIte, Nat.reduceEqDiff, rg, ow_56]
  refine hK _ _ ?_; clear hK K
  show W _ _ _ _ _ _
  have xk := xk.od
  have nl := xk.rd nl (by simp only [rng]; omega)
  have Xk : Ext noF w wk := noF_of X5 xk fun x o hx h => by simp only [rng] at h; omega
  have ok := ho.ext Xk fun _ _ _ h => h
  have kk := hk.ext Xk fun _ _ _ h => h
  have nK : Kids wk rbc ba (oa + d) (capc - d) (ps.drop d) := by
    have hd2 : (ps.drop d).length = ps.length - d := List.length_drop
    refine ⟨?_, xk.wok (x5.wok nk4), ?_, (Xk.wok hk.wa).mono (by have := hk.le; omega), by rw [hd2]; have := hk.le; omega, by have := wok_lt hk.wa; omega⟩
    · rw [hd2]; exact (Row.cons.1 rk).1
    · rw [List.map_drop]; exact kk.row.drop d
  refine W_sq fun K hK => (W_text [true, false] (by kernel_rfl) ?_); simp only [↓List.toList_toArray, ↓rgd, ↓rgf, ↓reduceIte, Nat.reduceEqDiff, rg, ow_56]
  have hpd : ∀ p ∈ ps.drop d, rd wk p 1 = some (.int .i64 (cn p)) ∧ p ≠ rb := fun p hp => by
    have h1 := hps p (List.mem_of_mem_drop hp)
    exact ⟨Xk.rd h1.1 fun h => h, by have := rd_lt h1.1; omega⟩
  have hcd := cntP_drop cn ps d
  refine do_call fn_57 (by simp only [evt, evc, upd_eq, Nat.reduceEqDiff, ↓reduceIte, maT, maC, maN, isnN, isnS] <;> rfl) (count_kids rb (ks.length - d) (cap - d) rbc ba (oa + d) (capc - d) _ (ps.drop d) cn wk (xk.rd (Row.cons.1 r5).1 (by simp only [rng]; omega)) nl (xk.wok (x5.wok nn.wb)) nK (by omega) (by have := wok_lt hk.wa; omega) hpd (by omega) (by rw [List.length_drop]; omega)) ?_
  rintro v w7 ⟨x7, r7, s7⟩
  refine ⟨trivial, ?_⟩
  simp only [↓List.toList_toArray, ↓rgd, ↓rgf, ↓reduceIte, Nat.reduceEqDiff, rg, ow_56]
  refine hK _ _ ?_; clear hK K
  have X7 : Ext noF w w7 := noF_of Xk x7 fun x o hx h => by simp only [rng] at h; omega
  have k7 := hk.ext X7 fun _ _ _ h => h
  have o7 := ho.ext X7 fun _ _ _ h => h
  have c7 := hc.ext X7 fun _ _ _ h => h
  have z7 := zIt_at c7
  refine W_sq fun K hK => (W_draw (some none) (some 10) [(0, 0, 0), (0, 1, 0), (0, 2, 0), (0, 3, 0), (0, 4, 0), (0, 5, 0), (0, 6, 0), (0, 7, 0), (0, 8, 0), (0, 9, 0), (1, 10, 0)] mixed (by kernel_rfl) ?_); simp only [↓List.toList_toArray, ↓rgd, ↓rgf, ↓reduceIte, Nat.reduceEqDiff, rg, ow_56, e0, e1, ptr_eq, o7.h2, i1, z7]
  refine do_store (by simp only [evt, evc, upd_eq, Nat.reduceEqDiff, ↓reduceIte, ntT, ntF] <;> rfl) (by simp only [evt, evc, upd_eq, Nat.reduceEqDiff, ↓reduceIte, ntT, ntF] <;> rfl) sz_71 (itV_len zIt) (X7.wok wi) (by omega) (itV_oc zIt) fun w8 x8 r8 s8 => ⟨.inl trivial, ?_⟩
  simp only [↓List.toList_toArray, ↓rgd, ↓rgf, ↓reduceIte, Nat.reduceEqDiff, rg, ow_56]
  refine hK _ _ ?_; clear hK K
  have x8 := x8.od
  have b2 := x8.rd o7.h2 (by simp only [rng]; have := ho.ne; omega)
  have b3 := x8.rd o7.h3 (by simp only [rng]; have := ho.ne; omega)
  refine W_sq fun K hK => (W_text [true, true, true, true, true, true, true, true, true, true, false] (by kernel_rfl) ?_); simp only [↓List.toList_toArray, ↓rgd, ↓rgf, ↓reduceIte, Nat.reduceEqDiff, rg, ow_56, e1, ptr_eq, b2, i3]
  refine do_store (by simp only [evt, evc, upd_eq, Nat.reduceEqDiff, ↓reduceIte, ntT, ntF] <;> rfl) (by simp only [evt, evc, upd_eq, Nat.reduceEqDiff, ↓reduceIte, ntT, ntF] <;> rfl) sz_87 rfl (x8.wok o7.wb) (by decide) (oc_one rfl rfl) fun w9 x9 r9 s9 => ⟨trivial, ?_⟩
  simp only [↓List.toList_toArray, ↓rgd, ↓rgf, ↓reduceIte, Nat.reduceEqDiff, rg, ow_56]
  refine hK _ _ ?_; clear hK K
  have b3 := x9.rd b3 (by simp [rng])
  refine W_seq ?_
  refine W_sq fun K hK => (W_text [true, false, true] (by kernel_rfl) ?_); simp only [↓List.toList_toArray, ↓rgd, ↓rgf, ↓reduceIte, Nat.reduceEqDiff, rg, ow_56, e1]
  refine do_call fn_58 (by simp only [evt, evc, upd_eq, Nat.reduceEqDiff, ↓reduceIte, maT, maC, maN, isnN, isnS] <;> rfl) (leaf_any b (some ⟨bc, 0, none⟩) w9 b3) ?_
  rintro v w10 ⟨rfl, rfl⟩
  refine ⟨trivial, ?_⟩
  simp only [↓List.toList_toArray, ↓rgd, ↓rgf, ↓reduceIte, Nat.reduceEqDiff, rg, ow_56]
  refine hK _ _ ?_; clear hK K
  refine W_true (by simp only [evt, evc, upd_eq, Nat.reduceEqDiff, ↓reduceIte, ntT, ntF] <;> rfl) ?_
  have k10 := (k7.ext x8 fun x o h g => by simp only [rng, kidF] at h g; omega).ext x9 fun x o h g => by simp only [rng, kidF] at h g; omega
  have i5 : d ≤ capc := by have := hk.le; omega
  refine W_rg fun K hK => (W_draw (some none) (some 16) [(0, 0, 0), (0, 1, 0), (0, 2, 0), (0, 3, 0), (0, 4, 0), (0, 5, 0), (0, 6, 0), (0, 7, 0), (0, 8, 0), (0, 9, 0), (0, 10, 0), (0, 11, 0), (0, 12, 0), (0, 13, 0), (0, 14, 0), (0, 15, 0), (1, 16, 0)] mixed (by kernel_rfl) ?_); simp only [↓List.toList_toArray, ↓rgd, ↓rgf, ↓reduceIte, Nat.reduceEqDiff, rg, ow_56, e1, ptr_eq, b3, k10.c0, q2, i5]
  refine do_store (by simp only [evt, evc, upd_eq, Nat.reduceEqDiff, ↓reduceIte, ntT, ntF] <;> rfl) (by simp only [evt, evc, upd_eq, Nat.reduceEqDiff, ↓reduceIte, ntT, ntF] <;> rfl) sz_96 rfl k10.wc (by decide) (oc_one rfl rfl) fun wl xl rl sl => ⟨.inl trivial, ?_⟩
  simp only [↓List.toList_toArray, ↓rgd, ↓rgf, ↓reduceIte, Nat.reduceEqDiff, rg, ow_56]
  refine hK _ _ ?_; clear hK K
  show W _ _ _ _ _ _
  have xl := xl.od
  have b3 := xl.rd b3 (by simp only [rng]; omega)
  have b2 := xl.rd (Row.cons.1 r9).1 (by simp only [rng]; omega)
  have lK : Kids wl bc ba oa d (ps.take d) := by
    have hd2 : (ps.take d).length = d := by rw [List.length_take]; omega
    refine ⟨?_, xl.wok k10.wc, ?_, (xl.wok k10.wa).mono (by omega), Nat.le_of_eq hd2, hk.ne⟩
    · rw [hd2]; exact (Row.cons.1 rl).1
    · rw [List.map_take]; exact xl.row (k10.row.take d) fun i _ => by simp only [rng]; have := hk.ne; omega
  refine W_sq fun K hK => (W_text [true, false] (by kernel_rfl) ?_); simp only [↓List.toList_toArray, ↓rgd, ↓rgf, ↓reduceIte, Nat.reduceEqDiff, rg, ow_56, e1]
  have hpt : ∀ p ∈ ps.take d, rd wl p 1 = some (.int .i64 (cn p)) ∧ p ≠ b := fun p hp => by
    have h1 := hps p (List.mem_of_mem_take hp)
    have h2 := (h1.2 1).1
    have h3 := (h1.2 1).2
    have h0 := rd_lt h1.1
    simp only [ownF, kidF, rng, E_sz] at h2 h3
    refine ⟨xl.rd (x9.rd (x8.rd (X7.rd h1.1 fun h => h) (by simp only [rng]; omega)) (by simp only [rng]; omega)) (by simp only [rng]; omega), by omega⟩
  have hcl := cntP_le cn ps d
  refine do_call fn_57 (by simp only [evt, evc, upd_eq, Nat.reduceEqDiff, ↓reduceIte, maT, maC, maN, isnN, isnS] <;> rfl) (count_kids b (d - 1) (d - 1) bc ba oa d _ (ps.take d) cn wl b2 b3 (xl.wok (x9.wok (x8.wok o7.wb))) lK hbc hba hpt (by omega) (by rw [List.length_take]; omega)) ?_
  rintro v w11 ⟨x11, r11, s11⟩
  refine ⟨trivial, ?_⟩
  simp only [↓List.toList_toArray, ↓rgd, ↓rgf, ↓reduceIte, Nat.reduceEqDiff, rg, ow_56]
  refine hK _ _ ?_; clear hK K
  have md : ∀ {w' : World} {G : Nat → Nat → Prop}, Ext G w3 w' → (∀ o, ¬ G w.heap.size o) → Row w' w.heap.size 0 (itV x).cells.toList := fun h hG => h.row r2 fun i _ => hG _
  have hbcl' := wok_lt hk.wc
  have ma : Row w11 w.heap.size 0 (itV x).cells.toList :=
    x11.row (xl.row (x9.row (x8.row (x7.row (xk.row (x5.row (x4.row r2 fun i _ h => h) fun i _ h => by simp only [rng] at h; omega) fun i _ h => by simp only [rng] at h; omega) fun i _ h => by simp only [rng] at h; omega) fun i _ h => by simp only [rng] at h; omega) fun i _ h => by simp only [rng] at h; omega) fun i _ h => by simp only [rng] at h; omega) fun i _ h => by simp only [rng] at h; omega
  have mv : rdA w11 w.heap.size 0 2 = some (itV x) := ma.rdA 2 (Nat.le_of_eq (itV_len x).symm)
  have mw : wok w11 w.heap.size 2 := x11.wok (xl.wok (x9.wok (x8.wok (x7.wok (xk.wok (x5.wok (x4.wok (x2.wok n1.wok))))))))
  refine W_sq fun K hK => (W_draw (some none) (some 3) [(0, 0, 0), (0, 1, 0), (0, 2, 0), (1, 3, 0)] mixed (by kernel_rfl) ?_); simp only [↓List.toList_toArray, ↓rgd, ↓rgf, ↓reduceIte, Nat.reduceEqDiff, rg, ow_56, e1, mv]
  refine do_store (by simp only [evt, evc, upd_eq, Nat.reduceEqDiff, ↓reduceIte, ntT, ntF] <;> rfl) (by simp only [evt, evc, upd_eq, Nat.reduceEqDiff, ↓reduceIte, ntT, ntF] <;> rfl) sz_71 (itV_len x) mw (by decide) (itV_oc x) fun w12 x12 r12 s12 => ⟨.inl trivial, ?_⟩
  simp only [↓List.toList_toArray, ↓rgd, ↓rgf, ↓reduceIte, Nat.reduceEqDiff, rg, ow_56]
  refine hK _ _ ?_; clear hK K
  have x12 := x12.od
  have Y : Ext (fun x o => (x = b ∧ (o = 1 ∨ o = 2)) ∨ rng bi (oi + (d - 1) * 2) 2 x o ∨ x = w.heap.size ∨ rng bc 0 1 x o) w7 w12 :=
    ((((x8.trans x9 (H := fun x o => (x = b ∧ (o = 1 ∨ o = 2)) ∨ rng bi (oi + (d - 1) * 2) 2 x o ∨ x = w.heap.size ∨ rng bc 0 1 x o) (fun _ _ h => .inr (.inl h)) fun x o _ h => by simp only [rng] at h; omega).trans xl (fun _ _ h => h) fun x o _ h => .inr (.inr (.inr h))).trans x11 (fun _ _ h => h) fun x o _ h => by simp only [rng] at h; omega).trans x12 (fun _ _ h => h) fun x o _ h => by simp only [rng] at h; omega)
  have hne := ho.ne
  have hrb7 := wok_lt (x7.wok (xk.wok (x5.wok nn.wb)))
  have hbcl := wok_lt hk.wc
  have hbal := wok_lt hk.wa
  have hkne := hk.ne
  refine W_ret (endQ_tc (by simp only [upd_eq, Nat.reduceEqDiff, ↓reduceIte] <;> rfl) (by simp only [upd_eq, Nat.reduceEqDiff, ↓reduceIte] <;> rfl) ld_71 (r12.rdA 2 (Nat.le_of_eq (itV_len x).symm)) ⟨rb, x, rfl, hx, ?_, by omega, rbc, by omega, nk2, ?_, ?_, ?_, ?_⟩)
  · refine X7.trans Y (fun _ _ h => h.elim) fun y o hy h => ?_
    rcases h with ⟨rfl, _⟩ | h | rfl | h
    · exact .inl (.inl rfl)
    · simp only [rng] at h; exact .inl (.inr ⟨h.1, by omega, by rw [E_sz]; omega⟩)
    · omega
    · exact .inr (.inl h.1)
  · have hrow : Row w12 bi oi (flat E (ks.take (d - 1))) := by
      rw [← flat_take]
      exact Y.row (o7.row.take _) fun i hi => by rw [List.length_take] at hi; simp only [rng]; rw [E_sz] at hi; omega
    have hlen : (ks.take (d - 1)).length = d - 1 := by rw [List.length_take]; omega
    refine ⟨Y.rd o7.h0 (by simp only [rng]; omega), x12.rd r11 (by simp only [rng]; omega), ?_, Y.rd o7.h3 (by simp only [rng]; omega), Y.wok o7.wb, hrow, (Y.wok (X7.wok wi)).mono ?_, Nat.le_of_eq hlen, hne⟩
    · rw [hlen]; exact x12.rd (x11.rd b2 (by simp only [rng]; omega)) (by simp only [rng]; omega)
    · rw [E_sz]; omega
  · have hrow : Row w12 bi (oi + d * 2) (flat E (ks.drop d)) := by
      have hr := o7.row.drop (d * E.sz)
      rw [flat_drop] at hr; simp only [E_sz, Nat.mul_one] at hr
      exact Y.row hr fun i hi => by simp only [rng]; omega
    have hlen : (ks.drop d).length = ks.length - d := by rw [List.length_drop]
    have hl2 : ks.length - d = d - 1 := by omega
    have k0 := x7.rd (xk.rd (x5.rd nn.h0 (by simp only [rng]; omega)) (by simp only [rng]; omega)) (by simp only [rng]; omega)
    have k2 := x7.rd (xk.rd (Row.cons.1 r5).1 (by simp only [rng]; omega)) (by simp only [rng]; omega)
    have k3 := x7.rd nl (by simp only [rng]; omega)
    refine ⟨Y.rd k0 (by simp only [rng]; omega), ?_, ?_, Y.rd k3 (by simp only [rng]; omega), Y.wok (x7.wok (xk.wok (x5.wok nn.wb))), hrow, (Y.wok (X7.wok wi)).mono ?_, ?_, by omega⟩
    · rw [← hl2]; exact Y.rd r7 (by simp only [rng]; omega)
    · rw [hlen]; exact Y.rd k2 (by simp only [rng]; omega)
    · rw [E_sz]; omega
    · rw [hlen]; omega
  · exact (lK.ext x11 fun x o h g => by simp only [rng, kidF] at h g; omega).ext x12 fun x o h g => by simp only [rng, kidF] at h g; omega
  · exact (nK.ext x7 fun x o h g => by simp only [rng, kidF] at h g; omega).ext Y fun x o h g => by simp only [rng, kidF] at h g; omega
end Go.Proofs.Ytinpigpeoakeaaa
/-
  A full tree is split into two trees and the item between them. No condition.
-/
set_option linter.unusedSimpArgs false
set_option linter.unusedVariables false
namespace Go.Proofs.Ytinpigpeoakeaaa
open Go Go.Proofs
theorem weave_split {α : Type} : ∀ (i : Nat) (cs : List (List α)) (ks : List α) (k : α), cs.length = ks.length + 1 → ks[i]? = some k →
    weave cs ks = weave (cs.take (i + 1)) (ks.take i) ++ k :: weave (cs.drop (i + 1)) (ks.drop (i + 1))
  | _, cs, [], k, _, hk => by simp at hk
  | _, [], _ :: _, k, h, _ => by simp at h
  | 0, c :: cs, k0 :: ks, k, h, hk => by simp at hk; subst hk; simp [weave]
  | i + 1, c :: cs, k0 :: ks, k, h, hk => by
    rw [weave_cons, weave_split i cs ks k (by simpa using h) (by simpa using hk)]
    simp [weave]
theorem Tr.cnt {α : Type} {E : Enc α} {iso : Int} {mn mx : Nat} {w : World} : ∀ {h lo b : Nat} {xs : List α} {F : Nat → Nat → Prop}, Tr E iso mn mx h w lo b xs F → rd w b 1 = some (.int .i64 xs.length)
  | 0, _, _, _, _, ⟨_, _, _, hO, _⟩ => hO.h1
  | _ + 1, _, _, _, _, ⟨_, _, _, _, _, _, _, _, _, hO, _⟩ => hO.h1
theorem Tr.iso' {α : Type} {E : Enc α} {iso : Int} {mn mx : Nat} {w : World} : ∀ {h lo b : Nat} {xs : List α} {F : Nat → Nat → Prop}, Tr E iso mn mx h w lo b xs F → rd w b 0 = some (.int .u64 iso)
  | 0, _, _, _, _, ⟨_, _, _, hO, _⟩ => hO.h0
  | _ + 1, _, _, _, _, ⟨_, _, _, _, _, _, _, _, _, hO, _⟩ => hO.h0
def cnW (w : World) (p : Nat) : Nat := match rd w p 1 with
  | some (.int _ k) => k.toNat
  | _ => 0
theorem cnW_eq {w : World} {p n : Nat} (h : rd w p 1 = some (.int .i64 (n : Int))) : cnW w p = n := by simp [cnW, h]
theorem cntP_kids {α : Type} {E : Enc α} {iso : Int} {mn mx h : Nat} {w : World} : ∀ {cs : List (Kid α)}, (∀ c ∈ cs, Tr E iso mn mx h w mn c.b c.xs c.F) → cntP (cnW w) (cs.map Kid.b) = ((cs.map Kid.xs).map List.length).sum
  | [], _ => rfl
  | c :: cs, hc => by
    have ih := cntP_kids (cs := cs) fun c h => hc c (by simp [h])
    simp only [cntP, List.map_cons, List.sum_cons] at ih ⊢
    rw [ih, cnW_eq (hc c (by simp)).cnt]
theorem ownF_sub {α : Type} {E : Enc α} {b bi oi oi' cap cap' x o : Nat} (h : ownF E b bi oi' cap' x o) (h1 : oi ≤ oi') (h2 : oi' + cap' * E.sz ≤ oi + cap * E.sz) : ownF E b bi oi cap x o := by
  rcases h with h | ⟨h, h3, h4⟩
  · exact .inl h
  · exact .inr ⟨h, by omega, by omega⟩
set_option maxHeartbeats 1000000 in
theorem split_tr (m d b h : Nat) (iso : Int) (xs : List It) (F : Nat → Nat → Prop) (w : World) (hd : 2 ≤ d) (hd' : d ≤ 128) (hc : Cfg w m iso d) (ht : Tr E iso (d - 1) (2 * d - 1) h w (2 * d - 1) b xs F)
    (hm : ∀ o, ¬ F m o) (hbig : xs.length < 2305843009213693952) :
    CallK Try.prog 56 #[ptr m, ptr b] w fun v w' => ∃ rb md xl xr, ∃ Fl Fr : Nat → Nat → Prop, v = .tuple #[ptr rb, itV md] ∧ xs = xl ++ md :: xr ∧ Ext F w w' ∧ (∀ y o, Fl y o → F y o) ∧
      (∀ y o, Fr y o → F y o ∨ w.heap.size ≤ y) ∧ (∀ y o, Fl y o → ¬ Fr y o) ∧ Tr E iso (d - 1) (2 * d - 1) h w' (d - 1) b xl Fl ∧ Tr E iso (d - 1) (2 * d - 1) h w' (d - 1) rb xr Fr := by
  cases h with
  | zero =>
    obtain ⟨bi, oi, cap, ho, h1, h2, hF⟩ := ht
    have hbl := wok_lt ho.wb
    have hbil := wok_lt ho.wi
    have hle := ho.le
    have hne := ho.ne
    refine CallK_mono (split_leaf m d b bi oi cap iso _ xs w hd hd' hc ho (by omega) fun o h => hm o ((hF _ _).2 h)) ?_
    rintro v w' ⟨rb, x, rfl, hx, X, hrb, oL, oR⟩
    have hxs : xs = xs.take (d - 1) ++ x :: xs.drop d := by
      have h3 := (List.getElem?_eq_some_iff.1 hx)
      have := List.take_append_drop (d - 1) xs
      rw [List.drop_eq_getElem_cons h3.1, h3.2, show d - 1 + 1 = d by omega] at this
      exact this.symm
    have l1 : (xs.take (d - 1)).length = d - 1 := by rw [List.length_take]; omega
    have l2 : (xs.drop d).length = d - 1 := by rw [List.length_drop]; omega
    refine ⟨rb, x, xs.take (d - 1), xs.drop d, ownF E b bi oi (d - 1), ownF E rb bi (oi + d * 2) (cap - d), rfl, hxs, X.mono fun y o _ h => (hF y o).2 h, fun y o h => (hF y o).2 (ownF_sub h (Nat.le_refl _) (by rw [E_sz]; omega)), ?_, ?_, ?_, ?_⟩
    · rintro y o (rfl | ⟨rfl, h3, h4⟩)
      · exact .inr hrb
      · rw [E_sz] at h4; exact .inl ((hF _ _).2 (.inr ⟨rfl, by omega, by rw [E_sz]; omega⟩))
    · rintro y o (rfl | ⟨rfl, h3, h4⟩) (h5 | ⟨h5, h6, h7⟩)
      · omega
      · omega
      · omega
      · rw [E_sz] at h4 h7; omega
    · exact ⟨bi, oi, d - 1, by rw [l1]; exact oL, by omega, by omega, fun _ _ => Iff.rfl⟩
    · exact ⟨bi, oi + d * 2, cap - d, by rw [l2]; exact oR, by omega, by omega, fun _ _ => Iff.rfl⟩
  | succ h =>
    obtain ⟨bi, oi, cap, bc, ba, oa, capc, ks, cs, ho, hk, h1, h2, hcs, hxs, hT, hA, hF⟩ := ht
    have hbl := wok_lt ho.wb
    have hbil := wok_lt ho.wi
    have hbcl := wok_lt hk.wc
    have hbal := wok_lt hk.wa
    have hle := ho.le
    have hne := ho.ne
    have hkne := hk.ne
    have hkle := hk.le
    rw [List.length_map] at hkle
    have hkl : ks.length = 2 * d - 1 := by omega
    have hsum := cntP_kids hT
    have hlen := weave_length (cs.map Kid.xs) ks (by simpa using hcs)
    rw [← hxs] at hlen
    refine CallK_mono (split_inner m d b bi oi cap bc ba oa capc (cs.map Kid.b) (cnW w) iso _ ks w hd hd' hc ho hk (by rw [List.length_map]; omega) hA.cb hA.ab hA.ic hA.ia hkl (fun o h => hm o ((hF _ _).2 (.inl h)))
      (fun o h => hm o ((hF _ _).2 (.inr (.inl h)))) ?_ (by omega)) ?_
    · intro p hp
      obtain ⟨c, hcm, rfl⟩ := List.mem_map.1 hp
      have hTc := hT c hcm
      refine ⟨by rw [cnW_eq hTc.cnt]; exact hTc.cnt, fun o => ⟨hA.own c hcm _ _ (hTc.self o), hA.kid c hcm _ _ (hTc.self o)⟩⟩
    rintro v w' ⟨rb, x, rfl, hx, X, hrb, rbc, hrbc, hrr, oL, oR, kL, kR⟩
    have hsp := weave_split (d - 1) (cs.map Kid.xs) ks x (by simpa using hcs) hx
    rw [show d - 1 + 1 = d by omega, ← List.map_take, ← List.map_drop] at hsp
    have l1 : (ks.take (d - 1)).length = d - 1 := by rw [List.length_take]; omega
    have l2 : (ks.drop d).length = d - 1 := by rw [List.length_drop]; omega
    have c1 : (cs.take d).length = d := by rw [List.length_take]; omega
    have c2 : (cs.drop d).length = d := by rw [List.length_drop]; omega
    have n1 := weave_length ((cs.take d).map Kid.xs) (ks.take (d - 1)) (by rw [List.length_map]; omega)
    have n2 := weave_length ((cs.drop d).map Kid.xs) (ks.drop d) (by rw [List.length_map]; omega)
    have s1 := cntP_kids (cs := cs.take d) fun c h => hT c (List.mem_of_mem_take h)
    have s2 := cntP_kids (cs := cs.drop d) fun c h => hT c (List.mem_of_mem_drop h)
    rw [List.map_take] at s1
    rw [List.map_drop] at s2
    have hT' : ∀ c ∈ cs, Tr E iso (d - 1) (2 * d - 1) h w' (d - 1) c.b c.xs c.F := fun c hc => (hT c hc).ext X fun y o hy g => by
      rcases g with g | g
      · exact hA.own c hc y o hy g
      · exact hA.kid c hc y o hy g
    have hlt : ∀ c ∈ cs, ∀ y o, c.F y o → y < w.heap.size := fun c hc y o hy => (hT c hc).lt y o hy
    have oLs : ∀ y o, ownF E b bi oi (d - 1) y o → ownF E b bi oi cap y o := fun y o g => ownF_sub g (Nat.le_refl _) (by rw [E_sz]; omega)
    have oRs : ∀ y o, ownF E rb bi (oi + d * 2) (cap - d) y o → y = rb ∨ ownF E b bi oi cap y o := fun y o g => by
      rcases g with g | ⟨rfl, g1, g2⟩
      · exact .inl g
      · rw [E_sz] at g2; exact .inr (.inr ⟨rfl, by omega, by rw [E_sz]; omega⟩)
    have kLs : ∀ y o, kidF bc ba oa d y o → kidF bc ba oa capc y o := fun y o g => by
      rcases g with g | ⟨rfl, g1, g2⟩
      · exact .inl g
      · exact .inr ⟨rfl, by omega, by omega⟩
    have kRs : ∀ y o, kidF rbc ba (oa + d) (capc - d) y o → y = rbc ∨ kidF bc ba oa capc y o := fun y o g => by
      rcases g with g | ⟨rfl, g1, g2⟩
      · exact .inl g
      · exact .inr (.inr ⟨rfl, by omega, by omega⟩)
    have hpair : ∀ c1 ∈ cs.take d, ∀ c2 ∈ cs.drop d, ∀ y o, c1.F y o → ¬ c2.F y o := by
      have := hA.two
      rw [← List.take_append_drop d cs] at this
      exact (List.pairwise_append.1 this).2.2
    refine ⟨rb, x, _, _, fun y o => ownF E b bi oi (d - 1) y o ∨ kidF bc ba oa d y o ∨ ∃ c ∈ cs.take d, c.F y o, fun y o => ownF E rb bi (oi + d * 2) (cap - d) y o ∨ kidF rbc ba (oa + d) (capc - d) y o ∨ ∃ c ∈ cs.drop d, c.F y o,
      rfl, hxs.trans hsp, X.mono fun y o _ g => (hF y o).2 (by rcases g with g | g; exact .inl g; exact .inr (.inl g)), ?_, ?_, ?_, ?_, ?_⟩
    · rintro y o (g | g | ⟨c, hc, g⟩)
      · exact (hF y o).2 (.inl (oLs _ _ g))
      · exact (hF y o).2 (.inr (.inl (kLs _ _ g)))
      · exact (hF y o).2 (.inr (.inr ⟨c, List.mem_of_mem_take hc, g⟩))
    · rintro y o (g | g | ⟨c, hc, g⟩)
      · rcases oRs _ _ g with rfl | g
        · exact .inr hrb
        · exact .inl ((hF y o).2 (.inl g))
      · rcases kRs _ _ g with rfl | g
        · exact .inr hrbc
        · exact .inl ((hF y o).2 (.inr (.inl g)))
      · exact .inl ((hF y o).2 (.inr (.inr ⟨c, List.mem_of_mem_drop hc, g⟩)))
    · have cb := hA.cb
      have ab := hA.ab
      have ic := hA.ic
      have ia := hA.ia
      rintro y o (g | g | ⟨c, hc, g⟩) (k | k | ⟨c', hc', k⟩)
      · simp only [ownF, rng, E_sz] at g k; omega
      · simp only [ownF, kidF, rng, E_sz] at g k; omega
      · exact hA.own c' (List.mem_of_mem_drop hc') y o k (oLs _ _ g)
      · simp only [ownF, kidF, rng, E_sz] at g k; omega
      · simp only [kidF, rng] at g k; omega
      · exact hA.kid c' (List.mem_of_mem_drop hc') y o k (kLs _ _ g)
      · have := hlt c (List.mem_of_mem_take hc) y o g
        rcases oRs _ _ k with rfl | k
        · omega
        · exact hA.own c (List.mem_of_mem_take hc) y o g k
      · have := hlt c (List.mem_of_mem_take hc) y o g
        rcases kRs _ _ k with rfl | k
        · omega
        · exact hA.kid c (List.mem_of_mem_take hc) y o g k
      · exact hpair c hc c' hc' y o g k
    · refine ⟨bi, oi, d - 1, bc, ba, oa, d, ks.take (d - 1), cs.take d, ?_, ?_, by omega, by omega, by omega, rfl, fun c hc => hT' c (List.mem_of_mem_take hc), ?_, fun _ _ => Iff.rfl⟩
      · rw [n1, l1, ← s1]; exact oL
      · rw [List.map_take]; exact kL
      · exact ⟨hA.cb, hA.ab, hA.ic, hA.ia, fun c hc y o g k => hA.own c (List.mem_of_mem_take hc) y o g (oLs _ _ k), fun c hc y o g k => hA.kid c (List.mem_of_mem_take hc) y o g (kLs _ _ k),
          List.Pairwise.sublist (List.take_sublist _ _) hA.two⟩
    · refine ⟨bi, oi + d * 2, cap - d, rbc, ba, oa + d, capc - d, ks.drop d, cs.drop d, ?_, ?_, by omega, by omega, by omega, rfl, fun c hc => hT' c (List.mem_of_mem_drop hc), ?_, fun _ _ => Iff.rfl⟩
      · rw [n2, l2, ← s2]; exact oR
      · rw [List.map_drop]; exact kR
      · refine ⟨hrr, by omega, by omega, hA.ia, fun c hc y o g k => ?_, fun c hc y o g k => ?_, List.Pairwise.sublist (List.drop_sublist _ _) hA.two⟩
        · have := hlt c (List.mem_of_mem_drop hc) y o g
          rcases oRs _ _ k with rfl | k
          · omega
          · exact hA.own c (List.mem_of_mem_drop hc) y o g k
        · have := hlt c (List.mem_of_mem_drop hc) y o g
          rcases kRs _ _ k with rfl | k
          · omega
          · exact hA.kid c (List.mem_of_mem_drop hc) y o g k
end Go.Proofs.Ytinpigpeoakeaaa
/-
  A tree is not higher than its number of items. No condition.
-/
set_option linter.unusedSimpArgs false
set_option linter.unusedVariables false
namespace Go.Proofs.Ytinpigpeoakeaaa
open Go Go.Proofs
theorem Tr.height {α : Type} {E : Enc α} {iso : Int} {mn mx : Nat} {w : World} (hmn : 1 ≤ mn) : ∀ {h lo b : Nat} {xs : List α} {F : Nat → Nat → Prop}, 1 ≤ lo → Tr E iso mn mx h w lo b xs F → h < xs.length
  | 0, _, _, _, _, hlo, ⟨_, _, _, _, h1, _⟩ => by omega
  | h + 1, _, _, _, _, hlo, ⟨_, _, _, _, _, _, _, ks, cs, _, _, h1, _, hcs, hxs, hT, _⟩ => by
    have hl := weave_length (cs.map Kid.xs) ks (by simpa using hcs)
    rw [← hxs] at hl
    cases cs with
    | nil => simp at hcs
    | cons c cs =>
      have := Tr.height hmn hmn (hT c (by simp))
      simp at hl; omega
theorem Tr.iso0 {w : World} {iso : Int} {mn mx h lo b : Nat} {xs : List It} {F : Nat → Nat → Prop} (ht : Tr E iso mn mx h w lo b xs F) : rd w b 0 = some (.int .u64 iso) ∧ rd w b 1 = some (.int .i64 xs.length) := by
  obtain ⟨bi, oi, cap, ks, ch, ho, _⟩ := ht.open
  exact ⟨ho.h0, ho.h1⟩
end Go.Proofs.Ytinpigpeoakeaaa
/-
  Delete of a map. No condition.
-/
set_option linter.unusedSimpArgs false
set_option linter.unusedVariables false
namespace Go.Proofs.Ytinpigpeoakeaaa
open Go Go.Proofs
theorem delR_out {q : Rk} {xs : List It} : (delR O κ false q xs = none → at? O κ q xs = none ∧ hit O κ q xs = false ∧ del O κ q xs = xs) ∧
    (∀ {y ys}, delR O κ false q xs = some (y, ys) → at? O κ q xs = some y ∧ hit O κ q xs = true ∧ del O κ q xs = ys) := by
  cases hh : hit O κ q xs with
  | false =>
    refine ⟨fun _ => ⟨by simp [at?, hh], rfl, by simp [del, hh]⟩, fun {y ys} h => ?_⟩
    rw [delR_miss hh] at h; cases h
  | true =>
    obtain ⟨k, hk, _⟩ := hit_at O κ hh
    refine ⟨fun h => ?_, fun {y ys} h => ?_⟩
    · rw [delR_leaf hh hk] at h; cases h
    · rw [delR_leaf hh hk] at h
      cases h
      exact ⟨by simp [at?, hh, hk], rfl, by simp [del, hh]⟩
theorem dv_z {w : World} {m : Nat} (h : Row w m 4 (E.cel zIt)) : rd w m 4 = some (vV zIt) := row_cell h (j := 0) rfl
theorem dv_at {w : World} {b : Nat} {x : It} (h : Row w b 0 (E.cel x)) : rd w b 0 = some (vV x) := row_cell h (j := 0) rfl
def DltQ (m d : Nat) (iso : Int) (q : Rk) (xs : List It) (F : Nat → Nat → Prop) (w : World) (v : Value) (w' : World) : Prop :=
  v = .tuple #[vV ((at? O κ q xs).getD zIt), .bool (hit O κ q xs)] ∧ Ext (mapF m F) w w' ∧ ∃ F', MapAt w' m d iso (del O κ q xs) F' ∧ ∀ y o, F' y o → F y o ∨ w.heap.size ≤ y
theorem dTr_ne {w : World} {iso : Int} {mn mx h lo b : Nat} {xs : List It} {F : Nat → Nat → Prop} (ht : Tr E iso mn mx h w lo b xs F) (hlo : 1 ≤ lo) : xs ≠ [] := by
  obtain ⟨bi, oi, cap, ks, ch, ho, h1, h2, hoF, hin⟩ := ht.open
  rcases hin with ⟨_, _, hx, _⟩ | ⟨_, _, _, _, _, cs, _, _, n⟩
  · intro e; rw [e] at hx; rw [← hx] at h1; simp at h1; omega
  · intro e
    have hl := n.len
    have := congrArg List.length n.eq
    rw [weave_length (cs.map Kid.xs) ks (by simpa using hl), e] at this
    simp only [List.length_nil] at this
    omega
set_option maxHeartbeats 4000000 in
set_option maxRecDepth 8000 in
theorem delete_map (m d : Nat) (iso : Int) (q : Rk) (xs : List It) (hd : xs ≠ [] → 2 ≤ d ∧ d ≤ 128) (F : Nat → Nat → Prop) (w00 : World) (hM : MapAt w00 m d iso xs F) (hbig : xs.length < 1152921504606846976) :
    CallK Try.prog 61 #[ptr m, kV q] w00 (DltQ m d iso q xs F w00) := by
  suffices HS : ∀ R : Value → World → Prop, (∀ v w', DltQ m d iso q xs F w00 v w' → R v w') → CallK Try.prog 61 #[ptr m, kV q] w00 R from HS _ fun _ _ h => h
  intro R hR
  refine calls_of_W [.tmp 4, .tmp 5] Try.func61 rfl Try.ntmps61 Try.results61 (by simp) fun e he => ?_
  have e0 : e 0 = ptr m := he 0 _ rfl
  have e1 : e 1 = kV q := he 1 _ rfl
  clear he
  refine W_sq fun K hK => (W_text [true, true] (by kernel_rfl) ?_); simp only [↓List.toList_toArray, ↓rgd, ↓rgf, ↓reduceIte, Nat.reduceEqDiff, rg, ow_61]
  refine hK _ _ ?_; clear hK K
  obtain ⟨w, hw⟩ : ∃ w, w = w00 := ⟨_, rfl⟩
  rw [← hw] at hM hR ⊢
  clear hw
  have hml := hM.mlt
  refine W_seq ?_
  rcases hM.root with ⟨hxs, hr⟩ | ⟨h, b, hr, ht⟩
  · refine W_sq fun K hK => (W_text [true, true, true, true, true] (by kernel_rfl) ?_); simp only [↓List.toList_toArray, ↓rgd, ↓rgf, ↓reduceIte, Nat.reduceEqDiff, rg, ow_61, e0, ptr_eq, hr]
    refine hK _ _ ?_; clear hK K
    refine W_true (by simp only [evt, evc, upd_eq, Nat.reduceEqDiff, ↓reduceIte, ntT, ntF] <;> rfl) ?_
    subst hxs
    have zv := dv_z hM.cfg.ez
    refine W_sq fun K hK => (W_text [true, true, true, true, true, true, true] (by kernel_rfl) ?_); simp only [↓List.toList_toArray, ↓rgd, ↓rgf, ↓reduceIte, Nat.reduceEqDiff, rg, ow_61, e0, ptr_eq, zv]
    refine hK _ _ ?_; clear hK K
    refine W_ret ?_
    simp only [andThen_ret]
    exact endQ_2 (by simp only [upd_eq, Nat.reduceEqDiff, ↓reduceIte] <;> rfl) (by simp only [upd_eq, Nat.reduceEqDiff, ↓reduceIte] <;> rfl) (hR _ _ ⟨rfl, Ext.refl _ w, F, hM, fun _ _ g => .inl g⟩)
  · obtain ⟨hd, hd'⟩ := hd (dTr_ne ht (Nat.le_refl 1))
    refine W_sq fun K hK => (W_text [true, true, true, true, true] (by kernel_rfl) ?_); simp only [↓List.toList_toArray, ↓rgd, ↓rgf, ↓reduceIte, Nat.reduceEqDiff, rg, ow_61, e0, ptr_eq, hr]
    refine hK _ _ ?_; clear hK K
    refine W_false (by simp only [evt, evc, upd_eq, Nat.reduceEqDiff, ↓reduceIte, ntT, ntF] <;> rfl) (W_skip ?_)
    show W _ _ _ _ _ _
    have hm := hM.off
    have hFlt := hM.lt
    have hh := ht.height (by omega) (by omega)
    refine W_sq fun K hK => (W_text [true, true, true, true, true, false, true, true, true, false, false, true] (by kernel_rfl) ?_); simp only [↓List.toList_toArray, ↓rgd, ↓rgf, ↓reduceIte, Nat.reduceEqDiff, rg, ow_61, e0, e1, ptr_eq]
    refine do_call fn_69 (by simp only [evt, evc, upd_eq, Nat.reduceEqDiff, ↓reduceIte, maT, maC, maN, isnN, isnS] <;> rfl) (del_any m d iso hd hd' h 1 b xs F w m 2 false q none hM.cfg hm (Nat.le_refl 1) ht hM.asc hbig hr (HOk.none _) (fun hb hh => by cases hh)) ?_
    rintro VV w3 ⟨X3p, -, F', hF', hres⟩
    refine ⟨trivial, ?_⟩
    have X3 : Ext F w w3 := X3p.mono fun y o _ g => g.elim id fun g => by cases g
    have s3 := X3.size
    clear X3p
    have hF't : ∀ o, ¬ F' w3.heap.size o := fun o g => by
      rcases hres with ⟨_, _, T⟩ | ⟨y, ys, _, _, T⟩
      · have := T.lt _ _ g; omega
      · have := T.lt _ _ g; omega
    have hj : ∃ (y : It) (dl : Bool), VV = .tuple #[itV y, .bool dl] ∧ ((dl = false ∧ delR O κ false q xs = none ∧ Tr E iso (d - 1) (2 * d - 1) h w3 1 b xs F') ∨ (dl = true ∧ ∃ ys, delR O κ false q xs = some (y, ys) ∧ Tr E iso (d - 1) (2 * d - 1) h w3 0 b ys F')) := by
      rcases hres with ⟨h1, h2, h3⟩ | ⟨y, ys, h1, h2, h3⟩
      · exact ⟨zIt, false, h2, .inl ⟨rfl, h1, h3⟩⟩
      · exact ⟨y, true, h2, .inr ⟨rfl, ys, h1, h3⟩⟩
    clear hres
    obtain ⟨y, dl, hVV, hres⟩ := hj
    subst hVV
    simp only [↓List.toList_toArray, ↓rgd, ↓rgf, ↓reduceIte, Nat.reduceEqDiff, rg, ow_61]
    refine do_alloc dz_it fun w4p n4 => ⟨trivial, ?_⟩
    simp only [↓List.toList_toArray, ↓rgd, ↓rgf, ↓reduceIte, Nat.reduceEqDiff, rg, ow_61]
    refine do_store (by simp only [evt, evc, upd_eq, Nat.reduceEqDiff, ↓reduceIte, ntT, ntF] <;> rfl) (by simp only [evt, evc, upd_eq, Nat.reduceEqDiff, ↓reduceIte, ntT, ntF] <;> rfl) sz_71 (rb_len y) n4.wok (by decide) (rb_oc y) fun w4 x4 r4 s4 => ⟨trivial, ?_⟩
    simp only [↓List.toList_toArray, ↓rgd, ↓rgf, ↓reduceIte, Nat.reduceEqDiff, rg, ow_61]
    refine hK _ _ ?_; clear hK K
    have s4p := n4.size
    have X34 : Ext noF w3 w4 := noF_of n4.ext x4 fun y o hy g => by have := g.1; omega
    obtain ⟨t, ht0⟩ : ∃ t, t = w3.heap.size := ⟨_, rfl⟩
    rw [← ht0] at r4 hF't ⊢
    have rt4 : Row w4 t 0 (E.cel y) := r4
    have wt4 : wok w4 t 2 := by rw [ht0]; exact x4.wok n4.wok
    have XX4 : Ext F w w4 := X3.trans X34 (fun _ _ g => g) fun _ _ _ g => g.elim
    have hres : (dl = false ∧ delR O κ false q xs = none ∧ Tr E iso (d - 1) (2 * d - 1) h w4 1 b xs F') ∨ (dl = true ∧ ∃ ys, delR O κ false q xs = some (y, ys) ∧ Tr E iso (d - 1) (2 * d - 1) h w4 0 b ys F') := by
      rcases hres with ⟨h1, h2, h3⟩ | ⟨h1, ys, h2, h3⟩
      · exact .inl ⟨h1, h2, h3.ext X34 fun _ _ _ g => g⟩
      · exact .inr ⟨h1, ys, h2, h3.ext X34 fun _ _ _ g => g⟩
    have c4 := hM.cfg.ext XX4 fun o _ _ => hm o
    have hFm : ∀ y o, F' y o → y ≠ m := fun y o g k => by
      rw [k] at g
      rcases hF' m o g with g | g
      · exact hm o g
      · omega
    refine W_seq ?_
    rcases hres with ⟨rfl, hdl, T4⟩ | ⟨rfl, ys, hdl, T4⟩
    · refine W_sq fun K hK => (W_text [true, true] (by kernel_rfl) ?_); simp only [↓List.toList_toArray, ↓rgd, ↓rgf, ↓reduceIte, Nat.reduceEqDiff, rg, ow_61]
      refine hK _ _ ?_; clear hK K
      refine W_true (by simp only [evt, evc, upd_eq, Nat.reduceEqDiff, ↓reduceIte, ntT, ntF] <;> rfl) ?_
      obtain ⟨h1, h2, h3⟩ := delR_out.1 hdl
      have zv := dv_z c4.ez
      have hM4 : MapAt w4 m d iso (del O κ q xs) F' := by
        rw [h3]
        exact ⟨c4, XX4.rd hM.cnt (hm 3), hM.asc, .inr ⟨h, b, XX4.rd hr (hm 2), T4⟩, fun o g => hFm m o g rfl, T4.lt⟩
      refine W_sq fun K hK => (W_text [true, true, true, true, true, true, true] (by kernel_rfl) ?_); simp only [↓List.toList_toArray, ↓rgd, ↓rgf, ↓reduceIte, Nat.reduceEqDiff, rg, ow_61, e0, ptr_eq, zv]
      refine hK _ _ ?_; clear hK K
      refine W_ret ?_
      simp only [andThen_ret]
      exact endQ_2 (by simp only [upd_eq, Nat.reduceEqDiff, ↓reduceIte] <;> rfl) (by simp only [upd_eq, Nat.reduceEqDiff, ↓reduceIte] <;> rfl) (hR _ _ ⟨by rw [h1, h2]; rfl, XX4.mono fun y o _ g => Or.inl g, F', hM4, fun y o g => (hF' y o g)⟩)
    · refine W_sq fun K hK => (W_text [true, true] (by kernel_rfl) ?_); simp only [↓List.toList_toArray, ↓rgd, ↓rgf, ↓reduceIte, Nat.reduceEqDiff, rg, ow_61]
      refine hK _ _ ?_; clear hK K
      refine W_false (by simp only [evt, evc, upd_eq, Nat.reduceEqDiff, ↓reduceIte, ntT, ntF] <;> rfl) (W_skip ?_)
      show W _ _ _ _ _ _
      obtain ⟨h1, h2, h3⟩ := delR_out.2 hdl
      have hyl := delR_len hdl
      have hya := delR_asc hM.asc hdl
      have rm4 : rd w4 m 2 = some (ptr b) := XX4.rd hr (hm 2)
      have rc4 : rd w4 m 3 = some (.int .i64 (xs.length : Nat)) := XX4.rd hM.cnt (hm 3)
      have htl : t < w4.heap.size := wok_lt wt4
      have hml4 : m < w4.heap.size := by have := XX4.size; omega
      obtain ⟨a, nk, capn, hkn, -, -, hraise⟩ := T4.keys
      refine W_sqx fun J hJ => ?_
      have hfin : ∀ (e : Env) (w5 : World) (F5 : Nat → Nat → Prop), (ys = [] ∨ ∃ h5 b5, rd w5 m 2 = some (ptr b5) ∧ Tr E iso (d - 1) (2 * d - 1) h5 w5 1 b5 ys F5) → (∀ y o, F5 y o → F' y o) → Ext (rng m 2 1) w4 w5 → e 0 = ptr m → e 6 = ptr t → J e w5 := by
        clear e0 e1
        clear e
        intro e w5 F5 hroot hF5 x5 e0 e6
        refine hJ _ _ ?_; clear hJ J
        have rc5 := x5.rd rc4 fun g => by have := g.2; omega
        have wm5 := x5.wok c4.wok
        have q1 := wsub1 xs.length (by omega) (by omega)
        refine W_sq fun K hK => (W_text [true, true, true, true, true, true, true, false] (by kernel_rfl) ?_); simp only [↓List.toList_toArray, ↓rgd, ↓rgf, ↓reduceIte, Nat.reduceEqDiff, rg, ow_61, e0, ptr_eq, rc5, q1]
        refine do_store (by simp only [evt, evc, upd_eq, Nat.reduceEqDiff, ↓reduceIte, ntT, ntF] <;> rfl) (by simp only [evt, evc, upd_eq, Nat.reduceEqDiff, ↓reduceIte, ntT, ntF] <;> rfl) sz_3 rfl wm5 (by decide) (oc_one rfl rfl) fun w6 x6 r6 s6 => ⟨trivial, ?_⟩
        simp only [↓List.toList_toArray, ↓rgd, ↓rgf, ↓reduceIte, Nat.reduceEqDiff, rg, ow_61]
        refine hK _ _ ?_; clear hK K
        have rc6 : rd w6 m 3 = some (.int .i64 (xs.length - 1 : Nat)) := (Row.cons.1 r6).1
        have G46 : Ext (fun y o => y = m ∧ (o = 2 ∨ o = 3)) w4 w6 := x5.trans x6 (fun y o g => ⟨g.1, by have := g.2; omega⟩) fun y o _ g => ⟨g.1, by have := g.2; omega⟩
        refine W_sqx fun J hJ => ?_
        have hret : ∀ (e : Env) (w7 : World) (F7 : Nat → Nat → Prop), ((ys = [] ∧ rd w7 m 2 = some (.pointer none)) ∨ ∃ h5 b5, rd w7 m 2 = some (ptr b5) ∧ Tr E iso (d - 1) (2 * d - 1) h5 w7 1 b5 ys F7) → (∀ y o, F7 y o → F' y o) → rd w7 m 3 = some (.int .i64 (ys.length : Nat)) → Ext (fun y o => y = m ∧ (o = 2 ∨ o = 3)) w4 w7 → (∀ y o, F7 y o → y < w7.heap.size) → e 6 = ptr t → J e w7 := by
          clear e0 e6
          clear e
          intro e w7 F7 hroot hF7 rc7 x7 hlt7 e6
          refine hJ _ _ ?_; clear hJ J
          have rt7 := x7.row rt4 fun j _ g => by have := g.1; omega
          have XX7 : Ext (mapF m F) w w7 := (XX4.mono fun y o _ g => Or.inl g).trans x7 (fun _ _ g => g) fun y o _ g => .inr g
          have hM7 : MapAt w7 m d iso (del O κ q xs) F7 := by
            rw [h3]
            exact ⟨c4.ext x7 fun o h2 h3 g => by have := g.2; omega, rc7, hya, hroot, fun o g => hFm m o (hF7 _ _ g) rfl, hlt7⟩
          have vy := dv_at rt7
          refine W_sq fun K hK => (W_text [true, true, true, true] (by kernel_rfl) ?_); simp only [↓List.toList_toArray, ↓rgd, ↓rgf, ↓reduceIte, Nat.reduceEqDiff, rg, ow_61, e6, ptr_eq, vy]
          refine hK _ _ ?_; clear hK K
          refine W_ret ?_
          exact endQ_2 (by simp only [upd_eq, Nat.reduceEqDiff, ↓reduceIte] <;> rfl) (by simp only [upd_eq, Nat.reduceEqDiff, ↓reduceIte] <;> rfl) (hR _ _ ⟨by rw [h1, h2]; rfl, XX7, F7, hM7, fun y o g => (hF' y o (hF7 y o g))⟩)
        by_cases hy0 : ys = []
        · have hb : (((xs.length - 1 : Nat) : Int) == 0) = true := by rw [hy0] at hyl; simp at hyl ⊢; omega
          refine W_sq fun K hK => (W_text [true, true, true, true, true] (by kernel_rfl) ?_); simp only [↓List.toList_toArray, ↓rgd, ↓rgf, ↓reduceIte, Nat.reduceEqDiff, rg, ow_61, e0, ptr_eq, rc6, hb]
          refine hK _ _ ?_; clear hK K
          refine W_true (by simp only [evt, evc, upd_eq, Nat.reduceEqDiff, ↓reduceIte, ntT, ntF] <;> rfl) ?_
          refine W_rg fun K hK => (W_text [true, true, true, false] (by kernel_rfl) ?_); simp only [↓List.toList_toArray, ↓rgd, ↓rgf, ↓reduceIte, Nat.reduceEqDiff, rg, ow_61, e0, ptr_eq]
          refine do_store (v := .pointer none) (by simp only [evt, evc, upd_eq, Nat.reduceEqDiff, ↓reduceIte, ntT, ntF] <;> rfl) (by simp only [evt, evc, upd_eq, Nat.reduceEqDiff, ↓reduceIte, ntT, ntF] <;> rfl) sz_69 rfl (x6.wok wm5) (by decide) (oc_one rfl rfl) fun w7 x7 r7 s7 => ⟨trivial, ?_⟩
          simp only [↓List.toList_toArray, ↓rgd, ↓rgf, ↓reduceIte, Nat.reduceEqDiff, rg, ow_61]
          refine hK _ _ ?_; clear hK K
          exact hret _ w7 noF (.inl ⟨hy0, (Row.cons.1 r7).1⟩) (fun _ _ g => g.elim) (by rw [show ys.length = xs.length - 1 by omega]; exact x7.rd rc6 fun g => by have := g.2; omega) (G46.trans x7 (fun _ _ g => g) fun y o _ g => ⟨g.1, by have := g.2; omega⟩) (fun _ _ g => g.elim) (by simp only [upd_eq, Nat.reduceEqDiff, ↓reduceIte]; exact e6)
        · have hb : (((xs.length - 1 : Nat) : Int) == 0) = false := by
            have : ys.length ≠ 0 := fun h => hy0 (List.eq_nil_of_length_eq_zero h)
            simp; omega
          refine W_sq fun K hK => (W_text [true, true, true, true, true] (by kernel_rfl) ?_); simp only [↓List.toList_toArray, ↓rgd, ↓rgf, ↓reduceIte, Nat.reduceEqDiff, rg, ow_61, e0, ptr_eq, rc6, hb]
          refine hK _ _ ?_; clear hK K
          refine W_false (by simp only [evt, evc, upd_eq, Nat.reduceEqDiff, ↓reduceIte, ntT, ntF] <;> rfl) (W_skip ?_)
          obtain ⟨h5, b5, hr5, T5⟩ := hroot.resolve_left hy0
          have T6 := T5.ext x6 fun y o g k => hFm y o (hF5 y o g) k.1
          exact hret _ w6 F5 (.inr ⟨h5, b5, x6.rd hr5 fun g => by have := g.2; omega, T6⟩) hF5 (by rw [show ys.length = xs.length - 1 by omega]; exact rc6) G46 T6.lt (by simp only [upd_eq, Nat.reduceEqDiff, ↓reduceIte]; exact e6)
      by_cases hn0 : nk = 0
      · subst hn0
        have hb : (((0 : Nat) : Int) == 0) = true := rfl
        rcases T4.open with ⟨bi, oi, cap, ks, ch, ho, -, -, hoF, hin⟩
        have hks : ks = [] := by
          have := ho.h2.symm.trans hkn
          simp only [Option.some.injEq, Value.slice.injEq] at this
          exact List.eq_nil_of_length_eq_zero this.2.1
        rcases hin with ⟨_, hcn, hx, _⟩ | ⟨h', bc, ba, oa, capc, cs, rfl, hcn, n⟩
        · rw [hcn] at ho
          refine W_sq fun K hK => (W_text [true, true, true, true, true, true, true, true, true, true, true, true, true, true, false, true, true] (by kernel_rfl) ?_); simp only [↓List.toList_toArray, ↓rgd, ↓rgf, ↓reduceIte, Nat.reduceEqDiff, rg, ow_61, e0, ptr_eq, rm4, hkn, hb]
          refine do_call fn_58 (by simp only [evt, evc, upd_eq, Nat.reduceEqDiff, ↓reduceIte, maT, maC, maN, isnN, isnS] <;> rfl) (leaf_any b none w4 ho.h3) ?_
          rintro _ w5 ⟨rfl, hw5⟩
          obtain rfl : w4 = w5 := hw5.symm
          refine ⟨trivial, ?_⟩
          simp only [↓List.toList_toArray, ↓rgd, ↓rgf, ↓reduceIte, Nat.reduceEqDiff, rg, ow_61]
          refine hK _ _ ?_; clear hK K
          refine W_false (by simp only [evt, evc, upd_eq, Nat.reduceEqDiff, ↓reduceIte, ntT, ntF] <;> rfl) (W_skip ?_)
          exact hfin _ w4 F' (.inl (hx.trans hks)) (fun _ _ g => g) (Ext.refl _ _) (by simp only [upd_eq, Nat.reduceEqDiff, ↓reduceIte]; exact e0) (by simp only [upd_eq, Nat.reduceEqDiff, ↓reduceIte] <;> rfl)
        · rw [hcn] at ho
          refine W_sq fun K hK => (W_text [true, true, true, true, true, true, true, true, true, true, true, true, true, true, false, true, true] (by kernel_rfl) ?_); simp only [↓List.toList_toArray, ↓rgd, ↓rgf, ↓reduceIte, Nat.reduceEqDiff, rg, ow_61, e0, ptr_eq, rm4, hkn, hb]
          refine do_call fn_58 (by simp only [evt, evc, upd_eq, Nat.reduceEqDiff, ↓reduceIte, maT, maC, maN, isnN, isnS] <;> rfl) (leaf_any b (some ⟨bc, 0, none⟩) w4 ho.h3) ?_
          rintro _ w5 ⟨rfl, hw5⟩
          obtain rfl : w4 = w5 := hw5.symm
          refine ⟨trivial, ?_⟩
          simp only [↓List.toList_toArray, ↓rgd, ↓rgf, ↓reduceIte, Nat.reduceEqDiff, rg, ow_61]
          refine hK _ _ ?_; clear hK K
          refine W_true (by simp only [evt, evc, upd_eq, Nat.reduceEqDiff, ↓reduceIte, ntT, ntF] <;> rfl) ?_
          have hl1 : cs.length = 1 := by rw [n.len, hks]; rfl
          obtain ⟨c, rfl⟩ := List.length_eq_one_iff.1 hl1
          have hk0 : rd w4 bc 0 = some (.slice (some ⟨ba, oa, none⟩) 1 capc) := n.kids.c0
          have i0 := ix0 1 ba oa 1 (by decide)
          have hce := n.kids.se.ptr_at (j := 0) (p := c.b) rfl
          rw [Nat.add_zero] at hce
          have hyc : ys = c.xs := by rw [n.eq, hks]; rfl
          have hcF : ∀ y o, c.F y o → F' y o := fun y o g => (n.fp y o).2 (.inr (.inr ⟨c, by simp, g⟩))
          refine W_rg fun K hK => (W_text [true, true, true, true, true, true, true, true, true, true, true, true, true, true, false] (by kernel_rfl) ?_); simp only [↓List.toList_toArray, ↓rgd, ↓rgf, ↓reduceIte, Nat.reduceEqDiff, rg, ow_61, e0, ptr_eq, rm4, ho.h3, hk0, i0, hce]
          refine do_store (v := ptr c.b) (by simp only [evt, evc, upd_eq, Nat.reduceEqDiff, ↓reduceIte, ntT, ntF] <;> rfl) (by simp only [evt, evc, upd_eq, Nat.reduceEqDiff, ↓reduceIte, ntT, ntF] <;> rfl) sz_69 rfl (c4.wok.mono (by decide)) (Nat.le_refl 3) (oc_one rfl rfl) fun w5 x5 r5 s5 => ⟨trivial, ?_⟩
          simp only [↓List.toList_toArray, ↓rgd, ↓rgf, ↓reduceIte, Nat.reduceEqDiff, rg, ow_61]
          refine hK _ _ ?_; clear hK K
          refine hfin _ w5 c.F (.inr ⟨h', c.b, (Row.cons.1 r5).1, ?_⟩) hcF x5 (by simp only [upd_eq, Nat.reduceEqDiff, ↓reduceIte]; exact e0) (by simp only [upd_eq, Nat.reduceEqDiff, ↓reduceIte] <;> rfl)
          rw [hyc]
          exact ((n.sub c (by simp)).mono (by omega)).ext x5 fun y o g k => hFm y o (hcF y o g) k.1
      · have hb : ((nk : Int) == 0) = false := by simp; omega
        refine W_sq fun K hK => (W_text [true, true, true, true, true, true, true, true, true, true, true, true, true, true, false, true, true] (by kernel_rfl) ?_); simp only [↓List.toList_toArray, ↓rgd, ↓rgf, ↓reduceIte, Nat.reduceEqDiff, rg, ow_61, e0, ptr_eq, rm4, hkn, hb]
        refine hK _ _ ?_; clear hK K
        refine W_false (by simp only [evt, evc, upd_eq, Nat.reduceEqDiff, ↓reduceIte, ntT, ntF] <;> rfl) (W_skip ?_)
        exact hfin _ w4 F' (.inr ⟨h, b, rm4, hraise 1 (by omega)⟩) (fun _ _ g => g) (Ext.refl _ _) (by simp only [upd_eq, Nat.reduceEqDiff, ↓reduceIte]; exact e0) (by simp only [upd_eq, Nat.reduceEqDiff, ↓reduceIte] <;> rfl)
end Go.Proofs.Ytinpigpeoakeaaa
/-
  A node behind the split of one of its children is a tree again. No condition.
-/
set_option linter.unusedSimpArgs false
set_option linter.unusedVariables false
namespace Go.Proofs.Ytinpigpeoakeaaa
open Go Go.Proofs
set_option maxHeartbeats 2000000 in
theorem set_asm {d h' b bi oi cap bc ba oa capc i lo b' o' cap' ba' oa' capc' rb : Nat} {iso : Int} {xs ks xl xr A C : List It} {md : It} {F F' Fl Fr G6 : Nat → Nat → Prop} {w w4 w6 w8 w15 w16 w20 : World} {cs : List (Kid It)} {c : Kid It}
    (n : Inn E iso (d - 1) (2 * d - 1) h' w b xs F bi oi cap ks bc ba oa capc cs) (n4 : Inn E iso (d - 1) (2 * d - 1) h' w4 b xs F bi oi cap ks bc ba oa capc cs) (ho : Own E w b iso xs.length bi oi cap ks (ptr bc))
    (o4 : Own E w4 b iso xs.length bi oi cap ks (ptr bc)) (hoF : ∀ x o, ownF E b bi oi cap x o → F x o)
    (hci : cs[i]? = some c) (hlb : i ≤ ks.length) (hl1 : lo ≤ ks.length) (hl2 : ks.length ≤ 2 * d - 1) (hfull : ¬ ks.length = 2 * d - 1) (hw : WAt (cs.map Kid.xs) ks i A C) (hxs : xs = A ++ c.xs ++ C) (hcxs : c.xs = xl ++ md :: xr)
    (sz4 : w.heap.size ≤ w4.heap.size) (s6 : w4.heap.size ≤ w6.heap.size) (s8 : w6.heap.size ≤ w8.heap.size) (x6' : Ext G6 w4 w6) (hF'' : ∀ y o, F' y o → c.F y o ∨ w4.heap.size ≤ y) (x8 : Ext F' w6 w8)
    (hFl : ∀ y o, Fl y o → F' y o) (hFr' : ∀ y o, Fr y o → F' y o ∨ w6.heap.size ≤ y) (hlr : ∀ y o, Fl y o → ¬ Fr y o)
    (tL : Tr E iso (d - 1) (2 * d - 1) h' w8 (d - 1) c.b xl Fl) (tR : Tr E iso (d - 1) (2 * d - 1) h' w8 (d - 1) rb xr Fr) (T15 : Ext (fun y o => kidF bc ba oa capc y o ∨ w8.heap.size ≤ y) w8 w15)
    (k015 : rd w15 bc 0 = some (.slice (some ⟨ba', oa', none⟩) (cs.length + 1) capc')) (wbc15 : wok w15 bc 1) (rowK : Row w15 ba' oa' ((((cs.map Kid.b).map ptr).take (i + 1)) ++ ([ptr rb] ++ ((cs.map Kid.b).map ptr).drop (i + 1))))
    (wok15 : wok w15 ba' (oa' + capc')) (hcapc' : cs.length + 1 ≤ capc') (hcase12 : ba' = ba ∧ oa' = oa ∧ capc' = capc ∨ w8.heap.size ≤ ba') (hba'c : ba' ≠ bc) (hba'b : ba' ≠ b) (hba'i : ba' ≠ bi)
    (n16 : Ext noF w15 w16) (Y : Ext (fun y o => (rng bi (oi + ks.length * 2) 2 y o ∧ ks.length + 1 ≤ cap) ∨ (y = b ∧ o = 2) ∨ y = b' ∧ o' ≤ o ∧ o < o' + cap' * 2) w16 w20)
    (hb'c : b' = bi ∧ o' = oi ∧ cap' = cap ∨ w15.heap.size < b') (own20 : Own E w20 b iso xs.length b' o' cap' (ks.take i ++ md :: ks.drop i) (ptr bc)) (hG6 : ∀ y o, G6 y o → c.F y o ∨ w.heap.size ≤ y := by exact fun _ _ g => .inl g) :
    ∃ F20 : Nat → Nat → Prop, Tr E iso (d - 1) (2 * d - 1) (h' + 1) w20 (lo + 1) b xs F20 ∧ (∀ y o, F20 y o → F y o ∨ w4.heap.size ≤ y) ∧
      (∀ y o, y < w8.heap.size → ¬ ownF E b bi oi cap y o → ¬ ((rng bi (oi + ks.length * 2) 2 y o ∧ ks.length + 1 ≤ cap) ∨ (y = b ∧ o = 2) ∨ y = b' ∧ o' ≤ o ∧ o < o' + cap' * 2)) := by
  have hcm := List.mem_of_getElem? hci
  have hcl := (List.getElem?_eq_some_iff.1 hci).1
  have hlen := n.len
  have hbl := wok_lt ho.wb
  have hbil := wok_lt ho.wi
  have hbcl := wok_lt n.kids.wc
  have hbal := wok_lt n.kids.wa
  have hkne := n.kids.ne
  have hne := ho.ne
  have acb := n.ap.cb
  have aab := n.ap.ab
  have aic := n.ap.ic
  have aia := n.ap.ia
  have hS15 := T15.size
  have hb'b := own20.ne
  have hcF : ∀ y o, c.F y o → F y o := fun y o g => (n.fp y o).2 (.inr (.inr ⟨c, hcm, g⟩))
  have hF'own : ∀ y o, F' y o → ¬ ownF E b bi oi cap y o := fun y o g k => by
    rcases hF'' y o g with g | g
    · exact n.ap.own c hcm y o g k
    · have := o4.lt k; omega
  have hF'kid : ∀ y o, F' y o → ¬ kidF bc ba oa capc y o := fun y o g k => by
    rcases hF'' y o g with g | g
    · exact n.ap.kid c hcm y o g k
    · have := n4.kids.lt k; omega
  have hOKo : ∀ kd ∈ cs, ∀ y o, kd.F y o → y < w.heap.size := fun kd hd y o g => (n.sub kd hd).lt y o g
  obtain ⟨new, hnew⟩ : ∃ new : List (Kid It), new = [⟨c.b, xl, Fl⟩, ⟨rb, xr, Fr⟩] := ⟨_, rfl⟩
  have hnewF : ∀ kd ∈ new, ∀ y o, kd.F y o → F' y o ∨ w6.heap.size ≤ y := fun kd hd y o g => by
    rw [hnew] at hd
    simp only [List.mem_cons, List.not_mem_nil, or_false] at hd
    rcases hd with rfl | rfl
    · exact .inl (hFl y o g)
    · exact hFr' y o g
  have hnewlt : ∀ kd ∈ new, ∀ y o, kd.F y o → y < w8.heap.size := fun kd hd y o g => by
    rw [hnew] at hd
    simp only [List.mem_cons, List.not_mem_nil, or_false] at hd
    rcases hd with rfl | rfl
    · exact tL.lt y o g
    · exact tR.lt y o g
  have hnew4 : ∀ kd ∈ new, ∀ y o, kd.F y o → c.F y o ∨ w4.heap.size ≤ y := fun kd hd y o g => by
    rcases hnewF kd hd y o g with g | g
    · exact hF'' y o g
    · exact .inr (by omega)
  obtain ⟨cs2, hcs2⟩ : ∃ cs2, cs2 = cs.take i ++ (new ++ cs.drop (i + 1)) := ⟨_, rfl⟩
  have hmem : ∀ kd ∈ cs2, (kd ∈ cs.take i ∨ kd ∈ cs.drop (i + 1)) ∨ kd ∈ new := fun kd hd => by
    rw [hcs2] at hd
    rcases List.mem_append.1 hd with hd | hd
    · exact .inl (.inl hd)
    · rcases List.mem_append.1 hd with hd | hd
      · exact .inr hd
      · exact .inl (.inr hd)
  have hsp : cs = cs.take i ++ c :: cs.drop (i + 1) := by
    have h3 := List.getElem?_eq_some_iff.1 hci
    have := List.take_append_drop i cs
    rw [List.drop_eq_getElem_cons h3.1, h3.2] at this
    exact this.symm
  have htwo := n.ap.two
  rw [hsp] at htwo
  obtain ⟨p1, p2, p3⟩ := List.pairwise_append.1 htwo
  obtain ⟨p4, p5⟩ := List.pairwise_cons.1 p2
  have hold8 : ∀ kd, (kd ∈ cs.take i ∨ kd ∈ cs.drop (i + 1)) → kd ∈ cs ∧ ∀ y o, kd.F y o → ¬ c.F y o := fun kd hd => by
    rcases hd with hd | hd
    · exact ⟨List.mem_of_mem_take hd, fun y o g k => p3 kd hd c (by simp) y o g k⟩
    · exact ⟨List.mem_of_mem_drop hd, fun y o g k => p4 kd hd y o k g⟩
  have hOK : ∀ kd ∈ cs2, ∀ y o, kd.F y o → y < w8.heap.size ∧ ¬ kidF bc ba oa capc y o ∧ ¬ ownF E b bi oi cap y o := fun kd hd y o g => by
    rcases hmem kd hd with h | h
    · have h1 := (hold8 kd h).1
      exact ⟨by have := hOKo kd h1 y o g; omega, n.ap.kid kd h1 y o g, n.ap.own kd h1 y o g⟩
    · refine ⟨hnewlt kd h y o g, fun k => ?_, fun k => ?_⟩
      · rcases hnewF kd h y o g with g | g
        · exact hF'kid y o g k
        · have := n4.kids.lt k; omega
      · rcases hnewF kd h y o g with g | g
        · exact hF'own y o g k
        · have := o4.lt k; omega
  have hT8 : ∀ kd ∈ cs2, Tr E iso (d - 1) (2 * d - 1) h' w8 (d - 1) kd.b kd.xs kd.F := fun kd hd => by
    rcases hmem kd hd with h | h
    · have h1 := hold8 kd h
      refine ((n4.sub kd h1.1).ext x6' fun y o g k => by
        rcases hG6 y o k with k | k
        · exact h1.2 y o g k
        · have := hOKo kd h1.1 y o g; omega).ext x8 fun y o g k => ?_
      rcases hF'' y o k with k | k
      · exact h1.2 y o g k
      · have := hOKo kd h1.1 y o g; omega
    · rw [hnew] at h
      simp only [List.mem_cons, List.not_mem_nil, or_false] at h
      rcases h with rfl | rfl
      · exact tL
      · exact tR
  have hY : ∀ y o, y < w8.heap.size → ¬ ownF E b bi oi cap y o → ¬ ((rng bi (oi + ks.length * 2) 2 y o ∧ ks.length + 1 ≤ cap) ∨ (y = b ∧ o = 2) ∨ y = b' ∧ o' ≤ o ∧ o < o' + cap' * 2) := fun y o h1 h2 g => by
    rcases g with g | g | g
    · simp only [rng] at g; exact h2 (.inr ⟨g.1.1, by omega, by rw [E_sz]; omega⟩)
    · exact h2 (.inl g.1)
    · rcases hb'c with ⟨rfl, rfl, rfl⟩ | h
      · exact h2 (.inr ⟨g.1, g.2.1, by rw [E_sz]; have := g.2.2; omega⟩)
      · omega
  have hT20 : ∀ kd ∈ cs2, Tr E iso (d - 1) (2 * d - 1) h' w20 (d - 1) kd.b kd.xs kd.F := fun kd hd =>
    (((hT8 kd hd).ext T15 fun y o g k => by
      have := hOK kd hd y o g
      rcases k with k | k
      · exact this.2.1 k
      · omega).ext n16 fun _ _ _ k => k).ext Y fun y o g => hY y o (hOK kd hd y o g).1 (hOK kd hd y o g).2.2
  have hb2 : cs2.map Kid.b = (cs.map Kid.b).take (i + 1) ++ rb :: (cs.map Kid.b).drop (i + 1) := by
    rw [hcs2, hnew, List.take_add_one, List.getElem?_map, hci]
    simp [List.map_take, List.map_drop]
  have hl2' : cs2.length = cs.length + 1 := by
    have := congrArg List.length hb2
    simp at this; omega
  have kids20 : Kids w20 bc ba' oa' capc' (cs2.map Kid.b) := by
    have k15 : Kids w15 bc ba' oa' capc' (cs2.map Kid.b) := by
      refine ⟨by rw [List.length_map, hl2']; exact k015, wbc15, ?_, wok15, by rw [List.length_map, hl2']; exact hcapc', hba'c⟩
      rw [hb2, List.map_append, List.map_cons, List.map_take, List.map_drop]
      exact rowK
    refine (k15.ext n16 fun _ _ _ h => h).ext Y fun y o g k => ?_
    have hbb : ba' < w15.heap.size := wok_lt wok15
    simp only [kidF, rng] at g k
    omega
  have hap : Apart E b b' o' cap' bc ba' oa' capc' cs2 := by
    have ap1 : Apart E b bi oi cap bc ba oa capc cs2 := by
      rw [hcs2]
      refine n.ap.swap hci hnew4 ?_ (fun kd hd y o g => by have := hOKo kd hd y o g; omega) (B := w4.heap.size) (by omega) (by omega) (by omega) (by omega)
      rw [hnew]
      exact List.pairwise_cons.2 ⟨fun kd hd y o g k => by
        simp only [List.mem_cons, List.not_mem_nil, or_false] at hd
        subst hd; exact hlr y o g k, List.pairwise_singleton _ _⟩
    have ap2 : Apart E b bi oi cap bc ba' oa' capc' cs2 := by
      rcases hcase12 with ⟨rfl, rfl, rfl⟩ | h
      · exact ap1
      · exact ap1.kid' hba'b (Ne.symm hba'i) fun kd hd y o g => by have := (hOK kd hd y o g).1; omega
    rcases hb'c with ⟨rfl, rfl, rfl⟩ | h
    · exact ap2
    · have hbb : ba' < w15.heap.size := wok_lt wok15
      exact ap2.own' (by omega) (by omega) fun kd hd y o g => by have := (hOK kd hd y o g).1; omega
  have hlen2 : (ks.take i ++ md :: ks.drop i).length = ks.length + 1 := by simp; omega
  have hxs2 : xs = weave (cs2.map Kid.xs) (ks.take i ++ md :: ks.drop i) := by
    have := hw.two xl md xr
    rw [← hcxs, ← hxs] at this
    rw [← this, hcs2, hnew]
    simp [List.map_take, List.map_drop]
  have inn20 : Inn E iso (d - 1) (2 * d - 1) h' w20 b xs (fun y o => ownF E b b' o' cap' y o ∨ kidF bc ba' oa' capc' y o ∨ ∃ kd ∈ cs2, kd.F y o) b' o' cap' (ks.take i ++ md :: ks.drop i) bc ba' oa' capc' cs2 :=
    ⟨kids20, by rw [hl2', hlen2]; omega, hxs2, hT20, hap, fun _ _ => Iff.rfl⟩
  have tr20 := inn20.tr (lo := lo + 1) own20 (by rw [hlen2]; omega) (by rw [hlen2]; omega)
  have hF20 : ∀ y o, (ownF E b b' o' cap' y o ∨ kidF bc ba' oa' capc' y o ∨ ∃ kd ∈ cs2, kd.F y o) → F y o ∨ w4.heap.size ≤ y := by
    rintro y o (g | g | ⟨kd, hd, g⟩)
    · rcases hb'c with ⟨rfl, rfl, rfl⟩ | h
      · exact .inl (hoF _ _ g)
      · rcases g with rfl | ⟨rfl, _⟩
        · exact .inl (hoF _ _ (.inl rfl))
        · exact .inr (by omega)
    · rcases hcase12 with ⟨rfl, rfl, rfl⟩ | h
      · exact .inl ((n.fp _ _).2 (.inr (.inl g)))
      · rcases g with rfl | ⟨rfl, _⟩
        · exact .inl ((n.fp _ _).2 (.inr (.inl (.inl rfl))))
        · exact .inr (by omega)
    · rcases hmem kd hd with h | h
      · exact .inl ((n.fp _ _).2 (.inr (.inr ⟨kd, (hold8 kd h).1, g⟩)))
      · rcases hnew4 kd h y o g with g | g
        · exact .inl (hcF _ _ g)
        · exact .inr g
  exact ⟨_, tr20, hF20, hY⟩
end Go.Proofs.Ytinpigpeoakeaaa
