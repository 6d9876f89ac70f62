/-
  FnGDeleteAll: the whole statement: it returns true whatever the input is, and the arguments read as before. No condition.
-/
import Derived.Test.YtbnnkcofnmipoaaZ7a750543
import Derived.Test.YtbnnkcofnmipoaaZA
import Derived.Test.YtbnnkcofnmipoaaZ2844d862
/-
  A node taken apart into its own part, its children's row and its children, and put together again; two neighbours merged, or one item moved. For items of whatever make. No condition.
-/
set_option linter.unusedSimpArgs false
set_option linter.unusedVariables false
namespace Go.Proofs.Ytbnnkcofnmipoaa
open Go
section
variable {α : Type}
theorem weave_cat : ∀ (g1 g2 : List (List α)) (k1 k2 : List α) (k : α), g1.length = k1.length + 1 → weave (g1 ++ g2) (k1 ++ k :: k2) = weave g1 k1 ++ k :: weave g2 k2
  | [], _, _, _, _, h => by simp at h
  | [c], g2, [], k2, k, _ => rfl
  | c :: d :: g, g2, [], k2, k, h => by simp at h
  | c :: g1, g2, x :: k1, k2, k, h => by
    rw [List.cons_append, List.cons_append, weave_cons, weave_cons, weave_cat g1 g2 k1 k2 k (by simpa using h), List.append_assoc]
    rfl
theorem weave_two : ∀ (A B : List (List α)) (a b : List α) (ks : List α) (k : α), ks[A.length]? = some k → weave (A ++ a :: b :: B) ks = weave (A ++ (a ++ k :: b) :: B) (ks.eraseIdx A.length)
  | [], B, a, b, [], k, h => by simp at h
  | [], B, a, b, x :: ks, k, h => by
    simp at h
    subst h
    cases ks with
    | nil => cases B <;> rfl
    | cons y ks => simp [weave]
  | c :: A, B, a, b, [], k, h => by simp at h
  | c :: A, B, a, b, x :: ks, k, h => by
    rw [List.cons_append, List.cons_append, weave_cons, weave_two A B a b ks k (by simpa using h), List.length_cons, List.eraseIdx_cons_succ, weave_cons]
theorem weave_swap {A B : List (List α)} {a b a' b' : List α} {ks : List α} {k x : α} (hk : ks[A.length]? = some k) (h : a ++ k :: b = a' ++ x :: b') : weave (A ++ a :: b :: B) ks = weave (A ++ a' :: b' :: B) (ks.set A.length x) := by
  rw [weave_two A B a b ks k hk, weave_two A B a' b' (ks.set A.length x) x (by rw [List.getElem?_set_self (List.getElem?_eq_some_iff.1 hk).1]), h]
  congr 1
  have hl := (List.getElem?_eq_some_iff.1 hk).1
  rw [List.eraseIdx_eq_take_drop_succ, List.eraseIdx_eq_take_drop_succ, List.take_set_of_le (Nat.le_refl _), List.drop_set_of_lt (by omega)]
end
variable {α : Type} {E : Enc α} {iso : Int} {mn mx : Nat}
def Dj (F G : Nat → Nat → Prop) : Prop := ∀ y o, F y o → ¬ G y o
theorem Dj.symm {F G : Nat → Nat → Prop} (h : Dj F G) : Dj G F := fun y o g f => h y o f g
/-- The children gs of a node with items ks; ch is the cell's pointer, ps what the row holds. -/
def Kin (E : Enc α) (iso : Int) (mn mx h : Nat) (w : World) (ch : Value) (ps : List (Option Nat)) (ks xs : List α) (gs : List (Kid α)) : Prop :=
  (h = 0 ∧ ch = .pointer none ∧ ps = [] ∧ gs = [] ∧ xs = ks) ∨
  (∃ h', h = h' + 1 ∧ (∃ c, ch = ptr c) ∧ ps = gs.map (fun g => some g.b) ∧ gs.length = ks.length + 1 ∧ xs = weave (gs.map Kid.xs) ks ∧ ∀ c ∈ gs, Tr E iso mn mx h' w mn c.b c.xs c.F)
def kinF (gs : List (Kid α)) : Nat → Nat → Prop := fun y o => ∃ c ∈ gs, c.F y o
structure Lay (F1 F4 : Nat → Nat → Prop) (K1 K4 : Nat) (gs : List (Kid α)) : Prop where
  d : Dj F1 F4
  g1 : ∀ c ∈ gs, Dj c.F F1
  g4 : ∀ c ∈ gs, Dj c.F F4
  two : gs.Pairwise fun c d => Dj c.F d.F
  r : K1 ≠ K4
theorem Kin.ext {h : Nat} {w w' : World} {ch : Value} {ps : List (Option Nat)} {ks xs : List α} {gs : List (Kid α)} {G : Nat → Nat → Prop} (n : Kin E iso mn mx h w ch ps ks xs gs) (x : Ext G w w') (hG : ∀ c ∈ gs, Dj c.F G) : Kin E iso mn mx h w' ch ps ks xs gs :=
  n.imp id fun ⟨h', h1, h2, h3, h4, h5, h6⟩ => ⟨h', h1, h2, h3, h4, h5, fun c hc => (h6 c hc).ext x (hG c hc)⟩
theorem Kin.lt {h : Nat} {w : World} {ch : Value} {ps : List (Option Nat)} {ks xs : List α} {gs : List (Kid α)} (n : Kin E iso mn mx h w ch ps ks xs gs) : ∀ c ∈ gs, ∀ y o, c.F y o → y < w.heap.size := by
  rcases n with ⟨_, _, _, rfl, _⟩ | ⟨h', _, _, _, _, _, h6⟩
  · intro c hc; cases hc
  · intro c hc; exact (h6 c hc).lt
theorem Tr.split {h : Nat} {w : World} {lo b : Nat} {xs : List α} {F : Nat → Nat → Prop} (ht : Tr E iso mn mx h w lo b xs F) :
    ∃ F1 F4 K1 K4 ks ch ps gs, (ndO E iso 0 b xs.length ks ch).p w F1 K1 ∧ (kdO ch ps).p w F4 K4 ∧ Kin E iso mn mx h w ch ps ks xs gs ∧ lo ≤ ks.length ∧ ks.length ≤ mx ∧ Lay F1 F4 K1 K4 gs ∧ ∀ y o, F y o ↔ F1 y o ∨ F4 y o ∨ kinF gs y o := by
  cases h with
  | zero =>
    obtain ⟨bi, oi, cap, ho, h1, h2, hF⟩ := ht
    refine ⟨ownF E b bi oi cap, noF, bi, b, xs, _, [], [], ⟨bi, oi, cap, ho, Nat.zero_le _, rfl, fun _ _ => Iff.rfl⟩, .inl ⟨rfl, rfl, wok_lt ho.wb, fun _ _ g => g⟩, .inl ⟨rfl, rfl, rfl, rfl, rfl⟩, h1, h2,
      ⟨fun _ _ _ g => g, (fun _ hc => by simp at hc), (fun _ hc => by simp at hc), List.Pairwise.nil, ho.ne⟩, fun y o => ?_⟩
    rw [hF]
    exact ⟨.inl, fun g => g.elim id fun g => g.elim False.elim fun ⟨_, hc, _⟩ => by simp at hc⟩
  | succ h =>
    obtain ⟨bi, oi, cap, bc, ba, oa, capc, ks, cs, ho, hk, h1, h2, h3, h4, hT, hA, hF⟩ := ht
    have hps : cs.map (fun g => some g.b) = (cs.map Kid.b).map some := by rw [List.map_map]; rfl
    refine ⟨ownF E b bi oi cap, kidF bc ba oa capc, bi, ba, ks, _, cs.map (fun g => some g.b), cs, ⟨bi, oi, cap, ho, Nat.zero_le _, rfl, fun _ _ => Iff.rfl⟩, .inr ⟨bc, ba, oa, capc, rfl, by rw [hps]; exact hk.se, rfl, fun _ _ => Iff.rfl⟩,
      .inr ⟨h, rfl, ⟨bc, rfl⟩, rfl, h3, h4, hT⟩, h1, h2, ⟨fun y o g k => ?_, hA.own, hA.kid, hA.two, hA.ia⟩, hF⟩
    have := hA.cb; have := hA.ab; have := hA.ic; have := hA.ia
    simp only [ownF, kidF, rng] at g k
    omega
theorem Tr.join {h : Nat} {w : World} {lo z b : Nat} {cnt : Int} {ks xs : List α} {ch : Value} {ps : List (Option Nat)} {gs : List (Kid α)} {F1 F4 : Nat → Nat → Prop} {K1 K4 : Nat} (h1 : (ndO E iso z b cnt ks ch).p w F1 K1) (h4 : (kdO ch ps).p w F4 K4)
    (n : Kin E iso mn mx h w ch ps ks xs gs) (hlo : lo ≤ ks.length) (hmx : ks.length ≤ mx) (hz : 0 < ks.length ∨ 1 ≤ z) (l : Lay F1 F4 K1 K4 gs) (hcnt : cnt = xs.length) : Tr E iso mn mx h w lo b xs fun y o => F1 y o ∨ F4 y o ∨ kinF gs y o := by
  subst hcnt
  obtain ⟨bi, oi, cap, ho, hzc, rfl, hF1⟩ := h1
  rcases n with ⟨rfl, rfl, rfl, rfl, rfl⟩ | ⟨h', rfl, ⟨c, rfl⟩, rfl, g3, g4, g5⟩
  · rcases h4 with ⟨_, _, _, hF4⟩ | ⟨_, _, _, _, hc, _⟩
    · refine ⟨K1, oi, cap, ho, hlo, hmx, fun y o => ?_⟩
      show F1 y o ∨ F4 y o ∨ kinF [] y o ↔ _
      rw [hF1]
      exact ⟨fun g => g.elim id fun g => g.elim (fun g => (hF4 _ _ g).elim) fun ⟨_, hc, _⟩ => by simp at hc, .inl⟩
    · cases hc
  · rcases h4 with ⟨hc, _⟩ | ⟨bc, ba, oa, capc, hc, se, rfl, hF4⟩
    · cases hc
    · obtain rfl : c = bc := by simpa [ptr] using hc
      have hps : gs.map (fun g => some g.b) = (gs.map Kid.b).map some := by rw [List.map_map]; rfl
      rw [hps] at se
      have hk := se.kids
      have hle := hk.le
      rw [List.length_map] at hle
      have hcap : 0 < cap := by have := ho.le; omega
      have hsz := Nat.mul_le_mul_right E.sz hcap
      have hE := E.pos
      refine ⟨K1, oi, cap, c, K4, oa, capc, ks, gs, ho, hk, hlo, hmx, g3, g4, g5, ⟨fun hb => ?_, fun hb => ?_, fun hb => ?_, l.r, fun d hd y o g k => l.g1 d hd y o g ((hF1 _ _).2 k), fun d hd y o g k => l.g4 d hd y o g ((hF4 _ _).2 k), l.two⟩, fun y o => ?_⟩
      · subst hb; exact l.d c 0 ((hF1 _ _).2 (.inl rfl)) ((hF4 _ _).2 (.inl rfl))
      · subst hb; exact l.d K4 oa ((hF1 _ _).2 (.inl rfl)) ((hF4 _ _).2 (.inr ⟨rfl, by omega, by omega⟩))
      · subst hb; exact l.d K1 oi ((hF1 _ _).2 (.inr ⟨rfl, by omega, by omega⟩)) ((hF4 _ _).2 (.inl rfl))
      · show F1 y o ∨ F4 y o ∨ kinF gs y o ↔ _
        rw [hF1, hF4]; rfl
theorem Kin.merge {h : Nat} {w : World} {ch1 ch2 : Value} {p1 p2 : List (Option Nat)} {k1 k2 x1 x2 : List α} {g1 g2 : List (Kid α)} {k : α} (a : Kin E iso mn mx h w ch1 p1 k1 x1 g1) (b : Kin E iso mn mx h w ch2 p2 k2 x2 g2) :
    Kin E iso mn mx h w ch1 (p1 ++ p2) (k1 ++ k :: k2) (x1 ++ k :: x2) (g1 ++ g2) := by
  rcases a with ⟨h0, ha, rfl, rfl, rfl⟩ | ⟨h', rfl, ha, rfl, a3, rfl, a5⟩
  · rcases b with ⟨_, _, rfl, rfl, rfl⟩ | ⟨h', h1, _⟩
    · exact .inl ⟨h0, ha, rfl, rfl, rfl⟩
    · omega
  · rcases b with ⟨h1, _⟩ | ⟨h2, h1, _, rfl, b3, rfl, b5⟩
    · omega
    · obtain rfl : h' = h2 := by omega
      refine .inr ⟨h', rfl, ha, by rw [List.map_append], by simp; omega, ?_, fun c hc => ?_⟩
      · rw [List.map_append, weave_cat _ _ _ _ _ (by simpa using a3)]
      · rcases List.mem_append.1 hc with hc | hc
        · exact a5 c hc
        · exact b5 c hc
theorem Tr.cnt' {w : World} {h lo b : Nat} {xs : List α} {F : Nat → Nat → Prop} (t : Tr E iso mn mx h w lo b xs F) : rd w b 1 = some (.int .i64 (xs.length : Nat)) := by
  obtain ⟨_, _, _, _, _, h, _⟩ := t.open
  exact h.h1
theorem Kin.right {h : Nat} {w : World} {ch1 ch2 : Value} {p1 p2 : List (Option Nat)} {ls k2 x1 x2 : List α} {g1 g2 : List (Kid α)} {k x : α} (a : Kin E iso mn mx h w ch1 p1 (ls ++ [x]) x1 g1) (b : Kin E iso mn mx h w ch2 p2 k2 x2 g2) :
    ∃ cg x1' x2' gl gr, Kin E iso mn mx h w ch1 p1.dropLast ls x1' gl ∧ Kin E iso mn mx h w ch2 (p1.drop (p1.length - 1) ++ p2) (k :: k2) x2' gr ∧ x1 ++ k :: x2 = x1' ++ x :: x2' ∧ gl ++ gr = g1 ++ g2 ∧
      x1'.length = x1.length - 1 - cg ∧ x2'.length = x2.length + 1 + cg ∧ 1 + cg ≤ x1.length ∧ ((p1 = [] ∧ cg = 0) ∨ ∃ c p', p1 = p' ++ [some c.b] ∧ c ∈ g1 ∧ rd w c.b 1 = some (.int .i64 (cg : Nat)) ∧ ∀ o, c.F c.b o) := by
  rcases a with ⟨h0, ha, rfl, rfl, rfl⟩ | ⟨h', rfl, ha, rfl, a3, rfl, a5⟩
  · rcases b with ⟨_, hb, rfl, rfl, rfl⟩ | ⟨h', h1, _⟩
    · exact ⟨0, ls, k :: x2, [], [], .inl ⟨h0, ha, rfl, rfl, rfl⟩, .inl ⟨h0, hb, rfl, rfl, rfl⟩, by simp, rfl, by simp, by simp, by simp, .inl ⟨rfl, rfl⟩⟩
    · omega
  · rcases b with ⟨h1, _⟩ | ⟨h2, h1, hb, rfl, b3, rfl, b5⟩
    · omega
    · obtain rfl : h' = h2 := by omega
      rw [List.length_append, List.length_singleton] at a3
      obtain ⟨gl, g, rfl⟩ : ∃ gl g, g1 = gl ++ [g] := ⟨g1.dropLast, g1.getLast (by intro h; rw [h] at a3; simp at a3), (List.dropLast_concat_getLast _).symm⟩
      rw [List.length_append, List.length_singleton] at a3
      have hw : weave ((gl ++ [g]).map Kid.xs) (ls ++ [x]) = weave (gl.map Kid.xs) ls ++ x :: g.xs := by
        rw [List.map_append, weave_cat _ _ _ _ _ (by simp; omega)]; rfl
      refine ⟨g.xs.length, weave (gl.map Kid.xs) ls, g.xs ++ k :: weave (g2.map Kid.xs) k2, gl, g :: g2, .inr ⟨h', rfl, ha, by simp, by omega, rfl, fun c hc => a5 c (by simp [hc])⟩, .inr ⟨h', rfl, hb, by simp, by simp; omega, by simp [weave_cons], fun c hc => ?_⟩,
        by rw [hw]; simp, by simp, by rw [hw]; simp <;> omega, by simp <;> omega, by rw [hw]; simp <;> omega, .inr ⟨g, gl.map fun g => some g.b, by simp, by simp, (a5 g (by simp)).cnt', (a5 g (by simp)).self⟩⟩
      rcases List.mem_cons.1 hc with rfl | hc
      · exact a5 _ (by simp)
      · exact b5 c hc
theorem Kin.left {h : Nat} {w : World} {ch1 ch2 : Value} {p1 p2 : List (Option Nat)} {k1 rs x1 x2 : List α} {g1 g2 : List (Kid α)} {k x : α} (a : Kin E iso mn mx h w ch1 p1 k1 x1 g1) (b : Kin E iso mn mx h w ch2 p2 (x :: rs) x2 g2) :
    ∃ cg x1' x2' gl gr, Kin E iso mn mx h w ch1 (p1 ++ p2.take 1) (k1 ++ [k]) x1' gl ∧ Kin E iso mn mx h w ch2 (p2.drop 1) rs x2' gr ∧ x1 ++ k :: x2 = x1' ++ x :: x2' ∧ gl ++ gr = g1 ++ g2 ∧
      x1'.length = x1.length + 1 + cg ∧ x2'.length = x2.length - 1 - cg ∧ 1 + cg ≤ x2.length ∧ ((p2 = [] ∧ cg = 0) ∨ ∃ c p', p2 = some c.b :: p' ∧ c ∈ g2 ∧ rd w c.b 1 = some (.int .i64 (cg : Nat)) ∧ ∀ o, c.F c.b o) := by
  rcases a with ⟨h0, ha, rfl, rfl, rfl⟩ | ⟨h', rfl, ha, rfl, a3, rfl, a5⟩
  · rcases b with ⟨_, hb, rfl, rfl, rfl⟩ | ⟨h', h1, _⟩
    · exact ⟨0, x1 ++ [k], rs, [], [], .inl ⟨h0, ha, rfl, rfl, rfl⟩, .inl ⟨h0, hb, rfl, rfl, rfl⟩, by simp, rfl, by simp, by simp, by simp, .inl ⟨rfl, rfl⟩⟩
    · omega
  · rcases b with ⟨h1, _⟩ | ⟨h2, h1, hb, rfl, b3, rfl, b5⟩
    · omega
    · obtain rfl : h' = h2 := by omega
      rw [List.length_cons] at b3
      obtain ⟨g, gr, rfl⟩ : ∃ g gr, g2 = g :: gr := by
        cases g2 with
        | nil => simp at b3
        | cons g gr => exact ⟨g, gr, rfl⟩
      rw [List.length_cons] at b3
      have hw : weave ((g :: gr).map Kid.xs) (x :: rs) = g.xs ++ x :: weave (gr.map Kid.xs) rs := by rw [List.map_cons, weave_cons]
      have hv : weave ((g1 ++ [g]).map Kid.xs) (k1 ++ [k]) = weave (g1.map Kid.xs) k1 ++ k :: g.xs := by
        rw [List.map_append, weave_cat _ _ _ _ _ (by simpa using a3)]; rfl
      refine ⟨g.xs.length, weave (g1.map Kid.xs) k1 ++ k :: g.xs, weave (gr.map Kid.xs) rs, g1 ++ [g], gr, .inr ⟨h', rfl, ha, by simp, by simp; omega, hv.symm, fun c hc => ?_⟩, .inr ⟨h', rfl, hb, by simp, by omega, rfl, fun c hc => b5 c (by simp [hc])⟩,
        by rw [hw]; simp, by simp, by simp <;> omega, by rw [hw]; simp <;> omega, by rw [hw]; simp <;> omega, .inr ⟨g, gr.map fun g => some g.b, by simp, by simp, (b5 g (by simp)).cnt', (b5 g (by simp)).self⟩⟩
      rcases List.mem_append.1 hc with hc | hc
      · exact a5 c hc
      · have : c = g := by simpa using hc
        subst this; exact b5 _ (by simp)
/-- A node, two neighbours among its children, and the others. -/
structure Two (E : Enc α) (iso : Int) (mn mx h : Nat) (w : World) (b bc : Nat) (cnt : Int) (ks : List α) (A B : List (Kid α)) (c1 c2 : Kid α) (F0 F3 : Nat → Nat → Prop) (K0 K3 : Nat)
    (F1 F4 : Nat → Nat → Prop) (K1 K4 : Nat) (k1 : List α) (ch1 : Value) (p1 : List (Option Nat)) (g1 : List (Kid α)) (F2 F5 : Nat → Nat → Prop) (K2 K5 : Nat) (k2 : List α) (ch2 : Value) (p2 : List (Option Nat)) (g2 : List (Kid α)) : Prop where
  n0 : (ndO E iso 1 b cnt ks (ptr bc)).p w F0 K0
  n3 : (kdO (ptr bc) ((A ++ c1 :: c2 :: B).map fun g => some g.b)).p w F3 K3
  l0 : Lay F0 F3 K0 K3 (A ++ c1 :: c2 :: B)
  n1 : (ndO E iso 0 c1.b (c1.xs.length : Nat) k1 ch1).p w F1 K1
  n4 : (kdO ch1 p1).p w F4 K4
  l1 : Lay F1 F4 K1 K4 g1
  f1 : ∀ y o, c1.F y o ↔ F1 y o ∨ F4 y o ∨ kinF g1 y o
  q1 : Kin E iso mn mx h w ch1 p1 k1 c1.xs g1
  n2 : (ndO E iso 0 c2.b (c2.xs.length : Nat) k2 ch2).p w F2 K2
  n5 : (kdO ch2 p2).p w F5 K5
  l2 : Lay F2 F5 K2 K5 g2
  f2 : ∀ y o, c2.F y o ↔ F2 y o ∨ F5 y o ∨ kinF g2 y o
  q2 : Kin E iso mn mx h w ch2 p2 k2 c2.xs g2
  rest : ∀ c ∈ A ++ B, Tr E iso mn mx h w mn c.b c.xs c.F
def six (F0 F1 F2 F3 F4 F5 : Nat → Nat → Prop) : Nat → Nat → Prop := fun y o => F0 y o ∨ F1 y o ∨ F2 y o ∨ F3 y o ∨ F4 y o ∨ F5 y o
section
variable {h : Nat} {w : World} {b bc : Nat} {cnt : Int} {ks : List α} {A B : List (Kid α)} {c1 c2 : Kid α} {F0 F3 : Nat → Nat → Prop} {K0 K3 : Nat}
    {F1 F4 : Nat → Nat → Prop} {K1 K4 : Nat} {k1 : List α} {ch1 : Value} {p1 : List (Option Nat)} {g1 : List (Kid α)} {F2 F5 : Nat → Nat → Prop} {K2 K5 : Nat} {k2 : List α} {ch2 : Value} {p2 : List (Option Nat)} {g2 : List (Kid α)}
theorem Two.apart (t : Two E iso mn mx h w b bc cnt ks A B c1 c2 F0 F3 K0 K3 F1 F4 K1 K4 k1 ch1 p1 g1 F2 F5 K2 K5 k2 ch2 p2 g2) :
    Dj c1.F c2.F ∧ (∀ a ∈ A ++ B, Dj a.F c1.F ∧ Dj a.F c2.F) ∧ (A ++ B).Pairwise fun c d => Dj c.F d.F := by
  obtain ⟨p1, p2, p3⟩ := List.pairwise_append.1 t.l0.two
  obtain ⟨p4, p5⟩ := List.pairwise_cons.1 p2
  obtain ⟨p6, p7⟩ := List.pairwise_cons.1 p5
  refine ⟨p4 c2 (by simp), fun a ha => ?_, List.pairwise_append.2 ⟨p1, p7, fun a ha b hb => p3 a ha b (by simp [hb])⟩⟩
  rcases List.mem_append.1 ha with ha | ha
  · exact ⟨p3 a ha c1 (by simp), p3 a ha c2 (by simp)⟩
  · exact ⟨(p4 a (by simp [ha])).symm, (p6 a ha).symm⟩
theorem Two.init (t : Two E iso mn mx h w b bc cnt ks A B c1 c2 F0 F3 K0 K3 F1 F4 K1 K4 k1 ch1 p1 g1 F2 F5 K2 K5 k2 ch2 p2 g2) :
    Ss w (six F0 F1 F2 F3 F4 F5) w [ndO E iso 1 b cnt ks (ptr bc), ndO E iso 0 c1.b (c1.xs.length : Nat) k1 ch1, ndO E iso 0 c2.b (c2.xs.length : Nat) k2 ch2, kdO (ptr bc) ((A ++ c1 :: c2 :: B).map fun g => some g.b), kdO ch1 p1, kdO ch2 p2] := by
  obtain ⟨a1, -, -⟩ := t.apart
  have s1 : ∀ y o, F1 y o → c1.F y o := fun y o g => (t.f1 y o).2 (.inl g)
  have s4 : ∀ y o, F4 y o → c1.F y o := fun y o g => (t.f1 y o).2 (.inr (.inl g))
  have s2 : ∀ y o, F2 y o → c2.F y o := fun y o g => (t.f2 y o).2 (.inl g)
  have s5 : ∀ y o, F5 y o → c2.F y o := fun y o g => (t.f2 y o).2 (.inr (.inl g))
  have m1 : c1 ∈ A ++ c1 :: c2 :: B := by simp
  have m2 : c2 ∈ A ++ c1 :: c2 :: B := by simp
  have d01 : Dj F0 F1 := fun y o g k => t.l0.g1 c1 m1 y o (s1 y o k) g
  have d02 : Dj F0 F2 := fun y o g k => t.l0.g1 c2 m2 y o (s2 y o k) g
  have d04 : Dj F0 F4 := fun y o g k => t.l0.g1 c1 m1 y o (s4 y o k) g
  have d05 : Dj F0 F5 := fun y o g k => t.l0.g1 c2 m2 y o (s5 y o k) g
  have d31 : Dj F3 F1 := fun y o g k => t.l0.g4 c1 m1 y o (s1 y o k) g
  have d32 : Dj F3 F2 := fun y o g k => t.l0.g4 c2 m2 y o (s2 y o k) g
  have d34 : Dj F3 F4 := fun y o g k => t.l0.g4 c1 m1 y o (s4 y o k) g
  have d35 : Dj F3 F5 := fun y o g k => t.l0.g4 c2 m2 y o (s5 y o k) g
  have d12 : Dj F1 F2 := fun y o g k => a1 y o (s1 y o g) (s2 y o k)
  have d15 : Dj F1 F5 := fun y o g k => a1 y o (s1 y o g) (s5 y o k)
  have d42 : Dj F4 F2 := fun y o g k => a1 y o (s4 y o g) (s2 y o k)
  have d45 : Dj F4 F5 := fun y o g k => a1 y o (s4 y o g) (s5 y o k)
  refine ⟨fun | 0 => F0 | 1 => F1 | 2 => F2 | 3 => F3 | 4 => F4 | _ => F5, fun | 0 => K0 | 1 => K1 | 2 => K2 | 3 => K3 | 4 => K4 | _ => K5, ⟨fun i C hi => ?_, fun i j hi hj hij => ?_, fun i hi y o g => .inl ?_, fun i hi => ?_, Ext.refl _ _⟩⟩
  · match i, hi with
    | 0, hi => cases hi; exact t.n0
    | 1, hi => cases hi; exact t.n1
    | 2, hi => cases hi; exact t.n2
    | 3, hi => cases hi; exact t.n3
    | 4, hi => cases hi; exact t.n4
    | 5, hi => cases hi; exact t.n5
    | n + 6, hi => simp at hi
  · show Dj _ _
    match i, j, hi, hj, hij with
    | 0, 0, _, _, h => exact (h rfl).elim
    | 0, 1, _, _, _ => exact d01
    | 0, 2, _, _, _ => exact d02
    | 0, 3, _, _, _ => exact t.l0.d
    | 0, 4, _, _, _ => exact d04
    | 0, 5, _, _, _ => exact d05
    | 1, 0, _, _, _ => exact d01.symm
    | 1, 1, _, _, h => exact (h rfl).elim
    | 1, 2, _, _, _ => exact d12
    | 1, 3, _, _, _ => exact d31.symm
    | 1, 4, _, _, _ => exact t.l1.d
    | 1, 5, _, _, _ => exact d15
    | 2, 0, _, _, _ => exact d02.symm
    | 2, 1, _, _, _ => exact d12.symm
    | 2, 2, _, _, h => exact (h rfl).elim
    | 2, 3, _, _, _ => exact d32.symm
    | 2, 4, _, _, _ => exact d42.symm
    | 2, 5, _, _, _ => exact t.l2.d
    | 3, 0, _, _, _ => exact t.l0.d.symm
    | 3, 1, _, _, _ => exact d31
    | 3, 2, _, _, _ => exact d32
    | 3, 3, _, _, h => exact (h rfl).elim
    | 3, 4, _, _, _ => exact d34
    | 3, 5, _, _, _ => exact d35
    | 4, 0, _, _, _ => exact d04.symm
    | 4, 1, _, _, _ => exact t.l1.d.symm
    | 4, 2, _, _, _ => exact d42
    | 4, 3, _, _, _ => exact d34.symm
    | 4, 4, _, _, h => exact (h rfl).elim
    | 4, 5, _, _, _ => exact d45
    | 5, 0, _, _, _ => exact d05.symm
    | 5, 1, _, _, _ => exact d15.symm
    | 5, 2, _, _, _ => exact t.l2.d.symm
    | 5, 3, _, _, _ => exact d35.symm
    | 5, 4, _, _, _ => exact d45.symm
    | 5, 5, _, _, h => exact (h rfl).elim
    | n + 6, _, hi, _, _ => exact absurd hi (by simp)
    | _, n + 6, _, hj, _ => exact absurd hj (by simp)
  · match i, hi, g with
    | 0, _, g => exact .inl g
    | 1, _, g => exact .inr (.inl g)
    | 2, _, g => exact .inr (.inr (.inl g))
    | 3, _, g => exact .inr (.inr (.inr (.inl g)))
    | 4, _, g => exact .inr (.inr (.inr (.inr (.inl g))))
    | 5, _, g => exact .inr (.inr (.inr (.inr (.inr g))))
    | n + 6, hi, _ => exact absurd hi (by simp)
  · match i, hi with
    | 0, _ => exact t.l0.r
    | 1, _ => exact t.l1.r
    | 2, _ => exact t.l2.r
    | n + 3, hi => exact absurd hi (by simp)
/-- The other children and the grandchildren lie apart from all that is written. -/
theorem Two.far (t : Two E iso mn mx h w b bc cnt ks A B c1 c2 F0 F3 K0 K3 F1 F4 K1 K4 k1 ch1 p1 g1 F2 F5 K2 K5 k2 ch2 p2 g2) :
    (∀ c ∈ A ++ B, Dj c.F (six F0 F1 F2 F3 F4 F5)) ∧ (∀ c ∈ g1 ++ g2, Dj c.F (six F0 F1 F2 F3 F4 F5)) ∧ (g1 ++ g2).Pairwise (fun c d => Dj c.F d.F) ∧ ∀ a ∈ A ++ B, ∀ c ∈ g1 ++ g2, Dj a.F c.F := by
  obtain ⟨a1, a2, -⟩ := t.apart
  have s1 : ∀ y o, F1 y o → c1.F y o := fun y o g => (t.f1 y o).2 (.inl g)
  have s4 : ∀ y o, F4 y o → c1.F y o := fun y o g => (t.f1 y o).2 (.inr (.inl g))
  have s2 : ∀ y o, F2 y o → c2.F y o := fun y o g => (t.f2 y o).2 (.inl g)
  have s5 : ∀ y o, F5 y o → c2.F y o := fun y o g => (t.f2 y o).2 (.inr (.inl g))
  have m1 : c1 ∈ A ++ c1 :: c2 :: B := by simp
  have m2 : c2 ∈ A ++ c1 :: c2 :: B := by simp
  have e1 : ∀ c ∈ g1, ∀ y o, c.F y o → c1.F y o := fun c hc y o g => (t.f1 y o).2 (.inr (.inr ⟨c, hc, g⟩))
  have e2 : ∀ c ∈ g2, ∀ y o, c.F y o → c2.F y o := fun c hc y o g => (t.f2 y o).2 (.inr (.inr ⟨c, hc, g⟩))
  refine ⟨fun c hc y o g k => ?_, fun c hc y o g k => ?_, List.pairwise_append.2 ⟨t.l1.two, t.l2.two, fun c hc d hd y o g k => a1 y o (e1 c hc y o g) (e2 d hd y o k)⟩, fun a ha c hc y o g k => ?_⟩
  · have hm : c ∈ A ++ c1 :: c2 :: B := by
      rcases List.mem_append.1 hc with h | h
      · simp [h]
      · simp [h]
    obtain ⟨a3, a4⟩ := a2 c hc
    rcases k with k | k | k | k | k | k
    · exact t.l0.g1 c hm y o g k
    · exact a3 y o g (s1 y o k)
    · exact a4 y o g (s2 y o k)
    · exact t.l0.g4 c hm y o g k
    · exact a3 y o g (s4 y o k)
    · exact a4 y o g (s5 y o k)
  · rcases List.mem_append.1 hc with hc | hc
    · have gc := e1 c hc y o g
      rcases k with k | k | k | k | k | k
      · exact t.l0.g1 c1 m1 y o gc k
      · exact t.l1.g1 c hc y o g k
      · exact a1 y o gc (s2 y o k)
      · exact t.l0.g4 c1 m1 y o gc k
      · exact t.l1.g4 c hc y o g k
      · exact a1 y o gc (s5 y o k)
    · have gc := e2 c hc y o g
      rcases k with k | k | k | k | k | k
      · exact t.l0.g1 c2 m2 y o gc k
      · exact a1 y o (s1 y o k) gc
      · exact t.l2.g1 c hc y o g k
      · exact t.l0.g4 c2 m2 y o gc k
      · exact a1 y o (s4 y o k) gc
      · exact t.l2.g4 c hc y o g k
  · obtain ⟨a3, a4⟩ := a2 a ha
    rcases List.mem_append.1 hc with hc | hc
    · exact a3 y o g (e1 c hc y o k)
    · exact a4 y o g (e2 c hc y o k)
/-- One of the two, as it stands behind the run. -/
theorem Two.kid (t : Two E iso mn mx h w b bc cnt ks A B c1 c2 F0 F3 K0 K3 F1 F4 K1 K4 k1 ch1 p1 g1 F2 F5 K2 K5 k2 ch2 p2 g2) {w' : World} {P : List Ob} {F' : Nat → Nat → Nat → Prop} {K' : Nat → Nat}
    (s : St w (six F0 F1 F2 F3 F4 F5) w' P F' K') (i : Nat) {cb : Nat} {cnt' : Int} {ks' xs' : List α} {ch : Value} {ps : List (Option Nat)} {gs : List (Kid α)} (hi : P[i]? = some (ndO E iso 0 cb cnt' ks' ch)) (hj : P[i + 3]? = some (kdO ch ps))
    (q : Kin E iso mn mx h w ch ps ks' xs' gs) (hs : gs.Sublist (g1 ++ g2)) (h1 : mn ≤ ks'.length) (h2 : ks'.length ≤ mx) (h0 : 1 ≤ mn) (hc : cnt' = (xs'.length : Nat)) :
    Tr E iso mn mx h w' mn cb xs' fun y o => F' i y o ∨ F' (i + 3) y o ∨ kinF gs y o := by
  obtain ⟨-, f2, f3, -⟩ := t.far
  have hil := (List.getElem?_eq_some_iff.1 hi).1
  have hjl := (List.getElem?_eq_some_iff.1 hj).1
  have ha : ∀ c ∈ gs, ∀ n, n < P.length → Dj c.F (F' n) := fun c hc n hn y o g k => by
    rcases s.s n hn y o k with k | k
    · exact f2 c (hs.subset hc) y o g k
    · have := q.lt c hc y o g; omega
  exact Tr.join (s.o i _ hi) (s.o (i + 3) _ hj) (q.ext s.x fun c hc => f2 c (hs.subset hc)) h1 h2 (.inl (by omega)) ⟨s.d i (i + 3) hil hjl (by omega), fun c hc => ha c hc i hil, fun c hc => ha c hc (i + 3) hjl, f3.sublist hs, s.r i hjl⟩ hc
/-- The node with new children in the two's place. -/
theorem Two.close (t : Two E iso mn mx h w b bc cnt ks A B c1 c2 F0 F3 K0 K3 F1 F4 K1 K4 k1 ch1 p1 g1 F2 F5 K2 K5 k2 ch2 p2 g2) {w' : World} {P : List Ob} {F' : Nat → Nat → Nat → Prop} {K' : Nat → Nat}
    (s : St w (six F0 F1 F2 F3 F4 F5) w' P F' K') (hP : P.length = 6) (new : List (Kid α)) {ks' : List α} {lo : Nat} (h0 : P[0]? = some (ndO E iso 1 b cnt ks' (ptr bc))) (h3 : P[3]? = some (kdO (ptr bc) ((A ++ (new ++ B)).map fun g => some g.b)))
    (hl : (A ++ (new ++ B)).length = ks'.length + 1) (hT : ∀ n ∈ new, Tr E iso mn mx h w' mn n.b n.xs n.F) (hF : ∀ n ∈ new, ∀ y o, n.F y o → (∃ i, (i = 1 ∨ i = 2 ∨ i = 4 ∨ i = 5) ∧ F' i y o) ∨ kinF (g1 ++ g2) y o)
    (h2 : new.Pairwise fun c d => Dj c.F d.F) (hlo : lo ≤ ks'.length) (hmx : ks'.length ≤ mx) (hc : cnt = ((weave ((A ++ (new ++ B)).map Kid.xs) ks').length : Nat)) :
    ∃ F'', Tr E iso mn mx (h + 1) w' lo b (weave ((A ++ (new ++ B)).map Kid.xs) ks') F'' ∧ ∀ y o, F'' y o → (F0 y o ∨ F3 y o ∨ kinF (A ++ c1 :: c2 :: B) y o) ∨ w.heap.size ≤ y := by
  obtain ⟨f1, f2, f3, f4⟩ := t.far
  obtain ⟨-, -, a3⟩ := t.apart
  have hlt : ∀ c ∈ A ++ B, ∀ y o, c.F y o → y < w.heap.size := fun c hc => (t.rest c hc).lt
  have glt : ∀ c ∈ g1 ++ g2, ∀ y o, c.F y o → y < w.heap.size := fun c hc => by
    rcases List.mem_append.1 hc with hc | hc
    · exact t.q1.lt c hc
    · exact t.q2.lt c hc
  have oldF : ∀ c ∈ A ++ B, ∀ n, n < 6 → Dj c.F (F' n) := fun c hc n hn y o g k => by
    rcases s.s n (by omega) y o k with k | k
    · exact f1 c hc y o g k
    · have := hlt c hc y o g; omega
  have gF : ∀ n, n < 6 → Dj (kinF (g1 ++ g2)) (F' n) := fun n hn y o g k => by
    obtain ⟨c, hc, g⟩ := g
    rcases s.s n (by omega) y o k with k | k
    · exact f2 c hc y o g k
    · have := glt c hc y o g; omega
  have newF : ∀ c ∈ new, ∀ n, n = 0 ∨ n = 3 → Dj c.F (F' n) := fun c hc n hn y o g k => by
    rcases hF c hc y o g with ⟨i, hi, g⟩ | g
    · exact s.d i n (by omega) (by omega) (by omega) y o g k
    · exact gF n (by omega) y o g k
  have oldN : ∀ a ∈ A ++ B, ∀ c ∈ new, Dj a.F c.F := fun a ha c hc y o g k => by
    rcases hF c hc y o k with ⟨i, hi, k⟩ | ⟨e, he, k⟩
    · exact oldF a ha i (by omega) y o g k
    · exact f4 a ha e he y o g k
  have hmem : ∀ c ∈ A ++ (new ++ B), c ∈ A ++ B ∨ c ∈ new := fun c hc => by
    rcases List.mem_append.1 hc with h | h
    · exact .inl (by simp [h])
    · rcases List.mem_append.1 h with h | h
      · exact .inr h
      · exact .inl (by simp [h])
  obtain ⟨p1, p2, p3⟩ := List.pairwise_append.1 a3
  refine ⟨_, Tr.join (s.o 0 _ h0) (s.o 3 _ h3) (.inr ⟨h, rfl, ⟨bc, rfl⟩, rfl, hl, rfl, fun c hc => ?_⟩) hlo hmx (.inr (Nat.le_refl _)) ⟨s.d 0 3 (by omega) (by omega) (by decide), fun c hc => ?_, fun c hc => ?_, ?_, s.r 0 (by omega)⟩ hc, fun y o g => ?_⟩
  · rcases hmem c hc with h | h
    · exact (t.rest c h).ext s.x (f1 c h)
    · exact hT c h
  · rcases hmem c hc with h | h
    · exact oldF c h 0 (by decide)
    · exact newF c h 0 (.inl rfl)
  · rcases hmem c hc with h | h
    · exact oldF c h 3 (by decide)
    · exact newF c h 3 (.inr rfl)
  · refine List.pairwise_append.2 ⟨p1, List.pairwise_append.2 ⟨h2, p2, fun c hc d hd => (oldN d (by simp [hd]) c hc).symm⟩, fun c hc d hd => ?_⟩
    rcases List.mem_append.1 hd with hd | hd
    · exact oldN c (by simp [hc]) d hd
    · exact p3 c hc d hd
  · have six_sub : ∀ y o, six F0 F1 F2 F3 F4 F5 y o → F0 y o ∨ F3 y o ∨ kinF (A ++ c1 :: c2 :: B) y o := fun y o g => by
      rcases g with g | g | g | g | g | g
      · exact .inl g
      · exact .inr (.inr ⟨c1, by simp, (t.f1 y o).2 (.inl g)⟩)
      · exact .inr (.inr ⟨c2, by simp, (t.f2 y o).2 (.inl g)⟩)
      · exact .inr (.inl g)
      · exact .inr (.inr ⟨c1, by simp, (t.f1 y o).2 (.inr (.inl g))⟩)
      · exact .inr (.inr ⟨c2, by simp, (t.f2 y o).2 (.inr (.inl g))⟩)
    have put : ∀ n, n < 6 → F' n y o → (F0 y o ∨ F3 y o ∨ kinF (A ++ c1 :: c2 :: B) y o) ∨ w.heap.size ≤ y := fun n hn g => (s.s n (by omega) y o g).imp (six_sub y o) id
    rcases g with g | g | ⟨c, hc, g⟩
    · exact put 0 (by decide) g
    · exact put 3 (by decide) g
    · rcases hmem c hc with hm | hm
      · refine .inl (.inr (.inr ⟨c, ?_, g⟩))
        rcases List.mem_append.1 hm with h | h
        · simp [h]
        · simp [h]
      · rcases hF c hm y o g with ⟨i, hi, g⟩ | ⟨e, he, g⟩
        · exact put i (by omega) g
        · rcases List.mem_append.1 he with he | he
          · exact .inl (.inr (.inr ⟨c1, by simp, (t.f1 y o).2 (.inr (.inr ⟨e, he, g⟩))⟩))
          · exact .inl (.inr (.inr ⟨c2, by simp, (t.f2 y o).2 (.inr (.inr ⟨e, he, g⟩))⟩))
theorem Two.six (t : Two E iso mn mx h w b bc cnt ks A B c1 c2 F0 F3 K0 K3 F1 F4 K1 K4 k1 ch1 p1 g1 F2 F5 K2 K5 k2 ch2 p2 g2) {y o : Nat} (g : Go.Proofs.Ytbnnkcofnmipoaa.six F0 F1 F2 F3 F4 F5 y o) : F0 y o ∨ F3 y o ∨ kinF (A ++ c1 :: c2 :: B) y o := by
  rcases g with g | g | g | g | g | g
  · exact .inl g
  · exact .inr (.inr ⟨c1, by simp, (t.f1 y o).2 (.inl g)⟩)
  · exact .inr (.inr ⟨c2, by simp, (t.f2 y o).2 (.inl g)⟩)
  · exact .inr (.inl g)
  · exact .inr (.inr ⟨c1, by simp, (t.f1 y o).2 (.inr (.inl g))⟩)
  · exact .inr (.inr ⟨c2, by simp, (t.f2 y o).2 (.inr (.inl g))⟩)
theorem Two.ch (t : Two E iso mn mx h w b bc cnt ks A B c1 c2 F0 F3 K0 K3 F1 F4 K1 K4 k1 ch1 p1 g1 F2 F5 K2 K5 k2 ch2 p2 g2) :
    (ch1 = .pointer none ∧ ch2 = .pointer none ∧ p1 = [] ∧ p2 = []) ∨ ∃ lc rc, ch1 = ptr lc ∧ ch2 = ptr rc ∧ p1.length = k1.length + 1 ∧ p2.length = k2.length + 1 := by
  rcases t.q1 with ⟨h0, ha, hp, _⟩ | ⟨h', h1, ⟨lc, ha⟩, hp, hg, _⟩
  · rcases t.q2 with ⟨_, hb, hq, _⟩ | ⟨h', h1, _⟩
    · exact .inl ⟨ha, hb, hp, hq⟩
    · omega
  · rcases t.q2 with ⟨h0, _⟩ | ⟨_, _, ⟨rc, hb⟩, hq, hg2, _⟩
    · omega
    · exact .inr ⟨lc, rc, ha, hb, by rw [hp, List.length_map]; exact hg, by rw [hq, List.length_map]; exact hg2⟩
end
/-- A node one of whose children may have one key less than it ought to. -/
structure Shr (E : Enc α) (iso : Int) (mn mx h : Nat) (w : World) (b bc : Nat) (cnt : Int) (ks : List α) (A : List (Kid α)) (c : Kid α) (B : List (Kid α)) (F0 F3 : Nat → Nat → Prop) (K0 K3 : Nat) : Prop where
  n0 : (ndO E iso 1 b cnt ks (ptr bc)).p w F0 K0
  n3 : (kdO (ptr bc) ((A ++ c :: B).map fun g => some g.b)).p w F3 K3
  l0 : Lay F0 F3 K0 K3 (A ++ c :: B)
  t : Tr E iso mn mx h w (mn - 1) c.b c.xs c.F
  rest : ∀ a ∈ A ++ B, Tr E iso mn mx h w mn a.b a.xs a.F
theorem Tr.keys {w : World} {h lo b : Nat} {xs : List α} {F : Nat → Nat → Prop} (t : Tr E iso mn mx h w lo b xs F) :
    ∃ a n cap, rd w b 2 = some (.slice (some a) n cap) ∧ lo ≤ n ∧ n ≤ mx ∧ ∀ lo', lo' ≤ n → Tr E iso mn mx h w lo' b xs F := by
  cases h with
  | zero =>
    obtain ⟨bi, oi, cap, ho, h1, h2, hF⟩ := t
    exact ⟨_, _, _, ho.h2, h1, h2, fun lo' hl => ⟨bi, oi, cap, ho, hl, h2, hF⟩⟩
  | succ h =>
    obtain ⟨bi, oi, cap, bc, ba, oa, capc, ks, cs, ho, hk, h1, h2, h3⟩ := t
    exact ⟨_, _, _, ho.h2, h1, h2, fun lo' hl => ⟨bi, oi, cap, bc, ba, oa, capc, ks, cs, ho, hk, hl, h2, h3⟩⟩
theorem Shr.fine {h : Nat} {w : World} {b bc : Nat} {cnt : Int} {ks : List α} {A B : List (Kid α)} {c : Kid α} {F0 F3 : Nat → Nat → Prop} {K0 K3 lo : Nat} (s : Shr E iso mn mx h w b bc cnt ks A c B F0 F3 K0 K3) (hl : (A ++ c :: B).length = ks.length + 1)
    (hc : Tr E iso mn mx h w mn c.b c.xs c.F) (hlo : lo ≤ ks.length) (hmx : ks.length ≤ mx) (hcnt : cnt = ((weave ((A ++ c :: B).map Kid.xs) ks).length : Nat)) :
    Tr E iso mn mx (h + 1) w lo b (weave ((A ++ c :: B).map Kid.xs) ks) fun y o => F0 y o ∨ F3 y o ∨ kinF (A ++ c :: B) y o :=
  Tr.join s.n0 s.n3 (.inr ⟨h, rfl, ⟨bc, rfl⟩, rfl, hl, rfl, fun a ha => by
    rcases List.mem_append.1 ha with ha | ha
    · exact s.rest a (by simp [ha])
    · rcases List.mem_cons.1 ha with rfl | ha
      · exact hc
      · exact s.rest a (by simp [ha])⟩) hlo hmx (.inr (Nat.le_refl _)) s.l0 hcnt
theorem Shr.ext0 {h : Nat} {w w' : World} {b bc : Nat} {cnt : Int} {ks : List α} {A B : List (Kid α)} {c : Kid α} {F0 F3 : Nat → Nat → Prop} {K0 K3 : Nat} (s : Shr E iso mn mx h w b bc cnt ks A c B F0 F3 K0 K3) (x : Ext noF w w') : Shr E iso mn mx h w' b bc cnt ks A c B F0 F3 K0 K3 :=
  ⟨(ndO _ _ _ _ _ _ _).loc s.n0 x fun _ _ _ g => g, (kdO _ _).loc s.n3 x fun _ _ _ g => g, s.l0, s.t.ext x fun _ _ _ g => g, fun a ha => (s.rest a ha).ext x fun _ _ _ g => g⟩
/-- An inner node one of whose children was changed. -/
theorem Inn.shr {h : Nat} {w w' : World} {b : Nat} {xs : List α} {F : Nat → Nat → Prop} {bi oi cap : Nat} {cnt : Int} {ks : List α} {bc ba oa capc : Nat} {cs : List (Kid α)} (o : Own E w b iso cnt bi oi cap ks (ptr bc))
    (n : Inn E iso mn mx h w b xs F bi oi cap ks bc ba oa capc cs) (hk : 1 ≤ ks.length) {i : Nat} {c : Kid α} (hc : cs[i]? = some c) {G : Nat → Nat → Prop} (x : Ext G w w') (hG : ∀ y o, F y o → G y o → c.F y o) {zs : List α} {F' : Nat → Nat → Prop}
    (t : Tr E iso mn mx h w' (mn - 1) c.b zs F') (hF' : ∀ y o, F' y o → c.F y o ∨ w.heap.size ≤ y) :
    Shr E iso mn mx h w' b bc cnt ks (cs.take i) ⟨c.b, zs, F'⟩ (cs.drop (i + 1)) (ownF E b bi oi cap) (kidF bc ba oa capc) bi ba := by
  have hcm := List.mem_of_getElem? hc
  have hi := (List.getElem?_eq_some_iff.1 hc).1
  have hbl := wok_lt o.wb
  have hbil := wok_lt o.wi
  have hbcl := wok_lt n.kids.wc
  have hbal := wok_lt n.kids.wa
  have ap := n.ap.swap (new := [⟨c.b, zs, F'⟩]) (B := w.heap.size) hc (fun d hd y o g => by
    obtain rfl := List.mem_singleton.1 hd
    exact hF' y o g) (List.pairwise_singleton _ _) (fun d hd y o g => (n.sub d hd).lt y o g) hbl hbil hbcl hbal
  have hcs : cs = cs.take i ++ c :: cs.drop (i + 1) := by
    have h3 := List.getElem?_eq_some_iff.1 hc
    have := List.take_append_drop i cs
    rw [List.drop_eq_getElem_cons h3.1, h3.2] at this
    exact this.symm
  have hold : ∀ a ∈ cs.take i ++ cs.drop (i + 1), a ∈ cs ∧ Dj a.F c.F := fun a ha => by
    have h2 := n.ap.two
    rw [hcs] at h2
    obtain ⟨p1, p2, p3⟩ := List.pairwise_append.1 h2
    obtain ⟨p4, p5⟩ := List.pairwise_cons.1 p2
    rcases List.mem_append.1 ha with ha | ha
    · exact ⟨List.mem_of_mem_take ha, p3 a ha c (by simp)⟩
    · exact ⟨List.mem_of_mem_drop ha, fun y o g k => p4 a ha y o k g⟩
  have hown : ∀ y o, ownF E b bi oi cap y o → ¬ G y o := fun y o g k => n.ap.own c hcm y o (hG y o ((n.fp y o).2 (.inl g)) k) g
  have hkid : ∀ y o, kidF bc ba oa capc y o → ¬ G y o := fun y o g k => n.ap.kid c hcm y o (hG y o ((n.fp y o).2 (.inr (.inl g))) k) g
  refine ⟨⟨bi, oi, cap, o.ext x hown, by have := o.le; omega, rfl, fun _ _ => Iff.rfl⟩, .inr ⟨bc, ba, oa, capc, rfl, ?_, rfl, fun _ _ => Iff.rfl⟩, ⟨fun y o g k => ?_, ap.own, ap.kid, ap.two, ap.ia⟩, t, fun a ha => ?_⟩
  · have hm : ((cs.take i ++ ⟨c.b, zs, F'⟩ :: cs.drop (i + 1)).map fun g => some g.b) = (cs.map Kid.b).map some := by
      conv => rhs; rw [hcs]
      simp
      rfl
    rw [hm]
    exact (n.kids.ext x hkid).se
  · have := ap.cb; have := ap.ab; have := ap.ic; have := ap.ia
    simp only [ownF, kidF, rng] at g k
    omega
  · obtain ⟨h1, h2⟩ := hold a ha
    exact (n.sub a h1).ext x fun y o g k => h2 y o g (hG y o ((n.fp y o).2 (.inr (.inr ⟨a, h1, g⟩))) k)
theorem Inn.shr_fp {h : Nat} {w : World} {b : Nat} {xs : List α} {F : Nat → Nat → Prop} {bi oi cap : Nat} {ks : List α} {bc ba oa capc : Nat} {cs : List (Kid α)}
    (n : Inn E iso mn mx h w b xs F bi oi cap ks bc ba oa capc cs) {i : Nat} {c : Kid α} (hc : cs[i]? = some c) {zs : List α} {F' : Nat → Nat → Prop} (hF' : ∀ y o, F' y o → c.F y o ∨ w.heap.size ≤ y) (y o : Nat)
    (g : ownF E b bi oi cap y o ∨ kidF bc ba oa capc y o ∨ kinF (cs.take i ++ ⟨c.b, zs, F'⟩ :: cs.drop (i + 1)) y o) : F y o ∨ w.heap.size ≤ y := by
  rcases g with g | g | ⟨a, ha, g⟩
  · exact .inl ((n.fp y o).2 (.inl g))
  · exact .inl ((n.fp y o).2 (.inr (.inl g)))
  · rcases List.mem_append.1 ha with ha | ha
    · exact .inl ((n.fp y o).2 (.inr (.inr ⟨a, List.mem_of_mem_take ha, g⟩)))
    · rcases List.mem_cons.1 ha with rfl | ha
      · exact (hF' y o g).imp (fun g => (n.fp y o).2 (.inr (.inr ⟨c, List.mem_of_getElem? hc, g⟩))) id
      · exact .inl ((n.fp y o).2 (.inr (.inr ⟨a, List.mem_of_mem_drop ha, g⟩)))
theorem shr_xs {cs : List (Kid α)} {i : Nat} {c : Kid α} (hc : cs[i]? = some c) {b : Nat} {zs : List α} {F' : Nat → Nat → Prop} : (cs.take i ++ ⟨b, zs, F'⟩ :: cs.drop (i + 1)).map Kid.xs = (cs.map Kid.xs).set i zs := by
  have hi := (List.getElem?_eq_some_iff.1 hc).1
  rw [List.set_eq_take_append_cons_drop, if_pos (by rw [List.length_map]; exact hi), List.map_append, List.map_cons, List.map_take, List.map_drop]
theorem shr_len {cs : List (Kid α)} {i : Nat} {c d : Kid α} (hc : cs[i]? = some c) : (cs.take i ++ d :: cs.drop (i + 1)).length = cs.length ∧ (cs.take i).length = i := by
  have hi := (List.getElem?_eq_some_iff.1 hc).1
  simp only [List.length_append, List.length_take, List.length_cons, List.length_drop]
  omega
end Go.Proofs.Ytbnnkcofnmipoaa
/-
  nodeRebalance: what it leaves of the tree. No condition.
-/
set_option linter.unusedSimpArgs false
set_option linter.unusedVariables false
namespace Go.Proofs.Ytbnnkcofnmipoaa
open Go Go.Proofs
theorem map_erase {α β : Type} (f : α → β) (l : List α) (i : Nat) : (l.map f).eraseIdx i = (l.eraseIdx i).map f := by
  rw [List.eraseIdx_eq_take_drop_succ, List.eraseIdx_eq_take_drop_succ, List.map_append, List.map_take, List.map_drop]
variable {h : Nat} {w : World} {b bc : Nat} {cnt : Int} {ks : List It} {A B : List (Kid It)} {c1 c2 : Kid It} {F0 F3 : Nat → Nat → Prop} {K0 K3 : Nat}
    {F1 F4 : Nat → Nat → Prop} {K1 K4 : Nat} {k1 : List It} {ch1 : Value} {p1 : List (Option Nat)} {g1 : List (Kid It)} {F2 F5 : Nat → Nat → Prop} {K2 K5 : Nat} {k2 : List It} {ch2 : Value} {p2 : List (Option Nat)} {g2 : List (Kid It)}
set_option maxHeartbeats 1000000 in
theorem reb_two (m d i0 : Nat) (iso : Int) (hd : 2 ≤ d) (hd' : d ≤ 128) (hc : Cfg w m iso d) (t : Two E iso (d - 1) (2 * d - 1) h w b bc cnt ks A B c1 c2 F0 F3 K0 K3 F1 F4 K1 K4 k1 ch1 p1 g1 F2 F5 K2 K5 k2 ch2 p2 g2)
    (hm : ∀ o, ¬ (F0 m o ∨ F3 m o ∨ kinF (A ++ c1 :: c2 :: B) m o)) (hlen : (A ++ c1 :: c2 :: B).length = ks.length + 1) (hj : (i0 = A.length ∧ A.length < ks.length) ∨ (i0 = ks.length ∧ A.length + 1 = ks.length)) (hks : ks.length ≤ 2 * d - 1)
    (hcnt : cnt = ((weave ((A ++ c1 :: c2 :: B).map Kid.xs) ks).length : Nat)) (hbig : (weave ((A ++ c1 :: c2 :: B).map Kid.xs) ks).length < 1152921504606846976) (h1 : d - 2 ≤ k1.length) (h2 : d - 2 ≤ k2.length) (h1' : k1.length ≤ 2 * d - 1) (h2' : k2.length ≤ 2 * d - 1)
    (hsh : k1.length < d - 1 ∨ k2.length < d - 1) :
    CallK Try.prog 151 #[ptr m, ptr b, .int .i64 (i0 : Nat)] w fun _ w' => ∃ F'', Tr E iso (d - 1) (2 * d - 1) (h + 1) w' (ks.length - 1) b (weave ((A ++ c1 :: c2 :: B).map Kid.xs) ks) F'' ∧
      Ext (fun y o => F0 y o ∨ F3 y o ∨ kinF (A ++ c1 :: c2 :: B) y o) w w' ∧ ∀ y o, F'' y o → (F0 y o ∨ F3 y o ∨ kinF (A ++ c1 :: c2 :: B) y o) ∨ w.heap.size ≤ y := by
  have hAk : A.length < ks.length := by omega
  obtain ⟨k, hk⟩ : ∃ k, ks[A.length]? = some k := ⟨_, List.getElem?_eq_getElem hAk⟩
  have s := t.init
  have hG : ∀ o, ¬ six F0 F1 F2 F3 F4 F5 m o := fun o g => hm o (t.six g)
  have hp : ((A ++ c1 :: c2 :: B).map fun g => some g.b)[A.length]? = some (some c1.b) := by simp
  have hq : ((A ++ c1 :: c2 :: B).map fun g => some g.b)[A.length + 1]? = some (some c2.b) := by simp
  have hps : ((A ++ c1 :: c2 :: B).map fun g => some g.b).length = ks.length + 1 := by rw [List.length_map]; exact hlen
  have hmap : (A ++ c1 :: c2 :: B).map Kid.xs = A.map Kid.xs ++ c1.xs :: c2.xs :: B.map Kid.xs := by simp
  have hk' : ks[(A.map Kid.xs).length]? = some k := by rw [List.length_map]; exact hk
  have hx1 : c1.xs.length < 1152921504606846976 ∧ c2.xs.length < 1152921504606846976 := by
    have e1 := weave_mem_length ((A ++ c1 :: c2 :: B).map Kid.xs) ks (by rw [List.length_map]; exact hlen) c1.xs (by simp)
    have e2 := weave_mem_length ((A ++ c1 :: c2 :: B).map Kid.xs) ks (by rw [List.length_map]; exact hlen) c2.xs (by simp)
    omega
  have hlA : (A ++ c1 :: c2 :: B).length = A.length + B.length + 2 := by simp; omega
  have far : ∀ {c : Kid It}, c ∈ g1 ++ g2 → (∀ o, c.F c.b o) → ∀ o, ¬ six F0 F1 F2 F3 F4 F5 c.b o := fun hc hs o g => t.far.2.1 _ hc _ o (hs o) g
  by_cases hlt : k1.length + k2.length < 2 * d - 1
  · refine CallK_mono (reb_merge m d b c1.b c2.b bc i0 A.length c1.xs.length c2.xs.length iso cnt ks k1 k2 k _ p1 p2 ch1 ch2 w w _ hd hd' hc hG s hj hks hk hps hp hq t.ch h1' h2' (by omega) (by omega) hlt) ?_
    rintro v w' hs
    have X := hs.x
    obtain ⟨F', K', s'⟩ := hs
    have q := t.q1.merge (k := k) t.q2
    have hw := weave_two (A.map Kid.xs) (B.map Kid.xs) c1.xs c2.xs ks k hk'
    rw [List.length_map] at hw
    have hle := List.length_eraseIdx_of_lt hAk
    have T := t.kid s' 1 rfl rfl q (List.Sublist.refl _) (by simp; omega) (by simp; omega) (by omega) (by simp <;> omega)
    have hpe : ((A ++ c1 :: c2 :: B).map fun g => some g.b).eraseIdx (A.length + 1) = (A ++ ([Kid.mk c1.b (c1.xs ++ k :: c2.xs) (fun y o => F' 1 y o ∨ F' 4 y o ∨ kinF (g1 ++ g2) y o)] ++ B)).map fun g => some g.b := by
      rw [map_erase, List.eraseIdx_append_of_length_le (by omega)]
      simp
    have hwe : (A ++ ([Kid.mk c1.b (c1.xs ++ k :: c2.xs) (fun y o => F' 1 y o ∨ F' 4 y o ∨ kinF (g1 ++ g2) y o)] ++ B)).map Kid.xs = A.map Kid.xs ++ (c1.xs ++ k :: c2.xs) :: B.map Kid.xs := by simp
    obtain ⟨F'', T', hF''⟩ := t.close s' rfl [Kid.mk c1.b (c1.xs ++ k :: c2.xs) (fun y o => F' 1 y o ∨ F' 4 y o ∨ kinF (g1 ++ g2) y o)] (ks' := ks.eraseIdx A.length) (lo := ks.length - 1) rfl (by rw [← hpe]; rfl)
      (by simp only [List.length_append, List.length_cons, List.length_nil]; omega) (fun n hn => by obtain rfl := List.mem_singleton.1 hn; exact T)
      (fun n hn y o g => by
        obtain rfl := List.mem_singleton.1 hn
        rcases g with g | g | g
        · exact .inl ⟨1, .inl rfl, g⟩
        · exact .inl ⟨4, by decide, g⟩
        · exact .inr g) (List.pairwise_singleton _ _) (by omega) (by omega) (by rw [hwe, ← hw, ← hmap]; exact hcnt)
    rw [hwe, ← hw, ← hmap] at T'
    exact ⟨F'', T', X.mono fun y o _ g => t.six g, hF''⟩
  · have two : ∀ {w' : World} {F' : Nat → Nat → Nat → Prop} {K' : Nat → Nat} {P : List Ob} {x : It} {x1' x2' l1 l2 : List It} {q1 q2 : List (Option Nat)} {gl gr : List (Kid It)} {n1 n2 : Int}, St w (six F0 F1 F2 F3 F4 F5) w' P F' K' →
        P = [ndO E iso 1 b cnt (ks.set A.length x) (ptr bc), ndO E iso 0 c1.b n1 l1 ch1, ndO E iso 0 c2.b n2 l2 ch2, kdO (ptr bc) ((A ++ c1 :: c2 :: B).map fun g => some g.b), kdO ch1 q1, kdO ch2 q2] →
        Kin E iso (d - 1) (2 * d - 1) h w ch1 q1 l1 x1' gl → Kin E iso (d - 1) (2 * d - 1) h w ch2 q2 l2 x2' gr → c1.xs ++ k :: c2.xs = x1' ++ x :: x2' → gl ++ gr = g1 ++ g2 → n1 = (x1'.length : Nat) → n2 = (x2'.length : Nat) →
        d - 1 ≤ l1.length → l1.length ≤ 2 * d - 1 → d - 1 ≤ l2.length → l2.length ≤ 2 * d - 1 →
        ∃ F'', Tr E iso (d - 1) (2 * d - 1) (h + 1) w' (ks.length - 1) b (weave ((A ++ c1 :: c2 :: B).map Kid.xs) ks) F'' ∧
          Ext (fun y o => F0 y o ∨ F3 y o ∨ kinF (A ++ c1 :: c2 :: B) y o) w w' ∧ ∀ y o, F'' y o → (F0 y o ∨ F3 y o ∨ kinF (A ++ c1 :: c2 :: B) y o) ∨ w.heap.size ≤ y := by
      intro w' F' K' P x x1' x2' l1 l2 q1 q2 gl gr n1 n2 s' hP Q1 Q2 hxx hgg hn1 hn2 hl1 hl1' hl2 hl2'
      subst hP
      have T1 := t.kid s' 1 rfl rfl Q1 (by rw [← hgg]; exact List.sublist_append_left _ _) hl1 hl1' (by omega) hn1
      have T2 := t.kid s' 2 rfl rfl Q2 (by rw [← hgg]; exact List.sublist_append_right _ _) hl2 hl2' (by omega) hn2
      have hw := weave_swap (A := A.map Kid.xs) (B := B.map Kid.xs) hk' hxx
      rw [List.length_map] at hw
      have hpe : (A ++ c1 :: c2 :: B).map (fun g => some g.b) = (A ++ ([Kid.mk c1.b x1' (fun y o => F' 1 y o ∨ F' 4 y o ∨ kinF gl y o), Kid.mk c2.b x2' (fun y o => F' 2 y o ∨ F' 5 y o ∨ kinF gr y o)] ++ B)).map fun g => some g.b := by simp
      have hwe : (A ++ ([Kid.mk c1.b x1' (fun y o => F' 1 y o ∨ F' 4 y o ∨ kinF gl y o), Kid.mk c2.b x2' (fun y o => F' 2 y o ∨ F' 5 y o ∨ kinF gr y o)] ++ B)).map Kid.xs = A.map Kid.xs ++ x1' :: x2' :: B.map Kid.xs := by simp
      obtain ⟨f1, f2, f3, f4⟩ := t.far
      have gF : ∀ c ∈ gl ++ gr, ∀ n, n < 6 → Dj c.F (F' n) := fun c hc n hn y o g k => by
        rw [hgg] at hc
        rcases s'.s n hn y o k with k | k
        · exact f2 c hc y o g k
        · have : y < w.heap.size := by
            rcases List.mem_append.1 hc with hc | hc
            · exact t.q1.lt c hc y o g
            · exact t.q2.lt c hc y o g
          omega
      have hd12 : Dj (fun y o => F' 1 y o ∨ F' 4 y o ∨ kinF gl y o) (fun y o => F' 2 y o ∨ F' 5 y o ∨ kinF gr y o) := by
        intro y o g k
        rcases g with g | g | ⟨c, hc, g⟩ <;> rcases k with k | k | ⟨e, he, k⟩
        · exact s'.d 1 2 (by simp) (by simp) (by decide) y o g k
        · exact s'.d 1 5 (by simp) (by simp) (by decide) y o g k
        · exact gF e (by simp [he]) 1 (by decide) y o k g
        · exact s'.d 4 2 (by simp) (by simp) (by decide) y o g k
        · exact s'.d 4 5 (by simp) (by simp) (by decide) y o g k
        · exact gF e (by simp [he]) 4 (by decide) y o k g
        · exact gF c (by simp [hc]) 2 (by decide) y o g k
        · exact gF c (by simp [hc]) 5 (by decide) y o g k
        · rw [← hgg] at f3
          exact (List.pairwise_append.1 f3).2.2 c hc e he y o g k
      have hls : (ks.set A.length x).length = ks.length := List.length_set
      obtain ⟨F'', T', hF''⟩ := t.close s' rfl [Kid.mk c1.b x1' (fun y o => F' 1 y o ∨ F' 4 y o ∨ kinF gl y o), Kid.mk c2.b x2' (fun y o => F' 2 y o ∨ F' 5 y o ∨ kinF gr y o)] (ks' := ks.set A.length x) (lo := ks.length - 1) rfl (by rw [← hpe]; rfl)
        (by simp only [List.length_append, List.length_cons, List.length_nil]; omega)
        (fun n hn => by
          rcases List.mem_cons.1 hn with rfl | hn
          · exact T1
          · obtain rfl := List.mem_singleton.1 hn; exact T2)
        (fun n hn y o g => by
          rcases List.mem_cons.1 hn with rfl | hn
          · rcases g with g | g | ⟨c, hc, g⟩
            · exact .inl ⟨1, by decide, g⟩
            · exact .inl ⟨4, by decide, g⟩
            · exact .inr ⟨c, by rw [← hgg]; simp [hc], g⟩
          · obtain rfl := List.mem_singleton.1 hn
            rcases g with g | g | ⟨c, hc, g⟩
            · exact .inl ⟨2, by decide, g⟩
            · exact .inl ⟨5, by decide, g⟩
            · exact .inr ⟨c, by rw [← hgg]; simp [hc], g⟩)
        (List.pairwise_pair.2 hd12) (by omega) (by omega) (by rw [hwe, ← hw, ← hmap]; exact hcnt)
      rw [hwe, ← hw, ← hmap] at T'
      exact ⟨F'', T', s'.x.mono fun y o _ g => t.six g, hF''⟩
    by_cases hgt : k2.length < k1.length
    · obtain ⟨ls, x, rfl⟩ : ∃ ls x, k1 = ls ++ [x] := ⟨k1.dropLast, k1.getLast (by intro h; rw [h] at hgt; simp at hgt), (List.dropLast_concat_getLast _).symm⟩
      obtain ⟨cg, x1', x2', gl, gr, Q1, Q2, hxx, hgg, e1, e2, e3, hg⟩ := t.q1.right (k := k) t.q2
      have hsx : x1'.length + 1 + x2'.length = c1.xs.length + 1 + c2.xs.length := by
        have := congrArg List.length hxx
        simp only [List.length_append, List.length_cons] at this
        omega
      refine CallK_mono (reb_right m d b c1.b c2.b bc i0 A.length c1.xs.length c2.xs.length iso cnt ks ls k2 k x _ p1 p2 ch1 ch2 w w _ hd hd' hc hG s hj hks hk hps hp hq t.ch h1' h2' (by omega) (by omega) (by omega) hgt cg e3 (by omega) ?_) ?_
      · rcases hg with hg | ⟨c, p', hp', hcm, hr, hself⟩
        · exact .inl hg
        · exact .inr ⟨c.b, p', hp', hr, far (by simp [hcm]) hself⟩
      · rintro v w' ⟨F', K', s'⟩
        rw [List.length_append, List.length_singleton] at h1 h1' hlt hgt hsh
        exact two s' rfl Q1 Q2 hxx hgg (by rw [e1]) (by rw [e2]) (by omega) (by omega) (by rw [List.length_cons]; omega) (by rw [List.length_cons]; omega)
    · obtain ⟨x, rs, rfl⟩ : ∃ x rs, k2 = x :: rs := by
        cases k2 with
        | nil => rw [List.length_nil] at hgt hlt; omega
        | cons x rs => exact ⟨x, rs, rfl⟩
      obtain ⟨cg, x1', x2', gl, gr, Q1, Q2, hxx, hgg, e1, e2, e3, hg⟩ := t.q1.left (k := k) t.q2
      have hsx : x1'.length + 1 + x2'.length = c1.xs.length + 1 + c2.xs.length := by
        have := congrArg List.length hxx
        simp only [List.length_append, List.length_cons] at this
        omega
      refine CallK_mono (reb_left m d b c1.b c2.b bc i0 A.length c1.xs.length c2.xs.length iso cnt ks k1 rs k x _ p1 p2 ch1 ch2 w w _ hd hd' hc hG s hj hks hk hps hp hq t.ch h1' h2' (by omega) (by omega) (by omega) (by omega) cg e3 (by omega) ?_) ?_
      · rcases hg with hg | ⟨c, p', hp', hcm, hr, hself⟩
        · exact .inl hg
        · exact .inr ⟨c.b, p', hp', hr, far (by simp [hcm]) hself⟩
      · rintro v w' ⟨F', K', s'⟩
        rw [List.length_cons] at h2 h2' hlt hgt hsh
        exact two s' rfl Q1 Q2 hxx hgg (by rw [e1]) (by rw [e2]) (by rw [List.length_append, List.length_singleton]; omega) (by rw [List.length_append, List.length_singleton]; omega) (by omega) (by omega)
theorem nd_len {w : World} {z b n cap : Nat} {cnt : Int} {k : List It} {ch : Value} {a : Option Addr} {F : Nat → Nat → Prop} {K : Nat} {iso : Int} (h : (ndO E iso z b cnt k ch).p w F K) (h2 : rd w b 2 = some (.slice a n cap)) : k.length = n := by
  obtain ⟨_, _, _, ho, _⟩ := h
  have := ho.h2.symm.trans h2
  simp only [Option.some.injEq, Value.slice.injEq] at this
  exact this.2.1
/-- A node with a child that is too short: what nodeRebalance leaves. -/
theorem reb_shr (m d : Nat) (iso : Int) (hd : 2 ≤ d) (hd' : d ≤ 128) (hc : Cfg w m iso d) {c : Kid It} (s : Shr E iso (d - 1) (2 * d - 1) h w b bc cnt ks A c B F0 F3 K0 K3) (hm : ∀ o, ¬ (F0 m o ∨ F3 m o ∨ kinF (A ++ c :: B) m o))
    (hlen : (A ++ c :: B).length = ks.length + 1) (hk0 : 1 ≤ ks.length) (hks : ks.length ≤ 2 * d - 1) (hcnt : cnt = ((weave ((A ++ c :: B).map Kid.xs) ks).length : Nat)) (hbig : (weave ((A ++ c :: B).map Kid.xs) ks).length < 1152921504606846976)
    {a : Option Addr} {n cap : Nat} (hr : rd w c.b 2 = some (.slice a n cap)) (hn : n < d - 1) :
    CallK Try.prog 151 #[ptr m, ptr b, .int .i64 (A.length : Nat)] w fun _ w' => ∃ F'', Tr E iso (d - 1) (2 * d - 1) (h + 1) w' (ks.length - 1) b (weave ((A ++ c :: B).map Kid.xs) ks) F'' ∧
      Ext (fun y o => F0 y o ∨ F3 y o ∨ kinF (A ++ c :: B) y o) w w' ∧ ∀ y o, F'' y o → (F0 y o ∨ F3 y o ∨ kinF (A ++ c :: B) y o) ∨ w.heap.size ≤ y := by
  obtain ⟨F1, F4, K1, K4, k1, ch1, p1, g1, n1, n4, q1, h1, h1', l1, f1⟩ := s.t.split
  have hk1 := nd_len n1 hr
  have hl : (A ++ c :: B).length = A.length + B.length + 1 := by simp; omega
  by_cases hA : A.length < ks.length
  · cases B with
    | nil => rw [List.length_nil] at hl; omega
    | cons c2 B =>
      obtain ⟨F2, F5, K2, K5, k2, ch2, p2, g2, n2, n5, q2, h2, h2', l2, f2⟩ := (s.rest c2 (by simp)).split
      have t : Two E iso (d - 1) (2 * d - 1) h w b bc cnt ks A B c c2 F0 F3 K0 K3 F1 F4 K1 K4 k1 ch1 p1 g1 F2 F5 K2 K5 k2 ch2 p2 g2 := ⟨s.n0, s.n3, s.l0, n1, n4, l1, f1, q1, n2, n5, l2, f2, q2, fun e he => s.rest e (by
        rcases List.mem_append.1 he with he | he
        · simp [he]
        · simp [he])⟩
      exact reb_two m d A.length iso hd hd' hc t hm hlen (.inl ⟨rfl, hA⟩) hks hcnt hbig (by omega) (by omega) h1' h2' (.inl (by omega))
  · obtain ⟨A, c0, rfl⟩ : ∃ A' c0, A = A' ++ [c0] := ⟨A.dropLast, A.getLast (by intro h; rw [h, List.length_nil] at hA; omega), (List.dropLast_concat_getLast _).symm⟩
    have hB : B = [] := List.eq_nil_of_length_eq_zero (by omega)
    subst hB
    obtain ⟨F2, F5, K2, K5, k2, ch2, p2, g2, n2, n5, q2, h2, h2', l2, f2⟩ := (s.rest c0 (by simp)).split
    have e : A ++ [c0] ++ [c] = A ++ c0 :: c :: [] := by simp
    obtain ⟨s1, s2, s3, s4, s5⟩ := s
    rw [List.length_append, List.length_singleton] at hl hA
    rw [e] at s2 s3 hm hlen hcnt hbig ⊢
    have t : Two E iso (d - 1) (2 * d - 1) h w b bc cnt ks A [] c0 c F0 F3 K0 K3 F2 F5 K2 K5 k2 ch2 p2 g2 F1 F4 K1 K4 k1 ch1 p1 g1 := ⟨s1, s2, s3, n2, n5, l2, f2, q2, n1, n4, l1, f1, q1, fun e he => s5 e (by
      simp at he; simp [he])⟩
    have hi : (A ++ [c0]).length = ks.length := by
      rw [List.length_append, List.length_singleton]
      simp only [List.length_append, List.length_cons, List.length_nil] at hlen
      omega
    exact reb_two m d (A ++ [c0]).length iso hd hd' hc t hm hlen (.inr ⟨hi, by rw [← hi]; simp⟩) hks hcnt hbig (by omega) (by omega) h2' h1' (.inr (by omega))
end Go.Proofs.Ytbnnkcofnmipoaa
/-
  What a deletion leaves of a list, and how it passes to a child's list. No program in sight. No condition.
-/
set_option linter.unusedSimpArgs false
set_option linter.unusedVariables false
namespace Go.Proofs.Ytbnnkcofnmipoaa
open Go
section
variable {α R : Type} (O : SOrd R) (κ : α → R)
/-- A deletion: of the last one, or of the one with rank q; the one that goes, and those that stay. -/
def delR (mx : Bool) (q : R) (xs : List α) : Option (α × List α) :=
  if mx = true then xs.getLast?.map fun y => (y, xs.dropLast) else (at? O κ q xs).map fun y => (y, del O κ q xs)
variable {O κ}
theorem delR_max {q : R} {A m : List α} (hm : m ≠ []) : delR O κ true q (A ++ m) = (delR O κ true q m).map fun p => (p.1, A ++ p.2) := by
  simp only [delR, ↓reduceIte]
  obtain ⟨l, x, rfl⟩ : ∃ l x, m = l ++ [x] := ⟨m.dropLast, m.getLast hm, (List.dropLast_concat_getLast hm).symm⟩
  rw [← List.append_assoc, List.getLast?_concat, List.getLast?_concat, List.dropLast_concat, List.dropLast_concat]
  rfl
theorem delR_last {q : R} {l : List α} {x : α} : delR O κ true q (l ++ [x]) = some (x, l) := by
  simp only [delR, ↓reduceIte, List.getLast?_concat, List.dropLast_concat, Option.map_some]
theorem delR_key {A C : List α} {k : α} (ha : Asc O κ (A ++ k :: C)) : delR O κ false (κ k) (A ++ k :: C) = some (k, A ++ C) := by
  obtain ⟨h1, h2⟩ := found_mid O κ ha
  have h3 : (A ++ k :: C)[A.length]? = some k := by simp
  simp only [delR, at?, del, h2, h1, ↓reduceIte, h3, Option.map_some, Bool.false_eq_true]
  rw [List.eraseIdx_append_of_length_le (Nat.le_refl _)]
  simp
theorem delR_leaf {q : R} {xs : List α} {k : α} (hh : hit O κ q xs = true) (hk : xs[lb O κ q xs]? = some k) : delR O κ false q xs = some (k, xs.eraseIdx (lb O κ q xs)) := by
  simp only [delR, at?, del, hh, ↓reduceIte, hk, Option.map_some, Bool.false_eq_true]
theorem delR_miss {q : R} {xs : List α} (hh : hit O κ q xs = false) : delR O κ false q xs = none := by
  simp only [delR, at?, hh, ↓reduceIte, Option.map_none, Bool.false_eq_true]
theorem delR_mid {q : R} {a m c : List α} (ha : ∀ x ∈ a, O.lt (κ x) q = true) (hc : ∀ x ∈ c.head?, O.lt q (κ x) = true) : delR O κ false q (a ++ m ++ c) = (delR O κ false q m).map fun p => (p.1, a ++ p.2 ++ c) := by
  cases hh : hit O κ q m with
  | false => rw [delR_miss hh, delR_miss (by rw [hit_mid O κ ha hc]; exact hh)]; rfl
  | true =>
    obtain ⟨k, hk, _⟩ := hit_at O κ hh
    have hl := lb_mid O κ (q := q) (a := a) (m := m) (c := c) ha fun x hx => O.asym (hc x hx)
    have hi := (List.getElem?_eq_some_iff.1 hk).1
    rw [delR_leaf hh hk, delR_leaf (k := k) (by rw [hit_mid O κ ha hc]; exact hh) (by
      rw [hl, List.append_assoc, List.getElem?_append_right (by omega), Nat.add_sub_cancel_left, List.getElem?_append_left hi]; exact hk), hl]
    simp only [Option.map_some, List.append_assoc]
    rw [List.eraseIdx_append_of_length_le (by omega), Nat.add_sub_cancel_left, List.eraseIdx_append_of_lt_length hi]
theorem delR_len {mx : Bool} {q : R} {xs ys : List α} {y : α} (h : delR O κ mx q xs = some (y, ys)) : ys.length + 1 = xs.length := by
  cases mx with
  | true =>
    rcases List.eq_nil_or_concat xs with rfl | ⟨l, x, rfl⟩
    · simp [delR] at h
    · rw [List.concat_eq_append, delR_last] at h
      cases h
      simp
  | false =>
    cases hh : hit O κ q xs with
    | false => rw [delR_miss hh] at h; cases h
    | true =>
      obtain ⟨k, hk, _⟩ := hit_at O κ hh
      have hi := (List.getElem?_eq_some_iff.1 hk).1
      rw [delR_leaf hh hk] at h
      cases h
      rw [List.length_eraseIdx_of_lt hi]; omega
theorem delR_asc {mx : Bool} {q : R} {xs ys : List α} {y : α} (ha : Asc O κ xs) (h : delR O κ mx q xs = some (y, ys)) : Asc O κ ys := by
  cases mx with
  | true =>
    rcases List.eq_nil_or_concat xs with rfl | ⟨l, x, rfl⟩
    · simp [delR] at h
    · rw [List.concat_eq_append, delR_last] at h
      rw [List.concat_eq_append] at ha
      cases h
      exact ((Asc.append O κ).1 ha).1
  | false =>
    cases hh : hit O κ q xs with
    | false => rw [delR_miss hh] at h; cases h
    | true =>
      obtain ⟨k, hk, _⟩ := hit_at O κ hh
      rw [delR_leaf hh hk] at h
      cases h
      exact ha.sublist (List.eraseIdx_sublist _ _)
/-- The last child's list is the end of the whole. -/
theorem weave_end : ∀ (L : List (List α)) (ks : List α), L.length = ks.length → ∃ A, ∀ c, weave (L ++ [c]) ks = A ++ c
  | [], [], _ => ⟨[], fun _ => rfl⟩
  | [], _ :: _, h => by simp at h
  | _ :: _, [], h => by simp at h
  | a :: L, k :: ks, h => by
    obtain ⟨A, hA⟩ := weave_end L ks (by simpa using h)
    exact ⟨a ++ k :: A, fun c => by rw [List.cons_append, weave_cons, hA]; simp⟩
/-- A key and the child ahead of it. -/
theorem weave_ahead {L B : List (List α)} {ks : List α} {k : α} (hk : ks[L.length]? = some k) : ∃ A C, ∀ c y, weave (L ++ c :: B) (ks.set L.length y) = A ++ c ++ y :: C := by
  have hi := (List.getElem?_eq_some_iff.1 hk).1
  obtain ⟨A, hA⟩ := weave_end L (ks.take L.length) (by rw [List.length_take]; omega)
  refine ⟨A, weave B (ks.drop (L.length + 1)), fun c y => ?_⟩
  rw [List.set_eq_take_append_cons_drop, if_pos hi, ← hA c]
  have := weave_cat (L ++ [c]) B (ks.take L.length) (ks.drop (L.length + 1)) y (by rw [List.length_append, List.length_take, List.length_singleton]; omega)
  rw [List.append_assoc] at this
  exact this
end
end Go.Proofs.Ytbnnkcofnmipoaa
/-
  Deleting an item from a node of a tree. No condition.
-/
set_option linter.unusedSimpArgs false
set_option linter.unusedVariables false
namespace Go.Proofs.Ytbnnkcofnmipoaa
open Go Go.Proofs
def DelQ (ord : List Int) (d : Nat) (iso : Int) (h lo b : Nat) (xs : List It) (mx : Bool) (x : It) (hp : Option Nat) (F : Nat → Nat → Prop) (w : World) (v : Value) (w' : World) : Prop :=
  Ext (fun y o => F y o ∨ hF hp y o) w w' ∧ HOk hp w' ∧ ∃ F' : Nat → Nat → Prop, (∀ y o, F' y o → F y o ∨ w.heap.size ≤ y) ∧
    ((delR O (rkI ord) mx (rkI ord x) xs = none ∧ v = .tuple #[itV zIt, .bool false] ∧ Tr E iso (d - 1) (2 * d - 1) h w' lo b xs F') ∨
     ∃ y ys, delR O (rkI ord) mx (rkI ord x) xs = some (y, ys) ∧ v = .tuple #[itV y, .bool true] ∧ Tr E iso (d - 1) (2 * d - 1) h w' (lo - 1) b ys F')
theorem dz_it : zK Try.prog 33 = some (E.cel zIt) := by kernel_rfl
theorem dsrch (ord : List Int) (ks : List It) (x : It) : srchG ord ks x = .tuple #[.int .i64 (lb O (rkI ord) (rkI ord x) ks : Nat), .bool (hit O (rkI ord) (rkI ord x) ks)] := id (Eq.trans rfl rfl)
theorem dropL {α : Type} {l : List α} (h : 0 < l.length) : l.eraseIdx (l.length - 1) = l.dropLast := by
  rw [List.eraseIdx_eq_take_drop_succ, List.drop_eq_nil_of_le (by omega), List.append_nil, List.dropLast_eq_take]
set_option maxHeartbeats 8000000 in
set_option maxRecDepth 8000 in
theorem del_any (B m d : Nat) (iso : Int) (ord : List Int) (hd : 2 ≤ d) (hd' : d ≤ 128) : ∀ (h lo b : Nat) (xs : List It) (F : Nat → Nat → Prop) (w : World) (pc po : Nat) (mx : Bool) (x : It) (hp : Option Nat) (dep : Nat), Cfg w m iso d → Ls B m w ord →
    (∀ y o, F y o → m < y) → dep + h < 1152921504606846976 → 1 ≤ lo → Tr E iso (d - 1) (2 * d - 1) h w lo b xs F → Asc O (rkI ord) xs → xs.length < 1152921504606846976 → rd w pc po = some (ptr b) → HOk hp w → (∀ hb, hp = some hb → m < hb ∧ ∀ o, ¬ F hb o) →
    CallK Try.prog 126 #[ptr m, .pointer (some ⟨pc, po, none⟩), .bool mx, itV x, hV hp, .int .i64 dep] w (DelQ ord d iso h lo b xs mx x hp F w) := by
  intro h
  induction h using Nat.strongRecOn with
  | _ h ihh =>
  intro lo b xs F w pc po mx x hp dep hc hL hBF hdep hlo ht ha hbig hpp hH hHF
  obtain ⟨bi, oi, cap, ks, ch, ho, hl1, hl2, hoF, hin⟩ := ht.open
  have hbl := wok_lt ho.wb
  have hbil := wok_lt ho.wi
  have hml := wok_lt hc.wok
  have hcap := ho.le
  have hm : ∀ o, ¬ F m o := fun o g => by have := hBF m o g; omega
  have hFh : ∀ y o, F y o → ¬ hF hp y o := fun y o g k => (hHF y k).2 o g
  have hHl : ∀ y o, hF hp y o → y < w.heap.size := fun y o g => wok_lt (hH y g).wok
  have hmh : ∀ o, ¬ hF hp m o := fun o g => by have := (hHF m g).1; omega
  have hak : Asc O (rkI ord) ks := by
    rcases hin with ⟨_, _, hx, _⟩ | ⟨_, _, _, _, _, cs, _, _, n⟩
    · rw [← hx]; exact ha
    · refine List.Pairwise.sublist ?_ ha
      rw [n.eq]; exact weave_sub _ _ (by simpa using n.len)
  have hkb : ks.length < 4611686018427387904 := Nat.lt_of_le_of_lt hl2 (by clear hin hoF hFh; omega)
  have hch : ∃ cc, ch = .pointer cc := by
    rcases hin with ⟨_, h, _⟩ | ⟨_, bc, _, _, _, _, _, h, _⟩
    · exact ⟨_, h⟩
    · exact ⟨_, h⟩
  obtain ⟨cc, hcc⟩ := hch
  refine calls_of_W [.cell 12 33, .tmp 13] Try.func126 rfl Try.ntmps126 Try.results126 (by simp) fun e he => ?_
  have e0 : e 0 = ptr m := he 0 _ rfl
  have e1 : e 1 = .pointer (some ⟨pc, po, none⟩) := he 1 _ rfl
  have e2 : e 2 = .bool mx := he 2 _ rfl
  have e3 : e 3 = itV x := he 3 _ rfl
  have e4 : e 4 = hV hp := he 4 _ rfl
  have e5 : e 5 = .int .i64 dep := he 5 _ rfl
  clear he
  refine W_sq fun K hK => (W_text [false, false, true] (by kernel_rfl) ?_); simp only [↓List.toList_toArray, ↓rgd, ↓rgf, ↓reduceIte, Nat.reduceEqDiff, rg, ow_126]
  refine do_box (by simp only [evt]; exact e3) fun w1 n1 => ⟨trivial, ?_⟩
  simp only [↓List.toList_toArray, ↓rgd, ↓rgf, ↓reduceIte, Nat.reduceEqDiff, rg, ow_126]
  refine do_alloc dz_it fun w2 n2 => ⟨trivial, ?_⟩
  simp only [↓List.toList_toArray, ↓rgd, ↓rgf, ↓reduceIte, Nat.reduceEqDiff, rg, ow_126]
  refine hK _ _ ?_; clear hK K
  have X2 : Ext noF w w2 := n1.ext.tr n2.ext
  have rk2 : Row w2 w.heap.size 0 (E.cel x) := n2.ext.row n1.row fun _ _ g => g
  have s1 := n1.size
  have s2 := n2.size
  obtain ⟨r0, hr0⟩ : ∃ r0, r0 = w1.heap.size := ⟨_, rfl⟩
  have wr2 : wok w2 r0 2 := by rw [hr0]; exact n2.wok
  have hr0' : r0 = w.heap.size + 1 := by omega
  rw [← hr0]
  clear hr0
  have p2 := X2.rd hpp fun g => g
  have i2 := X2.rd hc.iso fun g => g
  have b2 := X2.rd ho.h0 fun g => g
  refine W_sq fun K hK => (W_text [true, true, false, true] (by kernel_rfl) ?_); simp only [↓List.toList_toArray, ↓rgd, ↓rgf, ↓reduceIte, Nat.reduceEqDiff, rg, ow_126, e0, e1]
  refine do_call fn_96 (by simp only [evt, evc, upd_eq, Nat.reduceEqDiff, ↓reduceIte, maT, maC, maN, isnN, isnS] <;> rfl) (isoLoad_any m pc po b true iso w2 i2 p2 b2) ?_
  rintro _ w3 ⟨rfl, r3⟩
  refine ⟨trivial, ?_⟩
  simp only [↓List.toList_toArray, ↓rgd, ↓rgf, ↓reduceIte, Nat.reduceEqDiff, rg, ow_126]
  refine hK _ _ ?_; clear hK K
  have x3 : Ext noF w2 w3 := r3.ext
  have X3 : Ext noF w w3 := X2.tr x3
  have rk3 := x3.row rk2 fun _ _ g => g
  have wr3 := x3.wok wr2
  have s3 := x3.size
  have hs3 : w.heap.size + 2 ≤ w3.heap.size := by omega
  clear n1 n2 X2 rk2 wr2 s1 x3 r3 p2 i2 b2
  refine W_sq fun K hK => (W_text [true] (by kernel_rfl) ?_); simp only [↓List.toList_toArray, ↓rgd, ↓rgf, ↓reduceIte, Nat.reduceEqDiff, rg, ow_126]
  refine hK _ _ ?_; clear hK K
  refine W_sq fun K hK => (W_text [true] (by kernel_rfl) ?_); simp only [↓List.toList_toArray, ↓rgd, ↓rgf, ↓reduceIte, Nat.reduceEqDiff, rg, ow_126]
  refine hK _ _ ?_; clear hK K
  refine W_sqx fun J hJ => ?_
  have hend : ∀ (e : Env) (w3 : World) (fnd : Bool) (i : Nat), ((mx = true ∧ fnd = true ∧ i = ks.length - 1) ∨ (mx = false ∧ i = lb O (rkI ord) (rkI ord x) ks ∧ fnd = hit O (rkI ord) (rkI ord x) ks)) → Ext (hF hp) w w3 → HOk hp w3 → Row w3 w.heap.size 0 (E.cel x) → wok w3 r0 2 → w.heap.size + 2 ≤ w3.heap.size →
      e 0 = ptr m → e 2 = .bool mx → e 4 = hV hp → e 5 = .int .i64 dep → e 9 = ptr w.heap.size → e 12 = ptr r0 → e 14 = ptr b → e 15 = .int .i64 i → e 16 = .bool fnd → J e w3 := by
    clear e0 e1 e2 e3 e4 e5 X3 rk3 wr3 s2 s3 hs3
    clear e w3
    intro e w3 fnd i hfi X3 hH3 rk3 wr3 s3 e0 e2 e4 e5 e9 e12 e14 e15 e16
    refine hJ _ _ ?_; clear hJ J
    have o3 := ho.ext X3 fun y o g => hFh y o (hoF y o g)
    have c3 := hc.ext X3 fun o _ _ => hmh o
    refine W_seq ?_
    rcases (id hin : _ ∨ _) with ⟨rfl, hcn, hxk, hFo⟩ | ⟨h', bc, ba, oa, capc, cs, rfl, hcn, n⟩
    · have hxk := hxk.symm
      subst hxk
      rw [hcn] at o3
      refine W_sq fun K hK => (W_text [true, false] (by kernel_rfl) ?_); simp only [↓List.toList_toArray, ↓rgd, ↓rgf, ↓reduceIte, Nat.reduceEqDiff, rg, ow_126, e14]
      refine do_call fn_108 (by simp only [evt, evc, upd_eq, Nat.reduceEqDiff, ↓reduceIte, maT, maC, maN, isnN, isnS] <;> rfl) (leaf_any b none w3 o3.h3) ?_
      rintro _ w4 ⟨rfl, hw4⟩
      obtain rfl : w3 = w4 := hw4.symm
      refine ⟨trivial, ?_⟩
      simp only [↓List.toList_toArray, ↓rgd, ↓rgf, ↓reduceIte, Nat.reduceEqDiff, rg, ow_126]
      refine hK _ _ ?_; clear hK K
      refine W_true (by simp only [evt, evc, upd_eq, Nat.reduceEqDiff, ↓reduceIte, ntT, ntF] <;> rfl) (W_seq ?_)
      refine W_sq fun K hK => (W_text [true] (by kernel_rfl) ?_); simp only [↓List.toList_toArray, ↓rgd, ↓rgf, ↓reduceIte, Nat.reduceEqDiff, rg, ow_126, e16]
      refine hK _ _ ?_; clear hK K
      cases fnd with
      | false =>
        refine W_false (by simp only [evt, evc, upd_eq, Nat.reduceEqDiff, ↓reduceIte, ntT, ntF] <;> rfl) (W_skip ?_)
        show W _ _ _ _ _ _
        have z3 := zIt_at c3
        refine W_sq fun K hK => (W_text [true, true, true, true, false, true] (by kernel_rfl) ?_); simp only [↓List.toList_toArray, ↓rgd, ↓rgf, ↓reduceIte, Nat.reduceEqDiff, rg, ow_126, e0, ptr_eq, z3]
        refine do_store (by simp only [evt, evc, upd_eq, Nat.reduceEqDiff, ↓reduceIte]; exact e12) (by simp only [evt, evc, upd_eq, Nat.reduceEqDiff, ↓reduceIte, ntT, ntF] <;> rfl) sz_33 (rb_len zIt) wr3 (by decide) (rb_oc zIt) fun w5 x5 r5 s5 => ⟨trivial, ?_⟩
        simp only [↓List.toList_toArray, ↓rgd, ↓rgf, ↓reduceIte, Nat.reduceEqDiff, rg, ow_126]
        refine hK _ _ ?_; clear hK K
        obtain ⟨hmx, hi, hh⟩ : mx = false ∧ i = lb O (rkI ord) (rkI ord x) ks ∧ false = hit O (rkI ord) (rkI ord x) ks := by
          rcases hfi with ⟨_, h, _⟩ | h
          · cases h
          · exact h
        subst hmx
        have X5 : Ext (hF hp) w w5 := X3.trans x5 (fun _ _ g => g) fun y o hy g => by simp only [rng] at g; omega
        refine W_ret (endQ_ct (by simp only [upd_eq, Nat.reduceEqDiff, ↓reduceIte]; exact e12) (by simp only [upd_eq, Nat.reduceEqDiff, ↓reduceIte] <;> rfl) ld_33 (iX_at (show Row w5 r0 0 (E.cel zIt) from r5)) ⟨X5.mono fun _ _ _ g => .inr g, hH3.ext x5 (fun hb hh o g => ?_), F, fun _ _ g => .inl g, .inl ⟨delR_miss hh.symm, rfl, ht.ext X5 hFh⟩⟩)
        have := hHl hb 0 hh
        simp only [rng] at g; omega
      | true =>
        refine W_true (by simp only [evt, evc, upd_eq, Nat.reduceEqDiff, ↓reduceIte, ntT, ntF] <;> rfl) ?_
        have hi : i < ks.length := by
          rcases hfi with ⟨_, _, h⟩ | ⟨_, h, hh⟩
          · omega
          · obtain ⟨k, hk, _⟩ := hit_at O (rkI ord) hh.symm
            rw [h]; exact (List.getElem?_eq_some_iff.1 hk).1
        obtain ⟨k, hk⟩ : ∃ k, ks[i]? = some k := ⟨_, List.getElem?_eq_getElem hi⟩
        have hdel : delR O (rkI ord) mx (rkI ord x) ks = some (k, ks.eraseIdx i) := by
          rcases hfi with ⟨rfl, _, h⟩ | ⟨rfl, h, hh⟩
          · have : ks = ks.dropLast ++ [k] := by
              conv => lhs; rw [← List.dropLast_concat_getLast (l := ks) (by intro h; rw [h] at hi; simp at hi)]
              congr 2
              rw [List.getLast_eq_getElem]
              subst h
              exact (List.getElem?_eq_some_iff.1 hk).2
            rw [h, dropL (by omega)]
            conv => lhs; rw [this]
            exact delR_last
          · rw [h] at hk ⊢
            exact delR_leaf hh.symm hk
        have hkv := it_at o3.row hk
        refine W_sq fun K hK => (W_text [true, true, true, true, true, true, true, false, false] (by kernel_rfl) ?_); simp only [↓List.toList_toArray, ↓rgd, ↓rgf, ↓reduceIte, Nat.reduceEqDiff, rg, ow_126, e14, e15, ptr_eq, o3.h2, hi, hkv]
        refine do_alloc dz_it fun w4 n4 => ⟨trivial, ?_⟩
        simp only [↓List.toList_toArray, ↓rgd, ↓rgf, ↓reduceIte, Nat.reduceEqDiff, rg, ow_126]
        refine do_store (by simp only [evt, evc, upd_eq, Nat.reduceEqDiff, ↓reduceIte, ntT, ntF] <;> rfl) (by simp only [evt, evc, upd_eq, Nat.reduceEqDiff, ↓reduceIte, ntT, ntF] <;> rfl) sz_33 (rb_len k) n4.wok (by decide) (rb_oc k) fun w5 x5 r5 s5 => ⟨trivial, ?_⟩
        simp only [↓List.toList_toArray, ↓rgd, ↓rgf, ↓reduceIte, Nat.reduceEqDiff, rg, ow_126]
        refine hK _ _ ?_; clear hK K
        have s4 := n4.size
        have X5 : Ext noF w3 w5 := noF_of n4.ext x5 fun y o hy g => by simp only [rng] at g; omega
        obtain ⟨q, hq⟩ : ∃ q, q = w3.heap.size := ⟨_, rfl⟩
        rw [← hq] at r5 ⊢
        have rq5 : Row w5 q 0 (E.cel k) := r5
        have o5 := o3.ext X5 fun _ _ _ g => g
        have hqo : ∀ o, ¬ ownF E b bi oi cap q o := fun o g => by have := ho.lt g; omega
        have hro : ∀ o, ¬ ownF E b bi oi cap r0 o := fun o g => by have := ho.lt g; omega
        have hmo : ∀ o, ¬ ownF E b bi oi cap m o := fun o g => hm o (hoF _ _ g)
        have q1 := wadd1 i (by omega)
        have i1 : i ≤ ks.length := by omega
        have i2 : i + 1 ≤ ks.length := by omega
        obtain ⟨o1, h1, h1', -, k1⟩ := o5.se.from E_sz i i1
        obtain rfl := h1' (by omega)
        obtain ⟨o2, h2, -, v2, -⟩ := o5.se.from E_sz (i + 1) i2
        refine W_sq fun K hK => (W_draw (some none) (some 13) [(0, 0, 0), (0, 1, 0), (0, 2, 0), (0, 3, 0), (0, 4, 0), (0, 5, 0), (0, 6, 0), (0, 7, 0), (0, 8, 0), (0, 9, 0), (0, 10, 0), (0, 11, 0), (0, 12, 0), (1, 13, 0)] mixed (by kernel_rfl) ?_); simp only [↓List.toList_toArray, ↓rgd, ↓rgf, ↓reduceIte, Nat.reduceEqDiff, rg, ow_126, e14, e15, ptr_eq, o5.h2, q1, i1, i2, h1, h2]
        refine do_copy (by simp only [evt, evc, upd_eq, Nat.reduceEqDiff, ↓reduceIte, ntT, ntF] <;> rfl) (by simp only [evt, evc, upd_eq, Nat.reduceEqDiff, ↓reduceIte, ntT, ntF] <;> rfl) rb_eli (SlV.ext0 v2 (Ext.dr noF w5 (w5.drawn + 1))) ((Ext.dr noF w5 (w5.drawn + 1)).wok k1) (flat_oc E _) fun w6 x6 r6 s6 => ⟨(by first | exact trivial | exact .inl trivial), ?_⟩
        simp only [↓List.toList_toArray, ↓rgd, ↓rgf, ↓reduceIte, Nat.reduceEqDiff, rg, ow_126]
        refine hK _ _ ?_; clear hK K
        have hmn : min (ks.length - (i + 1)) (ks.length - i) = ks.length - 1 - i := by omega
        rw [hmn] at x6 r6
        rw [List.take_of_length_le (by rw [flat_length, List.length_drop, E_sz]; omega)] at r6
        obtain ⟨z, g1, g2⟩ := o5.se.down (i := i) hi x6.od r6
        have o6 := o5.step g1 g2
        have X6 : Ext (ownF E b bi oi cap) w3 w6 := X5.trans g2 (fun _ _ g => g.elim) fun _ _ _ g => seF_own g
        have le := List.length_eraseIdx_of_lt hi
        have hA : (ks.eraseIdx i ++ [z]).length = ks.length := by rw [List.length_append, List.length_singleton]; omega
        have h26 := o6.h2
        have h46 := o6.le
        rw [hA] at h26 h46
        have q2 := wsub1 ks.length (by omega) (by omega)
        have i3 : ks.length - 1 < ks.length := by omega
        have z6 := zIt_at (c3.ext X6 fun o _ _ => hmo o)
        refine W_sq fun K hK => (W_draw (some none) (some 15) [(0, 0, 0), (0, 1, 0), (0, 2, 0), (0, 3, 0), (0, 4, 0), (0, 5, 0), (0, 6, 0), (0, 7, 0), (0, 8, 0), (0, 9, 0), (0, 10, 0), (0, 11, 0), (0, 12, 0), (0, 13, 0), (0, 14, 0), (1, 15, 0)] mixed (by kernel_rfl) ?_); simp only [↓List.toList_toArray, ↓rgd, ↓rgf, ↓reduceIte, Nat.reduceEqDiff, rg, ow_126, e0, e14, ptr_eq, h26, q2, i3, z6]
        refine do_store (by simp only [evt, evc, upd_eq, Nat.reduceEqDiff, ↓reduceIte, ntT, ntF] <;> rfl) (by simp only [evt, evc, upd_eq, Nat.reduceEqDiff, ↓reduceIte, ntT, ntF] <;> rfl) sz_33 (rb_len zIt) o6.wi (by rw [E_sz]; omega) (rb_oc zIt) fun w7 x7 r7 s7 => ⟨(by first | exact trivial | exact .inl trivial), ?_⟩
        simp only [↓List.toList_toArray, ↓rgd, ↓rgf, ↓reduceIte, Nat.reduceEqDiff, rg, ow_126]
        refine hK _ _ ?_; clear hK K
        obtain ⟨g3, g4⟩ := o6.se.set (i := ks.length - 1) (x := zIt) (by rw [hA]; omega) x7.od r7
        rw [show (ks.eraseIdx i ++ [z]).set (ks.length - 1) zIt = ks.eraseIdx i ++ [zIt] by rw [show ks.length - 1 = (ks.eraseIdx i).length by omega]; exact set_last] at g3
        have o7 := o6.step g3 g4
        have X7 : Ext (ownF E b bi oi cap) w3 w7 := X6.tr (g4.mono fun _ _ _ g => seF_own g)
        have hA' : (ks.eraseIdx i ++ [zIt]).length = ks.length := by rw [List.length_append, List.length_singleton]; omega
        have h27 := o7.h2
        rw [hA'] at h27
        have i4 : ks.length - 1 ≤ cap := by omega
        refine W_sq fun K hK => (W_draw (some none) (some 14) [(0, 0, 0), (0, 1, 0), (0, 2, 0), (0, 3, 0), (0, 4, 0), (0, 5, 0), (0, 6, 0), (0, 7, 0), (0, 8, 0), (0, 9, 0), (0, 10, 0), (0, 11, 0), (0, 12, 0), (0, 13, 0), (1, 14, 0)] mixed (by kernel_rfl) ?_); simp only [↓List.toList_toArray, ↓rgd, ↓rgf, ↓reduceIte, Nat.reduceEqDiff, rg, ow_126, e14, ptr_eq, h27, q2, i4]
        refine do_store (by simp only [evt, evc, upd_eq, Nat.reduceEqDiff, ↓reduceIte, ntT, ntF] <;> rfl) (by simp only [evt, evc, upd_eq, Nat.reduceEqDiff, ↓reduceIte, ntT, ntF] <;> rfl) sz_25 rfl o7.wb (by decide) (oc_one rfl rfl) fun w8 x8 r8 s8 => ⟨(by first | exact trivial | exact .inl trivial), ?_⟩
        simp only [↓List.toList_toArray, ↓rgd, ↓rgf, ↓reduceIte, Nat.reduceEqDiff, rg, ow_126]
        refine hK _ _ ?_; clear hK K
        obtain ⟨g5, g6⟩ := o7.se.cut x8.od (by rw [le]; exact (Row.cons.1 r8).1)
        have o8 := o7.step g5 g6
        have X8 : Ext (ownF E b bi oi cap) w3 w8 := X7.tr (g6.mono fun _ _ _ g => seF_own g)
        refine W_sq fun K hK => (W_text [true, true, true, true, true, true, true, false] (by kernel_rfl) ?_); simp only [↓List.toList_toArray, ↓rgd, ↓rgf, ↓reduceIte, Nat.reduceEqDiff, rg, ow_126, e14, ptr_eq, o8.h1, q2]
        refine do_store (by simp only [evt, evc, upd_eq, Nat.reduceEqDiff, ↓reduceIte, ntT, ntF] <;> rfl) (by simp only [evt, evc, upd_eq, Nat.reduceEqDiff, ↓reduceIte, ntT, ntF] <;> rfl) sz_3 rfl o8.wb (by decide) (oc_one rfl rfl) fun w9 x9 r9 s9 => ⟨trivial, ?_⟩
        simp only [↓List.toList_toArray, ↓rgd, ↓rgf, ↓reduceIte, Nat.reduceEqDiff, rg, ow_126]
        refine hK _ _ ?_; clear hK K
        have o9 := o8.cnt' x9 (Row.cons.1 r9).1
        have X9 : Ext (ownF E b bi oi cap) w3 w9 := X8.tr (x9.mono fun _ _ _ g => .inl g.1)
        have sz9 := X9.size
        have Y9 : Ext (ownF E b bi oi cap) w5 w9 := (((g2.mono fun _ _ _ g => seF_own g).tr (g4.mono fun _ _ _ g => seF_own g)).tr (g6.mono fun _ _ _ g => seF_own g)).tr (x9.mono fun _ _ _ g => .inl g.1)
        have kq9 := iX_at (Y9.row rq5 fun j _ => hqo _)
        refine W_sq fun K hK => (W_text [true, false, true] (by kernel_rfl) ?_); simp only [↓List.toList_toArray, ↓rgd, ↓rgf, ↓reduceIte, Nat.reduceEqDiff, rg, ow_126, kq9]
        refine do_store (by simp only [evt, evc, upd_eq, Nat.reduceEqDiff, ↓reduceIte]; exact e12) (by simp only [evt, evc, upd_eq, Nat.reduceEqDiff, ↓reduceIte, ntT, ntF] <;> rfl) sz_33 (rb_len k) (X9.wok wr3) (by decide) (rb_oc k) fun w10 x10 r10 s10 => ⟨trivial, ?_⟩
        simp only [↓List.toList_toArray, ↓rgd, ↓rgf, ↓reduceIte, Nat.reduceEqDiff, rg, ow_126]
        refine hK _ _ ?_; clear hK K
        have X10 : Ext (fun y o => F y o ∨ hF hp y o) w w10 := (X3.trans X9 (fun _ _ g => .inr g) fun y o _ g => .inl (hoF y o g)).trans x10 (fun _ _ g => g) fun y o hy g => by simp only [rng] at g; omega
        have H10 : HOk hp w10 := (hH3.ext X9 fun hb hh o g => (hHF hb hh).2 o (hoF _ _ g)).ext x10 fun hb hh o g => by
          have := hHl hb 0 hh
          simp only [rng] at g; omega
        refine W_ret (endQ_ct (by simp only [upd_eq, Nat.reduceEqDiff, ↓reduceIte]; exact e12) (by simp only [upd_eq, Nat.reduceEqDiff, ↓reduceIte] <;> rfl) ld_33 (iX_at (show Row w10 r0 0 (E.cel k) from r10)) ⟨X10, H10, F, fun _ _ g => .inl g, .inr ⟨k, ks.eraseIdx i, hdel, rfl, bi, oi, cap, ?_, by omega, by omega, hFo⟩⟩)
        have o10 := o9.ext x10 fun y o g h => by
          simp only [rng] at h
          exact hro o (by rw [← h.1]; exact g)
        rw [le]
        exact o10
    · rw [hcn] at o3
      have hkF : ∀ y o, kidF bc ba oa capc y o → F y o := fun y o g => (n.fp y o).2 (.inr (.inl g))
      have hcF : ∀ c ∈ cs, ∀ y o, c.F y o → F y o := fun c hc y o g => (n.fp y o).2 (.inr (.inr ⟨c, hc, g⟩))
      have n3 := n.ext X3 (fun y o g => hFh y o (hkF y o g)) fun c hc y o g => hFh y o (hcF c hc y o g)
      refine W_sq fun K hK => (W_text [true, false] (by kernel_rfl) ?_); simp only [↓List.toList_toArray, ↓rgd, ↓rgf, ↓reduceIte, Nat.reduceEqDiff, rg, ow_126, e14]
      refine do_call fn_108 (by simp only [evt, evc, upd_eq, Nat.reduceEqDiff, ↓reduceIte, maT, maC, maN, isnN, isnS] <;> rfl) (leaf_any b (some ⟨bc, 0, none⟩) w3 o3.h3) ?_
      rintro _ w4 ⟨rfl, hw4⟩
      obtain rfl : w3 = w4 := hw4.symm
      refine ⟨trivial, ?_⟩
      simp only [↓List.toList_toArray, ↓rgd, ↓rgf, ↓reduceIte, Nat.reduceEqDiff, rg, ow_126]
      refine hK _ _ ?_; clear hK K
      refine W_false (by simp only [evt, evc, upd_eq, Nat.reduceEqDiff, ↓reduceIte, ntT, ntF] <;> rfl) (W_skip ?_)
      show W _ _ _ _ _ _
      refine W_sq fun K hK => (W_text [false] (by kernel_rfl) ?_); simp only [↓List.toList_toArray, ↓rgd, ↓rgf, ↓reduceIte, Nat.reduceEqDiff, rg, ow_126]
      refine do_alloc dz_it fun w4 n4 => ⟨trivial, ?_⟩
      simp only [↓List.toList_toArray, ↓rgd, ↓rgf, ↓reduceIte, Nat.reduceEqDiff, rg, ow_126]
      refine hK _ _ ?_; clear hK K
      refine W_sq fun K hK => (W_text [true] (by kernel_rfl) ?_); simp only [↓List.toList_toArray, ↓rgd, ↓rgf, ↓reduceIte, Nat.reduceEqDiff, rg, ow_126]
      refine hK _ _ ?_; clear hK K
      obtain ⟨q, hq⟩ : ∃ q, q = w3.heap.size := ⟨_, rfl⟩
      have wq4 : wok w4 q 2 := by rw [hq]; exact n4.wok
      have s4 := n4.size
      have x4 : Ext noF w3 w4 := n4.ext
      rw [← hq]
      have X4 : Ext (hF hp) w w4 := X3.trans x4 (fun _ _ g => g) fun _ _ _ g => g.elim
      have H4 := hH3.ext0 x4
      have rk4 := x4.row rk3 fun _ _ g => g
      have wr4 := x4.wok wr3
      have hs4 : w.heap.size + 3 ≤ w4.heap.size := by omega
      have hqs : w.heap.size + 2 ≤ q ∧ q < w4.heap.size := by omega
      have o4 := o3.ext x4 fun _ _ _ g => g
      have nn := n3.ext x4 (fun _ _ _ g => g) fun _ _ _ _ _ g => g
      have hrq : r0 ≠ q := by omega
      clear n3 o3 c3 X3 hH3 rk3 wr3 s3 n4 x4 s4 hq
      refine W_sqx fun J hJ => ?_
      have hyes : ∀ (e : Env) (w5 : World) (y : It) (A Bq : List (Kid It)) (c : Kid It) (ks' ys : List It) (F0 F3 : Nat → Nat → Prop) (K0 K3 : Nat), Shr E iso (d - 1) (2 * d - 1) h' w5 b bc (xs.length : Nat) ks' A c Bq F0 F3 K0 K3 → ks'.length = ks.length → (A ++ c :: Bq).length = ks'.length + 1 →
          ys = weave ((A ++ c :: Bq).map Kid.xs) ks' → delR O (rkI ord) mx (rkI ord x) xs = some (y, ys) → Ext (fun y o => F y o ∨ hF hp y o) w w5 → HOk hp w5 → (∀ y o, (F0 y o ∨ F3 y o ∨ kinF (A ++ c :: Bq) y o) → F y o ∨ w.heap.size ≤ y) → Row w5 q 0 (E.cel y) → wok w5 r0 2 →
          (∀ o, ¬ (F0 q o ∨ F3 q o ∨ kinF (A ++ c :: Bq) q o)) → (∀ o, ¬ (F0 r0 o ∨ F3 r0 o ∨ kinF (A ++ c :: Bq) r0 o)) →
          e 0 = ptr m → e 12 = ptr r0 → e 14 = ptr b → e 15 = .int .i64 (A.length : Nat) → e 18 = ptr q → e 19 = .bool true → J e w5 := by
        clear e0 e2 e4 e5 e9 e12 e14 e15 e16 X4 H4 rk4 wr4 wq4 o4 nn
        clear e
        intro e w5 y A Bq c ks' ys F0 F3 K0 K3 sh hkl hlen hys hdel X5 H5 hFs rq5 wr5 hqF hrF e0 e12 e14 e15 e18 e19
        refine hJ _ _ ?_; clear hJ J
        have hyl := delR_len hdel
        refine W_seq ?_
        refine W_sq fun K hK => (W_text [true, true] (by kernel_rfl) ?_); simp only [↓List.toList_toArray, ↓rgd, ↓rgf, ↓reduceIte, Nat.reduceEqDiff, rg, ow_126, e19]
        refine hK _ _ ?_; clear hK K
        refine W_false (by simp only [evt, evc, upd_eq, Nat.reduceEqDiff, ↓reduceIte, ntT, ntF] <;> rfl) (W_skip ?_)
        show W _ _ _ _ _ _
        obtain ⟨bi', oi', cap', o5, hz, hK, hF0⟩ := sh.n0
        have q1 := wsub1 xs.length (by omega) (by omega)
        refine W_sq fun K hK => (W_text [true, true, true, true, true, true, true, false] (by kernel_rfl) ?_); simp only [↓List.toList_toArray, ↓rgd, ↓rgf, ↓reduceIte, Nat.reduceEqDiff, rg, ow_126, e14, ptr_eq, o5.h1, q1]
        refine do_store (by simp only [evt, evc, upd_eq, Nat.reduceEqDiff, ↓reduceIte, ntT, ntF] <;> rfl) (by simp only [evt, evc, upd_eq, Nat.reduceEqDiff, ↓reduceIte, ntT, ntF] <;> rfl) sz_3 rfl o5.wb (by decide) (oc_one rfl rfl) fun w6 x6 r6 s6 => ⟨trivial, ?_⟩
        simp only [↓List.toList_toArray, ↓rgd, ↓rgf, ↓reduceIte, Nat.reduceEqDiff, rg, ow_126]
        refine hK _ _ ?_; clear hK K
        have hb0 : ∀ y o, rng b 1 1 y o → F0 y o := fun y o g => (hF0 y o).2 (.inl g.1)
        have x6' : Ext F0 w5 w6 := x6.mono fun y o _ g => hb0 y o g
        have sh6 : Shr E iso (d - 1) (2 * d - 1) h' w6 b bc (ys.length : Nat) ks' A c Bq F0 F3 K0 K3 := ⟨⟨bi', oi', cap', by rw [show ys.length = xs.length - 1 by omega]; exact o5.cnt' x6 (Row.cons.1 r6).1, hz, hK, hF0⟩,
          (kdO _ _).loc sh.n3 x6' sh.l0.d.symm, sh.l0, sh.t.ext x6' (sh.l0.g1 c (by simp)), fun a ha => (sh.rest a ha).ext x6' (sh.l0.g1 a (by
            rcases List.mem_append.1 ha with ha | ha
            · simp [ha]
            · simp [ha]))⟩
        have X6 : Ext (fun y o => F y o ∨ hF hp y o) w w6 := X5.trans x6' (fun _ _ g => g) fun y o hy g => by
          rcases hFs y o (.inl g) with h | h
          · exact .inl h
          · omega
        have H6 : HOk hp w6 := H5.ext x6' fun hb hh o g => by
          rcases hFs hb o (.inl g) with h | h
          · exact (hHF hb hh).2 o h
          · have := hHl hb 0 hh; omega
        have rq6 := x6'.row rq5 fun j _ g => hqF _ (.inl g)
        have wr6 := x6'.wok wr5
        clear sh o5 X5 H5 rq5 wr5 x6 r6 s6 x6' hb0 q1 hz hK hF0
        have hmF : ∀ o, ¬ (F0 m o ∨ F3 m o ∨ kinF (A ++ c :: Bq) m o) := fun o g => by
          rcases hFs m o g with h | h
          · exact hm o h
          · omega
        have c6 := hc.ext X6 fun o _ _ g => g.elim (hm o) (hmh o)
        refine W_sqx fun J hJ => ?_
        have hfin : ∀ (e : Env) (w7 : World) (F'' : Nat → Nat → Prop), Tr E iso (d - 1) (2 * d - 1) (h' + 1) w7 (lo - 1) b ys F'' → Ext (fun y o => F0 y o ∨ F3 y o ∨ kinF (A ++ c :: Bq) y o) w6 w7 → (∀ y o, F'' y o → (F0 y o ∨ F3 y o ∨ kinF (A ++ c :: Bq) y o) ∨ w6.heap.size ≤ y) →
            e 12 = ptr r0 → e 18 = ptr q → J e w7 := by
          clear e0 e12 e14 e15 e18 e19
          clear e
          intro e w7 F'' T7 x7 hF'' e12 e18
          refine hJ _ _ ?_; clear hJ J
          have rq7 := x7.row rq6 fun j _ g => hqF _ g
          have kq7 := iX_at rq7
          have s6 := X6.size
          have s7 := x7.size
          refine W_sq fun K hK => (W_text [true, false, true] (by kernel_rfl) ?_); simp only [↓List.toList_toArray, ↓rgd, ↓rgf, ↓reduceIte, Nat.reduceEqDiff, rg, ow_126, e18, ptr_eq, kq7]
          refine do_store (by simp only [evt, evc, upd_eq, Nat.reduceEqDiff, ↓reduceIte]; exact e12) (by simp only [evt, evc, upd_eq, Nat.reduceEqDiff, ↓reduceIte, ntT, ntF] <;> rfl) sz_33 (rb_len y) (x7.wok wr6) (by decide) (rb_oc y) fun w8 x8 r8 s8 => ⟨trivial, ?_⟩
          simp only [↓List.toList_toArray, ↓rgd, ↓rgf, ↓reduceIte, Nat.reduceEqDiff, rg, ow_126]
          refine hK _ _ ?_; clear hK K
          have hold : ∀ y o, (F0 y o ∨ F3 y o ∨ kinF (A ++ c :: Bq) y o) → y < w.heap.size → F y o := fun y o g hy => (hFs y o g).resolve_right (by omega)
          refine W_ret (endQ_ct (by simp only [upd_eq, Nat.reduceEqDiff, ↓reduceIte]; exact e12) (by simp only [upd_eq, Nat.reduceEqDiff, ↓reduceIte] <;> rfl) ld_33 (iX_at (show Row w8 r0 0 (E.cel y) from r8)) ⟨(X6.trans x7 (fun _ _ g => g) fun y o hy g => .inl (hold y o g hy)).trans x8 (fun _ _ g => g) fun y o hy g => by simp only [rng] at g; omega,
            (H6.ext x7 fun hb hh o g => ?_).ext x8 fun hb hh o g => ?_, F'', fun y o g => ?_, .inr ⟨y, ys, hdel, rfl, T7.ext x8 fun y o g k => ?_⟩⟩)
          · have := hHl hb 0 hh
            exact (hHF hb hh).2 o (hold hb o g this)
          · have := hHl hb 0 hh
            simp only [rng] at g; omega
          · rcases hF'' y o g with g | g
            · exact hFs y o g
            · exact .inr (by omega)
          · simp only [rng] at k
            rcases hF'' y o g with g | g
            · exact hrF o (by rw [← k.1]; exact g)
            · have := wok_lt wr6
              omega
        obtain ⟨a, nk, capn, hkn, hk1, hk2, hraise⟩ := sh6.t.keys
        obtain ⟨bi', oi', cap', o6, hz, hK, hF0⟩ := sh6.n0
        rcases sh6.n3 with ⟨h, _⟩ | ⟨bc', ba', oa', capc', hbc, k6, _, _⟩
        · cases h
        obtain rfl : bc = bc' := by simpa [ptr] using hbc
        have hil : A.length < ((A ++ c :: Bq).map fun g => some g.b).length := by simp
        have hcp := k6.ptr_at (j := A.length) (p := c.b) (by simp)
        by_cases hsh : nk < d - 1
        · have hb : decide ((nk : Int) < ((d - 1 : Nat) : Int)) = true := by simp only [decide_eq_true_eq]; omega
          refine W_sq fun K hK => (W_draw (some none) none [(0, 0, 0), (0, 1, 0), (0, 2, 0), (0, 3, 0), (0, 4, 0), (0, 5, 0), (0, 6, 0), (0, 7, 0), (0, 8, 0), (0, 9, 0), (0, 10, 0), (0, 11, 0), (0, 12, 0), (0, 13, 0), (0, 14, 0), (0, 15, 0), (0, 16, 0), (0, 17, 0)] mixed (by kernel_rfl) ?_); simp only [↓List.toList_toArray, ↓rgd, ↓rgf, ↓reduceIte, Nat.reduceEqDiff, rg, ow_126, e0, e14, e15, ptr_eq, o6.h3, k6.hd, hil, hcp, hkn, c6.mn, hb]
          refine hK _ _ ?_; clear hK K
          refine W_true (by simp only [evt, evc, upd_eq, Nat.reduceEqDiff, ↓reduceIte, ntT, ntF] <;> rfl) ?_
          have D := Ext.dr noF w6 (w6.drawn + 1)
          refine W_rg fun K hK => (W_text [true, true, true, false] (by kernel_rfl) ?_); simp only [↓List.toList_toArray, ↓rgd, ↓rgf, ↓reduceIte, Nat.reduceEqDiff, rg, ow_126, e0, e14, e15]
          refine do_call fn_151 (by simp only [evt, evc, upd_eq, Nat.reduceEqDiff, ↓reduceIte, maT, maC, maN, isnN, isnS] <;> rfl) (reb_shr m d iso hd hd' (c6.ext D fun _ _ _ g => g) (sh6.ext0 D) hmF hlen (by omega) (by omega) (by rw [hys]) (by rw [← hys]; omega) (D.rd hkn fun g => g) hsh) ?_
          rintro _ w7 ⟨F'', T7, x7, hF''⟩
          refine ⟨trivial, ?_⟩
          simp only [↓List.toList_toArray, ↓rgd, ↓rgf, ↓reduceIte, Nat.reduceEqDiff, rg, ow_126]
          refine hK _ _ ?_; clear hK K
          rw [← hys] at T7
          exact hfin _ _ F'' (T7.mono (by omega)) x7.od hF'' (by simp only [upd_eq, Nat.reduceEqDiff, ↓reduceIte]; exact e12) (by simp only [upd_eq, Nat.reduceEqDiff, ↓reduceIte]; exact e18)
        · have hb : decide ((nk : Int) < ((d - 1 : Nat) : Int)) = false := by simp only [decide_eq_false_iff_not]; omega
          refine W_sq fun K hK => (W_draw (some none) none [(0, 0, 0), (0, 1, 0), (0, 2, 0), (0, 3, 0), (0, 4, 0), (0, 5, 0), (0, 6, 0), (0, 7, 0), (0, 8, 0), (0, 9, 0), (0, 10, 0), (0, 11, 0), (0, 12, 0), (0, 13, 0), (0, 14, 0), (0, 15, 0), (0, 16, 0), (0, 17, 0)] mixed (by kernel_rfl) ?_); simp only [↓List.toList_toArray, ↓rgd, ↓rgf, ↓reduceIte, Nat.reduceEqDiff, rg, ow_126, e0, e14, e15, ptr_eq, o6.h3, k6.hd, hil, hcp, hkn, c6.mn, hb]
          refine hK _ _ ?_; clear hK K
          refine W_false (by simp only [evt, evc, upd_eq, Nat.reduceEqDiff, ↓reduceIte, ntT, ntF] <;> rfl) (W_skip ?_)
          have T6 := sh6.fine (lo := lo - 1) hlen (hraise (d - 1) (by omega)) (by omega) (by omega) (by rw [hys])
          rw [← hys] at T6
          exact hfin _ _ _ (T6.ext (Ext.dr noF _ _) fun _ _ _ g => g) ((Ext.dr noF _ _).mono fun _ _ _ g => g.elim) (fun y o g => .inl g) (by simp only [upd_eq, Nat.reduceEqDiff, ↓reduceIte]; exact e12) (by simp only [upd_eq, Nat.reduceEqDiff, ↓reduceIte]; exact e18)
      have hlt : ∀ y o, F y o → y < w.heap.size := ht.lt
      have hno : ∀ (e : Env) (w5 : World) (F' : Nat → Nat → Prop), delR O (rkI ord) mx (rkI ord x) xs = none → Tr E iso (d - 1) (2 * d - 1) (h' + 1) w5 lo b xs F' → (∀ y o, F' y o → F y o ∨ w.heap.size ≤ y) → (∀ o, ¬ F' r0 o) → Ext (fun y o => F y o ∨ hF hp y o) w w5 → HOk hp w5 → wok w5 r0 2 →
          e 0 = ptr m → e 12 = ptr r0 → e 19 = .bool false → J e w5 := by
        clear e0 e2 e4 e5 e9 e12 e14 e15 e16 X4 H4 rk4 wr4 wq4 o4 nn hyes
        clear e
        intro e w5 F' hdel T5 hF' hFr X5 H5 wr5 e0 e12 e19
        refine hJ _ _ ?_; clear hJ J
        refine W_seq ?_
        refine W_sq fun K hK => (W_text [true, true] (by kernel_rfl) ?_); simp only [↓List.toList_toArray, ↓rgd, ↓rgf, ↓reduceIte, Nat.reduceEqDiff, rg, ow_126, e19]
        refine hK _ _ ?_; clear hK K
        refine W_true (by simp only [evt, evc, upd_eq, Nat.reduceEqDiff, ↓reduceIte, ntT, ntF] <;> rfl) ?_
        have z5 := zIt_at (hc.ext X5 fun o _ _ g => g.elim (hm o) (hmh o))
        refine W_sq fun K hK => (W_text [true, true, true, true, false, true] (by kernel_rfl) ?_); simp only [↓List.toList_toArray, ↓rgd, ↓rgf, ↓reduceIte, Nat.reduceEqDiff, rg, ow_126, e0, ptr_eq, z5]
        refine do_store (by simp only [evt, evc, upd_eq, Nat.reduceEqDiff, ↓reduceIte]; exact e12) (by simp only [evt, evc, upd_eq, Nat.reduceEqDiff, ↓reduceIte, ntT, ntF] <;> rfl) sz_33 (rb_len zIt) wr5 (by decide) (rb_oc zIt) fun w6 x6 r6 s6 => ⟨trivial, ?_⟩
        simp only [↓List.toList_toArray, ↓rgd, ↓rgf, ↓reduceIte, Nat.reduceEqDiff, rg, ow_126]
        refine hK _ _ ?_; clear hK K
        refine W_ret (endQ_ct (by simp only [upd_eq, Nat.reduceEqDiff, ↓reduceIte]; exact e12) (by simp only [upd_eq, Nat.reduceEqDiff, ↓reduceIte] <;> rfl) ld_33 (iX_at (show Row w6 r0 0 (E.cel zIt) from r6)) ⟨X5.trans x6 (fun _ _ g => g) fun y o hy g => by simp only [rng] at g; omega,
          H5.ext x6 fun hb hh o g => ?_, F', hF', .inl ⟨hdel, rfl, T5.ext x6 fun y o g k => ?_⟩⟩)
        · have := hHl hb 0 hh
          simp only [rng] at g; omega
        · simp only [rng] at k
          exact hFr o (by rw [← k.1]; exact g)
      have hpost : ∀ (e : Env) (w5 w6 : World) (i : Nat) (c : Kid It) (F' : Nat → Nat → Prop) (y : It) (zs : List It) (dl : Bool), cs[i]? = some c → Ext (fun y o => c.F y o ∨ hF hp y o) w4 w5 → HOk hp w5 → (∀ y o, F' y o → c.F y o ∨ w4.heap.size ≤ y) → Ext (rng q 0 2) w5 w6 → Row w6 q 0 (E.cel y) →
          ((dl = true ∧ Tr E iso (d - 1) (2 * d - 1) h' w5 (d - 1 - 1) c.b zs F' ∧ delR O (rkI ord) mx (rkI ord x) xs = some (y, weave ((cs.map Kid.xs).set i zs) ks)) ∨ (dl = false ∧ zs = c.xs ∧ Tr E iso (d - 1) (2 * d - 1) h' w5 (d - 1) c.b c.xs F' ∧ delR O (rkI ord) mx (rkI ord x) xs = none)) →
          e 0 = ptr m → e 12 = ptr r0 → e 14 = ptr b → e 15 = .int .i64 (i : Nat) → e 18 = ptr q → e 19 = .bool dl → J e w6 := by
        clear e0 e2 e4 e5 e9 e12 e14 e15 e16
        clear e
        intro e w5 w6 i c F' y zs dl hcs x5 H5 hF' x6 r6 hres e0 e12 e14 e15 e18 e19
        have hcm := List.mem_of_getElem? hcs
        have hcl : ∀ y o, c.F y o → y < w.heap.size := fun y o g => hlt y o (hcF c hcm y o g)
        have x46 : Ext (fun y o => (c.F y o ∨ hF hp y o) ∨ y = q) w4 w6 := x5.trans x6 (fun _ _ g => .inl g) fun y o _ g => .inr g.1
        have hG : ∀ y o, F y o → ((c.F y o ∨ hF hp y o) ∨ y = q) → c.F y o := fun y o g k => by
          rcases k with (k | k) | k
          · exact k
          · exact (hFh y o g k).elim
          · have := hlt y o g; omega
        have hF'q : ∀ o, ¬ F' q o := fun o g => by
          rcases hF' q o g with g | g
          · have := hcl q o g; omega
          · omega
        have T6 : ∀ {lo' : Nat} {zs' : List It}, Tr E iso (d - 1) (2 * d - 1) h' w5 lo' c.b zs' F' → Tr E iso (d - 1) (2 * d - 1) h' w6 lo' c.b zs' F' := fun T => T.ext x6 fun y o g k => hF'q o (by rw [← k.1]; exact g)
        have X6 : Ext (fun y o => F y o ∨ hF hp y o) w w6 := X4.trans x46 (fun _ _ g => .inr g) fun y o hy g => by
          rcases g with (g | g) | g
          · exact .inl (hcF c hcm y o g)
          · exact .inr g
          · omega
        have H6 : HOk hp w6 := H5.ext x6 fun hb hh o g => by
          have := hHl hb 0 hh
          simp only [rng] at g; omega
        have wr6 : wok w6 r0 2 := x46.wok wr4
        obtain ⟨l1, l2⟩ := shr_len (d := (⟨c.b, zs, F'⟩ : Kid It)) hcs
        have hfp : ∀ y o, (ownF E b bi oi cap y o ∨ kidF bc ba oa capc y o ∨ kinF (cs.take i ++ (⟨c.b, zs, F'⟩ : Kid It) :: cs.drop (i + 1)) y o) → F y o ∨ w4.heap.size ≤ y := fun y o g => nn.shr_fp hcs hF' y o g
        have hfp' : ∀ y o, (ownF E b bi oi cap y o ∨ kidF bc ba oa capc y o ∨ kinF (cs.take i ++ (⟨c.b, zs, F'⟩ : Kid It) :: cs.drop (i + 1)) y o) → F y o ∨ w.heap.size ≤ y := fun y o g => (hfp y o g).imp id fun g => by omega
        have hfq : ∀ (r : Nat) (o : Nat), w.heap.size ≤ r → r < w4.heap.size → ¬ (ownF E b bi oi cap r o ∨ kidF bc ba oa capc r o ∨ kinF (cs.take i ++ (⟨c.b, zs, F'⟩ : Kid It) :: cs.drop (i + 1)) r o) := fun r o h1 h2 g => by
          rcases hfp r o g with g | g
          · have := hlt r o g; omega
          · omega
        rcases hres with ⟨rfl, T5, hdel⟩ | ⟨rfl, rfl, T5, hdel⟩
        · have sh := nn.shr o4 (by omega) hcs x46 hG (T6 T5) hF'
          exact hyes e w6 y (cs.take i) (cs.drop (i + 1)) ⟨c.b, zs, F'⟩ ks _ _ _ _ _ sh rfl (by rw [l1]; exact n.len) rfl (by rw [shr_xs hcs]; exact hdel) X6 H6 hfp' r6 wr6 (fun o g => hfq q o (by omega) (by omega) g) (fun o g => hfq r0 o (by omega) (by omega) g) e0 e12 e14 (by rw [l2]; exact e15) e18 e19
        · have sh := nn.shr o4 (by omega) hcs x46 hG ((T6 T5).mono (by omega)) hF'
          have hset : (cs.map Kid.xs).set i c.xs = cs.map Kid.xs := by
            obtain ⟨g1, g2⟩ := List.getElem?_eq_some_iff.1 (show (cs.map Kid.xs)[i]? = some c.xs by rw [List.getElem?_map, hcs]; rfl)
            rw [← g2]; exact List.set_getElem_self g1
          have hxe : weave ((cs.take i ++ ⟨c.b, c.xs, F'⟩ :: cs.drop (i + 1)).map Kid.xs) ks = xs := by rw [shr_xs hcs, hset]; exact n.eq.symm
          have T := sh.fine (lo := lo) (by rw [l1]; exact n.len) (T6 T5) hl1 hl2 (by rw [hxe])
          rw [hxe] at T
          exact hno e w6 _ hdel T hfp' (fun o g => hfq r0 o (by omega) (by omega) g) X6 H6 wr6 e0 e12 e19
      have hcell : ∀ {i : Nat} {c : Kid It}, cs[i]? = some c → rd w4 ba (oa + i) = some (ptr c.b) := fun hcs => nn.kids.se.ptr_at (by simp [hcs])
      have hk0 := nn.kids.c0
      have hkx := iX_at rk4
      have hlenc : ∀ {i : Nat} {c : Kid It}, cs[i]? = some c → c.xs.length ≤ xs.length := fun hcs => by
        rw [n.eq]; exact weave_mem_length _ _ (by simpa using n.len) _ (List.mem_map_of_mem (List.mem_of_getElem? hcs))
      have hL4 : Ls B m w4 ord := hL.ext X4 (fun y o g => by have := (hHF y g).1; exact .inl (by omega)) (hmh 6)
      have c4 := hc.ext X4 fun o _ _ => hmh o
      have z4 := zIt_at c4
      have hcnl := n.len
      have hll : (cs.map Kid.b).length = cs.length := List.length_map _
      have D := Ext.dr noF w4 (w4.drawn + 1)
      refine W_sq fun K hK => (W_text [true] (by kernel_rfl) ?_); simp only [↓List.toList_toArray, ↓rgd, ↓rgf, ↓reduceIte, Nat.reduceEqDiff, rg, ow_126, e16]
      refine hK _ _ ?_; clear hK K
      cases fnd with
      | false =>
        refine W_false (by simp only [evt, evc, upd_eq, Nat.reduceEqDiff, ↓reduceIte, ntT, ntF] <;> rfl) ?_
        obtain ⟨rfl, hi, hh⟩ : mx = false ∧ i = lb O (rkI ord) (rkI ord x) ks ∧ false = hit O (rkI ord) (rkI ord x) ks := by
          rcases hfi with ⟨_, h, _⟩ | h
          · cases h
          · exact h
        have hik : i ≤ ks.length := by rw [hi]; exact lb_le O (rkI ord) _ _
        obtain ⟨c, hcs⟩ : ∃ c, cs[i]? = some c := ⟨_, List.getElem?_eq_getElem (by omega)⟩
        have hcm := List.mem_of_getElem? hcs
        have hce := hcell hcs
        have hil : i < (cs.map Kid.b).length := by omega
        obtain ⟨A, C, hw⟩ := weave_at i (cs.map Kid.xs) ks (by simpa using n.len) hik
        have hcx : (cs.map Kid.xs)[i]? = some c.xs := by rw [List.getElem?_map, hcs]; rfl
        have hxs : xs = A ++ c.xs ++ C := n.eq.trans (hw.eq hcx)
        have hac : Asc O (rkI ord) c.xs := by
          rw [hxs] at ha
          exact ((Asc.append O (rkI ord)).1 ((Asc.append O (rkI ord)).1 ha).1).2.1
        obtain ⟨hA, hC⟩ := hw.mid O (rkI ord) hcx (n.eq ▸ ha) hi.symm hh.symm
        have hdm := delR_mid (O := O) (κ := rkI ord) (m := c.xs) hA hC
        rw [← hxs] at hdm
        have q1 := wadd1 dep (by omega)
        have hle := hlenc hcs
        refine W_rg fun K hK => (W_semi (some none) (.take false 0 (.take false 1 (.take false 2 (.take false 3 (.take true 4 (.take false 5 (.take true 6 (.take false 7 (.take false 8 (.take false 9 (.take true 10 (.take false 11 (.take false 12 (.take false 13 (.bar 14 (.take false 15 (.take false 16 (.take false 17 (.bar 18 (.take false 19 .nil)))))))))))))))))))) mixed (by kernel_rfl) ?_); simp only [↓rgm, ↓List.toList_toArray, ↓rgd, ↓rgf, ↓reduceIte, Nat.reduceEqDiff, rg, ow_126, e0, e2, e4, e5, e9, e14, e15, ptr_eq, o4.h3, hk0, hil, hce, hkx, q1]
        refine do_call fn_126 (by simp only [evt, evc, upd_eq, Nat.reduceEqDiff, ↓reduceIte, maT, maC, maN, isnN, isnS] <;> rfl) (ihh h' (by omega) (d - 1) c.b c.xs c.F _ ba (oa + i) false x hp (dep + 1) (c4.ext D fun _ _ _ g => g) (hL4.ext0 D) (fun y o g => hBF y o (hcF c hcm y o g)) (by omega) (by omega) ((nn.sub c hcm).ext D fun _ _ _ g => g) hac (by omega) (D.rd hce fun g => g) (H4.ext0 D) fun hb hh => ⟨(hHF hb hh).1, fun o g => (hHF hb hh).2 o (hcF c hcm hb o g)⟩) ?_
        rintro _ w5 ⟨X5, H5, F', hF', hres⟩
        have x45 := X5.od
        rcases hres with ⟨hd0, rfl, T5⟩ | ⟨y, yl, hd1, rfl, T5⟩
        · refine ⟨trivial, ?_⟩
          simp only [↓List.toList_toArray, ↓rgd, ↓rgf, ↓reduceIte, Nat.reduceEqDiff, rg, ow_126, ↓rgm]
          refine do_store (by simp only [evt, evc, upd_eq, Nat.reduceEqDiff, ↓reduceIte, ntT, ntF] <;> rfl) (by simp only [evt, evc, upd_eq, Nat.reduceEqDiff, ↓reduceIte, ntT, ntF] <;> rfl) sz_33 (rb_len zIt) (x45.wok wq4) (by decide) (rb_oc zIt) fun w6 x6 r6 s6 => ⟨trivial, ?_⟩
          simp only [↓List.toList_toArray, ↓rgd, ↓rgf, ↓reduceIte, Nat.reduceEqDiff, rg, ow_126, ↓rgm]
          refine hK _ _ ?_; clear hK K
          exact hpost _ w5 w6 i c F' zIt c.xs false hcs x45 H5 hF' x6 r6 (.inr ⟨rfl, rfl, T5, by rw [hdm, hd0]; rfl⟩) (by simp only [upd_eq, Nat.reduceEqDiff, ↓reduceIte]; exact e0) (by simp only [upd_eq, Nat.reduceEqDiff, ↓reduceIte]; exact e12) (by simp only [upd_eq, Nat.reduceEqDiff, ↓reduceIte]; exact e14) (by simp only [upd_eq, Nat.reduceEqDiff, ↓reduceIte]; exact e15) (by simp only [upd_eq, Nat.reduceEqDiff, ↓reduceIte] <;> rfl) (by simp only [upd_eq, Nat.reduceEqDiff, ↓reduceIte] <;> rfl)
        · refine ⟨trivial, ?_⟩
          simp only [↓List.toList_toArray, ↓rgd, ↓rgf, ↓reduceIte, Nat.reduceEqDiff, rg, ow_126, ↓rgm]
          refine do_store (by simp only [evt, evc, upd_eq, Nat.reduceEqDiff, ↓reduceIte, ntT, ntF] <;> rfl) (by simp only [evt, evc, upd_eq, Nat.reduceEqDiff, ↓reduceIte, ntT, ntF] <;> rfl) sz_33 (rb_len y) (x45.wok wq4) (by decide) (rb_oc y) fun w6 x6 r6 s6 => ⟨trivial, ?_⟩
          simp only [↓List.toList_toArray, ↓rgd, ↓rgf, ↓reduceIte, Nat.reduceEqDiff, rg, ow_126, ↓rgm]
          refine hK _ _ ?_; clear hK K
          exact hpost _ w5 w6 i c F' y yl true hcs x45 H5 hF' x6 r6 (.inl ⟨rfl, T5, by rw [hdm, hd1, hw.set]; rfl⟩) (by simp only [upd_eq, Nat.reduceEqDiff, ↓reduceIte]; exact e0) (by simp only [upd_eq, Nat.reduceEqDiff, ↓reduceIte]; exact e12) (by simp only [upd_eq, Nat.reduceEqDiff, ↓reduceIte]; exact e14) (by simp only [upd_eq, Nat.reduceEqDiff, ↓reduceIte]; exact e15) (by simp only [upd_eq, Nat.reduceEqDiff, ↓reduceIte] <;> rfl) (by simp only [upd_eq, Nat.reduceEqDiff, ↓reduceIte] <;> rfl)
      | true =>
        refine W_true (by simp only [evt, evc, upd_eq, Nat.reduceEqDiff, ↓reduceIte, ntT, ntF] <;> rfl) ?_
        have hpos : ∀ {i : Nat} {c : Kid It}, cs[i]? = some c → c.xs ≠ [] := fun hcs hnil => by
          obtain ⟨bi1, oi1, cap1, ks1, ch1, ho1, hl11, hl12, hoF1, hin1⟩ := (n.sub _ (List.mem_of_getElem? hcs)).open
          rcases hin1 with ⟨_, _, hx, _⟩ | ⟨_, _, _, _, _, cs1, _, _, n1⟩
          · rw [hnil] at hx; rw [← hx] at hl11; simp at hl11; omega
          · have := (weave_sub (cs1.map Kid.xs) ks1 (by rw [List.length_map]; exact n1.len)).length_le
            rw [← n1.eq, hnil] at this
            simp at this; rw [this] at hl11; simp at hl11; omega
        cases mx with
        | true =>
          refine W_sq fun K hK => (W_text [true] (by kernel_rfl) ?_); simp only [↓List.toList_toArray, ↓rgd, ↓rgf, ↓reduceIte, Nat.reduceEqDiff, rg, ow_126, e2]
          refine hK _ _ ?_; clear hK K
          refine W_true (by simp only [evt, evc, upd_eq, Nat.reduceEqDiff, ↓reduceIte, ntT, ntF] <;> rfl) ?_
          have hi : i = ks.length - 1 := by
            rcases hfi with ⟨_, _, h⟩ | ⟨h, _⟩
            · exact h
            · cases h
          have q1 := wadd1 i (by omega)
          refine W_sq fun K hK => (W_text [true, true, true] (by kernel_rfl) ?_); simp only [↓List.toList_toArray, ↓rgd, ↓rgf, ↓reduceIte, Nat.reduceEqDiff, rg, ow_126, e15, q1]
          refine hK _ _ ?_; clear hK K
          have hik : i + 1 = ks.length := by omega
          obtain ⟨c, hcs⟩ : ∃ c, cs[i + 1]? = some c := ⟨_, List.getElem?_eq_getElem (by omega)⟩
          have hcm := List.mem_of_getElem? hcs
          have hce := hcell hcs
          have hil : i + 1 < (cs.map Kid.b).length := by omega
          have hle := hlenc hcs
          have hne := hpos hcs
          have hsp : cs.map Kid.xs = (cs.take (i + 1)).map Kid.xs ++ [c.xs] := by
            have h3 := List.getElem?_eq_some_iff.1 hcs
            have := List.take_append_drop (i + 1) cs
            rw [List.drop_eq_getElem_cons h3.1, h3.2, List.drop_eq_nil_of_le (by omega)] at this
            conv => lhs; rw [← this]
            simp
          have hLl : ((cs.take (i + 1)).map Kid.xs).length = ks.length := by rw [List.length_map, List.length_take]; omega
          obtain ⟨A, hA⟩ := weave_end ((cs.take (i + 1)).map Kid.xs) ks hLl
          have hxs : xs = A ++ c.xs := by rw [n.eq, hsp, hA]
          have hac : Asc O (rkI ord) c.xs := by
            rw [hxs] at ha
            exact ((Asc.append O (rkI ord)).1 ha).2.1
          have hdm := delR_max (O := O) (κ := rkI ord) (q := rkI ord x) (A := A) hne
          rw [← hxs] at hdm
          refine W_rg fun K hK => (W_semi (some none) (.take false 0 (.take false 1 (.take false 2 (.take false 3 (.take true 4 (.take false 5 (.take true 6 (.take false 7 (.take false 8 (.take false 9 (.take false 10 (.take false 11 (.take true 12 (.bar 13 (.take false 14 (.take false 15 (.take false 16 (.bar 17 (.take false 18 .nil))))))))))))))))))) mixed (by kernel_rfl) ?_); simp only [↓rgm, ↓List.toList_toArray, ↓rgd, ↓rgf, ↓reduceIte, Nat.reduceEqDiff, rg, ow_126, e0, e14, ptr_eq, o4.h3, hk0, hil, hce, z4]
          refine do_call fn_126 (by simp only [evt, evc, upd_eq, Nat.reduceEqDiff, ↓reduceIte, maT, maC, maN, isnN, isnS] <;> rfl) (ihh h' (by omega) (d - 1) c.b c.xs c.F _ ba (oa + (i + 1)) true zIt none 0 (c4.ext D fun _ _ _ g => g) (hL4.ext0 D) (fun y o g => hBF y o (hcF c hcm y o g)) (by omega) (by omega) ((nn.sub c hcm).ext D fun _ _ _ g => g) hac (by omega) (D.rd hce fun g => g) (HOk.none _) fun hb hh => by cases hh) ?_
          rintro _ w5 ⟨X5, _, F', hF', hres⟩
          have x45 : Ext (fun y o => c.F y o ∨ hF hp y o) w4 w5 := X5.od.mono fun y o _ g => g.elim .inl fun g => by cases g
          rcases hres with ⟨hd0, rfl, T5⟩ | ⟨y, yl, hd1, rfl, T5⟩
          · exfalso
            have := delR_last (O := O) (κ := rkI ord) (q := rkI ord zIt) (l := c.xs.dropLast) (x := c.xs.getLast hne)
            rw [List.dropLast_concat_getLast, hd0] at this
            cases this
          · refine ⟨trivial, ?_⟩
            simp only [↓List.toList_toArray, ↓rgd, ↓rgf, ↓reduceIte, Nat.reduceEqDiff, rg, ow_126, ↓rgm]
            refine do_store (by simp only [evt, evc, upd_eq, Nat.reduceEqDiff, ↓reduceIte, ntT, ntF] <;> rfl) (by simp only [evt, evc, upd_eq, Nat.reduceEqDiff, ↓reduceIte, ntT, ntF] <;> rfl) sz_33 (rb_len y) (x45.wok wq4) (by decide) (rb_oc y) fun w6 x6 r6 s6 => ⟨trivial, ?_⟩
            simp only [↓List.toList_toArray, ↓rgd, ↓rgf, ↓reduceIte, Nat.reduceEqDiff, rg, ow_126, ↓rgm]
            refine hK _ _ ?_; clear hK K
            have H5 : HOk hp w5 := H4.ext X5.od fun hb hh o g => by
              rcases g with g | g
              · exact (hHF hb hh).2 o (hcF c hcm hb o g)
              · cases g
            refine hpost _ w5 w6 (i + 1) c F' y yl true hcs x45 H5 hF' x6 r6 (.inl ⟨rfl, T5, ?_⟩) (by simp only [upd_eq, Nat.reduceEqDiff, ↓reduceIte]; exact e0) (by simp only [upd_eq, Nat.reduceEqDiff, ↓reduceIte]; exact e12) (by simp only [upd_eq, Nat.reduceEqDiff, ↓reduceIte]; exact e14) (by simp only [upd_eq, Nat.reduceEqDiff, ↓reduceIte] <;> rfl) (by simp only [upd_eq, Nat.reduceEqDiff, ↓reduceIte] <;> rfl) (by simp only [upd_eq, Nat.reduceEqDiff, ↓reduceIte] <;> rfl)
            have hset : (cs.map Kid.xs).set (i + 1) yl = (cs.take (i + 1)).map Kid.xs ++ [yl] := by
              have := set_last (A := (cs.take (i + 1)).map Kid.xs) (z := c.xs) (x := yl)
              rw [hLl, ← hik] at this
              rw [hsp]
              exact this
            rw [hset, hA, hdm]
            rw [show delR O (rkI ord) true (rkI ord x) c.xs = delR O (rkI ord) true (rkI ord zIt) c.xs from rfl, hd1]
            rfl
        | false =>
          refine W_sq fun K hK => (W_text [true] (by kernel_rfl) ?_); simp only [↓List.toList_toArray, ↓rgd, ↓rgf, ↓reduceIte, Nat.reduceEqDiff, rg, ow_126, e2]
          refine hK _ _ ?_; clear hK K
          refine W_false (by simp only [evt, evc, upd_eq, Nat.reduceEqDiff, ↓reduceIte, ntT, ntF] <;> rfl) ?_
          obtain ⟨hi, hh⟩ : i = lb O (rkI ord) (rkI ord x) ks ∧ true = hit O (rkI ord) (rkI ord x) ks := by
            rcases hfi with ⟨h, _⟩ | ⟨_, h⟩
            · cases h
            · exact h
          obtain ⟨kk, hk1, hk2⟩ := hit_at O (rkI ord) hh.symm
          rw [← hi] at hk1
          have hik := (List.getElem?_eq_some_iff.1 hk1).1
          obtain ⟨c, hcs⟩ : ∃ c, cs[i]? = some c := ⟨_, List.getElem?_eq_getElem (by omega)⟩
          have hcm := List.mem_of_getElem? hcs
          have hil : i < (cs.map Kid.b).length := by omega
          have hle := hlenc hcs
          have hne := hpos hcs
          have hkv := it_at o4.row hk1
          have hsp : cs.map Kid.xs = (cs.take i).map Kid.xs ++ c.xs :: (cs.drop (i + 1)).map Kid.xs := by
            have h3 := List.getElem?_eq_some_iff.1 hcs
            have := List.take_append_drop i cs
            rw [List.drop_eq_getElem_cons h3.1, h3.2] at this
            conv => lhs; rw [← this]
            simp
          have hLl : ((cs.take i).map Kid.xs).length = i := by rw [List.length_map, List.length_take]; omega
          obtain ⟨A, C, hA⟩ := weave_ahead (L := (cs.take i).map Kid.xs) (B := (cs.drop (i + 1)).map Kid.xs) (ks := ks) (k := kk) (by rw [hLl]; exact hk1)
          rw [hLl] at hA
          have hxs : xs = A ++ c.xs ++ kk :: C := by
            rw [n.eq, hsp, ← hA c.xs kk]
            obtain ⟨g1, g2⟩ := List.getElem?_eq_some_iff.1 hk1
            rw [← g2, List.set_getElem_self g1]
          have hac : Asc O (rkI ord) c.xs := by
            rw [hxs] at ha
            exact ((Asc.append O (rkI ord)).1 ((Asc.append O (rkI ord)).1 ha).1).2.1
          have hdk : delR O (rkI ord) false (rkI ord x) xs = some (kk, A ++ c.xs ++ C) := by
            rw [hk2, hxs]
            exact delR_key (by rw [← hxs]; exact ha)
          refine W_sq fun K hK => (W_text [true, true, true, true, true, true, true, false] (by kernel_rfl) ?_); simp only [↓List.toList_toArray, ↓rgd, ↓rgf, ↓reduceIte, Nat.reduceEqDiff, rg, ow_126, e14, e15, ptr_eq, o4.h2, hik, hkv]
          refine do_store (by simp only [evt, evc, upd_eq, Nat.reduceEqDiff, ↓reduceIte, ntT, ntF] <;> rfl) (by simp only [evt, evc, upd_eq, Nat.reduceEqDiff, ↓reduceIte, ntT, ntF] <;> rfl) sz_33 (rb_len kk) wq4 (by decide) (rb_oc kk) fun w5 x5 r5 s5 => ⟨trivial, ?_⟩
          simp only [↓List.toList_toArray, ↓rgd, ↓rgf, ↓reduceIte, Nat.reduceEqDiff, rg, ow_126]
          refine hK _ _ ?_; clear hK K
          have hqn : ∀ y o, F y o → ¬ rng q 0 2 y o := fun y o g k => by have := hlt y o g; have := k.1; omega
          have o5 := o4.ext x5 fun y o g => hqn y o (hoF y o g)
          have n5 := nn.ext x5 (fun y o g => hqn y o (hkF y o g)) fun a ha y o g => hqn y o (hcF a ha y o g)
          have hmq : ∀ o, ¬ rng q 0 2 m o := fun o k => by have := k.1; omega
          have c5 := c4.ext x5 fun o _ _ => hmq o
          have hL5 : Ls B m w5 ord := hL4.ext x5 (fun y o g => .inl (by have := g.1; omega)) (hmq 6)
          have z5 := zIt_at c5
          have hce5 := n5.kids.se.ptr_at (j := i) (p := c.b) (by simp [hcs])
          have hk5 := n5.kids.c0
          have X5 : Ext (fun y o => F y o ∨ hF hp y o) w w5 := (X4.mono fun _ _ _ g => .inr g).trans x5 (fun _ _ g => g) fun y o hy g => by have := g.1; omega
          have H5 : HOk hp w5 := H4.ext x5 fun hb hh o g => by
            have := hHl hb 0 hh
            have := g.1; omega
          have wr5 := x5.wok wr4
          have rq5 : Row w5 q 0 (E.cel kk) := r5
          have hq5 : q < w5.heap.size := by have := x5.size; omega
          have L0 := on3_0 b bc m
          have L1 := on3_1 b bc m
          have L2 := on3_2 b bc m
          have hbcl := wok_lt n5.kids.wc
          have hb5 : b < w5.heap.size ∧ m < w5.heap.size := ⟨by omega, by omega⟩
          have hcb : ∀ o, ¬ c.F b o := fun o g => n.ap.own c hcm b o g (.inl rfl)
          have hcbc : ∀ o, ¬ c.F bc o := fun o g => n.ap.kid c hcm bc o g (.inl rfl)
          have hcmF : ∀ o, ¬ c.F m o := fun o g => hm o (hcF c hcm m o g)
          have D5 := Ext.dr noF w5 (w5.drawn + 1)
          have kin3 : ∀ {G : Nat → Nat → Prop} {u v : World}, Ext G u v → (∀ x ∈ [b, bc, m], x < u.heap.size ∧ ∀ o, ¬ G x o) → keeps (some (some [b, bc, m])) u v := fun x h => keeps_on x h
          clear D hk0 hkx c4 z4 hL4 X4 H4 rk4 wr4 o4 x5 r5 hpost hno
          refine W_sq fun K hK => (W_free (some (some [b, bc, m])) (.take 0 (.take 1 (.take 2 (.take 3 (.take 4 (.take 5 (.take 6 (.take 7 (.take 8 (.take 9 (.take 10 (.take 11 (.take 12 (.split 13 (.take 14 (.take 15 (.take 16 (.act 17 (.act 18 (.take 19 .nil)))))) 17 (.act 13 (.take 14 (.take 15 (.take 16 (.act 18 (.take 19 .nil)))))))))))))))))))) mixed (by kernel_rfl) ?_); simp only [↓List.toList_toArray, ↓rgd, ↓rgf, ↓reduceIte, Nat.reduceEqDiff, rg, ow_126, e0, e14, e15, ptr_eq, o5.h3, hk5, hil, hce5, z5, L0, L1, L2, rB_on]
          have hjoin : ∀ (e : Env) (w8 : World) (t : Nat) (y : It) (yl : List It) (F' : Nat → Nat → Prop), delR O (rkI ord) true (rkI ord zIt) c.xs = some (y, yl) → Tr E iso (d - 1) (2 * d - 1) h' w8 (d - 1 - 1) c.b yl F' → (∀ y o, F' y o → c.F y o ∨ w5.heap.size ≤ y) → Ext c.F w5 w8 → Row w8 t 0 (E.cel y) →
              e 0 = ptr m → e 12 = ptr r0 → e 14 = ptr b → e 15 = .int .i64 (i : Nat) → e 18 = ptr q → e 20 = ptr t → K e w8 := by
            clear e0 e2 e4 e5 e9 e12 e14 e15 e16
            clear e
            intro e w8 t y yl F' hdl T8 hF' x58 rt8 e0 e12 e14 e15 e18 e20
            refine hK _ _ ?_; clear hK K
            refine W_sq fun K hK => (W_text [true] (by kernel_rfl) ?_); simp only [↓List.toList_toArray, ↓rgd, ↓rgf, ↓reduceIte, Nat.reduceEqDiff, rg, ow_126]
            refine hK _ _ ?_; clear hK K
            have hown : ∀ y o, ownF E b bi oi cap y o → ¬ c.F y o := fun y o g k => n.ap.own c hcm y o k g
            have o8 := o5.ext x58 hown
            have ky := iX_at rt8
            refine W_rg fun K hK => (W_draw (some none) (some 7) [(0, 0, 0), (0, 1, 0), (0, 2, 0), (0, 3, 0), (0, 4, 0), (0, 5, 0), (0, 6, 0), (1, 7, 0)] mixed (by kernel_rfl) ?_); simp only [↓List.toList_toArray, ↓rgd, ↓rgf, ↓reduceIte, Nat.reduceEqDiff, rg, ow_126, e14, e15, e20, ptr_eq, o8.h2, hik, ky]
            refine do_store (by simp only [evt, evc, upd_eq, Nat.reduceEqDiff, ↓reduceIte, ntT, ntF] <;> rfl) (by simp only [evt, evc, upd_eq, Nat.reduceEqDiff, ↓reduceIte, ntT, ntF] <;> rfl) sz_33 (rb_len y) o8.wi (by rw [E_sz]; omega) (rb_oc y) fun w9 x9 r9 s9 => ⟨(by first | exact trivial | exact .inl trivial), ?_⟩
            simp only [↓List.toList_toArray, ↓rgd, ↓rgf, ↓reduceIte, Nat.reduceEqDiff, rg, ow_126]
            refine hK _ _ ?_; clear hK K
            have o9 := o8.set hik x9.od r9
            have x9' : Ext (ownF E b bi oi cap) w8 w9 := x9.od.mono fun y o _ g => .inr (by simp only [rng] at g ⊢; rw [E_sz]; omega)
            obtain ⟨l1, l2⟩ := shr_len (d := (⟨c.b, yl, F'⟩ : Kid It)) hcs
            have sh := n5.shr o5 (by omega) hcs x58 (fun _ _ _ g => g) T8 hF'
            have hfp : ∀ y o, (ownF E b bi oi cap y o ∨ kidF bc ba oa capc y o ∨ kinF (cs.take i ++ (⟨c.b, yl, F'⟩ : Kid It) :: cs.drop (i + 1)) y o) → F y o ∨ w5.heap.size ≤ y := fun y o g => n5.shr_fp hcs hF' y o g
            have s5' := X5.size
            have sh9 : Shr E iso (d - 1) (2 * d - 1) h' w9 b bc (xs.length : Nat) (ks.set i y) (cs.take i) ⟨c.b, yl, F'⟩ (cs.drop (i + 1)) (ownF E b bi oi cap) (kidF bc ba oa capc) bi ba :=
              ⟨⟨bi, oi, cap, o9, by omega, rfl, fun _ _ => Iff.rfl⟩, (kdO _ _).loc sh.n3 x9' sh.l0.d.symm, sh.l0, sh.t.ext x9' (sh.l0.g1 _ (by simp)), fun a ha => (sh.rest a ha).ext x9' (sh.l0.g1 a (by
                rcases List.mem_append.1 ha with ha | ha
                · simp [ha]
                · simp [ha]))⟩
            have X9 : Ext (fun y o => F y o ∨ hF hp y o) w w9 := (X5.trans x58 (fun _ _ g => g) fun y o _ g => .inl (hcF c hcm y o g)).trans x9' (fun _ _ g => g) fun y o _ g => .inl (hoF y o g)
            have H9 : HOk hp w9 := (H5.ext x58 fun hb hh o g => (hHF hb hh).2 o (hcF c hcm hb o g)).ext x9' fun hb hh o g => (hHF hb hh).2 o (hoF hb o g)
            have hcq : ∀ o, ¬ c.F q o := fun o g => by have := hlt q o (hcF c hcm q o g); omega
            have hoq : ∀ o, ¬ ownF E b bi oi cap q o := fun o g => by have := hlt q o (hoF q o g); omega
            have rq9 := x9'.row (x58.row rq5 fun j _ => hcq _) fun j _ => hoq _
            have wr9 := x9'.wok (x58.wok wr5)
            have hcxs : c.xs = yl ++ [y] := by
              have := delR_last (O := O) (κ := rkI ord) (q := rkI ord zIt) (l := c.xs.dropLast) (x := c.xs.getLast hne)
              rw [List.dropLast_concat_getLast, hdl] at this
              simp only [Option.some.injEq, Prod.mk.injEq] at this
              rw [this.1, this.2, List.dropLast_concat_getLast]
            refine hyes _ w9 kk (cs.take i) (cs.drop (i + 1)) ⟨c.b, yl, F'⟩ (ks.set i y) (A ++ c.xs ++ C) _ _ _ _ sh9 List.length_set (by rw [l1, List.length_set]; exact n.len) ?_ hdk X9 H9 (fun y o g => (hfp y o g).imp id fun g => by omega) rq9 wr9 (fun o g => ?_) (fun o g => ?_)
              (by simp only [upd_eq, Nat.reduceEqDiff, ↓reduceIte]; exact e0) (by simp only [upd_eq, Nat.reduceEqDiff, ↓reduceIte]; exact e12) (by simp only [upd_eq, Nat.reduceEqDiff, ↓reduceIte]; exact e14) (by simp only [upd_eq, Nat.reduceEqDiff, ↓reduceIte]; rw [l2]; exact e15) (by simp only [upd_eq, Nat.reduceEqDiff, ↓reduceIte]; exact e18) (by simp only [upd_eq, Nat.reduceEqDiff, ↓reduceIte] <;> rfl)
            · rw [List.map_append, List.map_cons, hA, hcxs]; simp
            · rcases hfp q o g with g | g
              · have := hlt q o g; omega
              · omega
            · rcases hfp r0 o g with g | g
              · have := hlt r0 o g; omega
              · omega
          have hx3 : ∀ x ∈ [b, bc, m], x < w5.heap.size ∧ ∀ o, ¬ (c.F x o ∨ hF none x o) := fun x hx => by
            simp only [List.mem_cons, List.not_mem_nil, or_false] at hx
            rcases hx with rfl | rfl | rfl
            · exact ⟨hb5.1, fun o g => g.elim (hcb o) fun g => by cases g⟩
            · exact ⟨hbcl, fun o g => g.elim (hcbc o) fun g => by cases g⟩
            · exact ⟨hb5.2, fun o g => g.elim (hcmF o) fun g => by cases g⟩
          have hx3l : ∀ x ∈ [b, bc, m], x < w5.heap.size := fun x hx => (hx3 x hx).1
          have hcl : ∀ y o, c.F y o → y < w5.heap.size := fun y o g => by have := hlt y o (hcF c hcm y o g); omega
          have nohit : ∀ {P : Prop}, delR O (rkI ord) true (rkI ord zIt) c.xs = none → P := fun hd0 => by
            have := delR_last (O := O) (κ := rkI ord) (q := rkI ord zIt) (l := c.xs.dropLast) (x := c.xs.getLast hne)
            rw [List.dropLast_concat_getLast, hd0] at this
            cases this
          refine ⟨?_, ?_⟩
          · refine do_call fn_126 (by simp only [evt, evc, upd_eq, Nat.reduceEqDiff, ↓reduceIte, maT, maC, maN, isnN, isnS] <;> rfl) (ihh h' (by omega) (d - 1) c.b c.xs c.F _ ba (oa + i) true zIt none 0 (c5.ext D5 fun _ _ _ g => g) (hL5.ext0 D5) (fun y o g => hBF y o (hcF c hcm y o g)) (by omega) (by omega) ((n5.sub c hcm).ext D5 fun _ _ _ g => g) hac (by omega) (D5.rd hce5 fun g => g) (HOk.none _) fun hb hh => by cases hh) ?_
            rintro _ w6 ⟨X6, _, F', hF', hres⟩
            rcases hres with ⟨hd0, _⟩ | ⟨y, yl, hd1, rfl, T6⟩
            · exact nohit hd0
            · have x56 : Ext c.F w5 w6 := X6.od.mono fun y o _ g => g.elim id fun g => by cases g
              have s56 := x56.size
              refine ⟨.inr (kin3 X6 hx3), ?_⟩
              simp only [↓List.toList_toArray, ↓rgd, ↓rgf, ↓reduceIte, Nat.reduceEqDiff, rg, ow_126]
              refine do_alloc dz_it fun w7 n7 => ⟨.inr (n7.keep _ fun x hx => by have := hx3l x hx; omega), ?_⟩
              simp only [↓List.toList_toArray, ↓rgd, ↓rgf, ↓reduceIte, Nat.reduceEqDiff, rg, ow_126]
              have s7 := n7.size
              refine do_store (by simp only [evt, evc, upd_eq, Nat.reduceEqDiff, ↓reduceIte, ntT, ntF] <;> rfl) (by simp only [evt, evc, upd_eq, Nat.reduceEqDiff, ↓reduceIte, ntT, ntF] <;> rfl) sz_33 (rb_len y) n7.wok (by decide) (rb_oc y) fun w8 x8 r8 s8 => ⟨.inr (kin3 x8 fun x hx => ⟨by have := hx3l x hx; omega, fun o g => by have := hx3l x hx; have := g.1; omega⟩), ?_⟩
              simp only [↓List.toList_toArray, ↓rgd, ↓rgf, ↓reduceIte, Nat.reduceEqDiff, rg, ow_126]
              refine hjoin _ w8 w6.heap.size y yl F' hd1 ((T6.ext n7.ext fun _ _ _ g => g).ext x8 fun y o g k => ?_) hF' ((x56.trans n7.ext (fun _ _ g => g) fun _ _ _ g => g.elim).trans x8 (fun _ _ g => g) fun y o hy g => ?_) r8
                (by simp only [upd_eq, Nat.reduceEqDiff, ↓reduceIte]; exact e0) (by simp only [upd_eq, Nat.reduceEqDiff, ↓reduceIte]; exact e12) (by simp only [upd_eq, Nat.reduceEqDiff, ↓reduceIte]; exact e14) (by simp only [upd_eq, Nat.reduceEqDiff, ↓reduceIte]; exact e15) (by simp only [upd_eq, Nat.reduceEqDiff, ↓reduceIte] <;> rfl) (by simp only [upd_eq, Nat.reduceEqDiff, ↓reduceIte] <;> rfl)
              · have := T6.lt y o g; have := k.1; omega
              · have := g.1; omega
          · refine do_alloc dz_it fun w6 n6 => ⟨.inr (n6.keep _ hx3l), ?_⟩
            simp only [↓List.toList_toArray, ↓rgd, ↓rgf, ↓reduceIte, Nat.reduceEqDiff, rg, ow_126]
            have n6' := n6.od
            have s6 := n6'.size
            refine do_call fn_126 (by simp only [evt, evc, upd_eq, Nat.reduceEqDiff, ↓reduceIte, maT, maC, maN, isnN, isnS] <;> rfl) (ihh h' (by omega) (d - 1) c.b c.xs c.F w6 ba (oa + i) true zIt none 0 (c5.ext n6'.ext fun _ _ _ g => g) (hL5.ext0 n6'.ext) (fun y o g => hBF y o (hcF c hcm y o g)) (by omega) (by omega) ((n5.sub c hcm).ext n6'.ext fun _ _ _ g => g) hac (by omega) (n6'.ext.rd hce5 fun g => g) (HOk.none _) fun hb hh => by cases hh) ?_
            rintro _ w7 ⟨X7, _, F', hF', hres⟩
            rcases hres with ⟨hd0, _⟩ | ⟨y, yl, hd1, rfl, T7⟩
            · exact nohit hd0
            · have x67 : Ext c.F w6 w7 := X7.mono fun y o _ g => g.elim id fun g => by cases g
              have x57 : Ext c.F w5 w7 := n6'.ext.trans x67 (fun _ _ g => g.elim) fun _ _ _ g => g
              refine ⟨.inr (kin3 X7 fun x hx => ⟨by have := hx3l x hx; omega, (hx3 x hx).2⟩), ?_⟩
              simp only [↓List.toList_toArray, ↓rgd, ↓rgf, ↓reduceIte, Nat.reduceEqDiff, rg, ow_126]
              have s67 := x67.size
              refine do_store (by simp only [evt, evc, upd_eq, Nat.reduceEqDiff, ↓reduceIte, ntT, ntF] <;> rfl) (by simp only [evt, evc, upd_eq, Nat.reduceEqDiff, ↓reduceIte, ntT, ntF] <;> rfl) sz_33 (rb_len y) (x67.wok n6.wok) (by decide) (rb_oc y) fun w8 x8 r8 s8 => ⟨.inr (kin3 x8 fun x hx => ⟨by have := hx3l x hx; omega, fun o g => by have := hx3l x hx; have := g.1; rw [sz_dr] at this; omega⟩), ?_⟩
              simp only [↓List.toList_toArray, ↓rgd, ↓rgf, ↓reduceIte, Nat.reduceEqDiff, rg, ow_126]
              refine hjoin _ w8 w5.heap.size y yl F' hd1 (T7.ext x8 fun y o g k => ?_) (fun y o g => (hF' y o g).imp id fun g => by omega) (x57.trans x8 (fun _ _ g => g) fun y o hy g => ?_) r8
                (by simp only [upd_eq, Nat.reduceEqDiff, ↓reduceIte]; exact e0) (by simp only [upd_eq, Nat.reduceEqDiff, ↓reduceIte]; exact e12) (by simp only [upd_eq, Nat.reduceEqDiff, ↓reduceIte]; exact e14) (by simp only [upd_eq, Nat.reduceEqDiff, ↓reduceIte]; exact e15) (by simp only [upd_eq, Nat.reduceEqDiff, ↓reduceIte] <;> rfl) (by simp only [upd_eq, Nat.reduceEqDiff, ↓reduceIte] <;> rfl)
              · have h1 : y = w5.heap.size := k.1
                rcases hF' y o g with g | g
                · have := hcl y o g; omega
                · omega
              · have h1 : y = w5.heap.size := g.1
                omega
  have o3 := ho.ext X3 fun _ _ _ g => g
  refine W_sq fun K hK => (W_text [true] (by kernel_rfl) ?_); simp only [↓List.toList_toArray, ↓rgd, ↓rgf, ↓reduceIte, Nat.reduceEqDiff, rg, ow_126, e2]
  refine hK _ _ ?_; clear hK K
  cases mx with
  | true =>
    refine W_true (by simp only [evt, evc, upd_eq, Nat.reduceEqDiff, ↓reduceIte, ntT, ntF] <;> rfl) ?_
    have q1 := wsub1 ks.length (by omega) (by omega)
    refine W_rg fun K hK => (W_text [true, true, true, true, true, true, true, true] (by kernel_rfl) ?_); simp only [↓List.toList_toArray, ↓rgd, ↓rgf, ↓reduceIte, Nat.reduceEqDiff, rg, ow_126, ptr_eq, o3.h2, q1]
    refine hK _ _ ?_; clear hK K
    exact hend _ _ true (ks.length - 1) (.inl ⟨rfl, rfl, rfl⟩) (X3.mono fun _ _ _ g => g.elim) (hH.ext0 X3) rk3 wr3 (by omega) (by simp only [upd_eq, Nat.reduceEqDiff, ↓reduceIte]; exact e0) (by simp only [upd_eq, Nat.reduceEqDiff, ↓reduceIte]; exact e2) (by simp only [upd_eq, Nat.reduceEqDiff, ↓reduceIte]; exact e4) (by simp only [upd_eq, Nat.reduceEqDiff, ↓reduceIte]; exact e5) (by simp only [upd_eq, Nat.reduceEqDiff, ↓reduceIte] <;> rfl) (by simp only [upd_eq, Nat.reduceEqDiff, ↓reduceIte] <;> rfl) (by simp only [upd_eq, Nat.reduceEqDiff, ↓reduceIte] <;> rfl) (by simp only [upd_eq, Nat.reduceEqDiff, ↓reduceIte] <;> rfl) (by simp only [upd_eq, Nat.reduceEqDiff, ↓reduceIte] <;> rfl)
  | false =>
    refine W_false (by simp only [evt, evc, upd_eq, Nat.reduceEqDiff, ↓reduceIte, ntT, ntF] <;> rfl) ?_
    have hkx := iX_at rk3
    have h33 := o3.h3
    rw [hcc] at h33
    refine W_rg fun K hK => (W_text [true, true, true, true, true, false, true, true, true, true, true] (by kernel_rfl) ?_); simp only [↓List.toList_toArray, ↓rgd, ↓rgf, ↓reduceIte, Nat.reduceEqDiff, rg, ow_126, e0, e4, e5, hkx]
    refine do_call fn_97 (by simp only [evt, evc, upd_eq, Nat.reduceEqDiff, ↓reduceIte, maT, maC, maN, isnN, isnS] <;> rfl) (find_any B m b bi oi cap ord ks x cc hp dep w3 (hL.ext0 X3) o3.h2 h33 o3.row (by omega) hkb (by omega) hak (hH.ext0 X3) fun hb hh hbb => (hHF hb hh).2 0 (hbb ▸ ht.self 0)) ?_
    rintro _ w4 ⟨rfl, X4, H4⟩
    refine ⟨trivial, ?_⟩
    simp only [↓List.toList_toArray, ↓rgd, ↓rgf, ↓reduceIte, Nat.reduceEqDiff, rg, ow_126, dsrch]
    refine hK _ _ ?_; clear hK K
    have s4 := X4.size
    refine hend _ _ _ _ (.inr ⟨rfl, rfl, rfl⟩) (X3.trans X4 (fun _ _ g => g.elim) fun _ _ _ g => g) H4 (X4.row rk3 fun j _ g => ?_) (X4.wok wr3) (by omega) (by simp only [upd_eq, Nat.reduceEqDiff, ↓reduceIte]; exact e0) (by simp only [upd_eq, Nat.reduceEqDiff, ↓reduceIte]; exact e2) (by simp only [upd_eq, Nat.reduceEqDiff, ↓reduceIte]; exact e4) (by simp only [upd_eq, Nat.reduceEqDiff, ↓reduceIte]; exact e5) (by simp only [upd_eq, Nat.reduceEqDiff, ↓reduceIte] <;> rfl) (by simp only [upd_eq, Nat.reduceEqDiff, ↓reduceIte] <;> rfl) (by simp only [upd_eq, Nat.reduceEqDiff, ↓reduceIte] <;> rfl) (by simp only [upd_eq, Nat.reduceEqDiff, ↓reduceIte] <;> rfl) (by simp only [upd_eq, Nat.reduceEqDiff, ↓reduceIte] <;> rfl)
    have := hHl _ _ g
    omega
end Go.Proofs.Ytbnnkcofnmipoaa
/-
  Deleting an item from a tree, with a hint or without one. No condition.
-/
set_option linter.unusedSimpArgs false
set_option linter.unusedVariables false
namespace Go.Proofs.Ytbnnkcofnmipoaa
open Go Go.Proofs
theorem delR_out {ord : List Int} {x : It} {xs : List It} : (delR O (rkI ord) false (rkI ord x) xs = none → at? O (rkI ord) (rkI ord x) xs = none ∧ hit O (rkI ord) (rkI ord x) xs = false ∧ del O (rkI ord) (rkI ord x) xs = xs) ∧
    (∀ {y ys}, delR O (rkI ord) false (rkI ord x) xs = some (y, ys) → at? O (rkI ord) (rkI ord x) xs = some y ∧ hit O (rkI ord) (rkI ord x) xs = true ∧ del O (rkI ord) (rkI ord x) xs = ys) := by
  cases hh : hit O (rkI ord) (rkI ord x) xs with
  | false =>
    refine ⟨fun _ => ⟨by simp [at?, hh], rfl, by simp [del, hh]⟩, fun {y ys} h => ?_⟩
    rw [delR_miss hh] at h; cases h
  | true =>
    obtain ⟨k, hk, _⟩ := hit_at O (rkI ord) hh
    refine ⟨fun h => ?_, fun {y ys} h => ?_⟩
    · rw [delR_leaf hh hk] at h; cases h
    · rw [delR_leaf hh hk] at h
      cases h
      exact ⟨by simp [at?, hh, hk], rfl, by simp [del, hh]⟩
set_option maxHeartbeats 4000000 in
set_option maxRecDepth 8000 in
theorem delH_any (B m d : Nat) (iso : Int) (ord : List Int) (x : It) (hp : Option Nat) (hd : 2 ≤ d) (hd' : d ≤ 128) (xs : List It) (F : Nat → Nat → Prop) (w : World) (hM : TreeAt B ord w m d iso xs F) (hbig : xs.length < 1152921504606846976) (hH : HOk hp w) (hHF : ∀ hb, hp = some hb → m < hb ∧ ∀ o, ¬ F hb o) :
    CallK Try.prog 92 #[ptr m, itV x, hV hp] w fun v w' => v = .tuple #[itV ((at? O (rkI ord) (rkI ord x) xs).getD zIt), .bool (hit O (rkI ord) (rkI ord x) xs)] ∧ Ext (fun y o => mapF m F y o ∨ hF hp y o) w w' ∧ HOk hp w' ∧
      ∃ F', TreeAt B ord w' m d iso (del O (rkI ord) (rkI ord x) xs) F' ∧ ∀ y o, F' y o → F y o ∨ w.heap.size ≤ y := by
  have hml := hM.mlt
  have hHl : ∀ y o, hF hp y o → y < w.heap.size := fun y o g => wok_lt (hH y g).wok
  have hmh : ∀ o, ¬ hF hp m o := fun o g => by have := (hHF m g).1; omega
  refine calls_of_W [.cell 6 33, .tmp 7] Try.func92 rfl Try.ntmps92 Try.results92 (by simp) fun e he => ?_
  have e0 : e 0 = ptr m := he 0 _ rfl
  have e1 : e 1 = itV x := he 1 _ rfl
  have e2 : e 2 = hV hp := he 2 _ rfl
  clear he
  refine W_sq fun K hK => (W_text [false, false, true] (by kernel_rfl) ?_); simp only [↓List.toList_toArray, ↓rgd, ↓rgf, ↓reduceIte, Nat.reduceEqDiff, rg, ow_92]
  refine do_box (by simp only [evt]; exact e1) fun w1 n1 => ⟨trivial, ?_⟩
  simp only [↓List.toList_toArray, ↓rgd, ↓rgf, ↓reduceIte, Nat.reduceEqDiff, rg, ow_92]
  refine do_alloc dz_it fun w2 n2 => ⟨trivial, ?_⟩
  simp only [↓List.toList_toArray, ↓rgd, ↓rgf, ↓reduceIte, Nat.reduceEqDiff, rg, ow_92]
  refine hK _ _ ?_; clear hK K
  have s1 := n1.size
  have s2 := n2.size
  have X2 : Ext noF w w2 := n1.ext.tr n2.ext
  have rk2 : Row w2 w.heap.size 0 (E.cel x) := n2.ext.row n1.row fun _ _ h => h
  obtain ⟨r0, hr0⟩ : ∃ r0, r0 = w1.heap.size := ⟨_, rfl⟩
  have wr2 : wok w2 r0 2 := by rw [hr0]; exact n2.wok
  have hr0' : r0 = w.heap.size + 1 := by omega
  have hs2 : w2.heap.size = w.heap.size + 2 := by omega
  rw [← hr0]
  clear hr0 n1 n2 s1 s2
  have hM2 := hM.ext X2
  refine W_seq ?_
  rcases hM2.root with ⟨hxs, hr2⟩ | ⟨h, b, hr2, ht⟩
  · refine W_sq fun K hK => (W_text [true, true, true, true, true] (by kernel_rfl) ?_); simp only [↓List.toList_toArray, ↓rgd, ↓rgf, ↓reduceIte, Nat.reduceEqDiff, rg, ow_92, e0, ptr_eq, hr2]
    refine hK _ _ ?_; clear hK K
    refine W_true (by simp only [evt, evc, upd_eq, Nat.reduceEqDiff, ↓reduceIte, ntT, ntF] <;> rfl) ?_
    have z2 := zIt_at hM2.cfg
    refine W_sq fun K hK => (W_text [true, true, true, true, false, true] (by kernel_rfl) ?_); simp only [↓List.toList_toArray, ↓rgd, ↓rgf, ↓reduceIte, Nat.reduceEqDiff, rg, ow_92, e0, ptr_eq, z2]
    refine do_store (by simp only [evt, evc, upd_eq, Nat.reduceEqDiff, ↓reduceIte, ntT, ntF] <;> rfl) (by simp only [evt, evc, upd_eq, Nat.reduceEqDiff, ↓reduceIte, ntT, ntF] <;> rfl) sz_33 (rb_len zIt) wr2 (by decide) (rb_oc zIt) fun w3 x3 r3 s3 => ⟨trivial, ?_⟩
    simp only [↓List.toList_toArray, ↓rgd, ↓rgf, ↓reduceIte, Nat.reduceEqDiff, rg, ow_92]
    refine hK _ _ ?_; clear hK K
    subst hxs
    have X3 : Ext noF w w3 := noF_of X2 x3 fun y o hy g => by have := g.1; omega
    refine W_ret ?_
    simp only [andThen_ret]
    exact endQ_ct (by simp only [upd_eq, Nat.reduceEqDiff, ↓reduceIte] <;> rfl) (by simp only [upd_eq, Nat.reduceEqDiff, ↓reduceIte] <;> rfl) ld_33 (iX_at (show Row w3 r0 0 (E.cel zIt) from r3)) ⟨rfl, X3.mono fun _ _ _ g => g.elim, hH.ext0 X3, F, hM.ext X3, fun _ _ g => .inl g⟩
  · refine W_sq fun K hK => (W_text [true, true, true, true, true] (by kernel_rfl) ?_); simp only [↓List.toList_toArray, ↓rgd, ↓rgf, ↓reduceIte, Nat.reduceEqDiff, rg, ow_92, e0, ptr_eq, hr2]
    refine hK _ _ ?_; clear hK K
    refine W_false (by simp only [evt, evc, upd_eq, Nat.reduceEqDiff, ↓reduceIte, ntT, ntF] <;> rfl) (W_skip ?_)
    show W _ _ _ _ _ _
    have hm : ∀ o, ¬ F m o := hM.off
    have hh := ht.height (by omega) (by omega)
    have H2 := hH.ext0 X2
    have kx := iX_at rk2
    have L0 := on1_0 w.heap.size
    have hkF : ∀ o, ¬ (F w.heap.size o ∨ hF hp w.heap.size o) := fun o g => by
      rcases g with g | g
      · have := hM.lt _ _ g; omega
      · have := hHl _ _ g; omega
    have D := Ext.dr noF w2 (w2.drawn + 1)
    refine W_sq fun K hK => (W_free (some (some [w.heap.size])) (.take 0 (.take 1 (.take 2 (.take 3 (.take 4 (.take 5 (.split 6 (.take 7 (.take 8 (.take 9 (.act 10 (.act 11 (.take 12 .nil)))))) 10 (.act 6 (.take 7 (.take 8 (.take 9 (.act 11 (.take 12 .nil))))))))))))) mixed (by kernel_rfl) ?_); simp only [↓List.toList_toArray, ↓rgd, ↓rgf, ↓reduceIte, Nat.reduceEqDiff, rg, ow_92, e0, e2, ptr_eq, kx, L0, rB_on]
    have hjoin : ∀ (e : Env) (w4 : World) (t : Nat) (y : It) (dl : Bool) (F' : Nat → Nat → Prop), ((dl = false ∧ delR O (rkI ord) false (rkI ord x) xs = none ∧ Tr E iso (d - 1) (2 * d - 1) h w4 1 b xs F') ∨ (dl = true ∧ ∃ ys, delR O (rkI ord) false (rkI ord x) xs = some (y, ys) ∧ Tr E iso (d - 1) (2 * d - 1) h w4 0 b ys F')) →
        Ext (fun y o => F y o ∨ hF hp y o) w2 w4 → HOk hp w4 → (∀ y o, F' y o → F y o ∨ w2.heap.size ≤ y) → Row w4 t 0 (E.cel y) → w2.heap.size ≤ t → t < w4.heap.size → e 0 = ptr m → e 6 = ptr r0 → e 8 = ptr t → e 9 = .bool dl → K e w4 := by
      clear e0 e1 e2
      clear e
      intro e w4 t y dl F' hres X4 H4 hF' rt4 ht1 ht2 e0 e6 e8 e9
      refine hK _ _ ?_; clear hK K
      have XX4 : Ext (fun y o => F y o ∨ hF hp y o) w w4 := X2.trans X4 (fun _ _ g => g.elim) fun _ _ _ g => g
      have hmo : ∀ o, ¬ (F m o ∨ hF hp m o) := fun o g => g.elim (hm o) (hmh o)
      have c4 := hM2.cfg.ext X4 fun o _ _ => hmo o
      have wr4 := X4.wok wr2
      have hFm : ∀ y o, F' y o → m < y := fun y o g => by
        rcases hF' y o g with g | g
        · exact hM.above y o g
        · omega
      have hFr : ∀ o, ¬ F' r0 o := fun o g => by
        rcases hF' r0 o g with g | g
        · have := hM.lt _ _ g; omega
        · omega
      refine W_seq ?_
      rcases hres with ⟨rfl, hdl, T4⟩ | ⟨rfl, ys, hdl, T4⟩
      · refine W_sq fun K hK => (W_text [true, true] (by kernel_rfl) ?_); simp only [↓List.toList_toArray, ↓rgd, ↓rgf, ↓reduceIte, Nat.reduceEqDiff, rg, ow_92, e9]
        refine hK _ _ ?_; clear hK K
        refine W_true (by simp only [evt, evc, upd_eq, Nat.reduceEqDiff, ↓reduceIte, ntT, ntF] <;> rfl) ?_
        have z4 := zIt_at c4
        refine W_sq fun K hK => (W_text [true, true, true, true, false, true] (by kernel_rfl) ?_); simp only [↓List.toList_toArray, ↓rgd, ↓rgf, ↓reduceIte, Nat.reduceEqDiff, rg, ow_92, e0, ptr_eq, z4]
        refine do_store (by simp only [evt, evc, upd_eq, Nat.reduceEqDiff, ↓reduceIte]; exact e6) (by simp only [evt, evc, upd_eq, Nat.reduceEqDiff, ↓reduceIte, ntT, ntF] <;> rfl) sz_33 (rb_len zIt) wr4 (by decide) (rb_oc zIt) fun w5 x5 r5 s5 => ⟨trivial, ?_⟩
        simp only [↓List.toList_toArray, ↓rgd, ↓rgf, ↓reduceIte, Nat.reduceEqDiff, rg, ow_92]
        refine hK _ _ ?_; clear hK K
        obtain ⟨h1, h2, h3⟩ := delR_out.1 hdl
        have XX5 : Ext (fun y o => F y o ∨ hF hp y o) w w5 := XX4.trans x5 (fun _ _ g => g) fun y o hy g => by have := g.1; omega
        refine W_ret ?_
        simp only [andThen_ret]
        refine endQ_ct (by simp only [upd_eq, Nat.reduceEqDiff, ↓reduceIte]; exact e6) (by simp only [upd_eq, Nat.reduceEqDiff, ↓reduceIte] <;> rfl) ld_33 (iX_at (show Row w5 r0 0 (E.cel zIt) from r5)) ⟨by rw [h1, h2]; rfl, XX5.mono fun y o _ g => g.imp .inl id, H4.ext x5 fun hb hh o g => by have := hHl hb 0 hh; have := g.1; omega, F', ?_, fun y o g => (hF' y o g).imp id fun g => by omega⟩
        rw [h3]
        have T5 := T4.ext x5 fun y o g k => hFr o (by rw [← k.1]; exact g)
        exact ⟨hM.cfg.ext XX5 fun o _ _ => hmo o, hM.less.ext XX5 (fun y o g => .inl (by rcases g with g | g; have := hM.above y o g; omega; have := (hHF y g).1; omega)) (hmo 6), XX5.rd hM.cnt (hmo 3), hM.asc, .inr ⟨h, b, x5.rd (X4.rd hr2 (hmo 2)) (fun g => by have := g.1; omega), T5⟩, fun o g => by have := hFm m o g; omega, T5.lt, hFm⟩
      · refine W_sq fun K hK => (W_text [true, true] (by kernel_rfl) ?_); simp only [↓List.toList_toArray, ↓rgd, ↓rgf, ↓reduceIte, Nat.reduceEqDiff, rg, ow_92, e9]
        refine hK _ _ ?_; clear hK K
        refine W_false (by simp only [evt, evc, upd_eq, Nat.reduceEqDiff, ↓reduceIte, ntT, ntF] <;> rfl) (W_skip ?_)
        show W _ _ _ _ _ _
        obtain ⟨h1, h2, h3⟩ := delR_out.2 hdl
        have hyl := delR_len hdl
        have hya := delR_asc hM.asc hdl
        have hml4 : m < w4.heap.size := by have := X4.size; omega
        have rm4 : rd w4 m 2 = some (ptr b) := X4.rd hr2 (hmo 2)
        have rc4 : rd w4 m 3 = some (.int .i64 (xs.length : Nat)) := X4.rd hM2.cnt (hmo 3)
        obtain ⟨a, nk, capn, hkn, -, -, hraise⟩ := T4.keys
        have hbF := T4.self
        have htF : ∀ o, ¬ rng m 2 1 t o := fun o g => by have := g.1; omega
        refine W_sqx fun J hJ => ?_
        have hfin : ∀ (e : Env) (w5 : World) (F5 : Nat → Nat → Prop), (ys = [] ∨ ∃ h5 b5, rd w5 m 2 = some (ptr b5) ∧ Tr E iso (d - 1) (2 * d - 1) h5 w5 1 b5 ys F5) → (∀ y o, F5 y o → F' y o) → Ext (rng m 2 1) w4 w5 → e 0 = ptr m → e 6 = ptr r0 → e 8 = ptr t → J e w5 := by
          clear e0 e6 e8 e9
          clear e
          intro e w5 F5 hroot hF5 x5 e0 e6 e8
          refine hJ _ _ ?_; clear hJ J
          have rc5 := x5.rd rc4 fun g => by have := g.2; omega
          have wm5 := x5.wok c4.wok
          have q1 := wsub1 xs.length (by omega) (by omega)
          refine W_sq fun K hK => (W_text [true, true, true, true, true, true, true, false] (by kernel_rfl) ?_); simp only [↓List.toList_toArray, ↓rgd, ↓rgf, ↓reduceIte, Nat.reduceEqDiff, rg, ow_92, e0, ptr_eq, rc5, q1]
          refine do_store (by simp only [evt, evc, upd_eq, Nat.reduceEqDiff, ↓reduceIte, ntT, ntF] <;> rfl) (by simp only [evt, evc, upd_eq, Nat.reduceEqDiff, ↓reduceIte, ntT, ntF] <;> rfl) sz_3 rfl wm5 (by decide) (oc_one rfl rfl) fun w6 x6 r6 s6 => ⟨trivial, ?_⟩
          simp only [↓List.toList_toArray, ↓rgd, ↓rgf, ↓reduceIte, Nat.reduceEqDiff, rg, ow_92]
          refine hK _ _ ?_; clear hK K
          have rc6 : rd w6 m 3 = some (.int .i64 (xs.length - 1 : Nat)) := (Row.cons.1 r6).1
          have G46 : Ext (fun y o => y = m ∧ (o = 2 ∨ o = 3)) w4 w6 := x5.trans x6 (fun y o g => ⟨g.1, by have := g.2; omega⟩) fun y o _ g => ⟨g.1, by have := g.2; omega⟩
          refine W_sqx fun J hJ => ?_
          have hret : ∀ (e : Env) (w7 : World) (F7 : Nat → Nat → Prop), ((ys = [] ∧ rd w7 m 2 = some (.pointer none)) ∨ ∃ h5 b5, rd w7 m 2 = some (ptr b5) ∧ Tr E iso (d - 1) (2 * d - 1) h5 w7 1 b5 ys F7) → (∀ y o, F7 y o → F' y o) → rd w7 m 3 = some (.int .i64 (ys.length : Nat)) → Ext (fun y o => y = m ∧ (o = 2 ∨ o = 3)) w4 w7 → (∀ y o, F7 y o → y < w7.heap.size) → e 6 = ptr r0 → e 8 = ptr t → J e w7 := by
            clear e0 e6 e8
            clear e
            intro e w7 F7 hroot hF7 rc7 x7 hlt7 e6 e8
            refine hJ _ _ ?_; clear hJ J
            have ky := iX_at (x7.row rt4 fun j _ g => by have := g.1; omega)
            refine W_sq fun K hK => (W_text [true, false, true] (by kernel_rfl) ?_); simp only [↓List.toList_toArray, ↓rgd, ↓rgf, ↓reduceIte, Nat.reduceEqDiff, rg, ow_92, e8, ptr_eq, ky]
            refine do_store (by simp only [evt, evc, upd_eq, Nat.reduceEqDiff, ↓reduceIte]; exact e6) (by simp only [evt, evc, upd_eq, Nat.reduceEqDiff, ↓reduceIte, ntT, ntF] <;> rfl) sz_33 (rb_len y) (x7.wok wr4) (by decide) (rb_oc y) fun w8 x8 r8 s8 => ⟨trivial, ?_⟩
            simp only [↓List.toList_toArray, ↓rgd, ↓rgf, ↓reduceIte, Nat.reduceEqDiff, rg, ow_92]
            refine hK _ _ ?_; clear hK K
            have XX7 : Ext (fun y o => mapF m F y o ∨ hF hp y o) w w7 := (XX4.mono fun y o _ g => g.imp .inl id).trans x7 (fun _ _ g => g) fun y o _ g => .inl (.inr g)
            have hne : ∀ o, o ≠ 2 → o ≠ 3 → ¬ (mapF m F m o ∨ hF hp m o) := fun o h2 h3 g => by
              rcases g with (g | g) | g
              · exact hm o g
              · have := g.2; omega
              · exact hmh o g
            have hM7 : TreeAt B ord w7 m d iso ys F7 := ⟨hM.cfg.ext XX7 hne, hM.less.ext XX7 (fun y o g => .inl (by
              rcases g with (g | g) | g
              · have := hM.above y o g; omega
              · have := g.1; omega
              · have := (hHF y g).1; omega)) (hne 6 (by decide) (by decide)), rc7, hya, hroot, fun o g => by have := hFm m o (hF7 _ _ g); omega, hlt7, fun y o g => hFm y o (hF7 y o g)⟩
            refine W_ret ?_
            refine endQ_ct (by simp only [upd_eq, Nat.reduceEqDiff, ↓reduceIte]; exact e6) (by simp only [upd_eq, Nat.reduceEqDiff, ↓reduceIte] <;> rfl) ld_33 (iX_at (show Row w8 r0 0 (E.cel y) from r8)) ⟨by rw [h1, h2]; rfl, XX7.trans x8 (fun _ _ g => g) fun y o hy g => by have := g.1; omega, ?_, F7, ?_, fun y o g => (hF' y o (hF7 y o g)).imp id fun g => by omega⟩
            · refine (H4.ext x7 fun hb hh o g => ?_).ext x8 fun hb hh o g => ?_
              · have := (hHF hb hh).1
                have := g.1; omega
              · have := hHl hb 0 hh
                have := g.1; omega
            · rw [h3]
              exact hM7.extG x8 (fun y o g k => hFr o (by rw [← k.1]; exact hF7 y o g)) fun y o g => by have := g.1; omega
          by_cases hy0 : ys = []
          · have hb : (((xs.length - 1 : Nat) : Int) == 0) = true := by rw [hy0] at hyl; simp at hyl ⊢; omega
            refine W_sq fun K hK => (W_text [true, true, true, true, true] (by kernel_rfl) ?_); simp only [↓List.toList_toArray, ↓rgd, ↓rgf, ↓reduceIte, Nat.reduceEqDiff, rg, ow_92, e0, ptr_eq, rc6, hb]
            refine hK _ _ ?_; clear hK K
            refine W_true (by simp only [evt, evc, upd_eq, Nat.reduceEqDiff, ↓reduceIte, ntT, ntF] <;> rfl) ?_
            refine W_rg fun K hK => (W_text [true, true, true, false] (by kernel_rfl) ?_); simp only [↓List.toList_toArray, ↓rgd, ↓rgf, ↓reduceIte, Nat.reduceEqDiff, rg, ow_92, e0, ptr_eq]
            refine do_store (v := .pointer none) (by simp only [evt, evc, upd_eq, Nat.reduceEqDiff, ↓reduceIte, ntT, ntF] <;> rfl) (by simp only [evt, evc, upd_eq, Nat.reduceEqDiff, ↓reduceIte, ntT, ntF] <;> rfl) sz_96 rfl (x6.wok wm5) (by decide) (oc_one rfl rfl) fun w7 x7 r7 s7 => ⟨trivial, ?_⟩
            simp only [↓List.toList_toArray, ↓rgd, ↓rgf, ↓reduceIte, Nat.reduceEqDiff, rg, ow_92]
            refine hK _ _ ?_; clear hK K
            exact hret _ w7 noF (.inl ⟨hy0, (Row.cons.1 r7).1⟩) (fun _ _ g => g.elim) (by rw [show ys.length = xs.length - 1 by omega]; exact x7.rd rc6 fun g => by have := g.2; omega) (G46.trans x7 (fun _ _ g => g) fun y o _ g => ⟨g.1, by have := g.2; omega⟩) (fun _ _ g => g.elim) (by simp only [upd_eq, Nat.reduceEqDiff, ↓reduceIte]; exact e6) (by simp only [upd_eq, Nat.reduceEqDiff, ↓reduceIte]; exact e8)
          · have hb : (((xs.length - 1 : Nat) : Int) == 0) = false := by
              have : ys.length ≠ 0 := fun h => hy0 (List.eq_nil_of_length_eq_zero h)
              simp; omega
            refine W_sq fun K hK => (W_text [true, true, true, true, true] (by kernel_rfl) ?_); simp only [↓List.toList_toArray, ↓rgd, ↓rgf, ↓reduceIte, Nat.reduceEqDiff, rg, ow_92, e0, ptr_eq, rc6, hb]
            refine hK _ _ ?_; clear hK K
            refine W_false (by simp only [evt, evc, upd_eq, Nat.reduceEqDiff, ↓reduceIte, ntT, ntF] <;> rfl) (W_skip ?_)
            obtain ⟨h5, b5, hr5, T5⟩ := hroot.resolve_left hy0
            have T6 := T5.ext x6 fun y o g k => by have := hFm y o (hF5 y o g); have := k.1; omega
            exact hret _ w6 F5 (.inr ⟨h5, b5, x6.rd hr5 fun g => by have := g.2; omega, T6⟩) hF5 (by rw [show ys.length = xs.length - 1 by omega]; exact rc6) G46 T6.lt (by simp only [upd_eq, Nat.reduceEqDiff, ↓reduceIte]; exact e6) (by simp only [upd_eq, Nat.reduceEqDiff, ↓reduceIte]; exact e8)
        by_cases hn0 : nk = 0
        · subst hn0
          have hb : (((0 : Nat) : Int) == 0) = true := rfl
          rcases T4.open with ⟨bi, oi, cap, ks, ch, ho, -, -, hoF, hin⟩
          have hks : ks = [] := by
            have := ho.h2.symm.trans hkn
            simp only [Option.some.injEq, Value.slice.injEq] at this
            exact List.eq_nil_of_length_eq_zero this.2.1
          rcases hin with ⟨_, hcn, hx, _⟩ | ⟨h', bc, ba, oa, capc, cs, rfl, hcn, n⟩
          · rw [hcn] at ho
            refine W_sq fun K hK => (W_text [true, true, true, true, true, true, true, true, true, true, true, true, true, true, false, true, true] (by kernel_rfl) ?_); simp only [↓List.toList_toArray, ↓rgd, ↓rgf, ↓reduceIte, Nat.reduceEqDiff, rg, ow_92, e0, ptr_eq, rm4, hkn, hb]
            refine do_call fn_108 (by simp only [evt, evc, upd_eq, Nat.reduceEqDiff, ↓reduceIte, maT, maC, maN, isnN, isnS] <;> rfl) (leaf_any b none w4 ho.h3) ?_
            rintro _ w5 ⟨rfl, hw5⟩
            obtain rfl : w4 = w5 := hw5.symm
            refine ⟨trivial, ?_⟩
            simp only [↓List.toList_toArray, ↓rgd, ↓rgf, ↓reduceIte, Nat.reduceEqDiff, rg, ow_92]
            refine hK _ _ ?_; clear hK K
            refine W_false (by simp only [evt, evc, upd_eq, Nat.reduceEqDiff, ↓reduceIte, ntT, ntF] <;> rfl) (W_skip ?_)
            exact hfin _ w4 F' (.inl (hx.trans hks)) (fun _ _ g => g) (Ext.refl _ _) (by simp only [upd_eq, Nat.reduceEqDiff, ↓reduceIte]; exact e0) (by simp only [upd_eq, Nat.reduceEqDiff, ↓reduceIte]; exact e6) (by simp only [upd_eq, Nat.reduceEqDiff, ↓reduceIte]; exact e8)
          · rw [hcn] at ho
            refine W_sq fun K hK => (W_text [true, true, true, true, true, true, true, true, true, true, true, true, true, true, false, true, true] (by kernel_rfl) ?_); simp only [↓List.toList_toArray, ↓rgd, ↓rgf, ↓reduceIte, Nat.reduceEqDiff, rg, ow_92, e0, ptr_eq, rm4, hkn, hb]
            refine do_call fn_108 (by simp only [evt, evc, upd_eq, Nat.reduceEqDiff, ↓reduceIte, maT, maC, maN, isnN, isnS] <;> rfl) (leaf_any b (some ⟨bc, 0, none⟩) w4 ho.h3) ?_
            rintro _ w5 ⟨rfl, hw5⟩
            obtain rfl : w4 = w5 := hw5.symm
            refine ⟨trivial, ?_⟩
            simp only [↓List.toList_toArray, ↓rgd, ↓rgf, ↓reduceIte, Nat.reduceEqDiff, rg, ow_92]
            refine hK _ _ ?_; clear hK K
            refine W_true (by simp only [evt, evc, upd_eq, Nat.reduceEqDiff, ↓reduceIte, ntT, ntF] <;> rfl) ?_
            have hl1 : cs.length = 1 := by rw [n.len, hks]; rfl
            obtain ⟨c, rfl⟩ := List.length_eq_one_iff.1 hl1
            have hk0 : rd w4 bc 0 = some (.slice (some ⟨ba, oa, none⟩) 1 capc) := n.kids.c0
            have i0 := ix0 1 ba oa 1 (by decide)
            have hce := n.kids.se.ptr_at (j := 0) (p := c.b) rfl
            rw [Nat.add_zero] at hce
            have hyc : ys = c.xs := by rw [n.eq, hks]; rfl
            have hcF : ∀ y o, c.F y o → F' y o := fun y o g => (n.fp y o).2 (.inr (.inr ⟨c, by simp, g⟩))
            refine W_rg fun K hK => (W_text [true, true, true, true, true, true, true, true, true, true, true, true, true, true, false] (by kernel_rfl) ?_); simp only [↓List.toList_toArray, ↓rgd, ↓rgf, ↓reduceIte, Nat.reduceEqDiff, rg, ow_92, e0, ptr_eq, rm4, ho.h3, hk0, i0, hce]
            refine do_store (v := ptr c.b) (by simp only [evt, evc, upd_eq, Nat.reduceEqDiff, ↓reduceIte, ntT, ntF] <;> rfl) (by simp only [evt, evc, upd_eq, Nat.reduceEqDiff, ↓reduceIte, ntT, ntF] <;> rfl) sz_96 rfl c4.wok (by decide) (oc_one rfl rfl) fun w5 x5 r5 s5 => ⟨trivial, ?_⟩
            simp only [↓List.toList_toArray, ↓rgd, ↓rgf, ↓reduceIte, Nat.reduceEqDiff, rg, ow_92]
            refine hK _ _ ?_; clear hK K
            refine hfin _ w5 c.F (.inr ⟨h', c.b, (Row.cons.1 r5).1, ?_⟩) hcF x5 (by simp only [upd_eq, Nat.reduceEqDiff, ↓reduceIte]; exact e0) (by simp only [upd_eq, Nat.reduceEqDiff, ↓reduceIte]; exact e6) (by simp only [upd_eq, Nat.reduceEqDiff, ↓reduceIte]; exact e8)
            rw [hyc]
            exact ((n.sub c (by simp)).mono (by omega)).ext x5 fun y o g k => by have := hFm y o (hcF y o g); have := k.1; omega
        · have hb : ((nk : Int) == 0) = false := by simp; omega
          refine W_sq fun K hK => (W_text [true, true, true, true, true, true, true, true, true, true, true, true, true, true, false, true, true] (by kernel_rfl) ?_); simp only [↓List.toList_toArray, ↓rgd, ↓rgf, ↓reduceIte, Nat.reduceEqDiff, rg, ow_92, e0, ptr_eq, rm4, hkn, hb]
          refine hK _ _ ?_; clear hK K
          refine W_false (by simp only [evt, evc, upd_eq, Nat.reduceEqDiff, ↓reduceIte, ntT, ntF] <;> rfl) (W_skip ?_)
          exact hfin _ w4 F' (.inr ⟨h, b, rm4, hraise 1 (by omega)⟩) (fun _ _ g => g) (Ext.refl _ _) (by simp only [upd_eq, Nat.reduceEqDiff, ↓reduceIte]; exact e0) (by simp only [upd_eq, Nat.reduceEqDiff, ↓reduceIte]; exact e6) (by simp only [upd_eq, Nat.reduceEqDiff, ↓reduceIte]; exact e8)
    refine ⟨?_, ?_⟩
    · refine do_call fn_126 (by simp only [evt, evc, upd_eq, Nat.reduceEqDiff, ↓reduceIte, maT, maC, maN, isnN, isnS] <;> rfl) (del_any B m d iso ord hd hd' h 1 b xs F _ m 2 false x hp 0 (hM2.cfg.ext D fun _ _ _ g => g) (hM2.less.ext0 D) hM2.above (by omega) (by omega) (ht.ext D fun _ _ _ g => g) hM2.asc hbig (D.rd hr2 fun g => g) (H2.ext0 D) hHF) ?_
      rintro _ w3 ⟨X3, H3, F', hF', hres⟩
      have s3 := X3.size
      have s3' : w2.heap.size ≤ w3.heap.size := s3
      rcases hres with ⟨hd0, rfl, T3⟩ | ⟨y, ys, hd1, rfl, T3⟩
      · refine ⟨.inr (keeps_on X3 fun a ha => by obtain rfl := List.mem_singleton.1 ha; exact ⟨by rw [sz_dr]; omega, hkF⟩), ?_⟩
        simp only [↓List.toList_toArray, ↓rgd, ↓rgf, ↓reduceIte, Nat.reduceEqDiff, rg, ow_92]
        refine do_alloc dz_it fun w4 n4 => ⟨.inr (n4.keep _ (lt1 (by omega))), ?_⟩
        simp only [↓List.toList_toArray, ↓rgd, ↓rgf, ↓reduceIte, Nat.reduceEqDiff, rg, ow_92]
        have s4 := n4.size
        refine do_store (by simp only [evt, evc, upd_eq, Nat.reduceEqDiff, ↓reduceIte, ntT, ntF] <;> rfl) (by simp only [evt, evc, upd_eq, Nat.reduceEqDiff, ↓reduceIte, ntT, ntF] <;> rfl) sz_33 (rb_len zIt) n4.wok (by decide) (rb_oc zIt) fun w5 x5 r5 s5 => ⟨.inr (keeps_on x5 fun a ha => by obtain rfl := List.mem_singleton.1 ha; exact ⟨by omega, fun o g => by have := g.1; omega⟩), ?_⟩
        simp only [↓List.toList_toArray, ↓rgd, ↓rgf, ↓reduceIte, Nat.reduceEqDiff, rg, ow_92]
        have X35 : Ext noF w3 w5 := noF_of n4.ext x5 fun y o hy g => by have := g.1; omega
        exact hjoin _ w5 w3.heap.size zIt false F' (.inl ⟨rfl, hd0, T3.ext X35 fun _ _ _ g => g⟩) (X3.od.trans X35 (fun _ _ g => g) fun _ _ _ g => g.elim) (H3.ext0 X35) hF' r5 s3' (by omega) (by simp only [upd_eq, Nat.reduceEqDiff, ↓reduceIte]; exact e0) (by simp only [upd_eq, Nat.reduceEqDiff, ↓reduceIte] <;> rfl) (by simp only [upd_eq, Nat.reduceEqDiff, ↓reduceIte] <;> rfl) (by simp only [upd_eq, Nat.reduceEqDiff, ↓reduceIte] <;> rfl)
      · refine ⟨.inr (keeps_on X3 fun a ha => by obtain rfl := List.mem_singleton.1 ha; exact ⟨by rw [sz_dr]; omega, hkF⟩), ?_⟩
        simp only [↓List.toList_toArray, ↓rgd, ↓rgf, ↓reduceIte, Nat.reduceEqDiff, rg, ow_92]
        refine do_alloc dz_it fun w4 n4 => ⟨.inr (n4.keep _ (lt1 (by omega))), ?_⟩
        simp only [↓List.toList_toArray, ↓rgd, ↓rgf, ↓reduceIte, Nat.reduceEqDiff, rg, ow_92]
        have s4 := n4.size
        refine do_store (by simp only [evt, evc, upd_eq, Nat.reduceEqDiff, ↓reduceIte, ntT, ntF] <;> rfl) (by simp only [evt, evc, upd_eq, Nat.reduceEqDiff, ↓reduceIte, ntT, ntF] <;> rfl) sz_33 (rb_len y) n4.wok (by decide) (rb_oc y) fun w5 x5 r5 s5 => ⟨.inr (keeps_on x5 fun a ha => by obtain rfl := List.mem_singleton.1 ha; exact ⟨by omega, fun o g => by have := g.1; omega⟩), ?_⟩
        simp only [↓List.toList_toArray, ↓rgd, ↓rgf, ↓reduceIte, Nat.reduceEqDiff, rg, ow_92]
        have X35 : Ext noF w3 w5 := noF_of n4.ext x5 fun y o hy g => by have := g.1; omega
        exact hjoin _ w5 w3.heap.size y true F' (.inr ⟨rfl, ys, hd1, T3.ext X35 fun _ _ _ g => g⟩) (X3.od.trans X35 (fun _ _ g => g) fun _ _ _ g => g.elim) (H3.ext0 X35) hF' r5 s3' (by omega) (by simp only [upd_eq, Nat.reduceEqDiff, ↓reduceIte]; exact e0) (by simp only [upd_eq, Nat.reduceEqDiff, ↓reduceIte] <;> rfl) (by simp only [upd_eq, Nat.reduceEqDiff, ↓reduceIte] <;> rfl) (by simp only [upd_eq, Nat.reduceEqDiff, ↓reduceIte] <;> rfl)
    · refine do_alloc dz_it fun w3 n3 => ⟨.inr (n3.keep _ (lt1 (by rw [sz_dr]; omega))), ?_⟩
      simp only [↓List.toList_toArray, ↓rgd, ↓rgf, ↓reduceIte, Nat.reduceEqDiff, rg, ow_92]
      have n3' := n3.od
      have x3 := n3'.ext
      have s3 := n3'.size
      refine do_call fn_126 (by simp only [evt, evc, upd_eq, Nat.reduceEqDiff, ↓reduceIte, maT, maC, maN, isnN, isnS] <;> rfl) (del_any B m d iso ord hd hd' h 1 b xs F w3 m 2 false x hp 0 (hM2.cfg.ext x3 fun _ _ _ g => g) (hM2.less.ext0 x3) hM2.above (by omega) (by omega) (ht.ext x3 fun _ _ _ g => g) hM2.asc hbig (x3.rd hr2 fun g => g) (H2.ext0 x3) hHF) ?_
      rintro _ w4 ⟨X4, H4, F', hF', hres⟩
      have s4 := X4.size
      have X24 : Ext (fun y o => F y o ∨ hF hp y o) w2 w4 := x3.trans X4 (fun _ _ g => g.elim) fun _ _ _ g => g
      have hF'' : ∀ y o, F' y o → F y o ∨ w2.heap.size ≤ y := fun y o g => (hF' y o g).imp id fun g => by omega
      have hF't : ∀ o, ¬ F' w2.heap.size o := fun o g => by
        rcases hF' _ o g with g | g
        · have := hM2.lt _ _ g; omega
        · omega
      have hHt : ∀ hb, hp = some hb → hb < w2.heap.size := fun hb hh => by have := hHl hb 0 hh; omega
      rcases hres with ⟨hd0, rfl, T4⟩ | ⟨y, ys, hd1, rfl, T4⟩
      · refine ⟨.inr (keeps_on X4 fun a ha => by obtain rfl := List.mem_singleton.1 ha; exact ⟨by omega, hkF⟩), ?_⟩
        simp only [↓List.toList_toArray, ↓rgd, ↓rgf, ↓reduceIte, Nat.reduceEqDiff, rg, ow_92]
        refine do_store (by simp only [evt, evc, upd_eq, Nat.reduceEqDiff, ↓reduceIte, ntT, ntF] <;> rfl) (by simp only [evt, evc, upd_eq, Nat.reduceEqDiff, ↓reduceIte, ntT, ntF] <;> rfl) sz_33 (rb_len zIt) (X4.wok n3.wok) (by decide) (rb_oc zIt) fun w5 x5 r5 s5 => ⟨.inr (keeps_on x5 fun a ha => by obtain rfl := List.mem_singleton.1 ha; exact ⟨by omega, fun o g => by have := g.1; rw [sz_dr] at this; omega⟩), ?_⟩
        simp only [↓List.toList_toArray, ↓rgd, ↓rgf, ↓reduceIte, Nat.reduceEqDiff, rg, ow_92]
        exact hjoin _ w5 w2.heap.size zIt false F' (.inl ⟨rfl, hd0, T4.ext x5 fun y o g k => hF't o (by rw [← show y = w2.heap.size from k.1]; exact g)⟩) (X24.trans x5 (fun _ _ g => g) fun y o hy g => by have : y = w2.heap.size := g.1; omega) (H4.ext x5 fun hb hh o g => by have := hHt hb hh; have : hb = w2.heap.size := g.1; omega) hF'' r5 (Nat.le_refl _) (by omega) (by simp only [upd_eq, Nat.reduceEqDiff, ↓reduceIte]; exact e0) (by simp only [upd_eq, Nat.reduceEqDiff, ↓reduceIte] <;> rfl) (by simp only [upd_eq, Nat.reduceEqDiff, ↓reduceIte] <;> rfl) (by simp only [upd_eq, Nat.reduceEqDiff, ↓reduceIte] <;> rfl)
      · refine ⟨.inr (keeps_on X4 fun a ha => by obtain rfl := List.mem_singleton.1 ha; exact ⟨by omega, hkF⟩), ?_⟩
        simp only [↓List.toList_toArray, ↓rgd, ↓rgf, ↓reduceIte, Nat.reduceEqDiff, rg, ow_92]
        refine do_store (by simp only [evt, evc, upd_eq, Nat.reduceEqDiff, ↓reduceIte, ntT, ntF] <;> rfl) (by simp only [evt, evc, upd_eq, Nat.reduceEqDiff, ↓reduceIte, ntT, ntF] <;> rfl) sz_33 (rb_len y) (X4.wok n3.wok) (by decide) (rb_oc y) fun w5 x5 r5 s5 => ⟨.inr (keeps_on x5 fun a ha => by obtain rfl := List.mem_singleton.1 ha; exact ⟨by omega, fun o g => by have := g.1; rw [sz_dr] at this; omega⟩), ?_⟩
        simp only [↓List.toList_toArray, ↓rgd, ↓rgf, ↓reduceIte, Nat.reduceEqDiff, rg, ow_92]
        exact hjoin _ w5 w2.heap.size y true F' (.inr ⟨rfl, ys, hd1, T4.ext x5 fun y o g k => hF't o (by rw [← show y = w2.heap.size from k.1]; exact g)⟩) (X24.trans x5 (fun _ _ g => g) fun y o hy g => by have : y = w2.heap.size := g.1; omega) (H4.ext x5 fun hb hh o g => by have := hHt hb hh; have : hb = w2.heap.size := g.1; omega) hF'' r5 (Nat.le_refl _) (by omega) (by simp only [upd_eq, Nat.reduceEqDiff, ↓reduceIte]; exact e0) (by simp only [upd_eq, Nat.reduceEqDiff, ↓reduceIte] <;> rfl) (by simp only [upd_eq, Nat.reduceEqDiff, ↓reduceIte] <;> rfl) (by simp only [upd_eq, Nat.reduceEqDiff, ↓reduceIte] <;> rfl)
set_option maxHeartbeats 400000 in
set_option maxRecDepth 8000 in
theorem delHint_any (B m d : Nat) (iso : Int) (ord : List Int) (x : It) (hp : Option Nat) (hd : 2 ≤ d) (hd' : d ≤ 128) (xs : List It) (F : Nat → Nat → Prop) (w : World) (hM : TreeAt B ord w m d iso xs F) (hbig : xs.length < 1152921504606846976) (hH : HOk hp w) (hHF : ∀ hb, hp = some hb → m < hb ∧ ∀ o, ¬ F hb o) :
    CallK Try.prog 57 #[ptr m, itV x, hV hp] w fun v w' => v = .tuple #[itV ((at? O (rkI ord) (rkI ord x) xs).getD zIt), .bool (hit O (rkI ord) (rkI ord x) xs)] ∧ Ext (fun y o => mapF m F y o ∨ hF hp y o) w w' ∧ HOk hp w' ∧
      ∃ F', TreeAt B ord w' m d iso (del O (rkI ord) (rkI ord x) xs) F' ∧ ∀ y o, F' y o → F y o ∨ w.heap.size ≤ y := by
  have hml := hM.mlt
  refine calls_of_W [.cell 6 33, .tmp 7] Try.func57 rfl Try.ntmps57 Try.results57 (by simp) fun e he => ?_
  have e0 : e 0 = ptr m := he 0 _ rfl
  have e1 : e 1 = itV x := he 1 _ rfl
  have e2 : e 2 = hV hp := he 2 _ rfl
  clear he
  refine W_sq fun K hK => (W_text [false, false, true] (by kernel_rfl) ?_); simp only [↓List.toList_toArray, ↓rgd, ↓rgf, ↓reduceIte, Nat.reduceEqDiff, rg, ow_57]
  refine do_box (by simp only [evt]; exact e1) fun w1 n1 => ⟨trivial, ?_⟩
  simp only [↓List.toList_toArray, ↓rgd, ↓rgf, ↓reduceIte, Nat.reduceEqDiff, rg, ow_57]
  refine do_alloc dz_it fun w2 n2 => ⟨trivial, ?_⟩
  simp only [↓List.toList_toArray, ↓rgd, ↓rgf, ↓reduceIte, Nat.reduceEqDiff, rg, ow_57]
  refine hK _ _ ?_; clear hK K
  have s1 := n1.size
  have s2 := n2.size
  have X2 : Ext noF w w2 := n1.ext.tr n2.ext
  have ix := iX_at (n2.ext.row (show Row w1 w.heap.size 0 (E.cel x) from n1.row) fun _ _ h => h)
  refine W_seq ?_
  refine W_sq fun K hK => (W_text [true, false] (by kernel_rfl) ?_); simp only [↓List.toList_toArray, ↓rgd, ↓rgf, ↓reduceIte, Nat.reduceEqDiff, rg, ow_57, e0]
  refine do_call fn_91 (by simp only [evt, evc, upd_eq, Nat.reduceEqDiff, ↓reduceIte, maT, maC, maN, isnN, isnS] <;> rfl) (lock_any _ _ w2) ?_
  rintro _ w2' ⟨rfl, hw2⟩
  obtain rfl : w2 = w2' := hw2
  refine ⟨trivial, ?_⟩
  simp only [↓List.toList_toArray, ↓rgd, ↓rgf, ↓reduceIte, Nat.reduceEqDiff, rg, ow_57]
  refine hK _ _ ?_; clear hK K
  refine W_false (by simp only [evt, evc, upd_eq, Nat.reduceEqDiff, ↓reduceIte, ntT, ntF] <;> rfl) (W_skip ?_)
  show W _ _ _ _ _ _
  refine W_sq fun K hK => (W_text [true, true, true, false, true, true, false, true] (by kernel_rfl) ?_); simp only [↓List.toList_toArray, ↓rgd, ↓rgf, ↓reduceIte, Nat.reduceEqDiff, rg, ow_57, e0, e2, ix]
  refine do_call fn_92 (by simp only [evt, evc, upd_eq, Nat.reduceEqDiff, ↓reduceIte, maT, maC, maN, isnN, isnS] <;> rfl) (delH_any B m d iso ord x hp hd hd' xs F w2 (hM.ext X2) hbig (hH.ext0 X2) hHF) ?_
  rintro _ w3 ⟨rfl, x3, H3, F', hM', hF'⟩
  refine ⟨trivial, ?_⟩
  simp only [↓List.toList_toArray, ↓rgd, ↓rgf, ↓reduceIte, Nat.reduceEqDiff, rg, ow_57]
  have s3 := x3.size
  have hF2 : ∀ y o, F' y o → y ≠ w1.heap.size := fun y o g k => by
    subst k
    rcases hF' _ o g with g | g
    · have := hM.lt _ _ g; omega
    · omega
  refine do_store (by simp only [evt, evc, upd_eq, Nat.reduceEqDiff, ↓reduceIte, ntT, ntF] <;> rfl) (by simp only [evt, evc, upd_eq, Nat.reduceEqDiff, ↓reduceIte, ntT, ntF] <;> rfl) sz_33 (rb_len _) (x3.wok n2.wok) (by decide) (rb_oc _) fun w4 x4 r4 s4 => ⟨trivial, ?_⟩
  simp only [↓List.toList_toArray, ↓rgd, ↓rgf, ↓reduceIte, Nat.reduceEqDiff, rg, ow_57]
  refine hK _ _ ?_; clear hK K
  refine W_ret (endQ_ct (by simp only [upd_eq, Nat.reduceEqDiff, ↓reduceIte] <;> rfl) (by simp only [upd_eq, Nat.reduceEqDiff, ↓reduceIte] <;> rfl) ld_33 (iX_at (show Row w4 w1.heap.size 0 (E.cel ((at? O (rkI ord) (rkI ord x) xs).getD zIt)) from r4)) ⟨rfl, (X2.trans x3 (fun _ _ g => g.elim) fun _ _ _ g => g).trans x4 (fun _ _ g => g) fun y o hy g => by (have := g.1; omega), H3.ext x4 fun hb hh o g => by have := wok_lt (hH hb hh).wok; have := g.1; omega, F',
    hM'.extG x4 (fun y o g k => hF2 y o g k.1) (fun y o g => by have := g.1; omega), fun y o g => (hF' y o g).imp id fun g => by omega⟩)
set_option maxHeartbeats 400000 in
set_option maxRecDepth 8000 in
theorem delete_any (B m d : Nat) (iso : Int) (ord : List Int) (x : It) (hd : 2 ≤ d) (hd' : d ≤ 128) (xs : List It) (F : Nat → Nat → Prop) (w : World) (hM : TreeAt B ord w m d iso xs F) (hbig : xs.length < 1152921504606846976) :
    CallK Try.prog 45 #[ptr m, itV x] w fun v w' => v = .tuple #[itV ((at? O (rkI ord) (rkI ord x) xs).getD zIt), .bool (hit O (rkI ord) (rkI ord x) xs)] ∧ Ext (mapF m F) w w' ∧ 
      ∃ F', TreeAt B ord w' m d iso (del O (rkI ord) (rkI ord x) xs) F' ∧ ∀ y o, F' y o → F y o ∨ w.heap.size ≤ y := by
  have hml := hM.mlt
  refine calls_of_W [.cell 4 33, .tmp 5] Try.func45 rfl Try.ntmps45 Try.results45 (by simp) fun e he => ?_
  have e0 : e 0 = ptr m := he 0 _ rfl
  have e1 : e 1 = itV x := he 1 _ rfl
  clear he
  refine W_sq fun K hK => (W_text [false, false, true] (by kernel_rfl) ?_); simp only [↓List.toList_toArray, ↓rgd, ↓rgf, ↓reduceIte, Nat.reduceEqDiff, rg, ow_45]
  refine do_box (by simp only [evt]; exact e1) fun w1 n1 => ⟨trivial, ?_⟩
  simp only [↓List.toList_toArray, ↓rgd, ↓rgf, ↓reduceIte, Nat.reduceEqDiff, rg, ow_45]
  refine do_alloc dz_it fun w2 n2 => ⟨trivial, ?_⟩
  simp only [↓List.toList_toArray, ↓rgd, ↓rgf, ↓reduceIte, Nat.reduceEqDiff, rg, ow_45]
  refine hK _ _ ?_; clear hK K
  have s1 := n1.size
  have s2 := n2.size
  have X2 : Ext noF w w2 := n1.ext.tr n2.ext
  have ix := iX_at (n2.ext.row (show Row w1 w.heap.size 0 (E.cel x) from n1.row) fun _ _ h => h)
  refine W_sq fun K hK => (W_text [true, true, false, true, true, false, true] (by kernel_rfl) ?_); simp only [↓List.toList_toArray, ↓rgd, ↓rgf, ↓reduceIte, Nat.reduceEqDiff, rg, ow_45, e0, ix]
  refine do_call fn_57 (by simp only [evt, evc, upd_eq, Nat.reduceEqDiff, ↓reduceIte, maT, maC, maN, isnN, isnS] <;> rfl) (delHint_any B m d iso ord x none hd hd' xs F w2 (hM.ext X2) hbig (HOk.none _) fun hb hh => by cases hh) ?_
  rintro _ w3 ⟨rfl, x3, H3, F', hM', hF'⟩
  refine ⟨trivial, ?_⟩
  simp only [↓List.toList_toArray, ↓rgd, ↓rgf, ↓reduceIte, Nat.reduceEqDiff, rg, ow_45]
  have s3 := x3.size
  have hF2 : ∀ y o, F' y o → y ≠ w1.heap.size := fun y o g k => by
    subst k
    rcases hF' _ o g with g | g
    · have := hM.lt _ _ g; omega
    · omega
  refine do_store (by simp only [evt, evc, upd_eq, Nat.reduceEqDiff, ↓reduceIte, ntT, ntF] <;> rfl) (by simp only [evt, evc, upd_eq, Nat.reduceEqDiff, ↓reduceIte, ntT, ntF] <;> rfl) sz_33 (rb_len _) (x3.wok n2.wok) (by decide) (rb_oc _) fun w4 x4 r4 s4 => ⟨trivial, ?_⟩
  simp only [↓List.toList_toArray, ↓rgd, ↓rgf, ↓reduceIte, Nat.reduceEqDiff, rg, ow_45]
  refine hK _ _ ?_; clear hK K
  refine W_ret (endQ_ct (by simp only [upd_eq, Nat.reduceEqDiff, ↓reduceIte] <;> rfl) (by simp only [upd_eq, Nat.reduceEqDiff, ↓reduceIte] <;> rfl) ld_33 (iX_at (show Row w4 w1.heap.size 0 (E.cel ((at? O (rkI ord) (rkI ord x) xs).getD zIt)) from r4)) ⟨rfl, (X2.trans x3 (fun _ _ g => g.elim) fun y o _ g => g.elim id fun g => by cases g).trans x4 (fun _ _ g => g) fun y o hy g => by (have := g.1; omega), F',
    hM'.extG x4 (fun y o g k => hF2 y o g k.1) (fun y o g => by have := g.1; omega), fun y o g => (hF' y o g).imp id fun g => by omega⟩)
end Go.Proofs.Ytbnnkcofnmipoaa
/-
  Deletions one after the other. No condition.
-/
set_option linter.unusedSimpArgs false
set_option linter.unusedVariables false
namespace Go.Proofs.Ytbnnkcofnmipoaa
open Go Go.Proofs
theorem tuple_lt' {sz n : Nat} {w : World} {v : Value} {l : List Value} (h : SlV w sz v n l) {ka : Option Addr} {kc : Nat} (hv : v = .slice ka n kc) : ∀ (B : Nat), w.heap.size ≤ B → ∀ b o, ka = some ⟨b, o, none⟩ → b < B := fun B hB b o ha => by
  have := h.lt (hv.trans (by rw [ha])); omega
/-- What is left behind deletions, and what they answer. -/
def dels (ord : List Int) (T ks : List It) : List It := ks.foldl (fun xs x => del O (rkI ord) (rkI ord x) xs) T
def dreps (ord : List Int) : List It → List It → List (It × Bool)
  | _, [] => []
  | xs, x :: l => foO (at? O (rkI ord) (rkI ord x) xs) :: dreps ord (del O (rkI ord) (rkI ord x) xs) l
theorem dels_snoc (ord : List Int) (T ks : List It) (x : It) : dels ord T (ks ++ [x]) = del O (rkI ord) (rkI ord x) (dels ord T ks) := by simp [dels]
theorem dreps_snoc (ord : List Int) (x : It) : ∀ (l xs : List It), dreps ord xs (l ++ [x]) = dreps ord xs l ++ [foO (at? O (rkI ord) (rkI ord x) (dels ord xs l))]
  | [], _ => rfl
  | y :: l, xs => by simp only [List.cons_append, dreps, dreps_snoc ord x l, dels, List.foldl_cons]
theorem dreps_length (ord : List Int) : ∀ (l xs : List It), (dreps ord xs l).length = l.length
  | [], _ => rfl
  | x :: l, xs => by simp [dreps, dreps_length ord l]
theorem del_len (ord : List Int) (x : It) (xs : List It) : (del O (rkI ord) (rkI ord x) xs).length ≤ xs.length := by
  unfold del; split
  · exact List.length_eraseIdx_le ..
  · exact Nat.le_refl _
theorem dels_len (ord : List Int) : ∀ (ks T : List It), (dels ord T ks).length ≤ T.length
  | [], _ => Nat.le_refl _
  | x :: ks, T => Nat.le_trans (dels_len ord ks (del O (rkI ord) (rkI ord x) T)) (del_len ord x T)
set_option maxHeartbeats 1600000 in
set_option maxRecDepth 8000 in
theorem impl_gdelete (d : Nat) (hd : DOk d) (ord : List Int) (sv : Value) (nl : Bool) (l : List It) (lv : Value) (ks : List It) (kv : Value) (w : World) (hs : SlInt w sv ord) (hsb : ord.length ≤ 2147483647) (hl : SlI w lv l) (hlb : l.length ≤ 2147483647) (hks : SlI w kv ks) (hkb : ks.length ≤ 2147483647) :
    CallK Try.prog 15 #[mkV sv d nl, lv, kv] w fun v w' => ∃ v1 v2, v = .tuple #[v1, v2] ∧ SlV w' 3 v1 (dreps ord (treeG ord l) ks).length (flat Ef (dreps ord (treeG ord l) ks)) ∧ SlI w' v2 (dels ord (treeG ord l) ks) ∧ Ext noF w w' := by
  refine calls_of_W [.tmp 6, .tmp 7] Try.func15 rfl Try.ntmps15 Try.results15 (by simp) fun e he => ?_
  have e0 : e 0 = mkV sv d nl := he 0 _ rfl
  have e1 : e 1 = lv := he 1 _ rfl
  have e2 : e 2 = kv := he 2 _ rfl
  clear he
  obtain ⟨ka, kc, hkv⟩ := hks.shape
  rw [hkv] at e2
  obtain ⟨hd2, hd3⟩ := hd.of
  refine W_sq fun K hK => (W_text [false, true, true] (by kernel_rfl) ?_); simp only [↓List.toList_toArray, ↓rgd, ↓rgf, ↓reduceIte, Nat.reduceEqDiff, rg, ow_15]
  refine do_box (by simp only [evt]; exact e0) fun w1 n1 => ⟨trivial, ?_⟩
  simp only [↓List.toList_toArray, ↓rgd, ↓rgf, ↓reduceIte, Nat.reduceEqDiff, rg, ow_15]
  refine hK _ _ ?_; clear hK K
  have rm := mk_at (show Row w1 w.heap.size 0 (mkL sv d nl) from n1.row)
  refine W_sq fun K hK => (W_text [true, true, false, true] (by kernel_rfl) ?_); simp only [↓List.toList_toArray, ↓rgd, ↓rgf, ↓reduceIte, Nat.reduceEqDiff, rg, ow_15, e1, rm]
  refine do_call fn_43 (by simp only [evt, evc, upd_eq, Nat.reduceEqDiff, ↓reduceIte, maT, maC, maN, isnN, isnS] <;> rfl) (growG_any d hd ord sv nl l lv w1 (SlV.ext0 hs n1.ext) hsb (SlV.ext0 hl n1.ext) (by omega)) ?_
  rintro _ w0 ⟨X2, A, m, F, rfl, hM0, hm, hFs⟩
  have X02 := n1.ext.tr X2
  have s1 := n1.size
  have s02 := X02.size
  refine ⟨trivial, ?_⟩
  simp only [↓List.toList_toArray, ↓rgd, ↓rgf, ↓reduceIte, Nat.reduceEqDiff, rg, ow_15]
  refine hK _ _ ?_; clear hK K
  refine W_sq fun K hK => (W_text [true] (by kernel_rfl) ?_); simp only [↓List.toList_toArray, ↓rgd, ↓rgf, ↓reduceIte, Nat.reduceEqDiff, rg, ow_15]
  refine hK _ _ ?_; clear hK K
  have hk0 : SlI w0 kv ks := SlV.ext0 hks X02
  have hml := hM0.mlt
  have htl0 := treeG_len ord l
  obtain ⟨B, hB⟩ : ∃ B, B = m + 1 := ⟨_, rfl⟩
  have hfill : Fill B A m (degOf d) ord none (.slice none 0 0) (dels ord (treeG ord l) (ks.take 0)) (dreps ord (treeG ord l) (ks.take 0)) w0 := Fill.start hM0 (fun y o g => by have := hM0.above y o g; omega) (HOk.none _) ⟨by omega, by omega, fun _ h => by cases h⟩
  have hkl : ∀ b o n c, kv = .slice (some ⟨b, o, none⟩) n c → b < w.heap.size := fun b o n c h => SlV.lt hks h
  clear hM0 X2 n1

  refine W_seq (W_seq ?_)
  refine W_rg fun K hK => (W_text [true, true, true] (by kernel_rfl) ?_); simp only [↓List.toList_toArray, ↓rgd, ↓rgf, ↓reduceIte, Nat.reduceEqDiff, rg, ow_15, e2]
  refine hK _ _ ?_; clear hK K
  show W _ _ _ _ _ _
  refine W_block (W_loop (fun mm e w' => ∃ k : Nat, mm = ks.length - k ∧ k ≤ ks.length ∧ e 15 = .slice ka ks.length kc ∧ e 16 = .int .i64 ks.length ∧ e 17 = .int .i64 k ∧ e 8 = ptr m ∧ Fill B A m (degOf d) ord none (e 9) (dels ord (treeG ord l) (ks.take k)) (dreps ord (treeG ord l) (ks.take k)) w' ∧ Ext (fillF B m none) w0 w')
    ks.length ⟨0, by simp, by simp, by simp only [upd_eq, Nat.reduceEqDiff, ↓reduceIte], by simp only [upd_eq, Nat.reduceEqDiff, ↓reduceIte], by simp only [upd_eq, Nat.reduceEqDiff, ↓reduceIte]; rfl, by simp only [upd_eq, Nat.reduceEqDiff, ↓reduceIte], by simp only [upd_eq, Nat.reduceEqDiff, ↓reduceIte]; exact hfill, Ext.refl _ _⟩ ?_)
  clear hfill e0 e1 e2 e
  rintro mm e w' ⟨k, rfl, hk, eS, eL, eI, eM, hfl, X⟩
  by_cases hlt : k < ks.length
  · have ht := lt_tt k ks.length hlt
    refine W_sq fun K hK => (W_text [true] (by kernel_rfl) ?_); simp only [↓List.toList_toArray, ↓rgd, ↓rgf, ↓reduceIte, Nat.reduceEqDiff, rg, ow_15, eL, eI, ht]
    refine hK _ _ ?_; clear hK K
    refine W_seq (W_true (by simp only [evt, evc, upd_eq, Nat.reduceEqDiff, ↓reduceIte, ntT, ntF] <;> rfl) (W_skip ?_))
    show W _ _ _ _ _ _
    obtain ⟨x, hx⟩ : ∃ x, ks[k]? = some x := ⟨_, List.getElem?_eq_getElem hlt⟩
    obtain ⟨ib, io, hka, row⟩ := hk0.at hkv hlt
    have hibl := hk0.lt (hkv.trans (by rw [hka]))
    have ixx := it_at (X.row row (fun _ _ h => by have := hkl _ _ _ _ (hkv.trans (by rw [hka])); rcases h with h | h | h <;> first | omega | cases h)) hx
    rw [hka] at eS
    refine W_seq (W_block ?_)
    refine W_sq fun K hK => (W_text [true, true, false, false] (by kernel_rfl) ?_); simp only [↓List.toList_toArray, ↓rgd, ↓rgf, ↓reduceIte, Nat.reduceEqDiff, rg, ow_15, eS, eI, hlt, ixx]
    refine do_alloc z_it fun w2 n2 => ⟨trivial, ?_⟩
    simp only [↓List.toList_toArray, ↓rgd, ↓rgf, ↓reduceIte, Nat.reduceEqDiff, rg, ow_15]
    refine do_store (v := itV x) (by simp only [evt, evc, upd_eq, Nat.reduceEqDiff, ↓reduceIte, ntT, ntF] <;> rfl) (by simp only [evt, evc, upd_eq, Nat.reduceEqDiff, ↓reduceIte, ntT, ntF] <;> rfl) sz_33 rfl n2.wok (by decide) (itV_oc x) fun w3 x3 r3 s3 => ⟨trivial, ?_⟩
    simp only [↓List.toList_toArray, ↓rgd, ↓rgf, ↓reduceIte, Nat.reduceEqDiff, rg, ow_15]
    refine hK _ _ ?_; clear hK K
    have s2 := n2.size
    have X3 : Ext noF w' w3 := noF_of n2.ext x3 fun y o hy h => by simp only [rng] at h; omega
    have s3 := X3.size
    have ix3 := iX_at (show Row w3 w'.heap.size 0 (E.cel x) from r3)
    rw [← hka] at eS
    have sX := X.size
    obtain ⟨l1, l2, l3⟩ := hfl.lt
    obtain ⟨F0, hM0, hF0, ho0⟩ := hfl.tr
    have hfl3 := hfl.ext X3
    have htl := dels_len ord (ks.take k) (treeG ord l)
    have htk : (ks.take k).length ≤ k := by rw [List.length_take]; omega
    refine W_rg fun K hK => (W_text [true, true, true, false, true, true, false, false, false, true] (by kernel_rfl) ?_); simp only [↓List.toList_toArray, ↓rgd, ↓rgf, ↓reduceIte, Nat.reduceEqDiff, rg, ow_15, eM, ix3]
    refine do_call fn_45 (by simp only [evt, evc, upd_eq, Nat.reduceEqDiff, ↓reduceIte, maT, maC, maN, isnN, isnS] <;> rfl) (delete_any A m (degOf d) 1 ord x hd2 hd3 _ F0 w3 (hM0.ext X3) (by omega)) ?_
    rintro _ w4 ⟨rfl, x4, F', hM4, hF'⟩
    refine ⟨trivial, ?_⟩
    simp only [↓List.toList_toArray, ↓rgd, ↓rgf, ↓reduceIte, Nat.reduceEqDiff, rg, ow_15]
    obtain ⟨hfl4, X4⟩ := hfl3.step hF0 ho0 (x4.mono fun _ _ _ g => .inl g) hM4 hF' (HOk.none _)
    refine do_call fn_44 (by simp only [evt, evc, upd_eq, Nat.reduceEqDiff, ↓reduceIte, maT, maC, maN, isnN, isnS] <;> rfl) (found_any _ _ w4) ?_
    rintro _ w5 ⟨rfl, X5⟩
    refine ⟨trivial, ?_⟩
    simp only [↓List.toList_toArray, ↓rgd, ↓rgf, ↓reduceIte, Nat.reduceEqDiff, rg, ow_15]
    refine do_bsl rfl (bs_fo1 _) fun w6 n6 => ⟨trivial, ?_⟩
    simp only [↓List.toList_toArray, ↓rgd, ↓rgf, ↓reduceIte, Nat.reduceEqDiff, rg, ow_15]
    have X6 := X5.tr n6.ext
    have s6 := X6.size
    have hrl : (dreps ord (treeG ord l) (ks.take k)).length = k := by rw [dreps_length, List.length_take]; omega
    rw [foP_at] at n6
    have hx6 : SlV w6 3 (.slice (some ⟨w5.heap.size, 0, none⟩) 1 1) 1 (Ef.cel (foO (at? O (rkI ord) (rkI ord x) (dels ord (treeG ord l) (ks.take k))))) := ⟨rfl, .inr ⟨_, 0, 1, rfl, Nat.le_refl _, n6.row, n6.wok.R (Nat.le_refl _)⟩⟩
    have hfl6 := hfl4.ext X6
    refine do_append (by simp only [evt, evc, upd_eq, Nat.reduceEqDiff, ↓reduceIte, ntT, ntF] <;> rfl) (by simp only [evt, evc, upd_eq, Nat.reduceEqDiff, ↓reduceIte, ntT, ntF] <;> rfl) el_fo rfl ni_fo hfl6.out.sl hx6 (by omega) (by decide) (Ef.one _) fun v7 w7 a7 => ?_
    obtain ⟨hfl7, X7⟩ := hfl6.app a7
    refine ⟨trivial, ?_⟩
    simp only [↓List.toList_toArray, ↓rgd, ↓rgf, ↓reduceIte, Nat.reduceEqDiff, rg, ow_15]
    refine hK _ _ ?_; clear hK K
    show W _ _ _ _ _ _
    have q1 := wadd1 k (by omega)
    refine W_rg fun K hK => (W_text [true, true] (by kernel_rfl) ?_); simp only [↓List.toList_toArray, ↓rgd, ↓rgf, ↓reduceIte, Nat.reduceEqDiff, rg, ow_15, eI, q1]
    refine hK _ _ ?_; clear hK K
    refine ⟨_, ?_, k + 1, rfl, hlt, by simp only [upd_eq, Nat.reduceEqDiff, ↓reduceIte]; exact eS, by simp only [upd_eq, Nat.reduceEqDiff, ↓reduceIte]; exact eL, by simp only [upd_eq, Nat.reduceEqDiff, ↓reduceIte], by simp only [upd_eq, Nat.reduceEqDiff, ↓reduceIte]; exact eM, by simp only [upd_eq, Nat.reduceEqDiff, ↓reduceIte]; rw [take_snoc hx, dreps_snoc, dels_snoc]; exact hfl7, (((X.tr (X3.mono fun _ _ _ h => h.elim)).tr X4).tr (X6.mono fun _ _ _ h => h.elim)).tr X7⟩
    omega
  · obtain rfl : k = ks.length := by omega
    have ht := lt_ff ks.length ks.length (by omega)
    refine W_sq fun K hK => (W_text [true] (by kernel_rfl) ?_); simp only [↓List.toList_toArray, ↓rgd, ↓rgf, ↓reduceIte, Nat.reduceEqDiff, rg, ow_15, eL, eI, ht]
    refine hK _ _ ?_; clear hK K
    refine W_seq (W_false (by simp only [evt, evc, upd_eq, Nat.reduceEqDiff, ↓reduceIte, ntT, ntF] <;> rfl) (W_exit ?_))
    simp only [andThen_exit, inBlk_exit, andThen_normal, ↓reduceIte]
    rw [List.take_length] at hfl
    obtain ⟨F, hM, hFB, ho⟩ := hfl.tr
    obtain ⟨l1, l2, l3⟩ := hfl.lt
    have htl := dels_len ord ks (treeG ord l)
    refine W_sq fun K hK => (W_text [true, true, false, true, true] (by kernel_rfl) ?_); simp only [↓List.toList_toArray, ↓rgd, ↓rgf, ↓reduceIte, Nat.reduceEqDiff, rg, ow_15, eM]
    refine do_call fn_46 (by simp only [evt, evc, upd_eq, Nat.reduceEqDiff, ↓reduceIte, maT, maC, maN, isnN, isnS] <;> rfl) (itemsG_any A m (degOf d) ord 1 (dels ord (treeG ord l) ks) F w' hM (by omega)) ?_
    rintro v8 w8 ⟨hO, X8⟩
    refine ⟨trivial, ?_⟩
    simp only [↓List.toList_toArray, ↓rgd, ↓rgf, ↓reduceIte, Nat.reduceEqDiff, rg, ow_15]
    refine hK _ _ ?_; clear hK K
    refine W_ret (endQ_2 (by simp only [upd_eq, Nat.reduceEqDiff, ↓reduceIte] <;> rfl) (by simp only [upd_eq, Nat.reduceEqDiff, ↓reduceIte] <;> rfl) ⟨_, _, rfl, (hfl.out.ext X8).sl, hO.sl, ?_⟩)
    refine (noF_of X02 X fun y o hy h => ?_).tr X8
    rcases h with h | h | h <;> first | omega | cases h
end Go.Proofs.Ytbnnkcofnmipoaa
/-
  Sorted lists by their members: what is in a list behind a setting or a deletion; equal members, equal lists. Plain lists; no program. No condition.
-/
set_option linter.unusedSimpArgs false
set_option linter.unusedVariables false
namespace Go.Proofs.Ytbnnkcofnmipoaa
open Go
section
variable {α R : Type} (O : SOrd R) (κ : α → R)
theorem lt_ne {a b : R} (h : O.lt a b = true) : a ≠ b := fun e => by
  subst e
  have := O.asym h
  rw [h] at this; cases this
theorem asc_split {xs : List α} {i : Nat} {k : α} (hk : xs[i]? = some k) : xs = xs.take i ++ k :: xs.drop (i + 1) := by
  have hlt := (List.getElem?_eq_some_iff.1 hk).1
  have := List.take_append_drop i xs
  rw [List.drop_eq_getElem_cons hlt, (List.getElem?_eq_some_iff.1 hk).2] at this
  exact this.symm
theorem hit_of_mem {xs : List α} (ha : Asc O κ xs) {y : α} (hy : y ∈ xs) : hit O κ (κ y) xs = true := by
  obtain ⟨A, C, rfl⟩ := List.append_of_mem hy
  exact (found_mid O κ ha).2
theorem at_of_mem {xs : List α} (ha : Asc O κ xs) {y : α} (hy : y ∈ xs) : at? O κ (κ y) xs = some y := by
  obtain ⟨A, C, rfl⟩ := List.append_of_mem hy
  exact at_found O κ ha rfl
theorem mem_of_at {xs : List α} {q : R} {y : α} (h : at? O κ q xs = some y) : y ∈ xs ∧ κ y = q := by
  unfold at? at h
  split at h
  · rename_i hh
    obtain ⟨k, h1, h2⟩ := hit_at O κ hh
    rw [h1] at h; cases h
    exact ⟨List.mem_of_getElem? h1, h2.symm⟩
  · cases h
theorem no_hit {xs : List α} (ha : Asc O κ xs) {q : R} : hit O κ q xs = false ↔ ∀ y ∈ xs, κ y ≠ q := by
  constructor
  · intro h y hy e
    subst e
    rw [hit_of_mem O κ ha hy] at h; cases h
  · intro h
    cases hh : hit O κ q xs with
    | false => rfl
    | true =>
      obtain ⟨k, h1, h2⟩ := hit_at O κ hh
      exact (h k (List.mem_of_getElem? h1) h2.symm).elim
theorem mem_put {xs : List α} (ha : Asc O κ xs) {x y : α} : y ∈ put O κ x xs ↔ y = x ∨ (y ∈ xs ∧ κ y ≠ κ x) := by
  cases hh : hit O κ (κ x) xs with
  | true =>
    obtain ⟨k, h1, h2⟩ := hit_at O κ hh
    have hs := asc_split h1
    generalize xs.take _ = A at hs
    generalize xs.drop _ = C at hs
    subst hs
    rw [put_found O κ ha h2]
    obtain ⟨_, h3, h4⟩ := (Asc.append O κ).1 ha
    have h5 := (List.pairwise_cons.1 h3).1
    simp only [List.mem_append, List.mem_cons]
    constructor
    · rintro (h | h | h)
      · exact .inr ⟨.inl h, by rw [h2]; exact lt_ne O (h4 y h k (by simp))⟩
      · exact .inl h
      · exact .inr ⟨.inr (.inr h), by rw [h2]; exact (lt_ne O (h5 y h)).symm⟩
    · rintro (h | ⟨h | h | h, hne⟩)
      · exact .inr (.inl h)
      · exact .inl h
      · subst h; exact (hne h2.symm).elim
      · exact .inr (.inr h)
  | false =>
    have hn := (no_hit O κ ha).1 hh
    rw [put_leaf O κ hh]
    have hs := List.take_append_drop (lb O κ (κ x) xs) xs
    generalize xs.take _ = A at hs ⊢
    generalize xs.drop _ = C at hs ⊢
    subst hs
    simp only [List.mem_append, List.mem_cons]
    constructor
    · rintro (h | h | h)
      · exact .inr ⟨.inl h, hn y (by simp [h])⟩
      · exact .inl h
      · exact .inr ⟨.inr h, hn y (by simp [h])⟩
    · rintro (h | ⟨h | h, -⟩)
      · exact .inr (.inl h)
      · exact .inl h
      · exact .inr (.inr h)
theorem asc_ext : ∀ {xs ys : List α}, Asc O κ xs → Asc O κ ys → (∀ y, y ∈ xs ↔ y ∈ ys) → xs = ys
  | [], [], _, _, _ => rfl
  | [], y :: ys, _, _, h => by have := (h y).2 (by simp); simp at this
  | x :: xs, [], _, _, h => by have := (h x).1 (by simp); simp at this
  | x :: xs, y :: ys, hx, hy, h => by
    have h1 := (List.pairwise_cons.1 hx).1
    have h2 := (List.pairwise_cons.1 hy).1
    have hxy : x = y := by
      rcases List.mem_cons.1 ((h x).1 (by simp)) with e | e
      · exact e
      · rcases List.mem_cons.1 ((h y).2 (by simp)) with e' | e'
        · exact e'.symm
        · have a := h2 x e
          have b := h1 y e'
          have := O.asym a
          rw [b] at this; cases this
    subst hxy
    have hd : ∀ {zs : List α}, (∀ z ∈ zs, O.lt (κ x) (κ z) = true) → x ∉ zs := fun hz hm => by
      have a := hz x hm
      have := O.asym a
      rw [a] at this; cases this
    rw [asc_ext (List.pairwise_cons.1 hx).2 (List.pairwise_cons.1 hy).2 fun z => ⟨fun hz => by
      rcases List.mem_cons.1 ((h z).1 (by simp [hz])) with e | e
      · subst e; exact (hd h1 hz).elim
      · exact e, fun hz => by
      rcases List.mem_cons.1 ((h z).2 (by simp [hz])) with e | e
      · subst e; exact (hd h2 hz).elim
      · exact e⟩]
/-- The list behind settings. -/
def sets (xs l : List α) : List α := l.foldl (fun xs x => put O κ x xs) xs
theorem sets_snoc (xs l : List α) (x : α) : sets O κ xs (l ++ [x]) = put O κ x (sets O κ xs l) := by simp [sets]
theorem sets_asc {xs : List α} (ha : Asc O κ xs) (l : List α) : Asc O κ (sets O κ xs l) := by
  induction l generalizing xs with
  | nil => exact ha
  | cons x l ih => exact ih (put_asc O κ ha)
theorem snoc_ind {p : List α → Prop} (h0 : p []) (h1 : ∀ l x, p l → p (l ++ [x])) (l : List α) : p l := by
  have : ∀ n (l : List α), l.length = n → p l := by
    intro n
    induction n with
    | zero => intro l hl; rw [List.length_eq_zero_iff.1 hl]; exact h0
    | succ n ih =>
      intro l hl
      have hne : l ≠ [] := fun e => by rw [e] at hl; cases hl
      rw [← List.dropLast_concat_getLast hne]
      exact h1 _ _ (ih _ (by rw [List.length_dropLast]; omega))
  exact this _ l rfl
theorem mem_sets {xs : List α} (ha : Asc O κ xs) (l : List α) (y : α) : y ∈ sets O κ xs l ↔ y ∈ sets O κ [] l ∨ (y ∈ xs ∧ ∀ z ∈ l, κ z ≠ κ y) := by
  induction l using snoc_ind with
  | h0 => simp [sets]
  | h1 l x ih =>
    rw [sets_snoc, sets_snoc, mem_put O κ (sets_asc O κ ha l), mem_put O κ (sets_asc O κ List.Pairwise.nil l), ih]
    constructor
    · rintro (h | ⟨h | ⟨h, h2⟩, h3⟩)
      · exact .inl (.inl h)
      · exact .inl (.inr ⟨h, h3⟩)
      · refine .inr ⟨h, fun z hz => ?_⟩
        rcases List.mem_append.1 hz with hz | hz
        · exact h2 z hz
        · have : z = x := by simpa using hz
          subst this; exact h3.symm
    · rintro ((h | ⟨h, h3⟩) | ⟨h, h2⟩)
      · exact .inl h
      · exact .inr ⟨.inl h, h3⟩
      · exact .inr ⟨.inr ⟨h, fun z hz => h2 z (by simp [hz])⟩, (h2 x (by simp)).symm⟩
theorem sets_twice (l : List α) : sets O κ [] (l ++ l) = sets O κ [] l := by
  have h : sets O κ [] (l ++ l) = sets O κ (sets O κ [] l) l := by simp [sets]
  have ha := sets_asc O κ (List.Pairwise.nil : Asc O κ []) l
  rw [h]
  refine asc_ext O κ (sets_asc O κ ha l) ha fun y => ?_
  rw [mem_sets O κ ha]
  exact ⟨fun h => h.elim id (·.1), .inl⟩
end
end Go.Proofs.Ytbnnkcofnmipoaa
/-
  Deletions one after the other, in plain lists. No condition.
-/
set_option linter.unusedSimpArgs false
set_option linter.unusedVariables false
namespace Go.Proofs.Ytbnnkcofnmipoaa
open Go Go.Proofs
theorem mem_del {ord : List Int} {xs : List It} (ha : Asc O (rkI ord) xs) {q y : It} (h : y ∈ del O (rkI ord) (rkI ord q) xs) : y ∈ xs ∧ rkI ord y ≠ rkI ord q := by
  cases hh : hit O (rkI ord) (rkI ord q) xs with
  | false =>
    simp only [del, hh, Bool.false_eq_true, ↓reduceIte] at h
    exact ⟨h, (no_hit O (rkI ord) ha).1 hh y h⟩
  | true =>
    simp only [del, hh, ↓reduceIte] at h
    obtain ⟨k, hk, hq⟩ := hit_at O (rkI ord) hh
    have hs := asc_split hk
    rw [List.eraseIdx_eq_take_drop_succ] at h
    rw [hs] at ha
    obtain ⟨-, a2, a3⟩ := (Asc.append O (rkI ord)).1 ha
    rcases List.mem_append.1 h with h | h
    · exact ⟨List.mem_of_mem_take h, fun e => lt_ne O (a3 y h k (by simp)) (e.trans hq)⟩
    · exact ⟨List.mem_of_mem_drop h, fun e => lt_ne O ((List.pairwise_cons.1 a2).1 y h) (hq.symm.trans e.symm)⟩
theorem del_asc {ord : List Int} {xs : List It} (ha : Asc O (rkI ord) xs) (q : It) : Asc O (rkI ord) (del O (rkI ord) (rkI ord q) xs) := by
  unfold del; split
  · exact ha.sublist (List.eraseIdx_sublist _ _)
  · exact ha
theorem mem_dels {ord : List Int} : ∀ {ks T : List It}, Asc O (rkI ord) T → ∀ {y : It}, y ∈ dels ord T ks → y ∈ T ∧ ∀ z ∈ ks, rkI ord y ≠ rkI ord z
  | [], _, _, _, h => ⟨h, fun _ hz => by simp at hz⟩
  | x :: ks, T, ha, y, h => by
    obtain ⟨h1, h2⟩ := mem_dels (del_asc ha x) (show y ∈ dels ord (del O (rkI ord) (rkI ord x) T) ks from h)
    obtain ⟨h3, h4⟩ := mem_del ha h1
    refine ⟨h3, fun z hz => ?_⟩
    rcases List.mem_cons.1 hz with rfl | hz
    · exact h4
    · exact h2 z hz
/-- As many answers say yes as items go. -/
theorem dreps_count (ord : List Int) : ∀ (ks T : List It), ((dreps ord T ks).filter fun f => f.2).length + (dels ord T ks).length = T.length
  | [], T => by simp [dreps, dels]
  | x :: ks, T => by
    have ih := dreps_count ord ks (del O (rkI ord) (rkI ord x) T)
    show ((foO (at? O (rkI ord) (rkI ord x) T) :: dreps ord (del O (rkI ord) (rkI ord x) T) ks).filter fun f => f.2).length + (dels ord (del O (rkI ord) (rkI ord x) T) ks).length = T.length
    cases hh : hit O (rkI ord) (rkI ord x) T with
    | false =>
      have h1 : at? O (rkI ord) (rkI ord x) T = none := by simp [at?, hh]
      have h2 : del O (rkI ord) (rkI ord x) T = T := by simp [del, hh]
      rw [h1]
      rw [h2] at ih ⊢
      simpa [foO] using ih
    | true =>
      obtain ⟨k, hk, _⟩ := hit_at O (rkI ord) hh
      have hi := (List.getElem?_eq_some_iff.1 hk).1
      have h1 : at? O (rkI ord) (rkI ord x) T = some k := by simp [at?, hh, hk]
      have h2 : (del O (rkI ord) (rkI ord x) T).length = T.length - 1 := by simp [del, hh, List.length_eraseIdx_of_lt hi]
      rw [h1]
      rw [h2] at ih
      rw [List.filter_cons_of_pos (by rfl), List.length_cons]
      omega
theorem mem_tree {ord : List Int} : ∀ {l xs : List It} {y : It}, y ∈ l.foldl (fun xs x => put O (rkI ord) x xs) xs → y ∈ l ∨ y ∈ xs
  | [], _, _, h => .inr h
  | x :: l, xs, y, h => by
    rcases mem_tree (show y ∈ l.foldl (fun xs x => put O (rkI ord) x xs) (put O (rkI ord) x xs) from h) with h | h
    · exact .inl (by simp [h])
    · unfold put at h
      rcases List.mem_append.1 h with h | h
      · exact .inr (List.mem_of_mem_take h)
      · rcases List.mem_cons.1 h with rfl | h
        · exact .inl (by simp)
        · exact .inr (List.mem_of_mem_drop h)
/-- All that were set are deleted, in whatever order. -/
theorem dels_all {ord : List Int} {l ks : List It} (ha : Asc O (rkI ord) (treeG ord l)) (h : ∀ y ∈ l, y ∈ ks) : dels ord (treeG ord l) ks = [] := by
  refine List.eq_nil_iff_forall_not_mem.2 fun y hy => ?_
  obtain ⟨h1, h2⟩ := mem_dels ha hy
  rcases mem_tree h1 with h3 | h3
  · exact h2 y (h y h3) rfl
  · simp at h3
end Go.Proofs.Ytbnnkcofnmipoaa
/-
  impl.GItems. No condition.
-/
set_option linter.unusedSimpArgs false
set_option linter.unusedVariables false
namespace Go.Proofs.Ytbnnkcofnmipoaa
open Go Go.Proofs
set_option maxHeartbeats 400000 in
set_option maxRecDepth 8000 in
theorem impl_gitems (d : Nat) (hd : DOk d) (ord : List Int) (sv : Value) (nl : Bool) (l : List It) (lv : Value) (w : World) (hs : SlInt w sv ord) (hsb : ord.length ≤ 2147483647) (hl : SlI w lv l) (hbig : l.length ≤ 4294967294) :
    CallK Try.prog 24 #[mkV sv d nl, lv] w fun v w' => SlI w' v (treeG ord l) ∧ since w.heap.size v ∧ Ext noF w w' := by
  have htl := treeG_len ord l
  refine calls_of_W [.tmp 4] Try.func24 rfl Try.ntmps24 Try.results24 (by simp) fun e he => ?_
  have e0 : e 0 = mkV sv d nl := he 0 _ rfl
  have e1 : e 1 = lv := he 1 _ rfl
  clear he
  refine W_sq fun K hK => (W_text [false, true] (by kernel_rfl) ?_); simp only [↓List.toList_toArray, ↓rgd, ↓rgf, ↓reduceIte, Nat.reduceEqDiff, rg, ow_24]
  refine do_box (by simp only [evt]; exact e0) fun w1 n1 => ⟨trivial, ?_⟩
  simp only [↓List.toList_toArray, ↓rgd, ↓rgf, ↓reduceIte, Nat.reduceEqDiff, rg, ow_24]
  refine hK _ _ ?_; clear hK K
  have s1 := n1.size
  have rm := mk_at (show Row w1 w.heap.size 0 (mkL sv d nl) from n1.row)
  refine W_sq fun K hK => (W_text [true, true, false, false, true] (by kernel_rfl) ?_); simp only [↓List.toList_toArray, ↓rgd, ↓rgf, ↓reduceIte, Nat.reduceEqDiff, rg, ow_24, e1, rm]
  refine do_call fn_43 (by simp only [evt, evc, upd_eq, Nat.reduceEqDiff, ↓reduceIte, maT, maC, maN, isnN, isnS] <;> rfl) (growG_any d hd ord sv nl l lv w1 (SlV.ext0 hs n1.ext) hsb (SlV.ext0 hl n1.ext) hbig) ?_
  rintro _ w2 ⟨X2, B, m, F, rfl, hM, hm, -⟩
  refine ⟨trivial, ?_⟩
  simp only [↓List.toList_toArray, ↓rgd, ↓rgf, ↓reduceIte, Nat.reduceEqDiff, rg, ow_24]
  refine do_call fn_46 (by simp only [evt, evc, upd_eq, Nat.reduceEqDiff, ↓reduceIte, maT, maC, maN, isnN, isnS] <;> rfl) (itemsG_any B m (degOf d) ord 1 (treeG ord l) F w2 hM (by omega)) ?_
  rintro v3 w3 ⟨hO, X3⟩
  refine ⟨trivial, ?_⟩
  simp only [↓List.toList_toArray, ↓rgd, ↓rgf, ↓reduceIte, Nat.reduceEqDiff, rg, ow_24]
  refine hK _ _ ?_; clear hK K
  have s2 := X2.size
  exact W_ret (endQ_1 (by simp only [upd_eq, Nat.reduceEqDiff, ↓reduceIte] <;> rfl) ⟨hO.sl, fun b o n c h => by have := hO.si b o n c h; omega, (n1.ext.tr X2).tr X3⟩)
end Go.Proofs.Ytbnnkcofnmipoaa
/-
  Whether a degree fits; the laws' question whether trees hold items at all. No condition.
-/
set_option linter.unusedSimpArgs false
set_option linter.unusedVariables false
namespace Go.Proofs.Ytbnnkcofnmipoaa
open Go Go.Proofs
theorem SlV.one {w : World} {sz n : Nat} {v : Value} {l : List Value} (h : SlV w sz v n l) : v.oneCell' = true := by obtain ⟨a, c, rfl⟩ := h.shape; rfl
set_option maxHeartbeats 400000 in
set_option maxRecDepth 8000 in
theorem fitsL_any (sv : Value) (d : Int) (nl : Bool) (w : World) (h1 : sv.oneCell' = true) :
    CallK Try.prog 13 #[.agg #[sv, .int .i64 d, .bool nl]] w fun v w' => v = .bool (decide (d = 0) || (decide (2 ≤ d) && decide (d ≤ 128))) ∧ Ext noF w w' := by
  refine calls_of_W [.tmp 2] Try.func13 rfl Try.ntmps13 Try.results13 (by simp) fun e he => ?_
  have e0 : e 0 = .agg #[sv, .int .i64 d, .bool nl] := he 0 _ rfl
  clear he
  refine W_sq fun K hK => (W_text [false, true] (by kernel_rfl) ?_); simp only [↓List.toList_toArray, ↓rgd, ↓rgf, ↓reduceIte, Nat.reduceEqDiff, rg, ow_13]
  refine do_box (by simp only [evt]; exact e0) fun w1 n1 => ⟨trivial, ?_⟩
  simp only [↓List.toList_toArray, ↓rgd, ↓rgf, ↓reduceIte, Nat.reduceEqDiff, rg, ow_13]
  refine hK _ _ ?_; clear hK K
  have g1 := (Row.cons.1 (Row.cons.1 (show Row w1 w.heap.size 0 [sv, .int .i64 d, .bool nl] from n1.row)).2).1
  rw [Nat.zero_add] at g1
  refine W_sq fun K hK => (W_text [true, true, false, true] (by kernel_rfl) ?_); simp only [↓List.toList_toArray, ↓rgd, ↓rgf, ↓reduceIte, Nat.reduceEqDiff, rg, ow_13, g1]
  refine do_call fn_23 (by simp only [evt, evc, upd_eq, Nat.reduceEqDiff, ↓reduceIte, maT, maC, maN, isnN, isnS] <;> rfl) (fits_any d w1) ?_
  rintro _ w2 ⟨rfl, hw2⟩
  obtain rfl : w1 = w2 := hw2
  refine ⟨trivial, ?_⟩
  simp only [↓List.toList_toArray, ↓rgd, ↓rgf, ↓reduceIte, Nat.reduceEqDiff, rg, ow_13]
  refine hK _ _ ?_; clear hK K
  exact W_ret (endQ_1 (by simp only [upd_eq, Nat.reduceEqDiff, ↓reduceIte] <;> rfl) ⟨rfl, n1.ext⟩)
set_option maxHeartbeats 400000 in
set_option maxRecDepth 8000 in
theorem alive_any (w : World) : CallK Try.prog 14 #[] w fun v w' => v = .bool true ∧ Ext noF w w' := by
  refine calls_of_W (args := []) [.tmp 0] Try.func14 rfl Try.ntmps14 Try.results14 (by simp) fun e he => ?_
  clear he
  refine W_sq fun K hK => (W_text [true] (by kernel_rfl) ?_); simp only [↓List.toList_toArray, ↓rgd, ↓rgf, ↓reduceIte, Nat.reduceEqDiff, rg, ow_14]
  refine hK _ _ ?_; clear hK K
  refine W_sq fun K hK => (W_text [false, false, true, false, true, true, true] (by kernel_rfl) ?_); simp only [↓List.toList_toArray, ↓rgd, ↓rgf, ↓reduceIte, Nat.reduceEqDiff, rg, ow_14]
  refine do_call fn_19 (by simp only [evt, evc, upd_eq, Nat.reduceEqDiff, ↓reduceIte, maT, maC, maN, isnN, isnS] <;> rfl) (exMake_any w) ?_
  rintro _ w1 ⟨rfl, X1⟩
  refine ⟨trivial, ?_⟩
  simp only [↓List.toList_toArray, ↓rgd, ↓rgf, ↓reduceIte, Nat.reduceEqDiff, rg, ow_14]
  refine do_call fn_20 (by simp only [evt, evc, upd_eq, Nat.reduceEqDiff, ↓reduceIte, maT, maC, maN, isnN, isnS] <;> rfl) (exItems_any w1) ?_
  rintro x0 w2 ⟨h2, X2⟩
  refine ⟨trivial, ?_⟩
  obtain ⟨s3, hs30, hS3⟩ := sl_hi h2 3 (by decide)
  have hs3 : sliceV Try.prog 25 x0 none (some (.int .i64 3)) none = some s3 := hs30
  simp only [↓List.toList_toArray, ↓rgd, ↓rgf, ↓reduceIte, Nat.reduceEqDiff, rg, ow_14, hs3]
  refine do_call fn_24 (by simp only [evt, evc, upd_eq, Nat.reduceEqDiff, ↓reduceIte, maT, maC, maN, isnN, isnS] <;> rfl) (impl_gitems 2 (.inr (by decide)) [] nilS false (exL.take 3) s3 w2 (nil_int _) (by decide) hS3 (by decide)) ?_
  rintro v4 w4 ⟨h4, _, X4⟩
  refine ⟨trivial, ?_⟩
  obtain ⟨a4, c4, rfl⟩ := SlV.shape h4
  have hl : (treeG [] (exL.take 3)).length = 3 := by decide
  have ht : (((3 : Nat) : Int) == 3) = true := by decide
  rw [hl]
  simp only [↓List.toList_toArray, ↓rgd, ↓rgf, ↓reduceIte, Nat.reduceEqDiff, rg, ow_14, ht]
  refine hK _ _ ?_; clear hK K
  exact W_ret (endQ_1 (by simp only [upd_eq, Nat.reduceEqDiff, ↓reduceIte] <;> rfl) ⟨rfl, (X1.tr X2).tr X4⟩)
end Go.Proofs.Ytbnnkcofnmipoaa
/-
  An append of zeros to a slice without room. For whatever program. No condition.
-/
set_option linter.unusedSimpArgs false
set_option linter.unusedVariables false
namespace Go.Proofs.Ytbnnkcofnmipoaa
open Go
def isI64 (P : Program) (U : Nat) : Bool :=
  match P.underlying U with
  | some (.int .i64) => true
  | _ => false
section
variable {P : Program} {e : Env} {w : World} {K : Value → World → Prop}
theorem AppZ_intro {T U E sz by_ n : Nat} {z : List Value} (hel : elK P T = some (E, sz, by_, z)) (hT : E < tyN) (hz : z.length = sz) (hU : isI64 P U = true) (hn : 0 < n) (hsz : 0 < sz) (hbig : n ≤ 4294967296) (hby : by_ ≤ 64)
    (hK : ∀ w' cap, n ≤ cap → Ext noF w w' → w'.heap.size = w.heap.size + 1 → wok w' w.heap.size (cap * sz) → K (.slice (some ⟨w.heap.size, 0, none⟩) n cap) w') : AppK P T U (.slice none 0 0) (.int .i64 n) w K := by
  intro ty
  unfold elK at hel
  cases hu : P.underlying T with
  | none => simp [hu] at hel
  | some td =>
    cases td with
    | slice E' =>
      cases hi : P.info? E' with
      | none => simp [hu, hi] at hel
      | some i =>
        cases hzz : i.zero with
        | none => simp [hu, hi, hzz] at hel
        | some zv =>
          simp only [hu, hi, hzz, Option.map_some, Option.some.injEq, Prod.mk.injEq] at hel
          obtain ⟨rfl, rfl, rfl, rfl⟩ := hel
          have hud : P.underlying U = some (.int .i64) := by
            unfold isI64 at hU
            split at hU
            · assumption
            · cases hU
          have h1 := nextcap_le (need := n) (c := 0) hn
          have h2 : Builtin.nextslicecap n 0 * i.bytes ≤ 281474976710656 := by
            calc Builtin.nextslicecap n 0 * i.bytes ≤ (2 * n + 256) * 64 := Nat.mul_le_mul h1 hby
              _ ≤ 281474976710656 := by omega
          have h2' : ¬ 281474976710656 < Builtin.nextslicecap n 0 * i.bytes := by omega
          have h3 : ¬ (9223372036854775807 < (n : Int)) := by omega
          have h4 : ¬ (n ≤ 0) := by omega
          have hw1 : IntKind.i64.wrap (n : Int) = n := IntWalk.i64_in _ (by omega)
          have h5 : ¬ ((n : Int) < 0) := by omega
          have h6 : ¬ (281474976710656 < (n : Int) * (i.bytes : Int)) := by
            have : n * i.bytes ≤ 4294967296 * 64 := Nat.mul_le_mul hbig hby
            have : ((n * i.bytes : Nat) : Int) ≤ 274877906944 := by omega
            rw [Int.natCast_mul] at this
            omega
          have h7 : ¬ (n = 0) := by omega
          have h8 : ¬ (i.size = 0) := by omega
          let q := Question.appendCap n 0 E'
          have hq : q.forced = false := rfl
          let c := q.cut (w.tape w.drawn q)
          have hc : n ≤ c := by show n ≤ n + _ % _; omega
          let cells : Array Value := Builtin.zeroCells zv.cells n ++ Builtin.zeroCells zv.cells (c - n)
          have hcs : cells.toList.length = c * i.size := by
            have hz' : zv.cells.size = i.size := by simpa using hz
            simp only [cells, Array.toList_append, List.length_append, Array.length_toList, Builtin.zeroCells, Array.size_map, Array.size_range, hz']
            rw [← Nat.add_mul]; congr 1; omega
          have hnw := new_alloc w.drew cells.toList E' hT
          rw [Array.toArray_toList] at hnw
          refine ⟨.slice (some ⟨w.heap.size, 0, none⟩) n c, w.drew.alloc (.cells cells E'), ?_, hK _ _ hc ((Ext.drew noF w).tr hnw.ext) hnw.size (by have := hnw.wok; rwa [hcs] at this)⟩
          have hdr : ({ w with drawn := w.drawn + 1 } : World) = w.drew := rfl
          have hzv : ∀ w, (zeroValue E').run P w = .ok zv w := fun w => by simp [zeroValue, typeInfo, hi, hzz]
          have h9 : n * i.size ≠ 0 := Nat.mul_ne_zero (by omega) (by omega)
          simp [Builtin.append_, run_underlying' hu, run_underlying' hud, run_sizeOf hi, asInt, asIntOf, hw1, h5, h6, h7, h8, h4, h3, h2', typeInfo, hi, hq, hdr, hzv, newRow, q, c, cells, Builtin.firstCells]
          exact fun h => (h9 h).elim
    | _ => simp [hu] at hel
theorem do_appendZ {ops : Array Oper} {C : World → World → Prop} {KE : Env → World → Prop} {d : Option Nat} {ty : Nat} {pos : String} {af : Array Edge} {T U E sz by_ n : Nat} {z : List Value} {x y : Operand} (hx : ev e x = .slice none 0 0) (hy : ev e y = .int .i64 n)
    (hel : elK P T = some (E, sz, by_, z)) (hz : z.length = sz) (hU : isI64 P U = true) (hn : 0 < n) (hsz : 0 < sz) (hbig : n ≤ 4294967296) (hby : by_ ≤ 64)
    (hK : ∀ w' cap, n ≤ cap → Ext noF w w' → w'.heap.size = w.heap.size + 1 → wok w' w.heap.size (cap * sz) → C w w' ∧ KE (updO e d (.slice (some ⟨w.heap.size, 0, none⟩) n cap)) w') (hT : E < tyN := by decide) :
    DoO P ops C KE e w ⟨d, .call ⟨.builtin .append, #[x, y], #[T, U]⟩, ty, pos, af, none⟩ :=
  DoO_intro (DoOp_append (by rw [hx, hy]; exact AppZ_intro hel hT hz hU hn hsz hbig hby hK))
end
end Go.Proofs.Ytbnnkcofnmipoaa
/-
  Lists that are put together; what items that are set once more leave. No condition.
-/
set_option linter.unusedSimpArgs false
set_option linter.unusedVariables false
namespace Go.Proofs.Ytbnnkcofnmipoaa
open Go Go.Proofs
theorem isI_int : isI64 Try.prog 3 = true := by kernel_rfl
set_option maxHeartbeats 400000 in
set_option maxRecDepth 8000 in
theorem growS_any (n : Nat) (w : World) (hn : n ≤ 4294967296) :
    CallK Try.prog 47 #[.slice none 0 0, .int .i64 n] w fun v w' => OutE Ei w.heap.size v [] w' ∧ Ext noF w w' := by
  refine calls_of_W [.tmp 4] Try.func47 rfl Try.ntmps47 Try.results47 (by simp) fun e he => ?_
  have e0 : e 0 = .slice none 0 0 := he 0 _ rfl
  have e1 : e 1 = .int .i64 n := he 1 _ rfl
  clear he
  refine W_sq fun K hK => (W_text [true] (by kernel_rfl) ?_); simp only [↓List.toList_toArray, ↓rgd, ↓rgf, ↓reduceIte, Nat.reduceEqDiff, rg, ow_47]
  refine hK _ _ ?_; clear hK K
  have t0 : decide ((n : Int) < 0) = false := by simp
  refine W_seq ?_
  refine W_sq fun K hK => (W_text [true, true] (by kernel_rfl) ?_); simp only [↓List.toList_toArray, ↓rgd, ↓rgf, ↓reduceIte, Nat.reduceEqDiff, rg, ow_47, e1, t0]
  refine hK _ _ ?_; clear hK K
  refine W_false (by simp only [evt, evc, upd_eq, Nat.reduceEqDiff, ↓reduceIte, ntT, ntF] <;> rfl) (W_skip ?_)
  show W _ _ _ _ _ _
  have q0 : IntKind.i64.wrap (((0 : Nat) : Int) - ((0 : Nat) : Int)) = 0 := by decide
  have q1 : IntKind.i64.wrap ((n : Int) - 0) = (n : Int) := by rw [IntWalk.i64_in _ (by omega)]; omega
  refine W_seq ?_
  refine W_sq fun K hK => (W_text [true, true, true, true, true, true, true, true] (by kernel_rfl) ?_); simp only [↓List.toList_toArray, ↓rgd, ↓rgf, ↓reduceIte, Nat.reduceEqDiff, rg, ow_47, e0, e1, q0, q1]
  refine hK _ _ ?_; clear hK K
  by_cases h0 : 0 < n
  · have t1 : decide (0 < (n : Int)) = true := by simp; omega
    refine W_sq fun K hK => (W_text [true, true] (by kernel_rfl) ?_); simp only [↓List.toList_toArray, ↓rgd, ↓rgf, ↓reduceIte, Nat.reduceEqDiff, rg, ow_47, t1]
    refine hK _ _ ?_; clear hK K
    refine W_true (by simp only [evt, evc, upd_eq, Nat.reduceEqDiff, ↓reduceIte, ntT, ntF] <;> rfl) ?_
    have hs0 := slcX_nil 2 0 .i64 rfl
    refine W_rg fun K hK => (W_text [true, true, true, true, true, false, true, true, true, true] (by kernel_rfl) ?_); simp only [↓List.toList_toArray, ↓rgd, ↓rgf, ↓reduceIte, Nat.reduceEqDiff, rg, ow_47, e0, hs0]
    refine do_appendZ (by simp only [evt, evc, upd_eq, Nat.reduceEqDiff, ↓reduceIte, ntT, ntF] <;> rfl) (by simp only [evt, evc, upd_eq, Nat.reduceEqDiff, ↓reduceIte, ntT, ntF] <;> rfl) el_it rfl isI_int h0 (by decide) hn (by decide) fun w1 cap hc x1 s1 k1 => ⟨trivial, ?_⟩
    have hs1 := slcX_hi 2 w.heap.size 0 n cap 0 .i64 (Nat.zero_le _)
    simp only [↓List.toList_toArray, ↓rgd, ↓rgf, ↓reduceIte, Nat.reduceEqDiff, rg, ow_47, e0, hs1]
    refine hK _ _ ?_; clear hK K
    simp only [andThen_normal]
    refine W_sq fun K hK => (W_text [true, true] (by kernel_rfl) ?_); simp only [↓List.toList_toArray, ↓rgd, ↓rgf, ↓reduceIte, Nat.reduceEqDiff, rg, ow_47]
    refine hK _ _ ?_; clear hK K
    refine W_ret (endQ_1 (by simp only [upd_eq, Nat.reduceEqDiff, ↓reduceIte] <;> rfl) ⟨⟨⟨rfl, .inr ⟨_, 0, cap, rfl, Nat.zero_le _, Row.nil _ _ _, k1.R (by rw [Ei_sz]; omega)⟩⟩, fun b o n c h => by cases h; exact Nat.le_refl _⟩, x1⟩)
  · have t1 : decide (0 < (n : Int)) = false := by simp; omega
    refine W_sq fun K hK => (W_text [true, true] (by kernel_rfl) ?_); simp only [↓List.toList_toArray, ↓rgd, ↓rgf, ↓reduceIte, Nat.reduceEqDiff, rg, ow_47, t1]
    refine hK _ _ ?_; clear hK K
    refine W_false (by simp only [evt, evc, upd_eq, Nat.reduceEqDiff, ↓reduceIte, ntT, ntF] <;> rfl) (W_skip ?_)
    simp only [andThen_normal]
    refine W_sq fun K hK => (W_text [true, true] (by kernel_rfl) ?_); simp only [↓List.toList_toArray, ↓rgd, ↓rgf, ↓reduceIte, Nat.reduceEqDiff, rg, ow_47, e0]
    refine hK _ _ ?_; clear hK K
    refine W_ret (endQ_1 (by simp only [upd_eq, Nat.reduceEqDiff, ↓reduceIte] <;> rfl) ⟨OutE.nil _ _ _, Ext.refl _ _⟩)
set_option maxHeartbeats 800000 in
set_option maxRecDepth 8000 in
theorem concat_any (L : List (List It)) (vs : List Value) (b o c : Nat) (w : World) (hlen : vs.length = L.length) (hvl : vs.length ≤ 4294967296) (hv : ∀ (i : Nat) l v, L[i]? = some l → vs[i]? = some v → SlI w v l) (row : Row w b o vs) (hbig : L.flatten.length ≤ 4294967296) :
    CallK Try.prog 16 #[.slice (some ⟨b, o, none⟩) vs.length c] w fun v w' => SlI w' v L.flatten ∧ since w.heap.size v ∧ Ext noF w w' := by
  have hpre : ∀ k, ((L.take k).flatten).length ≤ L.flatten.length := fun k => by
    have h : L.flatten = (L.take k).flatten ++ (L.drop k).flatten := by rw [← List.flatten_append, List.take_append_drop]
    have := congrArg List.length h
    rw [List.length_append] at this; omega
  refine calls_of_W [.tmp 2] Try.func16 rfl Try.ntmps16 Try.results16 (by simp) fun e he => ?_
  have e0 : e 0 = .slice (some ⟨b, o, none⟩) vs.length c := he 0 _ rfl
  clear he
  refine W_sq fun K hK => (W_text [true] (by kernel_rfl) ?_); simp only [↓List.toList_toArray, ↓rgd, ↓rgf, ↓reduceIte, Nat.reduceEqDiff, rg, ow_16]
  refine hK _ _ ?_; clear hK K
  refine W_sq fun K hK => (W_text [true] (by kernel_rfl) ?_); simp only [↓List.toList_toArray, ↓rgd, ↓rgf, ↓reduceIte, Nat.reduceEqDiff, rg, ow_16]
  refine hK _ _ ?_; clear hK K
  refine W_seq (W_seq ?_)
  refine W_rg fun K hK => (W_text [true, true, true] (by kernel_rfl) ?_); simp only [↓List.toList_toArray, ↓rgd, ↓rgf, ↓reduceIte, Nat.reduceEqDiff, rg, ow_16, e0]
  refine hK _ _ ?_; clear hK K
  show W _ _ _ _ _ _
  refine W_block (W_loop (fun mm e w' => w' = w ∧ ∃ k : Nat, mm = vs.length - k ∧ k ≤ vs.length ∧ e 0 = .slice (some ⟨b, o, none⟩) vs.length c ∧ e 9 = .slice (some ⟨b, o, none⟩) vs.length c ∧ e 10 = .int .i64 vs.length ∧ e 11 = .int .i64 k ∧ e 3 = .int .i64 ((L.take k).flatten.length : Nat))
    vs.length ⟨rfl, 0, by simp, by simp, by simp only [upd_eq, Nat.reduceEqDiff, ↓reduceIte]; exact e0, by simp only [upd_eq, Nat.reduceEqDiff, ↓reduceIte], by simp only [upd_eq, Nat.reduceEqDiff, ↓reduceIte], by simp only [upd_eq, Nat.reduceEqDiff, ↓reduceIte]; rfl, by simp only [upd_eq, Nat.reduceEqDiff, ↓reduceIte]; simp⟩ ?_)
  clear e0 e
  rintro mm e w' ⟨rfl, k, rfl, hk, e0, e9, e10, e11, e3⟩
  by_cases hlt : k < vs.length
  · have ht := lt_tt k vs.length hlt
    refine W_sq fun K hK => (W_text [true] (by kernel_rfl) ?_); simp only [↓List.toList_toArray, ↓rgd, ↓rgf, ↓reduceIte, Nat.reduceEqDiff, rg, ow_16, e10, e11, ht]
    refine hK _ _ ?_; clear hK K
    refine W_seq (W_true (by simp only [evt, evc, upd_eq, Nat.reduceEqDiff, ↓reduceIte, ntT, ntF] <;> rfl) (W_skip ?_))
    show W _ _ _ _ _ _
    obtain ⟨v, hvk⟩ : ∃ v, vs[k]? = some v := ⟨_, List.getElem?_eq_getElem hlt⟩
    obtain ⟨l, hlk⟩ : ∃ l, L[k]? = some l := ⟨_, List.getElem?_eq_getElem (by omega)⟩
    have hsl := hv k l v hlk hvk
    obtain ⟨a1, c1, rfl⟩ := SlV.shape hsl
    have hr := row k _ hvk
    have hst : (L.take (k + 1)).flatten = (L.take k).flatten ++ l := by rw [take_snoc hlk, List.flatten_append, List.flatten_singleton]
    have hp1 := hpre (k + 1)
    rw [hst, List.length_append] at hp1
    have q1 := wadd (L.take k).flatten.length l.length (by omega)
    have t0 : decide ((((L.take k).flatten.length + l.length : Nat) : Int) < 0) = false := by simp; omega
    refine W_seq (W_block ?_)
    refine W_sq fun K hK => (W_text [true, true, true] (by kernel_rfl) ?_); simp only [↓List.toList_toArray, ↓rgd, ↓rgf, ↓reduceIte, Nat.reduceEqDiff, rg, ow_16, e9, e11, hlt, hr]
    refine hK _ _ ?_; clear hK K
    refine W_sq fun K hK => (W_text [true, true, true, true, true] (by kernel_rfl) ?_); simp only [↓List.toList_toArray, ↓rgd, ↓rgf, ↓reduceIte, Nat.reduceEqDiff, rg, ow_16, e3, q1]
    refine hK _ _ ?_; clear hK K
    refine W_sq fun K hK => (W_text [true, true] (by kernel_rfl) ?_); simp only [↓List.toList_toArray, ↓rgd, ↓rgf, ↓reduceIte, Nat.reduceEqDiff, rg, ow_16, t0]
    refine hK _ _ ?_; clear hK K
    refine W_false (by simp only [evt, evc, upd_eq, Nat.reduceEqDiff, ↓reduceIte, ntT, ntF] <;> rfl) (W_skip ?_)
    show W _ _ _ _ _ _
    have q2 := wadd1 k (by omega)
    refine W_rg fun K hK => (W_text [true, true] (by kernel_rfl) ?_); simp only [↓List.toList_toArray, ↓rgd, ↓rgf, ↓reduceIte, Nat.reduceEqDiff, rg, ow_16, e11, q2]
    refine hK _ _ ?_; clear hK K
    refine ⟨_, ?_, rfl, k + 1, rfl, hlt, by simp only [upd_eq, Nat.reduceEqDiff, ↓reduceIte]; exact e0, by simp only [upd_eq, Nat.reduceEqDiff, ↓reduceIte]; exact e9, by simp only [upd_eq, Nat.reduceEqDiff, ↓reduceIte]; exact e10, by simp only [upd_eq, Nat.reduceEqDiff, ↓reduceIte], by simp only [upd_eq, Nat.reduceEqDiff, ↓reduceIte]; rw [hst, List.length_append]⟩
    omega
  · obtain rfl : k = vs.length := by omega
    have ht := lt_ff vs.length vs.length (by omega)
    refine W_sq fun K hK => (W_text [true] (by kernel_rfl) ?_); simp only [↓List.toList_toArray, ↓rgd, ↓rgf, ↓reduceIte, Nat.reduceEqDiff, rg, ow_16, e10, e11, ht]
    refine hK _ _ ?_; clear hK K
    refine W_seq (W_false (by simp only [evt, evc, upd_eq, Nat.reduceEqDiff, ↓reduceIte, ntT, ntF] <;> rfl) (W_exit ?_))
    simp only [andThen_exit, inBlk_exit, andThen_normal, ↓reduceIte]
    rw [hlen, List.take_length] at e3
    refine W_sq fun K hK => (W_text [true, false, true] (by kernel_rfl) ?_); simp only [↓List.toList_toArray, ↓rgd, ↓rgf, ↓reduceIte, Nat.reduceEqDiff, rg, ow_16, e3]
    refine do_call fn_47 (by simp only [evt, evc, upd_eq, Nat.reduceEqDiff, ↓reduceIte, maT, maC, maN, isnN, isnS] <;> rfl) (growS_any L.flatten.length w' hbig) ?_
    rintro gv wg ⟨hG, XG⟩
    refine ⟨trivial, ?_⟩
    simp only [↓List.toList_toArray, ↓rgd, ↓rgf, ↓reduceIte, Nat.reduceEqDiff, rg, ow_16]
    refine hK _ _ ?_; clear hK K
    have rowg := XG.row row fun _ _ h => h
    have sG := XG.size
    refine W_seq (W_seq ?_)
    refine W_rg fun K hK => (W_text [true, true, true] (by kernel_rfl) ?_); simp only [↓List.toList_toArray, ↓rgd, ↓rgf, ↓reduceIte, Nat.reduceEqDiff, rg, ow_16, e0]
    refine hK _ _ ?_; clear hK K
    show W _ _ _ _ _ _
    have hbl : 0 < vs.length → b < w'.heap.size := fun h => by
      obtain ⟨v, hv0⟩ : ∃ v, vs[0]? = some v := ⟨_, List.getElem?_eq_getElem h⟩
      exact rd_lt (row 0 _ hv0)
    refine W_block (W_loop (fun mm e w2 => ∃ k : Nat, mm = vs.length - k ∧ k ≤ vs.length ∧ e 25 = .slice (some ⟨b, o, none⟩) vs.length c ∧ e 26 = .int .i64 vs.length ∧ e 27 = .int .i64 k ∧ OutE Ei w'.heap.size (e 6) (L.take k).flatten w2 ∧ Ext (fun y _ => w'.heap.size ≤ y) wg w2)
      vs.length ⟨0, by simp, by simp, by simp only [upd_eq, Nat.reduceEqDiff, ↓reduceIte], by simp only [upd_eq, Nat.reduceEqDiff, ↓reduceIte], by simp only [upd_eq, Nat.reduceEqDiff, ↓reduceIte]; rfl, by simp only [upd_eq, Nat.reduceEqDiff, ↓reduceIte]; simpa using hG, Ext.refl _ _⟩ ?_)
    clear e0 e9 e10 e11 e3 e hG
    rintro mm e w2 ⟨k, rfl, hk, e25, e26, e27, hO, X⟩
    have sX := X.size
    by_cases hlt : k < vs.length
    · have ht := lt_tt k vs.length hlt
      refine W_sq fun K hK => (W_text [true] (by kernel_rfl) ?_); simp only [↓List.toList_toArray, ↓rgd, ↓rgf, ↓reduceIte, Nat.reduceEqDiff, rg, ow_16, e26, e27, ht]
      refine hK _ _ ?_; clear hK K
      refine W_seq (W_true (by simp only [evt, evc, upd_eq, Nat.reduceEqDiff, ↓reduceIte, ntT, ntF] <;> rfl) (W_skip ?_))
      show W _ _ _ _ _ _
      obtain ⟨v, hvk⟩ : ∃ v, vs[k]? = some v := ⟨_, List.getElem?_eq_getElem hlt⟩
      obtain ⟨l, hlk⟩ : ∃ l, L[k]? = some l := ⟨_, List.getElem?_eq_getElem (by omega)⟩
      have hsl := hv k l v hlk hvk
      have hb0 := hbl (by omega)
      have hsl2 : SlI w2 v l := SlV.ext (SlV.ext0 hsl XG) X fun b' o' c' h j hj g => by have := SlV.lt hsl h; omega
      obtain ⟨a1, c1, rfl⟩ := SlV.shape hsl
      have hr := X.rd (rowg k _ hvk) (by omega)
      have hst : (L.take (k + 1)).flatten = (L.take k).flatten ++ l := by rw [take_snoc hlk, List.flatten_append, List.flatten_singleton]
      have hp1 := hpre (k + 1)
      rw [hst, List.length_append] at hp1
      refine W_seq (W_block ?_)
      refine W_sq fun K hK => (W_text [true, true, true] (by kernel_rfl) ?_); simp only [↓List.toList_toArray, ↓rgd, ↓rgf, ↓reduceIte, Nat.reduceEqDiff, rg, ow_16, e25, e27, hlt, hr]
      refine hK _ _ ?_; clear hK K
      refine W_rg fun K hK => (W_text [true, true, false, true] (by kernel_rfl) ?_); simp only [↓List.toList_toArray, ↓rgd, ↓rgf, ↓reduceIte, Nat.reduceEqDiff, rg, ow_16]
      refine do_append (by simp only [evt, evc, upd_eq, Nat.reduceEqDiff, ↓reduceIte, ntT, ntF] <;> rfl) (by simp only [evt, evc, upd_eq, Nat.reduceEqDiff, ↓reduceIte, ntT, ntF] <;> rfl) el_it rfl ni_i hO.sl hsl2 (by omega) (by decide) (flat_oc Ei l) fun v7 w7 a7 => ?_
      obtain ⟨g1, g2, X7⟩ := app_since a7 hO.si (by omega)
      refine ⟨trivial, ?_⟩
      simp only [↓List.toList_toArray, ↓rgd, ↓rgf, ↓reduceIte, Nat.reduceEqDiff, rg, ow_16]
      refine hK _ _ ?_; clear hK K
      show W _ _ _ _ _ _
      have q2 := wadd1 k (by omega)
      refine W_rg fun K hK => (W_text [true, true] (by kernel_rfl) ?_); simp only [↓List.toList_toArray, ↓rgd, ↓rgf, ↓reduceIte, Nat.reduceEqDiff, rg, ow_16, e27, q2]
      refine hK _ _ ?_; clear hK K
      refine ⟨_, ?_, k + 1, rfl, hlt, by simp only [upd_eq, Nat.reduceEqDiff, ↓reduceIte]; exact e25, by simp only [upd_eq, Nat.reduceEqDiff, ↓reduceIte]; exact e26, by simp only [upd_eq, Nat.reduceEqDiff, ↓reduceIte], by simp only [upd_eq, Nat.reduceEqDiff, ↓reduceIte]; rw [hst]; exact ⟨by rw [List.length_append, flat_append]; exact g1, g2⟩, X.tr X7⟩
      omega
    · obtain rfl : k = vs.length := by omega
      have ht := lt_ff vs.length vs.length (by omega)
      refine W_sq fun K hK => (W_text [true] (by kernel_rfl) ?_); simp only [↓List.toList_toArray, ↓rgd, ↓rgf, ↓reduceIte, Nat.reduceEqDiff, rg, ow_16, e26, e27, ht]
      refine hK _ _ ?_; clear hK K
      refine W_seq (W_false (by simp only [evt, evc, upd_eq, Nat.reduceEqDiff, ↓reduceIte, ntT, ntF] <;> rfl) (W_exit ?_))
      simp only [andThen_exit, inBlk_exit, andThen_normal, ↓reduceIte]
      rw [hlen, List.take_length] at hO
      refine W_sq fun K hK => (W_text [true, true] (by kernel_rfl) ?_); simp only [↓List.toList_toArray, ↓rgd, ↓rgf, ↓reduceIte, Nat.reduceEqDiff, rg, ow_16]
      refine hK _ _ ?_; clear hK K
      refine W_ret (endQ_1 (by simp only [upd_eq, Nat.reduceEqDiff, ↓reduceIte] <;> rfl) ⟨hO.sl, hO.si, noF_of XG X fun y o hy h => by omega⟩)
end Go.Proofs.Ytbnnkcofnmipoaa
/-
  FnGDeleteAll returns true, whatever the arguments. No condition.
-/
set_option linter.unusedSimpArgs false
set_option linter.unusedVariables false
namespace Go.Proofs.Ytbnnkcofnmipoaa
open Go Go.Proofs
theorem sl_drop {w : World} {b o c i : Nat} {l : List It} (h : SlI w (.slice (some ⟨b, o, none⟩) l.length c) l) (hi : i ≤ l.length) : SlI w (slFrom b o 2 i l.length c) (l.drop i) := by
  obtain ⟨o1, hs, h1, h2⟩ := slFrom_sl b o 2 i l.length c
  rw [hs]
  rcases h.2 with ⟨h0, _⟩ | ⟨b', o', cap, h0, hc, row, wk⟩
  · cases h0
  cases h0
  have hd : (flat Ei l).drop (i * 2) = flat Ei (l.drop i) := flat_drop Ei l i
  refine ⟨by rw [flat_length, List.length_drop]; rfl, .inr ⟨b, o1, c - i, by rw [List.length_drop], by rw [List.length_drop]; omega, ?_, ?_⟩⟩
  · by_cases hci : c = i
    · have : l.drop i = [] := List.drop_eq_nil_of_le (by omega)
      rw [this]; exact Row.nil _ _ _
    · rw [h1 hci, ← hd]; exact row.drop _
  · by_cases hci : c = i
    · exact wk.mono (by have := h2 hci; omega) (by have := h2 hci; omega)
    · exact wk.mono (by have := h1 hci; omega) (by have := h1 hci; omega)
theorem sl_take {w : World} {b o n c i : Nat} {l : List It} (h : SlI w (.slice (some ⟨b, o, none⟩) n c) l) (hi : i ≤ l.length) : SlI w (.slice (some ⟨b, o, none⟩) i c) (l.take i) := by
  rcases h.2 with ⟨h0, _⟩ | ⟨b', o', cap, h0, hc, row, wk⟩
  · cases h0
  cases h0
  have hl : (l.take i).length = i := by rw [List.length_take]; omega
  refine ⟨by rw [flat_length]; rfl, .inr ⟨b, o, c, by rw [hl], by rw [hl]; omega, ?_, ?_⟩⟩
  · rw [← flat_take]; exact row.take _
  · exact wk.mono (by omega) (by omega)
theorem bs_two (a b : Option Addr) (n m c d : Nat) : bsV Try.prog 58 2 [(0, .slice a n c), (1, .slice b m d)] = some (25, [.slice a n c, .slice b m d]) := by kernel_rfl
theorem fo_oc (x : It × Bool) : oc (foV x).cells.toList := Ef.one x
theorem u8_64 (p : Nat) (h : p < 256) : IntKind.i64.wrap (p : Int) = p := IntWalk.i64_in _ (by omega)
theorem rem_n (a b : Nat) (h : 0 < b) : (a : Int).tmod (b : Int) = ((a % b : Nat) : Int) := by rw [Int.tmod_eq_emod_of_nonneg (by omega)]; omega
theorem treeG_asc (ord : List Int) (l : List It) : Asc O (rkI ord) (treeG ord l) := by
  have : ∀ (l : List It) (xs : List It), Asc O (rkI ord) xs → Asc O (rkI ord) (l.foldl (fun xs x => put O (rkI ord) x xs) xs) := by
    intro l
    induction l with
    | nil => intro xs h; exact h
    | cons x l ih => intro xs h; exact ih _ (put_asc O (rkI ord) h)
  exact this l [] List.Pairwise.nil
set_option maxHeartbeats 1600000 in
set_option maxRecDepth 8000 in
theorem top_FnGDeleteAll (ord : List Int) (sv : Value) (d : Int) (nl : Bool) (a0 : List It) (v0 : Value) (a1 : Nat) (w : World) (gs : SlInt w sv ord) (g0 : SlI w v0 a0) (g1 : a1 < 256) :
    CallK Try.prog 3 #[.agg #[sv, .int .i64 d, .bool nl], v0, .int .u8 a1] w fun v w' => v = .bool true ∧ Ext noF w w' := by
  obtain ⟨p0, c0, hv0⟩ := SlV.shape g0
  refine calls_of_W [.tmp 6] Try.func3 rfl Try.ntmps3 Try.results3 (by simp) fun e he => ?_
  have e0 : e 0 = .agg #[sv, .int .i64 d, .bool nl] := he 0 _ rfl
  have e1 : e 1 = v0 := he 1 _ rfl
  have e2 : e 2 = .int .u8 a1 := he 2 _ rfl
  clear he
  refine W_sq fun K hK => (W_text [false, true] (by kernel_rfl) ?_); simp only [↓List.toList_toArray, ↓rgd, ↓rgf, ↓reduceIte, Nat.reduceEqDiff, rg, ow_3]
  refine do_box (by simp only [evt]; exact e0) fun w1 n1 => ⟨trivial, ?_⟩
  simp only [↓List.toList_toArray, ↓rgd, ↓rgf, ↓reduceIte, Nat.reduceEqDiff, rg, ow_3]
  refine hK _ _ ?_; clear hK K
  have rm1 : Row w1 w.heap.size 0 [sv, .int .i64 d, .bool nl] := n1.row
  have XB : Ext noF w w1 := n1.ext
  have sB := n1.size
  have rm13 : rdA w1 w.heap.size 0 3 = some (.agg #[sv, .int .i64 d, .bool nl]) := rm1.rdA 3 (Nat.le_refl _)
  refine W_seq ?_
  refine W_sq fun K hK => (W_text [true, false, true, true, true, true, true, true] (by kernel_rfl) ?_); simp only [↓List.toList_toArray, ↓rgd, ↓rgf, ↓reduceIte, Nat.reduceEqDiff, rg, ow_3, e1, hv0, rm13]
  refine do_call fn_12 (by simp only [evt, evc, upd_eq, Nat.reduceEqDiff, ↓reduceIte, maT, maC, maN, isnN, isnS] <;> rfl) (fits1_any sv ord (.int .i64 d) nl w1 (SlV.ext0 gs XB)) ?_
  rintro _ wf ⟨rfl, xf⟩
  refine ⟨trivial, ?_⟩
  have XF := XB.tr xf
  by_cases hbo : ord.length ≤ 2147483647
  case neg =>
    have to : decide (ord.length ≤ 2147483647) = false := by simp; omega
    simp only [↓List.toList_toArray, ↓rgd, ↓rgf, ↓reduceIte, Nat.reduceEqDiff, rg, ow_3, e1, hv0, to]
    refine hK _ _ ?_; clear hK K
    refine W_true (by simp only [evt, evc, upd_eq, Nat.reduceEqDiff, ↓reduceIte, ntT, ntF] <;> rfl) ?_
    refine W_sq fun K hK => (W_text [true] (by kernel_rfl) ?_); simp only [↓List.toList_toArray, ↓rgd, ↓rgf, ↓reduceIte, Nat.reduceEqDiff, rg, ow_3]
    refine hK _ _ ?_; clear hK K
    refine W_ret ?_
    simp only [andThen_ret]
    exact endQ_1 (by simp only [upd_eq, Nat.reduceEqDiff, ↓reduceIte] <;> rfl) ⟨rfl, XF⟩
  have to : decide (ord.length ≤ 2147483647) = true := by simp; omega
  by_cases hb0 : a0.length ≤ 2147483647
  case neg =>
    have t0 : decide ((2147483647 : Int) < (a0.length : Int)) = true := by simp; omega
    simp only [↓List.toList_toArray, ↓rgd, ↓rgf, ↓reduceIte, Nat.reduceEqDiff, rg, ow_3, e1, hv0, to, t0]
    refine hK _ _ ?_; clear hK K
    refine W_true (by simp only [evt, evc, upd_eq, Nat.reduceEqDiff, ↓reduceIte, ntT, ntF] <;> rfl) ?_
    refine W_sq fun K hK => (W_text [true] (by kernel_rfl) ?_); simp only [↓List.toList_toArray, ↓rgd, ↓rgf, ↓reduceIte, Nat.reduceEqDiff, rg, ow_3]
    refine hK _ _ ?_; clear hK K
    refine W_ret ?_
    simp only [andThen_ret]
    exact endQ_1 (by simp only [upd_eq, Nat.reduceEqDiff, ↓reduceIte] <;> rfl) ⟨rfl, XF⟩
  have t0 : decide ((2147483647 : Int) < (a0.length : Int)) = false := by simp; omega
  simp only [↓List.toList_toArray, ↓rgd, ↓rgf, ↓reduceIte, Nat.reduceEqDiff, rg, ow_3, e1, hv0, to, t0]
  refine hK _ _ ?_; clear hK K
  refine W_false (by simp only [evt, evc, upd_eq, Nat.reduceEqDiff, ↓reduceIte, ntT, ntF] <;> rfl) (W_skip ?_)
  show W _ _ _ _ _ _
  have rmf := xf.row rm1 fun _ _ h => h
  have rmf3 : rdA wf w.heap.size 0 3 = some (.agg #[sv, .int .i64 d, .bool nl]) := rmf.rdA 3 (Nat.le_refl _)
  refine W_seq ?_
  refine W_sq fun K hK => (W_text [true, false, true, true, true, true, true, true] (by kernel_rfl) ?_); simp only [↓List.toList_toArray, ↓rgd, ↓rgf, ↓reduceIte, Nat.reduceEqDiff, rg, ow_3, rmf3]
  refine do_call fn_13 (by simp only [evt, evc, upd_eq, Nat.reduceEqDiff, ↓reduceIte, maT, maC, maN, isnN, isnS] <;> rfl) (fitsL_any sv d nl wf (SlV.one gs)) ?_
  rintro _ wc ⟨rfl, xc⟩
  refine ⟨trivial, ?_⟩
  have XC := XF.tr xc
  cases hf : (decide (d = 0) || (decide (2 ≤ d) && decide (d ≤ 128))) with
  | false =>
    simp only [↓List.toList_toArray, ↓rgd, ↓rgf, ↓reduceIte, Nat.reduceEqDiff, rg, ow_3]
    refine hK _ _ ?_; clear hK K
    refine W_true (by simp only [evt, evc, upd_eq, Nat.reduceEqDiff, ↓reduceIte, ntT, ntF] <;> rfl) ?_
    refine W_sq fun K hK => (W_text [false, true] (by kernel_rfl) ?_); simp only [↓List.toList_toArray, ↓rgd, ↓rgf, ↓reduceIte, Nat.reduceEqDiff, rg, ow_3]
    refine do_call fn_14 (by simp only [evt, evc, upd_eq, Nat.reduceEqDiff, ↓reduceIte, maT, maC, maN, isnN, isnS] <;> rfl) (alive_any wc) ?_
    rintro _ u1 ⟨rfl, z1⟩
    refine ⟨trivial, ?_⟩
    simp only [↓List.toList_toArray, ↓rgd, ↓rgf, ↓reduceIte, Nat.reduceEqDiff, rg, ow_3]
    refine hK _ _ ?_; clear hK K
    refine W_ret ?_
    simp only [andThen_ret]
    exact endQ_1 (by simp only [upd_eq, Nat.reduceEqDiff, ↓reduceIte] <;> rfl) ⟨rfl, XC.tr z1⟩
  | true =>
    have h2 : d = 0 ∨ 2 ≤ d ∧ d ≤ 128 := by simp at hf; omega
    obtain ⟨n, rfl⟩ : ∃ n : Nat, d = n := ⟨d.toNat, by omega⟩
    have hd : DOk n := by unfold DOk; omega
    by_cases hz : a0.length = 0
    case pos =>
      have tz : ((a0.length : Int) == 0) = true := by rw [hz]; rfl
      simp only [↓List.toList_toArray, ↓rgd, ↓rgf, ↓reduceIte, Nat.reduceEqDiff, rg, ow_3, e1, hv0, tz]
      refine hK _ _ ?_; clear hK K
      refine W_true (by simp only [evt, evc, upd_eq, Nat.reduceEqDiff, ↓reduceIte, ntT, ntF] <;> rfl) ?_
      refine W_sq fun K hK => (W_text [false, true] (by kernel_rfl) ?_); simp only [↓List.toList_toArray, ↓rgd, ↓rgf, ↓reduceIte, Nat.reduceEqDiff, rg, ow_3]
      refine do_call fn_14 (by simp only [evt, evc, upd_eq, Nat.reduceEqDiff, ↓reduceIte, maT, maC, maN, isnN, isnS] <;> rfl) (alive_any wc) ?_
      rintro _ u1 ⟨rfl, z1⟩
      refine ⟨trivial, ?_⟩
      simp only [↓List.toList_toArray, ↓rgd, ↓rgf, ↓reduceIte, Nat.reduceEqDiff, rg, ow_3]
      refine hK _ _ ?_; clear hK K
      refine W_ret ?_
      simp only [andThen_ret]
      exact endQ_1 (by simp only [upd_eq, Nat.reduceEqDiff, ↓reduceIte] <;> rfl) ⟨rfl, XC.tr z1⟩
    have tz : ((a0.length : Int) == 0) = false := by simp only [beq_eq_false_iff_ne, ne_eq]; omega
    simp only [↓List.toList_toArray, ↓rgd, ↓rgf, ↓reduceIte, Nat.reduceEqDiff, rg, ow_3, e1, hv0, tz]
    refine hK _ _ ?_; clear hK K
    refine W_false (by simp only [evt, evc, upd_eq, Nat.reduceEqDiff, ↓reduceIte, ntT, ntF] <;> rfl) (W_skip ?_)
    show W _ _ _ _ _ _
    have rm : Row wc w.heap.size 0 (mkL sv n nl) := xc.row rmf fun _ _ h => h
    have rm3 := mk_at rm
    have sC : w.heap.size < wc.heap.size := by have := xf.size; have := xc.size; omega
    have htl := treeG_len ord a0
    have hta := treeG_asc ord a0
    have hl0 : 0 < a0.length := by omega
    obtain ⟨pb, po, rfl, -⟩ := SlV.at g0 hv0 hl0
    have hz0 : ((a0.length : Int) = 0) = False := eq_false (by omega)
    have q0 := u8_64 a1 g1
    have q1 := rem_n a1 a0.length hl0
    have hil : a1 % a0.length < a0.length := Nat.mod_lt _ hl0
    generalize a1 % a0.length = i at *
    have hil' : i ≤ a0.length := by omega
    have hgc := SlV.ext0 g0 XC
    rw [hv0] at hgc
    have hcap : a0.length ≤ c0 := by
      rcases hgc.2 with ⟨h, _⟩ | ⟨b, o, cap, h, h2, _⟩
      · cases h
      · cases h; exact h2
    have hic : i ≤ c0 := by omega
    refine W_sq fun K hK => (W_text [true, true, true, true, true, true] (by kernel_rfl) ?_); simp only [↓List.toList_toArray, ↓rgd, ↓rgf, ↓reduceIte, Nat.reduceEqDiff, rg, ow_3, e1, e2, hv0, q0, bv_rem _ _ _ _ hz0, q1]
    refine hK _ _ ?_; clear hK K
    have M1 : readsB (some (some [w.heap.size])) w.heap.size = true := by simp [readsB]
    have keep : ∀ {a b : World}, Ext noF a b → wc.heap.size ≤ a.heap.size → keeps (some (some [w.heap.size])) a b := fun x h => keeps_on x fun y hy => ⟨by
      simp only [List.mem_cons, List.not_mem_nil, or_false] at hy
      omega, fun _ g => g⟩
    have Y0 : Ext noF w (dr wc (wc.drawn + 1)) := XC.tr (Ext.dr _ _ _)
    obtain ⟨o1, hsl, hsa, hsb⟩ := slFrom_sl pb po 2 i a0.length c0
    refine W_sq fun K hK => (W_free (some (some [w.heap.size])) (.take 0 (.take 1 (.take 2 (.take 3 (.take 4 (.take 5 (.take 6 (.take 7 (.act 8 (.act 9 (.bar 10 (.take 11 (.take 12 (.take 13 (.take 14 (.take 15 .nil)))))))))))))))) mixed (by kernel_rfl) ?_); simp only [↓List.toList_toArray, ↓rgd, ↓rgf, ↓reduceIte, Nat.reduceEqDiff, rg, ow_3, e1, hv0, rm3, M1, hil', hic, hsl]
    refine do_bsl rfl (bs_two _ _ _ _ _ _) fun u1 n1' => ⟨by first | exact trivial | exact .inr (keep n1'.ext (Nat.le_refl _)), ?_⟩
    have S1 := n1'.size
    rw [sz_dr] at S1
    have Y1 := Y0.tr n1'.ext
    simp only [↓List.toList_toArray, ↓rgd, ↓rgf, ↓reduceIte, Nat.reduceEqDiff, rg, ow_3, e1, hv0, rm3, M1]
    have g1' := SlV.ext0 g0 Y1
    rw [hv0] at g1'
    refine do_call fn_16 (by simp only [evt, evc, upd_eq, Nat.reduceEqDiff, ↓reduceIte, maT, maC, maN, isnN, isnS] <;> rfl) (concat_any [a0.drop i, a0.take i] [.slice (some ⟨pb, o1, none⟩) (a0.length - i) (c0 - i), .slice (some ⟨pb, po, none⟩) i c0] _ 0 2 u1 rfl (by simp) (fun j l v h1 h2 => ?_) n1'.row (by simp; omega)) ?_
    · match j, h1, h2 with
      | 0, h1, h2 => cases h1; cases h2; rw [← hsl]; exact sl_drop g1' hil'
      | 1, h1, h2 => cases h1; cases h2; exact sl_take g1' hil'
      | k + 2, h1, h2 => simp at h1
    rintro cv u2 ⟨h2', -, X2⟩
    have S2 := X2.size
    have Y2 := Y1.tr X2
    refine ⟨by first | exact trivial | exact .inr (keep X2 (by omega)), ?_⟩
    simp only [↓List.toList_toArray, ↓rgd, ↓rgf, ↓reduceIte, Nat.reduceEqDiff, rg, ow_3, e1, hv0, rm3, M1]
    have hfl : [a0.drop i, a0.take i].flatten = a0.drop i ++ a0.take i := by simp
    rw [hfl] at h2'
    obtain ⟨ks, hks⟩ : ∃ ks, ks = a0.drop i ++ a0.take i := ⟨_, rfl⟩
    have hkl : ks.length = a0.length := by rw [hks]; simp; omega
    have hkm : ∀ y ∈ a0, y ∈ ks := fun y hy => by
      rw [hks]
      rw [← List.take_append_drop i a0] at hy
      simp only [List.mem_append] at hy ⊢
      exact hy.symm
    rw [← hks] at h2'
    clear hks hfl
    have gv2 := SlV.ext0 g0 Y2
    rw [hv0] at gv2
    refine do_call fn_15 (by simp only [evt, evc, upd_eq, Nat.reduceEqDiff, ↓reduceIte, maT, maC, maN, isnN, isnS] <;> rfl) (impl_gdelete n hd ord sv nl a0 _ ks cv u2 (SlV.ext0 gs Y2) hbo gv2 hb0 h2' (by omega)) ?_
    rintro _ u3 ⟨fv, dv, rfl, hfv, hdv, X3⟩
    have hda : dels ord (treeG ord a0) ks = [] := dels_all hta hkm
    have hct := dreps_count ord ks (treeG ord a0)
    rw [hda] at hdv hct
    obtain ⟨fs, hfs⟩ : ∃ fs, fs = dreps ord (treeG ord a0) ks := ⟨_, rfl⟩
    rw [← hfs] at hfv hct
    have hfl : fs.length = ks.length := by rw [hfs, dreps_length]
    clear hfs
    have S3 := X3.size
    have Y3 := Y2.tr X3
    refine ⟨by first | exact trivial | exact .inr (keep X3 (by omega)), ?_⟩
    have rm3' := ((((Ext.dr noF wc (wc.drawn + 1)).tr n1'.ext).tr (X2.tr X3)).row rm fun _ _ h => h)
    simp only [↓List.toList_toArray, ↓rgd, ↓rgf, ↓reduceIte, Nat.reduceEqDiff, rg, ow_3]
    refine hK _ _ ?_; clear hK K
    refine W_sq fun K hK => (W_text [true] (by kernel_rfl) ?_); simp only [↓List.toList_toArray, ↓rgd, ↓rgf, ↓reduceIte, Nat.reduceEqDiff, rg, ow_3]
    refine hK _ _ ?_; clear hK K
    obtain ⟨ka, kc, hkv⟩ := SlV.shape hfv
    obtain ⟨da, dc, hdv'⟩ := SlV.shape hdv
    subst hkv hdv'
    refine W_seq (W_seq ?_)
    refine W_rg fun K hK => (W_text [true, true, true] (by kernel_rfl) ?_); simp only [↓List.toList_toArray, ↓rgd, ↓rgf, ↓reduceIte, Nat.reduceEqDiff, rg, ow_3]
    refine hK _ _ ?_; clear hK K
    show W _ _ _ _ _ _
    refine W_block (W_loop (fun mm e w' => ∃ k : Nat, mm = fs.length - k ∧ k ≤ fs.length ∧ e 49 = .slice ka fs.length kc ∧ e 50 = .int .i64 fs.length ∧ e 51 = .int .i64 k ∧ e 1 = .slice (some ⟨pb, po, none⟩) a0.length c0 ∧ e 3 = ptr w.heap.size ∧ e 9 = .slice da 0 dc ∧ e 10 = .int .i64 (((fs.take k).filter fun f => f.2).length : Nat) ∧ Ext noF u3 w')
      fs.length ⟨0, by simp, by simp, by simp only [upd_eq, Nat.reduceEqDiff, ↓reduceIte], by simp only [upd_eq, Nat.reduceEqDiff, ↓reduceIte], by simp only [upd_eq, Nat.reduceEqDiff, ↓reduceIte]; rfl, by simp only [upd_eq, Nat.reduceEqDiff, ↓reduceIte]; exact e1.trans hv0, by simp only [upd_eq, Nat.reduceEqDiff, ↓reduceIte]; rfl, by simp only [upd_eq, Nat.reduceEqDiff, ↓reduceIte]; rfl, by simp only [upd_eq, Nat.reduceEqDiff, ↓reduceIte]; rfl, Ext.refl _ _⟩ ?_)
    clear e0 e1 e2 e
    rintro mm e w' ⟨k, rfl, hk, eS, eL, eI, e1, e3, e9, e10, X⟩
    by_cases hlt : k < fs.length
    · have ht := lt_tt k fs.length hlt
      refine W_sq fun K hK => (W_text [true] (by kernel_rfl) ?_); simp only [↓List.toList_toArray, ↓rgd, ↓rgf, ↓reduceIte, Nat.reduceEqDiff, rg, ow_3, eL, eI, ht]
      refine hK _ _ ?_; clear hK K
      refine W_seq (W_true (by simp only [evt, evc, upd_eq, Nat.reduceEqDiff, ↓reduceIte, ntT, ntF] <;> rfl) (W_skip ?_))
      show W _ _ _ _ _ _
      obtain ⟨x, hx⟩ : ∃ x, fs[k]? = some x := ⟨_, List.getElem?_eq_getElem hlt⟩
      obtain ⟨ib, io, hka, row⟩ := SlV.at hfv rfl hlt
      have hibl := SlV.lt hfv (by rw [hka])
      have ixx := foV_at (X.row row (fun _ _ h => h)) hx
      rw [hka] at eS
      refine W_seq (W_block ?_)
      refine W_sq fun K hK => (W_text [true, true, false, false] (by kernel_rfl) ?_); simp only [↓List.toList_toArray, ↓rgd, ↓rgf, ↓reduceIte, Nat.reduceEqDiff, rg, ow_3, eS, eI, hlt, ixx]
      refine do_alloc z_fo fun w2 n2 => ⟨trivial, ?_⟩
      simp only [↓List.toList_toArray, ↓rgd, ↓rgf, ↓reduceIte, Nat.reduceEqDiff, rg, ow_3]
      refine do_store (v := foV x) (by simp only [evt, evc, upd_eq, Nat.reduceEqDiff, ↓reduceIte, ntT, ntF] <;> rfl) (by simp only [evt, evc, upd_eq, Nat.reduceEqDiff, ↓reduceIte, ntT, ntF] <;> rfl) sz_35 rfl n2.wok (by decide) (fo_oc x) fun w3 x3 r3 s3 => ⟨trivial, ?_⟩
      simp only [↓List.toList_toArray, ↓rgd, ↓rgf, ↓reduceIte, Nat.reduceEqDiff, rg, ow_3]
      refine hK _ _ ?_; clear hK K
      have X3' : Ext noF w' w3 := noF_of n2.ext x3 fun y o hy h => by simp only [rng] at h; omega
      have rf : Row w3 w'.heap.size 0 [.int .i64 x.1.1, .int .i64 x.1.2, .bool x.2] := r3
      have v2 := (Row.cons.1 (Row.cons.1 (Row.cons.1 rf).2).2).1
      rw [← hka] at eS
      have hfk : ((fs.take (k + 1)).filter fun f => f.2).length = ((fs.take k).filter fun f => f.2).length + (if x.2 then 1 else 0) := by
        rw [take_snoc hx, List.filter_append, List.length_append]
        congr 1
        cases hx2 : x.2 <;> simp [hx2]
      have hfn : ((fs.take k).filter fun f => f.2).length ≤ 2147483647 := by
        have h1 := List.length_filter_le (fun f => f.2) (fs.take k)
        rw [List.length_take] at h1
        omega
      refine W_sq fun K hK => (W_text [true, true] (by kernel_rfl) ?_); simp only [↓List.toList_toArray, ↓rgd, ↓rgf, ↓reduceIte, Nat.reduceEqDiff, rg, ow_3, v2]
      refine hK _ _ ?_; clear hK K
      cases hx2 : x.2 with
      | true =>
        rw [hx2] at hfk
        refine W_true (by simp only [evt, evc, upd_eq, Nat.reduceEqDiff, ↓reduceIte, ntT, ntF] <;> rfl) ?_
        have q2 := wadd1 ((fs.take k).filter fun f => f.2).length (by omega)
        refine W_rg fun K hK => (W_text [true, true, true] (by kernel_rfl) ?_); simp only [↓List.toList_toArray, ↓rgd, ↓rgf, ↓reduceIte, Nat.reduceEqDiff, rg, ow_3, e10, q2]
        refine hK _ _ ?_; clear hK K
        show W _ _ _ _ _ _
        have q1 := wadd1 k (by omega)
        refine W_rg fun K hK => (W_text [true, true] (by kernel_rfl) ?_); simp only [↓List.toList_toArray, ↓rgd, ↓rgf, ↓reduceIte, Nat.reduceEqDiff, rg, ow_3, eI, q1]
        refine hK _ _ ?_; clear hK K
        refine ⟨_, ?_, k + 1, rfl, hlt, by simp only [upd_eq, Nat.reduceEqDiff, ↓reduceIte]; exact eS, by simp only [upd_eq, Nat.reduceEqDiff, ↓reduceIte]; exact eL, by simp only [upd_eq, Nat.reduceEqDiff, ↓reduceIte], by simp only [upd_eq, Nat.reduceEqDiff, ↓reduceIte]; exact e1, by simp only [upd_eq, Nat.reduceEqDiff, ↓reduceIte]; exact e3, by simp only [upd_eq, Nat.reduceEqDiff, ↓reduceIte]; exact e9, by simp only [upd_eq, Nat.reduceEqDiff, ↓reduceIte]; rw [hfk]; rfl, X.tr X3'⟩
        omega
      | false =>
        rw [hx2] at hfk
        refine W_false (by simp only [evt, evc, upd_eq, Nat.reduceEqDiff, ↓reduceIte, ntT, ntF] <;> rfl) (W_skip ?_)
        show W _ _ _ _ _ _
        have q1 := wadd1 k (by omega)
        refine W_rg fun K hK => (W_text [true, true] (by kernel_rfl) ?_); simp only [↓List.toList_toArray, ↓rgd, ↓rgf, ↓reduceIte, Nat.reduceEqDiff, rg, ow_3, eI, q1]
        refine hK _ _ ?_; clear hK K
        refine ⟨_, ?_, k + 1, rfl, hlt, by simp only [upd_eq, Nat.reduceEqDiff, ↓reduceIte]; exact eS, by simp only [upd_eq, Nat.reduceEqDiff, ↓reduceIte]; exact eL, by simp only [upd_eq, Nat.reduceEqDiff, ↓reduceIte], by simp only [upd_eq, Nat.reduceEqDiff, ↓reduceIte]; exact e1, by simp only [upd_eq, Nat.reduceEqDiff, ↓reduceIte]; exact e3, by simp only [upd_eq, Nat.reduceEqDiff, ↓reduceIte]; exact e9, by simp only [upd_eq, Nat.reduceEqDiff, ↓reduceIte]; rw [hfk]; exact e10, X.tr X3'⟩
        omega
    · obtain rfl : k = fs.length := by omega
      have ht := lt_ff fs.length fs.length (by omega)
      refine W_sq fun K hK => (W_text [true] (by kernel_rfl) ?_); simp only [↓List.toList_toArray, ↓rgd, ↓rgf, ↓reduceIte, Nat.reduceEqDiff, rg, ow_3, eL, eI, ht]
      refine hK _ _ ?_; clear hK K
      refine W_seq (W_false (by simp only [evt, evc, upd_eq, Nat.reduceEqDiff, ↓reduceIte, ntT, ntF] <;> rfl) (W_exit ?_))
      simp only [andThen_exit, inBlk_exit, andThen_normal, ↓reduceIte]
      rw [List.take_length] at e10
      simp only [List.length_nil, Nat.add_zero] at hct
      rw [hct] at e10
      have rs0 := mk_at0 (X.row rm3' fun _ _ h => h)
      have Y4 := Y3.tr X
      have t0 : (((0 : Nat) : Int) == 0) = true := rfl
      refine W_sq fun K hK => (W_text [true, true, true, true, true, true, true, true, false, true, true, true, true, false, true, true] (by kernel_rfl) ?_); simp only [↓List.toList_toArray, ↓rgd, ↓rgf, ↓reduceIte, Nat.reduceEqDiff, rg, ow_3, e1, e3, e9, e10, rs0, ptr_eq, t0]
      have gv4 := SlV.ext0 g0 Y4
      rw [hv0] at gv4
      refine do_call fn_17 (by simp only [evt, evc, upd_eq, Nat.reduceEqDiff, ↓reduceIte, maT, maC, maN, isnN, isnS] <;> rfl) (stree_ord sv ord a0 _ w' (SlV.ext0 gs Y4) hbo gv4 hb0) ?_
      rintro v5 u5 ⟨h5, X5⟩
      obtain ⟨ta, tc, rfl⟩ := SlV.shape h5
      have t5 : (((treeG ord a0).length : Int) == ((treeG ord a0).length : Int)) = true := by simp
      refine ⟨trivial, ?_⟩
      simp only [↓List.toList_toArray, ↓rgd, ↓rgf, ↓reduceIte, Nat.reduceEqDiff, rg, ow_3, e10, t5]
      refine do_call fn_14 (by simp only [evt, evc, upd_eq, Nat.reduceEqDiff, ↓reduceIte, maT, maC, maN, isnN, isnS] <;> rfl) (alive_any u5) ?_
      rintro _ u6 ⟨rfl, X6⟩
      refine ⟨trivial, ?_⟩
      simp only [↓List.toList_toArray, ↓rgd, ↓rgf, ↓reduceIte, Nat.reduceEqDiff, rg, ow_3]
      refine hK _ _ ?_; clear hK K
      exact W_ret (endQ_1 (by simp only [upd_eq, Nat.reduceEqDiff, ↓reduceIte] <;> rfl) ⟨rfl, (Y4.tr X5).tr X6⟩)
end Go.Proofs.Ytbnnkcofnmipoaa
/-
  FnGDeleteAll: the whole statement: it returns true whatever the input is, and the arguments read as before. No condition.
-/
set_option linter.unusedSimpArgs false
set_option linter.unusedVariables false
namespace Go.Proofs.Ytbnnkcofnmipoaa
open Go Go.Proofs Go.ChangeShapes Go.WideShapes Go.ChangeAt Go.RowKit
theorem u8_wf {n : Int} (h : (Lit.int .u8 n).wf = true) : ∃ m : Nat, n = m ∧ m < 256 := by
  simp [Lit.wf, IntKind.min, IntKind.max, IntKind.signed, IntKind.bits] at h
  exact ⟨n.toNat, by omega, by omega⟩
set_option maxRecDepth 100000 in
theorem c_FnGDeleteAll (H : Type) (enc : TypeId × Value → H) (W : World) (base : Nat) (args : Array Value) (ds gs : List (DataW H)) (before : List MemPlace)
    (hval : ∀ (j : Nat) t v, Try.f3.params[j]? = some t → args[j]? = some v → Value.okWide Try.prog W .any base t v)
    (hW : DataW.Whole enc Try.prog Try.f3.params.toList Rows.fnGDeleteAllSpec.vars false W args.toList ds gs before) :
    Calls Try.prog 3 args W fun e W' => ∃ v, e = .returned v ∧ Rows.fnGDeleteAllSpec.post enc Try.prog Try.f3 false true false false W args v W' := by
  have hW' := hW
  obtain ⟨p, q, hA0, hV, rfl, hfz, hnd⟩ := hW
  have hA : DataW.TrodAll enc Try.prog W 0 (fun _ => true) true Try.f3.params.toList args.toList ds p := hA0
  rw [Try.params3] at hA hval
  obtain ⟨v0, v1, v2, d0, d1, d2, p0, p1, p2, rfl, rfl, rfl, h0, h1, h2⟩ := trodAll_three hA
  obtain ⟨rfl, rfl⟩ := trodVars_none hV
  obtain ⟨s0, a0, n0, r0, rfl, g0⟩ := open_make (hval 0 24 v0 rfl rfl) h0 fun b o h => hfz b o (by simp [h])
  obtain ⟨a1, g1⟩ := open_items (hval 1 25 v1 rfl rfl) h1 fun b o h => hfz b o (by simp [h])
  obtain ⟨z2, rfl, rfl, rfl, hz2⟩ := open_int Try.underlying5 (hval 2 5 v2 rfl rfl) h2
  obtain ⟨a2, rfl, g2⟩ := u8_wf hz2
  exact calls_law laidOut (by rw [Try.params3]; kernel_rfl) rfl hW' rfl rfl rfl (by kernel_rfl) Try.underlying4 (top_FnGDeleteAll r0 s0 a0 n0 a1 v1 a2 W g0 g1 g2)
set_option maxRecDepth 100000 in
theorem l_FnGDeleteAll (os : Os) (started : os.Started) (H : Type) (enc : TypeId × Value → H) :
    ReturnsInHanded {} Try.checked os 3 .any (Rows.fnGDeleteAllSpec.pre6 enc Try.prog Try.f3 Rows.fnGDeleteAllRow.domain false) (Rows.fnGDeleteAllSpec.post enc Try.prog Try.f3 false true false false) := by
  refine returnsInHanded_of_change (C := Try.checked) own started (by kernel_rfl) Try.func3
    (ChangeSpec.witness6 (enc := enc) (C := Try.checked) false ⟨#[], #[.agg #[.slice none 0 0, .int .i64 0, .bool false], .slice none 0 0, .int .u8 0], []⟩ 8 (by kernel_rfl) (by kernel_rfl) (by kernel_rfl) (by kernel_rfl)) ?_
  intro W base args ds gs before hval hW _ _
  exact c_FnGDeleteAll H enc W base args ds gs before hval hW
theorem h_FnGDeleteAll : Rows.FnGDeleteAllSaid :=
  OpenClaim.holds_of_wide 3 Try.f3 rfl rfl rfl rfl rfl rfl rfl ⟨rfl, rfl, rfl, rfl, rfl⟩ rfl rfl rfl rfl rfl (by kernel_rfl) Try.func3 (by kernel_rfl)
    (of_decide_eq_true (by kernel_rfl)) (by unfold Func.isWrapper; first | (rw [if_pos (by decide +kernel)]; kernel_rfl) | (rw [if_neg (by decide +kernel)]; exact ⟨rfl, rfl⟩))
    (fun os started H enc _ => l_FnGDeleteAll os started H enc)
#print axioms h_FnGDeleteAll
end Go.Proofs.Ytbnnkcofnmipoaa
