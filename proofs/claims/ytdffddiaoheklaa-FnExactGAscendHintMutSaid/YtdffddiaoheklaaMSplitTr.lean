/-
  A full tree is split into two trees and the item between them. No condition.
-/
import Derived.Test.YtdffddiaoheklaaMSplit
import Derived.Test.YtdffddiaoheklaaWeave
import Derived.Test.YtdffddiaoheklaaIns
set_option linter.unusedSimpArgs false
set_option linter.unusedVariables false
namespace Go.Proofs.Ytdffddiaoheklaa
open Go Go.Proofs
theorem weave_split {α : Type} : ∀ (i : Nat) (cs : List (List α)) (ks : List α) (k : α), cs.length = ks.length + 1 → ks[i]? = some k →
    weave cs ks = weave (cs.take (i + 1)) (ks.take i) ++ k :: weave (cs.drop (i + 1)) (ks.drop (i + 1))
  | _, cs, [], k, _, hk => by simp at hk
  | _, [], _ :: _, k, h, _ => by simp at h
  | 0, c :: cs, k0 :: ks, k, h, hk => by simp at hk; subst hk; simp [weave]
  | i + 1, c :: cs, k0 :: ks, k, h, hk => by
    rw [weave_cons, weave_split i cs ks k (by simpa using h) (by simpa using hk)]
    simp [weave]
theorem Tr.cnt {α : Type} {E : Enc α} {iso : Int} {mn mx : Nat} {w : World} : ∀ {h lo b : Nat} {xs : List α} {F : Nat → Nat → Prop}, Tr E iso mn mx h w lo b xs F → rd w b 1 = some (.int .i64 xs.length)
  | 0, _, _, _, _, ⟨_, _, _, hO, _⟩ => hO.h1
  | _ + 1, _, _, _, _, ⟨_, _, _, _, _, _, _, _, _, hO, _⟩ => hO.h1
theorem Tr.iso' {α : Type} {E : Enc α} {iso : Int} {mn mx : Nat} {w : World} : ∀ {h lo b : Nat} {xs : List α} {F : Nat → Nat → Prop}, Tr E iso mn mx h w lo b xs F → rd w b 0 = some (.int .u64 iso)
  | 0, _, _, _, _, ⟨_, _, _, hO, _⟩ => hO.h0
  | _ + 1, _, _, _, _, ⟨_, _, _, _, _, _, _, _, _, hO, _⟩ => hO.h0
def cnW (w : World) (p : Nat) : Nat := match rd w p 1 with
  | some (.int _ k) => k.toNat
  | _ => 0
theorem cnW_eq {w : World} {p n : Nat} (h : rd w p 1 = some (.int .i64 (n : Int))) : cnW w p = n := by simp [cnW, h]
theorem cntP_kids {α : Type} {E : Enc α} {iso : Int} {mn mx h : Nat} {w : World} : ∀ {cs : List (Kid α)}, (∀ c ∈ cs, Tr E iso mn mx h w mn c.b c.xs c.F) → cntP (cnW w) (cs.map Kid.b) = ((cs.map Kid.xs).map List.length).sum
  | [], _ => rfl
  | c :: cs, hc => by
    have ih := cntP_kids (cs := cs) fun c h => hc c (by simp [h])
    simp only [cntP, List.map_cons, List.sum_cons] at ih ⊢
    rw [ih, cnW_eq (hc c (by simp)).cnt]
theorem ownF_sub {α : Type} {E : Enc α} {b bi oi oi' cap cap' x o : Nat} (h : ownF E b bi oi' cap' x o) (h1 : oi ≤ oi') (h2 : oi' + cap' * E.sz ≤ oi + cap * E.sz) : ownF E b bi oi cap x o := by
  rcases h with h | ⟨h, h3, h4⟩
  · exact .inl h
  · exact .inr ⟨h, by omega, by omega⟩
set_option maxHeartbeats 1000000 in
theorem split_tr (m d b h : Nat) (iso : Int) (xs : List It) (F : Nat → Nat → Prop) (w : World) (hd : 2 ≤ d) (hd' : d ≤ 128) (hc : Cfg w m iso d) (ht : Tr E iso (d - 1) (2 * d - 1) h w (2 * d - 1) b xs F)
    (hm : ∀ o, ¬ F m o) (hbig : xs.length < 2305843009213693952) :
    CallK Try.prog 119 #[ptr m, ptr b] w fun v w' => ∃ rb md xl xr, ∃ Fl Fr : Nat → Nat → Prop, v = .tuple #[ptr rb, itV md] ∧ xs = xl ++ md :: xr ∧ Ext F w w' ∧ (∀ y o, Fl y o → F y o) ∧
      (∀ y o, Fr y o → F y o ∨ w.heap.size ≤ y) ∧ (∀ y o, Fl y o → ¬ Fr y o) ∧ Tr E iso (d - 1) (2 * d - 1) h w' (d - 1) b xl Fl ∧ Tr E iso (d - 1) (2 * d - 1) h w' (d - 1) rb xr Fr := by
  cases h with
  | zero =>
    obtain ⟨bi, oi, cap, ho, h1, h2, hF⟩ := ht
    have hbl := wok_lt ho.wb
    have hbil := wok_lt ho.wi
    have hle := ho.le
    have hne := ho.ne
    refine CallK_mono (split_leaf m d b bi oi cap iso _ xs w hd hd' hc ho (by omega) fun o h => hm o ((hF _ _).2 h)) ?_
    rintro v w' ⟨rb, x, rfl, hx, X, hrb, oL, oR⟩
    have hxs : xs = xs.take (d - 1) ++ x :: xs.drop d := by
      have h3 := (List.getElem?_eq_some_iff.1 hx)
      have := List.take_append_drop (d - 1) xs
      rw [List.drop_eq_getElem_cons h3.1, h3.2, show d - 1 + 1 = d by omega] at this
      exact this.symm
    have l1 : (xs.take (d - 1)).length = d - 1 := by rw [List.length_take]; omega
    have l2 : (xs.drop d).length = d - 1 := by rw [List.length_drop]; omega
    refine ⟨rb, x, xs.take (d - 1), xs.drop d, ownF E b bi oi (d - 1), ownF E rb bi (oi + d * 2) (cap - d), rfl, hxs, X.mono fun y o _ h => (hF y o).2 h, fun y o h => (hF y o).2 (ownF_sub h (Nat.le_refl _) (by rw [E_sz]; omega)), ?_, ?_, ?_, ?_⟩
    · rintro y o (rfl | ⟨rfl, h3, h4⟩)
      · exact .inr hrb
      · rw [E_sz] at h4; exact .inl ((hF _ _).2 (.inr ⟨rfl, by omega, by rw [E_sz]; omega⟩))
    · rintro y o (rfl | ⟨rfl, h3, h4⟩) (h5 | ⟨h5, h6, h7⟩)
      · omega
      · omega
      · omega
      · rw [E_sz] at h4 h7; omega
    · exact ⟨bi, oi, d - 1, by rw [l1]; exact oL, by omega, by omega, fun _ _ => Iff.rfl⟩
    · exact ⟨bi, oi + d * 2, cap - d, by rw [l2]; exact oR, by omega, by omega, fun _ _ => Iff.rfl⟩
  | succ h =>
    obtain ⟨bi, oi, cap, bc, ba, oa, capc, ks, cs, ho, hk, h1, h2, hcs, hxs, hT, hA, hF⟩ := ht
    have hbl := wok_lt ho.wb
    have hbil := wok_lt ho.wi
    have hbcl := wok_lt hk.wc
    have hbal := wok_lt hk.wa
    have hle := ho.le
    have hne := ho.ne
    have hkne := hk.ne
    have hkle := hk.le
    rw [List.length_map] at hkle
    have hkl : ks.length = 2 * d - 1 := by omega
    have hsum := cntP_kids hT
    have hlen := weave_length (cs.map Kid.xs) ks (by simpa using hcs)
    rw [← hxs] at hlen
    refine CallK_mono (split_inner m d b bi oi cap bc ba oa capc (cs.map Kid.b) (cnW w) iso _ ks w hd hd' hc ho hk (by rw [List.length_map]; omega) hA.cb hA.ab hA.ic hA.ia hkl (fun o h => hm o ((hF _ _).2 (.inl h)))
      (fun o h => hm o ((hF _ _).2 (.inr (.inl h)))) ?_ (by omega)) ?_
    · intro p hp
      obtain ⟨c, hcm, rfl⟩ := List.mem_map.1 hp
      have hTc := hT c hcm
      refine ⟨by rw [cnW_eq hTc.cnt]; exact hTc.cnt, fun o => ⟨hA.own c hcm _ _ (hTc.self o), hA.kid c hcm _ _ (hTc.self o)⟩⟩
    rintro v w' ⟨rb, x, rfl, hx, X, hrb, rbc, hrbc, hrr, oL, oR, kL, kR⟩
    have hsp := weave_split (d - 1) (cs.map Kid.xs) ks x (by simpa using hcs) hx
    rw [show d - 1 + 1 = d by omega, ← List.map_take, ← List.map_drop] at hsp
    have l1 : (ks.take (d - 1)).length = d - 1 := by rw [List.length_take]; omega
    have l2 : (ks.drop d).length = d - 1 := by rw [List.length_drop]; omega
    have c1 : (cs.take d).length = d := by rw [List.length_take]; omega
    have c2 : (cs.drop d).length = d := by rw [List.length_drop]; omega
    have n1 := weave_length ((cs.take d).map Kid.xs) (ks.take (d - 1)) (by rw [List.length_map]; omega)
    have n2 := weave_length ((cs.drop d).map Kid.xs) (ks.drop d) (by rw [List.length_map]; omega)
    have s1 := cntP_kids (cs := cs.take d) fun c h => hT c (List.mem_of_mem_take h)
    have s2 := cntP_kids (cs := cs.drop d) fun c h => hT c (List.mem_of_mem_drop h)
    rw [List.map_take] at s1
    rw [List.map_drop] at s2
    have hT' : ∀ c ∈ cs, Tr E iso (d - 1) (2 * d - 1) h w' (d - 1) c.b c.xs c.F := fun c hc => (hT c hc).ext X fun y o hy g => by
      rcases g with g | g
      · exact hA.own c hc y o hy g
      · exact hA.kid c hc y o hy g
    have hlt : ∀ c ∈ cs, ∀ y o, c.F y o → y < w.heap.size := fun c hc y o hy => (hT c hc).lt y o hy
    have oLs : ∀ y o, ownF E b bi oi (d - 1) y o → ownF E b bi oi cap y o := fun y o g => ownF_sub g (Nat.le_refl _) (by rw [E_sz]; omega)
    have oRs : ∀ y o, ownF E rb bi (oi + d * 2) (cap - d) y o → y = rb ∨ ownF E b bi oi cap y o := fun y o g => by
      rcases g with g | ⟨rfl, g1, g2⟩
      · exact .inl g
      · rw [E_sz] at g2; exact .inr (.inr ⟨rfl, by omega, by rw [E_sz]; omega⟩)
    have kLs : ∀ y o, kidF bc ba oa d y o → kidF bc ba oa capc y o := fun y o g => by
      rcases g with g | ⟨rfl, g1, g2⟩
      · exact .inl g
      · exact .inr ⟨rfl, by omega, by omega⟩
    have kRs : ∀ y o, kidF rbc ba (oa + d) (capc - d) y o → y = rbc ∨ kidF bc ba oa capc y o := fun y o g => by
      rcases g with g | ⟨rfl, g1, g2⟩
      · exact .inl g
      · exact .inr (.inr ⟨rfl, by omega, by omega⟩)
    have hpair : ∀ c1 ∈ cs.take d, ∀ c2 ∈ cs.drop d, ∀ y o, c1.F y o → ¬ c2.F y o := by
      have := hA.two
      rw [← List.take_append_drop d cs] at this
      exact (List.pairwise_append.1 this).2.2
    refine ⟨rb, x, _, _, fun y o => ownF E b bi oi (d - 1) y o ∨ kidF bc ba oa d y o ∨ ∃ c ∈ cs.take d, c.F y o, fun y o => ownF E rb bi (oi + d * 2) (cap - d) y o ∨ kidF rbc ba (oa + d) (capc - d) y o ∨ ∃ c ∈ cs.drop d, c.F y o,
      rfl, hxs.trans hsp, X.mono fun y o _ g => (hF y o).2 (by rcases g with g | g; exact .inl g; exact .inr (.inl g)), ?_, ?_, ?_, ?_, ?_⟩
    · rintro y o (g | g | ⟨c, hc, g⟩)
      · exact (hF y o).2 (.inl (oLs _ _ g))
      · exact (hF y o).2 (.inr (.inl (kLs _ _ g)))
      · exact (hF y o).2 (.inr (.inr ⟨c, List.mem_of_mem_take hc, g⟩))
    · rintro y o (g | g | ⟨c, hc, g⟩)
      · rcases oRs _ _ g with rfl | g
        · exact .inr hrb
        · exact .inl ((hF y o).2 (.inl g))
      · rcases kRs _ _ g with rfl | g
        · exact .inr hrbc
        · exact .inl ((hF y o).2 (.inr (.inl g)))
      · exact .inl ((hF y o).2 (.inr (.inr ⟨c, List.mem_of_mem_drop hc, g⟩)))
    · have cb := hA.cb
      have ab := hA.ab
      have ic := hA.ic
      have ia := hA.ia
      rintro y o (g | g | ⟨c, hc, g⟩) (k | k | ⟨c', hc', k⟩)
      · simp only [ownF, rng, E_sz] at g k; omega
      · simp only [ownF, kidF, rng, E_sz] at g k; omega
      · exact hA.own c' (List.mem_of_mem_drop hc') y o k (oLs _ _ g)
      · simp only [ownF, kidF, rng, E_sz] at g k; omega
      · simp only [kidF, rng] at g k; omega
      · exact hA.kid c' (List.mem_of_mem_drop hc') y o k (kLs _ _ g)
      · have := hlt c (List.mem_of_mem_take hc) y o g
        rcases oRs _ _ k with rfl | k
        · omega
        · exact hA.own c (List.mem_of_mem_take hc) y o g k
      · have := hlt c (List.mem_of_mem_take hc) y o g
        rcases kRs _ _ k with rfl | k
        · omega
        · exact hA.kid c (List.mem_of_mem_take hc) y o g k
      · exact hpair c hc c' hc' y o g k
    · refine ⟨bi, oi, d - 1, bc, ba, oa, d, ks.take (d - 1), cs.take d, ?_, ?_, by omega, by omega, by omega, rfl, fun c hc => hT' c (List.mem_of_mem_take hc), ?_, fun _ _ => Iff.rfl⟩
      · rw [n1, l1, ← s1]; exact oL
      · rw [List.map_take]; exact kL
      · exact ⟨hA.cb, hA.ab, hA.ic, hA.ia, fun c hc y o g k => hA.own c (List.mem_of_mem_take hc) y o g (oLs _ _ k), fun c hc y o g k => hA.kid c (List.mem_of_mem_take hc) y o g (kLs _ _ k),
          List.Pairwise.sublist (List.take_sublist _ _) hA.two⟩
    · refine ⟨bi, oi + d * 2, cap - d, rbc, ba, oa + d, capc - d, ks.drop d, cs.drop d, ?_, ?_, by omega, by omega, by omega, rfl, fun c hc => hT' c (List.mem_of_mem_drop hc), ?_, fun _ _ => Iff.rfl⟩
      · rw [n2, l2, ← s2]; exact oR
      · rw [List.map_drop]; exact kR
      · refine ⟨hrr, by omega, by omega, hA.ia, fun c hc y o g k => ?_, fun c hc y o g k => ?_, List.Pairwise.sublist (List.drop_sublist _ _) hA.two⟩
        · have := hlt c (List.mem_of_mem_drop hc) y o g
          rcases oRs _ _ k with rfl | k
          · omega
          · exact hA.own c (List.mem_of_mem_drop hc) y o g k
        · have := hlt c (List.mem_of_mem_drop hc) y o g
          rcases kRs _ _ k with rfl | k
          · omega
          · exact hA.kid c (List.mem_of_mem_drop hc) y o g k
end Go.Proofs.Ytdffddiaoheklaa
