/-
  A node behind the split of one of its children is a tree again. No condition.
-/
import Derived.Test.YtdffddiaoheklaaMSplitTr
import Derived.Test.YtdffddiaoheklaaNode
set_option linter.unusedSimpArgs false
set_option linter.unusedVariables false
namespace Go.Proofs.Ytdffddiaoheklaa
open Go Go.Proofs
set_option maxHeartbeats 2000000 in
theorem set_asm {d h' b bi oi cap bc ba oa capc i lo b' o' cap' ba' oa' capc' rb : Nat} {iso : Int} {xs ks xl xr A C : List It} {md : It} {F F' Fl Fr G6 : Nat → Nat → Prop} {w w4 w6 w8 w15 w16 w20 : World} {cs : List (Kid It)} {c : Kid It}
    (n : Inn E iso (d - 1) (2 * d - 1) h' w b xs F bi oi cap ks bc ba oa capc cs) (n4 : Inn E iso (d - 1) (2 * d - 1) h' w4 b xs F bi oi cap ks bc ba oa capc cs) (ho : Own E w b iso xs.length bi oi cap ks (ptr bc))
    (o4 : Own E w4 b iso xs.length bi oi cap ks (ptr bc)) (hoF : ∀ x o, ownF E b bi oi cap x o → F x o)
    (hci : cs[i]? = some c) (hlb : i ≤ ks.length) (hl1 : lo ≤ ks.length) (hl2 : ks.length ≤ 2 * d - 1) (hfull : ¬ ks.length = 2 * d - 1) (hw : WAt (cs.map Kid.xs) ks i A C) (hxs : xs = A ++ c.xs ++ C) (hcxs : c.xs = xl ++ md :: xr)
    (sz4 : w.heap.size ≤ w4.heap.size) (s6 : w4.heap.size ≤ w6.heap.size) (s8 : w6.heap.size ≤ w8.heap.size) (x6' : Ext G6 w4 w6) (hF'' : ∀ y o, F' y o → c.F y o ∨ w4.heap.size ≤ y) (x8 : Ext F' w6 w8)
    (hFl : ∀ y o, Fl y o → F' y o) (hFr' : ∀ y o, Fr y o → F' y o ∨ w6.heap.size ≤ y) (hlr : ∀ y o, Fl y o → ¬ Fr y o)
    (tL : Tr E iso (d - 1) (2 * d - 1) h' w8 (d - 1) c.b xl Fl) (tR : Tr E iso (d - 1) (2 * d - 1) h' w8 (d - 1) rb xr Fr) (T15 : Ext (fun y o => kidF bc ba oa capc y o ∨ w8.heap.size ≤ y) w8 w15)
    (k015 : rd w15 bc 0 = some (.slice (some ⟨ba', oa', none⟩) (cs.length + 1) capc')) (wbc15 : wok w15 bc 1) (rowK : Row w15 ba' oa' ((((cs.map Kid.b).map ptr).take (i + 1)) ++ ([ptr rb] ++ ((cs.map Kid.b).map ptr).drop (i + 1))))
    (wok15 : wok w15 ba' (oa' + capc')) (hcapc' : cs.length + 1 ≤ capc') (hcase12 : ba' = ba ∧ oa' = oa ∧ capc' = capc ∨ w8.heap.size ≤ ba') (hba'c : ba' ≠ bc) (hba'b : ba' ≠ b) (hba'i : ba' ≠ bi)
    (n16 : Ext noF w15 w16) (Y : Ext (fun y o => (rng bi (oi + ks.length * 2) 2 y o ∧ ks.length + 1 ≤ cap) ∨ (y = b ∧ o = 2) ∨ y = b' ∧ o' ≤ o ∧ o < o' + cap' * 2) w16 w20)
    (hb'c : b' = bi ∧ o' = oi ∧ cap' = cap ∨ w15.heap.size < b') (own20 : Own E w20 b iso xs.length b' o' cap' (ks.take i ++ md :: ks.drop i) (ptr bc)) (hG6 : ∀ y o, G6 y o → c.F y o ∨ w.heap.size ≤ y := by exact fun _ _ g => .inl g) :
    ∃ F20 : Nat → Nat → Prop, Tr E iso (d - 1) (2 * d - 1) (h' + 1) w20 (lo + 1) b xs F20 ∧ (∀ y o, F20 y o → F y o ∨ w4.heap.size ≤ y) ∧
      (∀ y o, y < w8.heap.size → ¬ ownF E b bi oi cap y o → ¬ ((rng bi (oi + ks.length * 2) 2 y o ∧ ks.length + 1 ≤ cap) ∨ (y = b ∧ o = 2) ∨ y = b' ∧ o' ≤ o ∧ o < o' + cap' * 2)) := by
  have hcm := List.mem_of_getElem? hci
  have hcl := (List.getElem?_eq_some_iff.1 hci).1
  have hlen := n.len
  have hbl := wok_lt ho.wb
  have hbil := wok_lt ho.wi
  have hbcl := wok_lt n.kids.wc
  have hbal := wok_lt n.kids.wa
  have hkne := n.kids.ne
  have hne := ho.ne
  have acb := n.ap.cb
  have aab := n.ap.ab
  have aic := n.ap.ic
  have aia := n.ap.ia
  have hS15 := T15.size
  have hb'b := own20.ne
  have hcF : ∀ y o, c.F y o → F y o := fun y o g => (n.fp y o).2 (.inr (.inr ⟨c, hcm, g⟩))
  have hF'own : ∀ y o, F' y o → ¬ ownF E b bi oi cap y o := fun y o g k => by
    rcases hF'' y o g with g | g
    · exact n.ap.own c hcm y o g k
    · have := o4.lt k; omega
  have hF'kid : ∀ y o, F' y o → ¬ kidF bc ba oa capc y o := fun y o g k => by
    rcases hF'' y o g with g | g
    · exact n.ap.kid c hcm y o g k
    · have := n4.kids.lt k; omega
  have hOKo : ∀ kd ∈ cs, ∀ y o, kd.F y o → y < w.heap.size := fun kd hd y o g => (n.sub kd hd).lt y o g
  obtain ⟨new, hnew⟩ : ∃ new : List (Kid It), new = [⟨c.b, xl, Fl⟩, ⟨rb, xr, Fr⟩] := ⟨_, rfl⟩
  have hnewF : ∀ kd ∈ new, ∀ y o, kd.F y o → F' y o ∨ w6.heap.size ≤ y := fun kd hd y o g => by
    rw [hnew] at hd
    simp only [List.mem_cons, List.not_mem_nil, or_false] at hd
    rcases hd with rfl | rfl
    · exact .inl (hFl y o g)
    · exact hFr' y o g
  have hnewlt : ∀ kd ∈ new, ∀ y o, kd.F y o → y < w8.heap.size := fun kd hd y o g => by
    rw [hnew] at hd
    simp only [List.mem_cons, List.not_mem_nil, or_false] at hd
    rcases hd with rfl | rfl
    · exact tL.lt y o g
    · exact tR.lt y o g
  have hnew4 : ∀ kd ∈ new, ∀ y o, kd.F y o → c.F y o ∨ w4.heap.size ≤ y := fun kd hd y o g => by
    rcases hnewF kd hd y o g with g | g
    · exact hF'' y o g
    · exact .inr (by omega)
  obtain ⟨cs2, hcs2⟩ : ∃ cs2, cs2 = cs.take i ++ (new ++ cs.drop (i + 1)) := ⟨_, rfl⟩
  have hmem : ∀ kd ∈ cs2, (kd ∈ cs.take i ∨ kd ∈ cs.drop (i + 1)) ∨ kd ∈ new := fun kd hd => by
    rw [hcs2] at hd
    rcases List.mem_append.1 hd with hd | hd
    · exact .inl (.inl hd)
    · rcases List.mem_append.1 hd with hd | hd
      · exact .inr hd
      · exact .inl (.inr hd)
  have hsp : cs = cs.take i ++ c :: cs.drop (i + 1) := by
    have h3 := List.getElem?_eq_some_iff.1 hci
    have := List.take_append_drop i cs
    rw [List.drop_eq_getElem_cons h3.1, h3.2] at this
    exact this.symm
  have htwo := n.ap.two
  rw [hsp] at htwo
  obtain ⟨p1, p2, p3⟩ := List.pairwise_append.1 htwo
  obtain ⟨p4, p5⟩ := List.pairwise_cons.1 p2
  have hold8 : ∀ kd, (kd ∈ cs.take i ∨ kd ∈ cs.drop (i + 1)) → kd ∈ cs ∧ ∀ y o, kd.F y o → ¬ c.F y o := fun kd hd => by
    rcases hd with hd | hd
    · exact ⟨List.mem_of_mem_take hd, fun y o g k => p3 kd hd c (by simp) y o g k⟩
    · exact ⟨List.mem_of_mem_drop hd, fun y o g k => p4 kd hd y o k g⟩
  have hOK : ∀ kd ∈ cs2, ∀ y o, kd.F y o → y < w8.heap.size ∧ ¬ kidF bc ba oa capc y o ∧ ¬ ownF E b bi oi cap y o := fun kd hd y o g => by
    rcases hmem kd hd with h | h
    · have h1 := (hold8 kd h).1
      exact ⟨by have := hOKo kd h1 y o g; omega, n.ap.kid kd h1 y o g, n.ap.own kd h1 y o g⟩
    · refine ⟨hnewlt kd h y o g, fun k => ?_, fun k => ?_⟩
      · rcases hnewF kd h y o g with g | g
        · exact hF'kid y o g k
        · have := n4.kids.lt k; omega
      · rcases hnewF kd h y o g with g | g
        · exact hF'own y o g k
        · have := o4.lt k; omega
  have hT8 : ∀ kd ∈ cs2, Tr E iso (d - 1) (2 * d - 1) h' w8 (d - 1) kd.b kd.xs kd.F := fun kd hd => by
    rcases hmem kd hd with h | h
    · have h1 := hold8 kd h
      refine ((n4.sub kd h1.1).ext x6' fun y o g k => by
        rcases hG6 y o k with k | k
        · exact h1.2 y o g k
        · have := hOKo kd h1.1 y o g; omega).ext x8 fun y o g k => ?_
      rcases hF'' y o k with k | k
      · exact h1.2 y o g k
      · have := hOKo kd h1.1 y o g; omega
    · rw [hnew] at h
      simp only [List.mem_cons, List.not_mem_nil, or_false] at h
      rcases h with rfl | rfl
      · exact tL
      · exact tR
  have hY : ∀ y o, y < w8.heap.size → ¬ ownF E b bi oi cap y o → ¬ ((rng bi (oi + ks.length * 2) 2 y o ∧ ks.length + 1 ≤ cap) ∨ (y = b ∧ o = 2) ∨ y = b' ∧ o' ≤ o ∧ o < o' + cap' * 2) := fun y o h1 h2 g => by
    rcases g with g | g | g
    · simp only [rng] at g; exact h2 (.inr ⟨g.1.1, by omega, by rw [E_sz]; omega⟩)
    · exact h2 (.inl g.1)
    · rcases hb'c with ⟨rfl, rfl, rfl⟩ | h
      · exact h2 (.inr ⟨g.1, g.2.1, by rw [E_sz]; exact g.2.2⟩)
      · omega
  have hT20 : ∀ kd ∈ cs2, Tr E iso (d - 1) (2 * d - 1) h' w20 (d - 1) kd.b kd.xs kd.F := fun kd hd =>
    (((hT8 kd hd).ext T15 fun y o g k => by
      have := hOK kd hd y o g
      rcases k with k | k
      · exact this.2.1 k
      · omega).ext n16 fun _ _ _ k => k).ext Y fun y o g => hY y o (hOK kd hd y o g).1 (hOK kd hd y o g).2.2
  have hb2 : cs2.map Kid.b = (cs.map Kid.b).take (i + 1) ++ rb :: (cs.map Kid.b).drop (i + 1) := by
    rw [hcs2, hnew, List.take_add_one, List.getElem?_map, hci]
    simp [List.map_take, List.map_drop]
  have hl2' : cs2.length = cs.length + 1 := by
    have := congrArg List.length hb2
    simp at this; omega
  have kids20 : Kids w20 bc ba' oa' capc' (cs2.map Kid.b) := by
    have k15 : Kids w15 bc ba' oa' capc' (cs2.map Kid.b) := by
      refine ⟨by rw [List.length_map, hl2']; exact k015, wbc15, ?_, wok15, by rw [List.length_map, hl2']; exact hcapc', hba'c⟩
      rw [hb2, List.map_append, List.map_cons, List.map_take, List.map_drop]
      exact rowK
    refine (k15.ext n16 fun _ _ _ h => h).ext Y fun y o g k => ?_
    have hbb : ba' < w15.heap.size := wok_lt wok15
    simp only [kidF, rng] at g k
    omega
  have hap : Apart E b b' o' cap' bc ba' oa' capc' cs2 := by
    have ap1 : Apart E b bi oi cap bc ba oa capc cs2 := by
      rw [hcs2]
      refine n.ap.swap hci hnew4 ?_ (fun kd hd y o g => by have := hOKo kd hd y o g; omega) (B := w4.heap.size) (by omega) (by omega) (by omega) (by omega)
      rw [hnew]
      exact List.pairwise_cons.2 ⟨fun kd hd y o g k => by
        simp only [List.mem_cons, List.not_mem_nil, or_false] at hd
        subst hd; exact hlr y o g k, List.pairwise_singleton _ _⟩
    have ap2 : Apart E b bi oi cap bc ba' oa' capc' cs2 := by
      rcases hcase12 with ⟨rfl, rfl, rfl⟩ | h
      · exact ap1
      · exact ap1.kid' hba'b (Ne.symm hba'i) fun kd hd y o g => by have := (hOK kd hd y o g).1; omega
    rcases hb'c with ⟨rfl, rfl, rfl⟩ | h
    · exact ap2
    · have hbb : ba' < w15.heap.size := wok_lt wok15
      exact ap2.own' (by omega) (by omega) fun kd hd y o g => by have := (hOK kd hd y o g).1; omega
  have hlen2 : (ks.take i ++ md :: ks.drop i).length = ks.length + 1 := by simp; omega
  have hxs2 : xs = weave (cs2.map Kid.xs) (ks.take i ++ md :: ks.drop i) := by
    have := hw.two xl md xr
    rw [← hcxs, ← hxs] at this
    rw [← this, hcs2, hnew]
    simp [List.map_take, List.map_drop]
  have inn20 : Inn E iso (d - 1) (2 * d - 1) h' w20 b xs (fun y o => ownF E b b' o' cap' y o ∨ kidF bc ba' oa' capc' y o ∨ ∃ kd ∈ cs2, kd.F y o) b' o' cap' (ks.take i ++ md :: ks.drop i) bc ba' oa' capc' cs2 :=
    ⟨kids20, by rw [hl2', hlen2]; omega, hxs2, hT20, hap, fun _ _ => Iff.rfl⟩
  have tr20 := inn20.tr (lo := lo + 1) own20 (by rw [hlen2]; omega) (by rw [hlen2]; omega)
  have hF20 : ∀ y o, (ownF E b b' o' cap' y o ∨ kidF bc ba' oa' capc' y o ∨ ∃ kd ∈ cs2, kd.F y o) → F y o ∨ w4.heap.size ≤ y := by
    rintro y o (g | g | ⟨kd, hd, g⟩)
    · rcases hb'c with ⟨rfl, rfl, rfl⟩ | h
      · exact .inl (hoF _ _ g)
      · rcases g with rfl | ⟨rfl, _⟩
        · exact .inl (hoF _ _ (.inl rfl))
        · exact .inr (by omega)
    · rcases hcase12 with ⟨rfl, rfl, rfl⟩ | h
      · exact .inl ((n.fp _ _).2 (.inr (.inl g)))
      · rcases g with rfl | ⟨rfl, _⟩
        · exact .inl ((n.fp _ _).2 (.inr (.inl (.inl rfl))))
        · exact .inr (by omega)
    · rcases hmem kd hd with h | h
      · exact .inl ((n.fp _ _).2 (.inr (.inr ⟨kd, (hold8 kd h).1, g⟩)))
      · rcases hnew4 kd h y o g with g | g
        · exact .inl (hcF _ _ g)
        · exact .inr g
  exact ⟨_, tr20, hF20, hY⟩
end Go.Proofs.Ytdffddiaoheklaa
