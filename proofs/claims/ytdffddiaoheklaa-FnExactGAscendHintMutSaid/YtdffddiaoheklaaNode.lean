/-
  A tree opened at its root: what changes when an item is set, when the items' row or the children's row moves, when a child is changed. For items of whatever make. No condition.
-/
import Derived.Test.YtdffddiaoheklaaWeave
import Derived.Test.YtdffddiaoheklaaIns
set_option linter.unusedSimpArgs false
set_option linter.unusedVariables false
namespace Go.Proofs.Ytdffddiaoheklaa
open Go
variable {α : Type} {E : Enc α} {iso : Int} {mn mx : Nat}
/-- The inner node's own data. -/
structure Inn (E : Enc α) (iso : Int) (mn mx h : Nat) (w : World) (b : Nat) (xs : List α) (F : Nat → Nat → Prop) (bi oi cap : Nat) (ks : List α) (bc ba oa capc : Nat) (cs : List (Kid α)) : Prop where
  kids : Kids w bc ba oa capc (cs.map Kid.b)
  len : cs.length = ks.length + 1
  eq : xs = weave (cs.map Kid.xs) ks
  sub : ∀ c ∈ cs, Tr E iso mn mx h w mn c.b c.xs c.F
  ap : Apart E b bi oi cap bc ba oa capc cs
  fp : ∀ x o, F x o ↔ ownF E b bi oi cap x o ∨ kidF bc ba oa capc x o ∨ ∃ c ∈ cs, c.F x o
theorem Tr.open {h : Nat} {w : World} {lo b : Nat} {xs : List α} {F : Nat → Nat → Prop} (ht : Tr E iso mn mx h w lo b xs F) :
    ∃ bi oi cap ks ch, Own E w b iso xs.length bi oi cap ks ch ∧ lo ≤ ks.length ∧ ks.length ≤ mx ∧ (∀ x o, ownF E b bi oi cap x o → F x o) ∧
      ((h = 0 ∧ ch = .pointer none ∧ xs = ks ∧ ∀ x o, F x o ↔ ownF E b bi oi cap x o) ∨
       (∃ h' bc ba oa capc cs, h = h' + 1 ∧ ch = ptr bc ∧ Inn E iso mn mx h' w b xs F bi oi cap ks bc ba oa capc cs)) := by
  cases h with
  | zero =>
    obtain ⟨bi, oi, cap, ho, h1, h2, hF⟩ := ht
    exact ⟨bi, oi, cap, xs, _, ho, h1, h2, fun x o g => (hF x o).2 g, .inl ⟨rfl, rfl, rfl, hF⟩⟩
  | succ h =>
    obtain ⟨bi, oi, cap, bc, ba, oa, capc, ks, cs, ho, hk, h1, h2, hcs, hxs, hT, hA, hF⟩ := ht
    exact ⟨bi, oi, cap, ks, _, ho, h1, h2, fun x o g => (hF x o).2 (.inl g), .inr ⟨h, bc, ba, oa, capc, cs, rfl, rfl, hk, hcs, hxs, hT, hA, hF⟩⟩
theorem Inn.tr {h : Nat} {w : World} {lo b : Nat} {xs : List α} {F : Nat → Nat → Prop} {bi oi cap : Nat} {ks : List α} {bc ba oa capc : Nat} {cs : List (Kid α)}
    (n : Inn E iso mn mx h w b xs F bi oi cap ks bc ba oa capc cs) (ho : Own E w b iso xs.length bi oi cap ks (ptr bc)) (h1 : lo ≤ ks.length) (h2 : ks.length ≤ mx) : Tr E iso mn mx (h + 1) w lo b xs F :=
  ⟨bi, oi, cap, bc, ba, oa, capc, ks, cs, ho, n.kids, h1, h2, n.len, n.eq, n.sub, n.ap, n.fp⟩
theorem Inn.ext {h : Nat} {w w' : World} {G : Nat → Nat → Prop} {b : Nat} {xs : List α} {F : Nat → Nat → Prop} {bi oi cap : Nat} {ks : List α} {bc ba oa capc : Nat} {cs : List (Kid α)}
    (n : Inn E iso mn mx h w b xs F bi oi cap ks bc ba oa capc cs) (hx : Ext G w w') (h1 : ∀ x o, kidF bc ba oa capc x o → ¬ G x o) (h2 : ∀ c ∈ cs, ∀ x o, c.F x o → ¬ G x o) :
    Inn E iso mn mx h w' b xs F bi oi cap ks bc ba oa capc cs :=
  ⟨n.kids.ext hx h1, n.len, n.eq, fun c hc => (n.sub c hc).ext hx (h2 c hc), n.ap, n.fp⟩
/-- The row with one element set. -/
theorem row_set {w w' : World} {b o i : Nat} {ks : List α} {x : α} (hr : Row w b o (flat E ks)) (hi : i < ks.length) (X : Ext (rng b (o + i * E.sz) E.sz) w w') (r : Row w' b (o + i * E.sz) (E.cel x)) :
    Row w' b o (flat E (ks.set i x)) := by
  rw [List.set_eq_take_append_cons_drop, if_pos hi, flat_append, flat_cons]
  have hl : (flat E (ks.take i)).length = i * E.sz := by rw [flat_length, List.length_take]; congr 1; omega
  refine Row.append.2 ⟨?_, Row.append.2 ⟨by rw [hl]; exact r, ?_⟩⟩
  · rw [← flat_take]
    exact X.row (hr.take _) fun j hj h => by
      rw [flat_take, hl] at hj; simp only [rng] at h; omega
  · rw [hl, E.len, ← flat_drop]
    have h1 := hr.drop ((i + 1) * E.sz)
    rw [Nat.add_mul, Nat.one_mul, ← Nat.add_assoc] at h1
    rw [Nat.add_mul, Nat.one_mul]
    exact X.row h1 fun j hj h => by simp only [rng] at h; omega
theorem Own.set {w w' : World} {b : Nat} {cnt : Int} {bi oi cap : Nat} {ks : List α} {ch : Value} (ho : Own E w b iso cnt bi oi cap ks ch) {i : Nat} {x : α} (hi : i < ks.length)
    (X : Ext (rng bi (oi + i * E.sz) E.sz) w w') (r : Row w' bi (oi + i * E.sz) (E.cel x)) : Own E w' b iso cnt bi oi cap (ks.set i x) ch := by
  have hne := ho.ne
  refine ⟨X.rd ho.h0 ?_, X.rd ho.h1 ?_, ?_, X.rd ho.h3 ?_, X.wok ho.wb, row_set ho.row hi X r, X.wok ho.wi, by rw [List.length_set]; exact ho.le, hne⟩
  · simp only [rng]; omega
  · simp only [rng]; omega
  · rw [List.length_set]; exact X.rd ho.h2 (by simp only [rng]; omega)
  · simp only [rng]; omega
/-- The children's part when one child gives way to others. -/
theorem Apart.swap {b bi oi cap bc ba oa capc : Nat} {cs new : List (Kid α)} {c : Kid α} {i B : Nat} (h : Apart E b bi oi cap bc ba oa capc cs) (hc : cs[i]? = some c) (hn : ∀ n ∈ new, ∀ y o, n.F y o → c.F y o ∨ B ≤ y)
    (ht : new.Pairwise fun c d => ∀ x o, c.F x o → ¬ d.F x o) (hlt : ∀ c ∈ cs, ∀ y o, c.F y o → y < B) (hb : b < B) (hbi : bi < B) (hbc : bc < B) (hba : ba < B) :
    Apart E b bi oi cap bc ba oa capc (cs.take i ++ (new ++ cs.drop (i + 1))) := by
  have hcm := List.mem_of_getElem? hc
  have hmem : ∀ d ∈ cs.take i ++ (new ++ cs.drop (i + 1)), d ∈ cs ∨ d ∈ new := fun d hd => by
    rcases List.mem_append.1 hd with hd | hd
    · exact .inl (List.mem_of_mem_take hd)
    · rcases List.mem_append.1 hd with hd | hd
      · exact .inr hd
      · exact .inl (List.mem_of_mem_drop hd)
  have hsp : cs = cs.take i ++ c :: cs.drop (i + 1) := by
    have h3 := List.getElem?_eq_some_iff.1 hc
    have := List.take_append_drop i cs
    rw [List.drop_eq_getElem_cons h3.1, h3.2] at this
    exact this.symm
  have h2 := h.two
  rw [hsp] at h2
  obtain ⟨p1, p2, p3⟩ := List.pairwise_append.1 h2
  obtain ⟨p4, p5⟩ := List.pairwise_cons.1 p2
  refine ⟨h.cb, h.ab, h.ic, h.ia, fun d hd y o g k => ?_, fun d hd y o g k => ?_, ?_⟩
  · rcases hmem d hd with hd | hd
    · exact h.own d hd y o g k
    · rcases hn d hd y o g with g | g
      · exact h.own c hcm y o g k
      · rcases k with rfl | ⟨rfl, _⟩ <;> omega
  · rcases hmem d hd with hd | hd
    · exact h.kid d hd y o g k
    · rcases hn d hd y o g with g | g
      · exact h.kid c hcm y o g k
      · rcases k with rfl | ⟨rfl, _⟩ <;> omega
  · refine List.pairwise_append.2 ⟨p1, List.pairwise_append.2 ⟨ht, p5, fun n hnm d hd y o g k => ?_⟩, fun d hd e he y o g k => ?_⟩
    · rcases hn n hnm y o g with g | g
      · exact p4 d hd y o g k
      · have := hlt d (List.mem_of_mem_drop hd) y o k; omega
    · rcases List.mem_append.1 he with he | he
      · rcases hn e he y o k with k | k
        · exact p3 d hd c (by simp) y o g k
        · have := hlt d (List.mem_of_mem_take hd) y o g; omega
      · exact p3 d hd e (by simp [he]) y o g k
theorem Apart.own' {b bi oi cap bc ba oa capc bi' oi' cap' : Nat} {cs : List (Kid α)} (h : Apart E b bi oi cap bc ba oa capc cs) (h1 : bi' ≠ bc) (h2 : bi' ≠ ba) (h3 : ∀ c ∈ cs, ∀ y o, c.F y o → y ≠ bi') :
    Apart E b bi' oi' cap' bc ba oa capc cs :=
  ⟨h.cb, h.ab, h1, h2, fun c hc y o g k => by
    rcases k with k | ⟨k, _⟩
    · exact h.own c hc y o g (.inl k)
    · exact h3 c hc y o g k, h.kid, h.two⟩
theorem Apart.kid' {b bi oi cap bc ba oa capc ba' oa' capc' : Nat} {cs : List (Kid α)} (h : Apart E b bi oi cap bc ba oa capc cs) (h1 : ba' ≠ b) (h2 : bi ≠ ba') (h3 : ∀ c ∈ cs, ∀ y o, c.F y o → y ≠ ba') :
    Apart E b bi oi cap bc ba' oa' capc' cs :=
  ⟨h.cb, h1, h.ic, h2, h.own, fun c hc y o g k => by
    rcases k with k | ⟨k, _⟩
    · exact h.kid c hc y o g (.inl k)
    · exact h3 c hc y o g k, h.two⟩
/-- One child is changed, in place. -/
theorem Inn.child {h : Nat} {w w' : World} {b : Nat} {xs : List α} {F : Nat → Nat → Prop} {bi oi cap : Nat} {ks : List α} {bc ba oa capc : Nat} {cs : List (Kid α)}
    (n : Inn E iso mn mx h w b xs F bi oi cap ks bc ba oa capc cs) {i : Nat} {c c' : Kid α} (hc : cs[i]? = some c) (hx : Ext c.F w w') (hb : c'.b = c.b) (ht : Tr E iso mn mx h w' mn c'.b c'.xs c'.F)
    (hF : ∀ y o, c'.F y o → c.F y o ∨ w.heap.size ≤ y) (hbl : b < w.heap.size) (hbil : bi < w.heap.size) :
    Inn E iso mn mx h w' b (weave ((cs.map Kid.xs).set i c'.xs) ks) (fun x o => ownF E b bi oi cap x o ∨ kidF bc ba oa capc x o ∨ ∃ c ∈ cs.set i c', c.F x o) bi oi cap ks bc ba oa capc (cs.set i c') := by
  have hcm := List.mem_of_getElem? hc
  have hi := (List.getElem?_eq_some_iff.1 hc).1
  have hset : cs.set i c' = cs.take i ++ ([c'] ++ cs.drop (i + 1)) := by rw [List.set_eq_take_append_cons_drop, if_pos hi]; rfl
  have hsp : cs = cs.take i ++ c :: cs.drop (i + 1) := by
    have h3 := List.getElem?_eq_some_iff.1 hc
    have := List.take_append_drop i cs
    rw [List.drop_eq_getElem_cons h3.1, h3.2] at this
    exact this.symm
  have h2 := n.ap.two
  rw [hsp] at h2
  obtain ⟨p1, p2, p3⟩ := List.pairwise_append.1 h2
  obtain ⟨p4, p5⟩ := List.pairwise_cons.1 p2
  refine ⟨?_, by rw [List.length_set]; exact n.len, by rw [List.map_set], ?_, ?_, fun _ _ => Iff.rfl⟩
  · have hm : (cs.set i c').map Kid.b = cs.map Kid.b := by
      rw [List.map_set, hb]
      have : (cs.map Kid.b)[i]? = some c.b := by rw [List.getElem?_map, hc]; rfl
      obtain ⟨g1, g2⟩ := List.getElem?_eq_some_iff.1 this
      rw [← g2]; exact List.set_getElem_self g1
    rw [hm]
    exact n.kids.ext hx fun y o g k => n.ap.kid c hcm y o k g
  · intro d hd
    rw [hset] at hd
    rcases List.mem_append.1 hd with hd | hd
    · exact (n.sub d (List.mem_of_mem_take hd)).ext hx fun y o g k => p3 d hd c (by simp) y o g k
    · rcases List.mem_append.1 hd with hd | hd
      · have : d = c' := by simpa using hd
        rw [this]; exact ht
      · exact (n.sub d (List.mem_of_mem_drop hd)).ext hx fun y o g k => p4 d hd y o k g
  · rw [hset]
    exact n.ap.swap hc (fun d hd => by
      have : d = c' := by simpa using hd
      rw [this]; exact hF) (List.pairwise_singleton _ _) (fun d hd y o g => (n.sub d hd).lt y o g) hbl hbil (wok_lt n.kids.wc) (wok_lt n.kids.wa)
end Go.Proofs.Ytdffddiaoheklaa
