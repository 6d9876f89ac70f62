/-
  Walks down a tree that change the counts on their way, and take the changes back or make a change at the end. For items of whatever make; no program. No condition.
-/
import Derived.Test.YthonmbkjbgkfaaaNode
set_option linter.unusedSimpArgs false
set_option linter.unusedVariables false
namespace Go.Proofs.Ythonmbkjbgkfaaa
open Go
variable {α : Type} {E : Enc α} {iso : Int} {mn mx : Nat}
theorem Ext.heal {F : Nat → Nat → Prop} {w w' : World} (h : Ext F w w') {b o : Nat} {v : Value} (h1 : Go.Proofs.Ythonmbkjbgkfaaa.rd w b o = some v) (h2 : Go.Proofs.Ythonmbkjbgkfaaa.rd w' b o = some v) : Ext (fun y p => F y p ∧ ¬ (y = b ∧ p = o)) w w' := by
  refine ⟨h.os, h.output, h.tape, h.size, fun y arr T fr hy => ?_, h.other⟩
  obtain ⟨arr', g1, g2, g3⟩ := h.cells y arr T fr hy
  refine ⟨arr', g1, g2, fun p hp => ?_⟩
  by_cases hb : y = b ∧ p = o
  · obtain ⟨rfl, rfl⟩ := hb
    rw [rd_of hy] at h1
    rw [rd_of g1] at h2
    rw [h1, h2]
  · exact g3 p fun hf => hp ⟨hf, hb⟩
/-- The child that is chosen by the number of children. -/
def selKid (sel : Nat → Nat) (w : World) (b c : Nat) : Prop :=
  ∃ bc ba oa n cap, rd w b 3 = some (ptr bc) ∧ rd w bc 0 = some (.slice (some ⟨ba, oa, none⟩) n cap) ∧ rd w ba (oa + sel n) = some (ptr c)
theorem selKid.uniq {sel : Nat → Nat} {w : World} {b c c' : Nat} (h : selKid sel w b c) (h' : selKid sel w b c') : c = c' := by
  obtain ⟨bc, ba, oa, n, cap, h1, h2, h3⟩ := h
  obtain ⟨bc', ba', oa', n', cap', g1, g2, g3⟩ := h'
  rw [h1] at g1; simp only [ptr, Option.some.injEq, Value.pointer.injEq, Addr.mk.injEq, and_true] at g1; subst g1
  rw [h2] at g2; simp only [Option.some.injEq, Value.slice.injEq, Addr.mk.injEq, and_true] at g2
  obtain ⟨⟨rfl, rfl⟩, rfl, rfl⟩ := g2
  rw [h3] at g3; simp only [ptr, Option.some.injEq, Value.pointer.injEq, Addr.mk.injEq, and_true] at g3
  exact g3
/-- The nodes on the way down. -/
def RS (sel : Nat → Nat) (w : World) : Nat → Nat → Nat → Prop
  | 0, b, y => y = b
  | h + 1, b, y => y = b ∨ ∃ c, selKid sel w b c ∧ RS sel w h c y
theorem Inn.sel {h : Nat} {w : World} {b : Nat} {xs : List α} {F : Nat → Nat → Prop} {bi oi cap : Nat} {ks : List α} {bc ba oa capc : Nat} {cs : List (Kid α)} (n : Inn E iso mn mx h w b xs F bi oi cap ks bc ba oa capc cs)
    (h3 : rd w b 3 = some (ptr bc)) {sel : Nat → Nat} {c : Kid α} (hc : cs[sel cs.length]? = some c) : selKid sel w b c.b := by
  refine ⟨bc, ba, oa, _, capc, h3, n.kids.c0, ?_⟩
  rw [List.length_map]
  exact n.kids.row _ _ (by rw [List.getElem?_map, List.getElem?_map, hc]; rfl)
theorem Inn.rs {h : Nat} {w : World} {b : Nat} {xs : List α} {F : Nat → Nat → Prop} {bi oi cap : Nat} {ks : List α} {bc ba oa capc : Nat} {cs : List (Kid α)} (n : Inn E iso mn mx h w b xs F bi oi cap ks bc ba oa capc cs)
    (h3 : rd w b 3 = some (ptr bc)) {sel : Nat → Nat} {c : Kid α} (hc : cs[sel cs.length]? = some c) (y : Nat) : RS sel w (h + 1) b y ↔ y = b ∨ RS sel w h c.b y := by
  have hs := n.sel h3 hc
  constructor
  · rintro (h | ⟨c', h1, h2⟩)
    · exact .inl h
    · rw [h1.uniq hs] at h2; exact .inr h2
  · rintro (h | h)
    · exact .inl h
    · exact .inr ⟨_, hs, h⟩
theorem RS.sub {sel : Nat → Nat} (hsel : ∀ n, 0 < n → sel n < n) {w : World} : ∀ {h lo b : Nat} {xs : List α} {F : Nat → Nat → Prop}, Tr E iso mn mx h w lo b xs F → ∀ y, RS sel w h b y → ∀ o, F y o
  | 0, _, _, _, _, ht, y, hy, o => by rw [show y = _ from hy]; exact ht.self o
  | h + 1, _, b, _, F, ht, y, hy, o => by
    obtain ⟨bi, oi, cap, ks, ch, ho, _, _, hsub, ⟨h0, _⟩ | ⟨h', bc, ba, oa, capc, cs, hh, rfl, n⟩⟩ := ht.open
    · omega
    · obtain rfl : h = h' := by omega
      obtain ⟨c, hc⟩ : ∃ c, cs[sel cs.length]? = some c := ⟨_, List.getElem?_eq_getElem (hsel _ (by have := n.len; omega))⟩
      rcases (n.rs ho.h3 hc y).1 hy with rfl | hy
      · exact hsub _ _ (.inl rfl)
      · exact (n.fp y o).2 (.inr (.inr ⟨c, List.mem_of_getElem? hc, RS.sub hsel (n.sub c (List.mem_of_getElem? hc)) y hy o⟩))
/-- The counts of some nodes are off. -/
structure Shift (δ : Int) (w0 w' : World) (D : Nat → Prop) : Prop where
  ext : Ext (fun y o => o = 1 ∧ D y) w0 w'
  cnt : ∀ y, D y → ∃ k : Int, rd w0 y 1 = some (.int .i64 k) ∧ rd w' y 1 = some (.int .i64 (k + δ))
theorem Shift.nil (δ : Int) (w : World) : Shift δ w w fun _ => False := ⟨Ext.refl _ _, fun _ h => h.elim⟩
theorem Shift.ro {δ : Int} {w0 w1 w2 : World} {D : Nat → Prop} (h : Shift δ w0 w1 D) (r : RO w1 w2) : Shift δ w0 w2 D :=
  ⟨h.ext.tr r.ext, fun y hy => by obtain ⟨k, h1, h2⟩ := h.cnt y hy; exact ⟨k, h1, (r.ext (F := noF)).rd h2 fun h => h⟩⟩
theorem Shift.congr {δ : Int} {w0 w1 : World} {D D' : Nat → Prop} (h : Shift δ w0 w1 D) (hd : ∀ y, D' y ↔ D y) : Shift δ w0 w1 D' :=
  ⟨h.ext.mono fun y o _ g => ⟨g.1, (hd y).2 g.2⟩, fun y hy => h.cnt y ((hd y).1 hy)⟩
/-- One more count is changed. -/
theorem Shift.add {δ : Int} {w0 w1 w2 : World} {D : Nat → Prop} (h : Shift δ w0 w1 D) {b : Nat} {k : Int} (hD : ¬ D b) (h0 : rd w0 b 1 = some (.int .i64 k)) (x : Ext (rng b 1 1) w1 w2) (h2 : rd w2 b 1 = some (.int .i64 (k + δ))) :
    Shift δ w0 w2 fun y => D y ∨ y = b := by
  refine ⟨(h.ext.mono fun y o _ g => ⟨g.1, .inl g.2⟩).trans x (fun _ _ g => g) fun y o _ g => ?_, fun y hy => ?_⟩
  · simp only [rng] at g; exact ⟨by omega, .inr g.1⟩
  · rcases hy with hy | rfl
    · obtain ⟨k', g1, g2⟩ := h.cnt y hy
      exact ⟨k', g1, x.rd g2 fun g => hD (by simp only [rng] at g; rw [← g.1]; exact hy)⟩
    · exact ⟨k, h0, h2⟩
/-- One count is taken back. -/
theorem Shift.undo {δ : Int} {w0 w1 w2 : World} {D : Nat → Prop} (h : Shift δ w0 w1 D) {b : Nat} {v : Value} (hD : D b) (h0 : rd w0 b 1 = some v) (x : Ext (rng b 1 1) w1 w2) (h2 : rd w2 b 1 = some v) :
    Shift δ w0 w2 fun y => D y ∧ y ≠ b := by
  have X : Ext (fun y o => o = 1 ∧ D y) w0 w2 := h.ext.trans x (fun _ _ g => g) fun y o _ g => by simp only [rng] at g; rw [g.1]; exact ⟨by omega, hD⟩
  refine ⟨(X.heal h0 h2).mono fun y o _ g => ⟨g.1.1, g.1.2, fun e => g.2 ⟨e, g.1.1⟩⟩, fun y hy => ?_⟩
  obtain ⟨k', g1, g2⟩ := h.cnt y hy.1
  exact ⟨k', g1, x.rd g2 fun g => hy.2 (by simp only [rng] at g; exact g.1)⟩
/-- A whole tree, but for the subtree at b: put in another one, whose length is off by δ, and it is a tree again. -/
def Hole (E : Enc α) (iso : Int) (mn mx H lo0 root : Nat) (F : Nat → Nat → Prop) (S : Nat) (w : World) (h lo b : Nat) (ys : List α) (Fb : Nat → Nat → Prop) (A C : List α) (δ : Int) : Prop :=
  ∀ (w2 : World) (ys' : List α) (Fb' : Nat → Nat → Prop), Ext Fb w w2 → Tr E iso mn mx h w2 lo b ys' Fb' → (∀ y o, Fb' y o → Fb y o ∨ w.heap.size ≤ y) → (ys'.length : Int) = ys.length + δ →
    ∃ F', Tr E iso mn mx H w2 lo0 root (A ++ ys' ++ C) F' ∧ ∀ y o, F' y o → F y o ∨ S ≤ y
theorem Hole.root {w : World} {h lo b S : Nat} {ys : List α} {F : Nat → Nat → Prop} {δ : Int} (hS : S ≤ w.heap.size) : Hole E iso mn mx h lo b F S w h lo b ys F [] [] δ :=
  fun w2 ys' Fb' _ ht hF _ => ⟨Fb', by simpa using ht, fun y o g => (hF y o g).imp id fun g => by omega⟩
theorem Hole.ro {H lo0 root S h lo b : Nat} {F Fb : Nat → Nat → Prop} {w w1 : World} {ys A C : List α} {δ : Int} (k : Hole E iso mn mx H lo0 root F S w h lo b ys Fb A C δ) (r : RO w w1) : Hole E iso mn mx H lo0 root F S w1 h lo b ys Fb A C δ := by
  intro w2 ys' Fb' x ht hF hl
  have hs : w1.heap.size = w.heap.size := by obtain ⟨n, rfl⟩ := r; rfl
  exact k w2 ys' Fb' (r.ext.tr x) ht (fun y o g => (hF y o g).imp id fun g => by omega) hl
/-- The hole goes down one level. -/
theorem Hole.down {H lo0 root S h lo b : Nat} {F Fb : Nat → Nat → Prop} {w w1 : World} {ys A C : List α} {δ : Int} (k : Hole E iso mn mx H lo0 root F S w (h + 1) lo b ys Fb A C δ)
    {bi oi cap : Nat} {ks : List α} {bc ba oa capc : Nat} {cs : List (Kid α)} (n : Inn E iso mn mx h w b ys Fb bi oi cap ks bc ba oa capc cs) (ho : Own E w b iso ys.length bi oi cap ks (ptr bc)) (h1 : lo ≤ ks.length) (h2 : ks.length ≤ mx)
    (x : Ext (rng b 1 1) w w1) (hc1 : rd w1 b 1 = some (.int .i64 (ys.length + δ))) {i : Nat} {c : Kid α} (hc : cs[i]? = some c) {A' C' : List α} (hw : WAt (cs.map Kid.xs) ks i A' C') :
    Hole E iso mn mx H lo0 root F S w1 h mn c.b c.xs c.F (A ++ A') (C' ++ C) δ := by
  intro w2 ys' Fb' x2 ht hF hl
  have hcm := List.mem_of_getElem? hc
  have hcx : (cs.map Kid.xs)[i]? = some c.xs := by rw [List.getElem?_map, hc]; rfl
  have hil := (List.getElem?_eq_some_iff.1 hc).1
  have s1 : w.heap.size ≤ w1.heap.size := x.size
  have hbw := wok_lt ho.wb
  have hbiw := wok_lt ho.wi
  have hcb : ∀ o, ¬ c.F b o := fun o g => n.ap.own c hcm _ _ g (.inl rfl)
  have hi1 : ∀ y o, c.F y o → ¬ ownF E b bi oi cap y o := fun y o g => n.ap.own c hcm y o g
  have n1 : Inn E iso mn mx h w1 b ys Fb bi oi cap ks bc ba oa capc cs := n.ext x (fun y o g hr => by
      simp only [rng] at hr
      rcases g with g | g
      · exact n.ap.cb (by omega)
      · exact n.ap.ab (by simp only [rng] at g; omega)) fun d hd y o g hr => by
    simp only [rng] at hr
    exact n.ap.own d hd y o g (.inl hr.1)
  have n2 := n1.child (c' := ⟨c.b, ys', Fb'⟩) hc x2 rfl ht hF (by omega) (by omega)
  have e1 := hw.eq hcx
  have e2 : weave ((cs.map Kid.xs).set i ys') ks = A' ++ ys' ++ C' := by
    exact hw.set ys'
  have hln : (((weave ((cs.map Kid.xs).set i ys') ks).length : Nat) : Int) = ys.length + δ := by
    rw [e2, n.eq, e1]
    simp only [List.length_append, Int.natCast_add]
    omega
  have ho2 : Own E w2 b iso ((weave ((cs.map Kid.xs).set i ys') ks).length : Nat) bi oi cap ks (ptr bc) := by
    have hr : ∀ o, o ≠ 1 → ¬ rng b 1 1 b o := fun o h g => by simp only [rng] at g; omega
    have q0 := x2.rd (x.rd ho.h0 (hr 0 (by decide))) (hcb 0)
    have q1 := x2.rd hc1 (hcb 1)
    have q2 := x2.rd (x.rd ho.h2 (hr 2 (by decide))) (hcb 2)
    have q3 := x2.rd (x.rd ho.h3 (hr 3 (by decide))) (hcb 3)
    rw [← hln] at q1
    exact ⟨q0, q1, q2, q3, x2.wok (x.wok ho.wb), x2.row (x.row ho.row fun j _ g => by simp only [rng] at g; have := ho.ne; omega) fun j hj g => hi1 _ _ g (.inr ⟨rfl, by omega, by rw [flat_length] at hj; have := Nat.mul_le_mul_right E.sz ho.le; omega⟩),
      x2.wok (x.wok ho.wi), ho.le, ho.ne⟩
  have htr := n2.tr (lo := lo) ho2 h1 h2
  have key := k w2 _ _ ?_ htr ?_ hln
  · obtain ⟨F', g1, g2⟩ := key
    refine ⟨F', ?_, g2⟩
    rw [e2] at g1
    simpa [List.append_assoc] using g1
  · refine (x.mono fun y o _ g => ?_).trans x2 (fun _ _ g => g) fun y o _ g => (n.fp y o).2 (.inr (.inr ⟨c, hcm, g⟩))
    simp only [rng] at g; rw [g.1]; exact (n.fp _ _).2 (.inl (.inl rfl))
  · intro y o g
    rcases g with g | g | ⟨d, hd, g⟩
    · exact .inl ((n.fp y o).2 (.inl g))
    · exact .inl ((n.fp y o).2 (.inr (.inl g)))
    · rw [List.set_eq_take_append_cons_drop, if_pos hil] at hd
      rcases List.mem_append.1 hd with hd | hd
      · exact .inl ((n.fp y o).2 (.inr (.inr ⟨d, List.mem_of_mem_take hd, g⟩)))
      · rcases List.mem_cons.1 hd with rfl | hd
        · rcases hF y o g with g | g
          · exact .inl ((n.fp y o).2 (.inr (.inr ⟨c, hcm, g⟩)))
          · exact .inr (by omega)
        · exact .inl ((n.fp y o).2 (.inr (.inr ⟨d, List.mem_of_mem_drop hd, g⟩)))
end Go.Proofs.Ythonmbkjbgkfaaa
