/-
  An iterator goes to a key. No condition.
-/
import Derived.Test.YtbnnkcofnmipoaaZ0b558072
import Derived.Test.YtbnnkcofnmipoaaZc9fcf298
import Derived.Test.YtbnnkcofnmipoaaZA
/-
  What nodeRebalance's walks share. No condition.
-/
set_option linter.unusedSimpArgs false
set_option linter.unusedVariables false
namespace Go.Proofs.Ytbnnkcofnmipoaa
open Go Go.Proofs
theorem rb_k (x : It) : bsV Try.prog 25 1 [(0, itV x)] = some (33, E.cel x) := by kernel_rfl
theorem rb_o (a : Option Addr) : bsV Try.prog 166 1 [(0, .pointer a)] = some (96, [.pointer a]) := by kernel_rfl
theorem rb_eli : elK Try.prog 25 = some (33, 2, 16, E.cel zIt) := by kernel_rfl
theorem rb_elk : elK Try.prog 166 = some (96, 1, 8, [.pointer none]) := by kernel_rfl
theorem rb_len (x : It) : (itV x).cells.toList.length = 2 := rfl
theorem rb_oc (x : It) : oc (itV x).cells.toList := E.one x
theorem on1_0 (a : Nat) : readsB (some (some [a])) a = true := by simp [readsB]
theorem on2_0 (a b : Nat) : readsB (some (some [a, b])) a = true := by simp [readsB]
theorem on2_1 (a b : Nat) : readsB (some (some [a, b])) b = true := by simp [readsB]
theorem on3_0 (a b c : Nat) : readsB (some (some [a, b, c])) a = true := by simp [readsB]
theorem on3_1 (a b c : Nat) : readsB (some (some [a, b, c])) b = true := by simp [readsB]
theorem on3_2 (a b c : Nat) : readsB (some (some [a, b, c])) c = true := by simp [readsB]
theorem on5_0 (a b c d e : Nat) : readsB (some (some [a, b, c, d, e])) a = true := by simp [readsB]
theorem on5_1 (a b c d e : Nat) : readsB (some (some [a, b, c, d, e])) b = true := by simp [readsB]
theorem on5_2 (a b c d e : Nat) : readsB (some (some [a, b, c, d, e])) c = true := by simp [readsB]
theorem on5_3 (a b c d e : Nat) : readsB (some (some [a, b, c, d, e])) d = true := by simp [readsB]
theorem on5_4 (a b c d e : Nat) : readsB (some (some [a, b, c, d, e])) e = true := by simp [readsB]
theorem lt1 {B a : Nat} (h : a < B) : ∀ x ∈ [a], x < B := by simp [h]
theorem lt2 {B a b : Nat} (h : a < B) (h2 : b < B) : ∀ x ∈ [a, b], x < B := by simp [h, h2]
theorem lt3 {B a b c : Nat} (h : a < B) (h2 : b < B) (h3 : c < B) : ∀ x ∈ [a, b, c], x < B := by simp [h, h2, h3]
theorem lt5 {B a b c d e : Nat} (h : a < B) (h2 : b < B) (h3 : c < B) (h4 : d < B) (h5 : e < B) : ∀ x ∈ [a, b, c, d, e], x < B := by simp [h, h2, h3, h4, h5]
theorem fkeep1 {B c a : Nat} (h : a < B ∧ a ≠ c) : ∀ x ∈ [a], x < B ∧ x ≠ c := by simp [h]
theorem fkeep2 {B c a b : Nat} (h : a < B ∧ a ≠ c) (h2 : b < B ∧ b ≠ c) : ∀ x ∈ [a, b], x < B ∧ x ≠ c := by simp [h, h2]
theorem ix0 (sz b o n : Nat) (h : 0 < n) : idxX (some sz) ⟨b, o, none⟩ n 0 = some (.pointer (some ⟨b, o, none⟩)) := by
  have := idxX_s sz b o n 0 h
  rwa [Nat.zero_mul, Nat.add_zero] at this
theorem W_st {P : Program} {n : Nat} {c : Code} {Q : Post} {e : Env} {w w0 : World} {G : Nat → Nat → Prop} {L : List Ob} {v0 v1 v2 v6 v7 : Value} (s : Ss w0 G w L) (h0 : e 0 = v0) (h1 : e 1 = v1) (h2 : e 2 = v2) (h6 : e 6 = v6) (h7 : e 7 = v7)
    (h : ∀ (e' : Env) (w' : World), Ss w0 G w' L → e' 0 = v0 → e' 1 = v1 → e' 2 = v2 → e' 6 = v6 → e' 7 = v7 → W P n c Q e' w') : W P n c Q e w := h e w s h0 h1 h2 h6 h7
end Go.Proofs.Ytbnnkcofnmipoaa
/-
  An iterator's record and its stack. No condition.
-/
set_option linter.unusedSimpArgs false
set_option linter.unusedVariables false
namespace Go.Proofs.Ytbnnkcofnmipoaa
open Go Go.Proofs
/-- A stack's entries: a node and a place in it. -/
def Es : Enc (Nat × Int) where
  cel p := [ptr p.1, .int .i64 p.2]
  sz := 2
  len _ := rfl
  one p v hv := by simp at hv; rcases hv with rfl | rfl <;> rfl
  pos := by decide
theorem Es_sz : Es.sz = 2 := rfl
def stV (p : Nat × Int) : Value := .agg #[ptr p.1, .int .i64 p.2]
theorem bu_st (b : Nat) (i : Int) : buildV Try.prog 98 [(0, .pointer (some ⟨b, 0, none⟩)), (1, .int .i64 i)] = some (stV (b, i)) := by kernel_rfl
theorem bs_st1 (p : Nat × Int) : bsV Try.prog 100 1 [(0, stV p)] = some (98, Es.cel p) := by kernel_rfl
theorem el_st : elK Try.prog 100 = some (98, 2, 16, [.pointer none, .int .i64 0]) := by kernel_rfl
theorem ni_st : noInt Try.prog 100 = true := by kernel_rfl
def ItI (w : World) (ib : Nat) : Prop := ∃ x : It, Row w ib 15 (E.cel x)
/-- An iterator's record and its stack. -/
structure ItS (ib m : Nat) (mu : Bool) (full : List (Nat × Int)) (sb so cap : Nat) (w : World) : Prop where
  tr : rd w ib 0 = some (ptr m)
  mtf : rd w ib 1 = some (.bool mu)
  fl : ∀ k, 2 ≤ k → k < 6 → ∃ a : Bool, rd w ib k = some (.bool a)
  lk : rd w ib 2 = some (.bool false)
  st : SE Es w ib 14 full sb so cap
  itm : ItI w ib
  wok : wok w ib 17
theorem ItI.ext {w w' : World} {ib : Nat} {G : Nat → Nat → Prop} (h : ItI w ib) (x : Ext G w w') (hG : ∀ o, 15 ≤ o → o < 17 → ¬ G ib o) : ItI w' ib := h.imp fun _ g => x.row g fun i hi => hG _ (by omega) (by have : i < 2 := hi; omega)
theorem ItS.ext {ib m : Nat} {mu : Bool} {full : List (Nat × Int)} {sb so cap : Nat} {w w' : World} {G : Nat → Nat → Prop} (h : ItS ib m mu full sb so cap w) (x : Ext G w w') (h1 : ∀ o, ¬ G ib o) (h2 : ∀ o, ¬ G sb o) : ItS ib m mu full sb so cap w' :=
  ⟨x.rd h.tr (h1 _), x.rd h.mtf (h1 _), fun k k1 k2 => (h.fl k k1 k2).imp fun _ g => x.rd g (h1 _), x.rd h.lk (h1 _), h.st.ext x (fun y o g k => by
    rcases g with g | g
    · rw [g.1] at k; exact h1 _ k
    · rw [g.1] at k; exact h2 _ k), h.itm.ext x fun o _ _ => h1 o, x.wok h.wok⟩
theorem ItS.ext0 {ib m : Nat} {mu : Bool} {full : List (Nat × Int)} {sb so cap : Nat} {w w' : World} (h : ItS ib m mu full sb so cap w) (x : Ext noF w w') : ItS ib m mu full sb so cap w' := h.ext x (fun _ g => g) fun _ g => g
theorem ItS.stack {ib m : Nat} {mu : Bool} {full full' : List (Nat × Int)} {sb so cap sb' so' cap' : Nat} {w w' : World} (h : ItS ib m mu full sb so cap w) (x : Ext (seF Es ib 14 sb so cap) w w') (s : SE Es w' ib 14 full' sb' so' cap') : ItS ib m mu full' sb' so' cap' w' := by
  have hn : ∀ k, k ≠ 14 → ¬ seF Es ib 14 sb so cap ib k := fun k hk g => by
    rcases g with g | g
    · omega
    · exact h.st.ne g.1.symm
  exact ⟨x.rd h.tr (hn 0 (by decide)), x.rd h.mtf (hn 1 (by decide)), fun k h1 h2 => (h.fl k h1 h2).imp fun _ g => x.rd g (hn k (by omega)), x.rd h.lk (hn 2 (by decide)), s, h.itm.ext x (fun o h1 h2 => hn o (by omega)), x.wok h.wok⟩
theorem ItS.flag {ib m : Nat} {mu : Bool} {full : List (Nat × Int)} {sb so cap k : Nat} {a : Bool} {w w' : World} (h : ItS ib m mu full sb so cap w) (x : Ext (rng ib k 1) w w') (r : rd w' ib k = some (.bool a)) (h3 : 2 < k) (h6 : k < 6) : ItS ib m mu full sb so cap w' :=
  ⟨x.rd h.tr (by simp only [rng]; omega), x.rd h.mtf (by simp only [rng]; omega), fun j h1 h2 => by
    by_cases hj : j = k
    · subst hj; exact ⟨a, r⟩
    · exact (h.fl j h1 h2).imp fun _ g => x.rd g (by simp only [rng]; omega), x.rd h.lk (by simp only [rng]; omega), h.st.ext x (fun y o g k' => by
      simp only [rng] at k'
      rcases g with g | g
      · omega
      · exact h.st.ne (g.1.symm.trans k'.1)), h.itm.ext x (fun o h1 h2 => by simp only [rng]; omega), x.wok h.wok⟩
theorem ItS.item {ib m : Nat} {mu : Bool} {full : List (Nat × Int)} {sb so cap : Nat} {w w' : World} {x : It} (h : ItS ib m mu full sb so cap w) (x0 : Ext (rng ib 15 2) w w') (r : Row w' ib 15 (E.cel x)) : ItS ib m mu full sb so cap w' :=
  ⟨x0.rd h.tr (by simp only [rng]; omega), x0.rd h.mtf (by simp only [rng]; omega), fun j h1 h2 => (h.fl j h1 h2).imp fun _ g => x0.rd g (by simp only [rng]; omega), x0.rd h.lk (by simp only [rng]; omega), h.st.ext x0 (fun y o g k' => by
      simp only [rng] at k'
      rcases g with g | g
      · omega
      · exact h.st.ne (g.1.symm.trans k'.1)), ⟨x, r⟩, x0.wok h.wok⟩
def itF (HF : Nat → Nat → Prop) (ib sb : Nat) : Nat → Nat → Prop := fun y o => y = ib ∨ y = sb ∨ HF y o
/-- What a method of an iterator leaves: the record and a stack, in its own block or in a new one; nothing else is changed but HF. -/
def Its (HF : Nat → Nat → Prop) (w1 : World) (ib m : Nat) (mu : Bool) (sb0 : Nat) (full : List (Nat × Int)) (w : World) : Prop :=
  ∃ sb so cap, ItS ib m mu full sb so cap w ∧ (sb = sb0 ∨ w1.heap.size ≤ sb) ∧ Ext (itF HF ib sb0) w1 w
theorem Its.start {HF : Nat → Nat → Prop} {ib m so cap sb0 : Nat} {mu : Bool} {full : List (Nat × Int)} {w : World} (h : ItS ib m mu full sb0 so cap w) : Its HF w ib m mu sb0 full w := ⟨sb0, so, cap, h, .inl rfl, Ext.refl _ _⟩
theorem itF_tr {HF : Nat → Nat → Prop} {w1 w w' : World} {ib sb0 sb : Nat} (X : Ext (itF HF ib sb0) w1 w) (hs : sb = sb0 ∨ w1.heap.size ≤ sb) (x : Ext (itF HF ib sb) w w') : Ext (itF HF ib sb0) w1 w' :=
  X.trans x (fun _ _ g => g) fun y o hy g => by
    rcases g with g | g | g
    · exact .inl g
    · rcases hs with h | h
      · exact .inr (.inl (g.trans h))
      · omega
    · exact .inr (.inr g)
theorem Its.step {HF : Nat → Nat → Prop} {w1 w w' : World} {ib m sb0 sb sb' so' cap' : Nat} {mu : Bool} {full' : List (Nat × Int)} (hs : sb = sb0 ∨ w1.heap.size ≤ sb) (X : Ext (itF HF ib sb0) w1 w) (x : Ext (itF HF ib sb) w w') (h' : ItS ib m mu full' sb' so' cap' w') (hb : sb' = sb ∨ w.heap.size ≤ sb') : Its HF w1 ib m mu sb0 full' w' :=
  ⟨sb', so', cap', h', by have := X.size; omega, itF_tr X hs x⟩
theorem Its.ext0 {HF : Nat → Nat → Prop} {w1 w w' : World} {ib m sb0 : Nat} {mu : Bool} {full : List (Nat × Int)} (h : Its HF w1 ib m mu sb0 full w) (x : Ext noF w w') : Its HF w1 ib m mu sb0 full w' := by
  obtain ⟨sb, so, cap, h1, h2, h3⟩ := h
  exact ⟨sb, so, cap, h1.ext0 x, h2, h3.tr (x.mono fun _ _ _ g => g.elim)⟩
theorem Its.x {HF : Nat → Nat → Prop} {w1 w : World} {ib m sb0 : Nat} {mu : Bool} {full : List (Nat × Int)} (h : Its HF w1 ib m mu sb0 full w) : Ext (itF HF ib sb0) w1 w := by
  obtain ⟨sb, so, cap, h1, h2, h3⟩ := h
  exact h3
/-- A method called by another one. -/
theorem Its.call {HF HG : Nat → Nat → Prop} {w1 w w' : World} {ib m sb0 sb : Nat} {mu : Bool} {full' : List (Nat × Int)} (hs : sb = sb0 ∨ w1.heap.size ≤ sb) (X : Ext (itF HF ib sb0) w1 w) (hG : ∀ y o, HG y o → HF y o) (h : Its HG w ib m mu sb full' w') : Its HF w1 ib m mu sb0 full' w' := by
  obtain ⟨sb', so', cap', h1, h2, h3⟩ := h
  exact Its.step hs X (h3.mono fun y o _ g => g.imp id fun g => g.imp id (hG y o)) h1 h2
theorem seF_itF {HF : Nat → Nat → Prop} {ib sb so cap : Nat} {y o : Nat} (g : seF Es ib 14 sb so cap y o) : itF HF ib sb y o := by
  rcases g with g | g
  · exact .inl g.1
  · exact .inr (.inl g.1)
/-- The stack's last entry, in memory. -/
theorem SE.last {w : World} {hb ho sb so cap : Nat} {st : List (Nat × Int)} {b : Nat} {i : Int} (h : SE Es w hb ho (st ++ [(b, i)]) sb so cap) :
    rd w hb ho = some (.slice (some ⟨sb, so, none⟩) (st.length + 1 : Nat) cap) ∧ rd w sb (so + st.length * 2) = some (ptr b) ∧ rd w sb (so + st.length * 2 + 1) = some (.int .i64 i) ∧ st.length + 1 ≤ cap := by
  have h1 := h.hd
  have h2 := h.le
  rw [List.length_append, List.length_singleton] at h1 h2
  have h3 := row_at Es h.row (i := st.length) (x := (b, i)) (by simp)
  have h4 : Row w sb (so + st.length * 2) [ptr b, .int .i64 i] := h3
  have h5 := Row.cons.1 h4
  exact ⟨h1, h5.1, (Row.cons.1 h5.2).1, h2⟩
/-- The stack is emptied. -/
theorem SE.cut0 {w w' : World} {hb ho sb so cap : Nat} {l : List (Nat × Int)} (h : SE Es w hb ho l sb so cap) (x : Ext (rng hb ho 1) w w') (r : rd w' hb ho = some (.slice (some ⟨sb, so, none⟩) (0 : Nat) cap)) : SE Es w' hb ho [] sb so cap ∧ Ext (seF Es hb ho sb so cap) w w' :=
  ⟨⟨r, Row.nil _ _ _, x.wok h.wi, Nat.zero_le _, x.wok h.hok, h.ne⟩, x.mono fun y o _ g => .inl (by simp only [rng] at g; omega)⟩
/-- The last entry's place is changed. -/
theorem SE.seti {w w' : World} {hb ho sb so cap : Nat} {st : List (Nat × Int)} {b : Nat} {i j : Int} (h : SE Es w hb ho (st ++ [(b, i)]) sb so cap) (x : Ext (rng sb (so + st.length * 2 + 1) 1) w w') (r : rd w' sb (so + st.length * 2 + 1) = some (.int .i64 j)) :
    SE Es w' hb ho (st ++ [(b, j)]) sb so cap ∧ Ext (seF Es hb ho sb so cap) w w' := by
  obtain ⟨h1, h2, h3, h4⟩ := h.last
  have hle := Nat.mul_le_mul_right 2 h4
  have X : Ext (rng sb (so + st.length * Es.sz) Es.sz) w w' := x.mono fun y o _ g => by
    simp only [rng] at g ⊢
    rw [Es_sz]
    omega
  have hr : Row w' sb (so + st.length * Es.sz) (Es.cel (b, j)) := by
    have h2' := x.rd h2 (by simp only [rng]; omega)
    exact Row.cons.2 ⟨h2', Row.cons.2 ⟨r, Row.nil _ _ _⟩⟩
  obtain ⟨g1, g2⟩ := h.set (i := st.length) (x := (b, j)) (by simp) X hr
  have : (st ++ [(b, i)]).set st.length (b, j) = st ++ [(b, j)] := set_last
  rw [this] at g1
  exact ⟨g1, g2⟩
/-- Where an iterator stands: nowhere, or at an item. -/
def Pos (iso : Int) (d : Nat) (w : World) (H root : Nat) (X : List It) (F : Nat → Nat → Prop) (full : List (Nat × Int)) (p : Option Nat) : Prop := match p with
  | none => full = []
  | some k => Cur E iso (d - 1) (2 * d - 1) w H 1 root X F full k
end Go.Proofs.Ytbnnkcofnmipoaa
/-
  An iterator goes to the first item. No condition.
-/
set_option linter.unusedSimpArgs false
set_option linter.unusedVariables false
namespace Go.Proofs.Ytbnnkcofnmipoaa
open Go Go.Proofs
/-- Outside of what a tree's order reads. -/
def Far (B m y : Nat) : Prop := m < y ∨ y < B
theorem TreeAt.nf {B : Nat} {ord : List Int} {w : World} {m d : Nat} {iso : Int} {xs : List It} {F : Nat → Nat → Prop} (h : TreeAt B ord w m d iso xs F) : ¬ Far B m m := fun g => by
  have hB : B ≤ m := by obtain ⟨_, _, _, h⟩ := h.less; exact h
  rcases g with g | g <;> omega
theorem TreeAt.extF {B : Nat} {ord : List Int} {w w' : World} {G : Nat → Nat → Prop} {m d : Nat} {iso : Int} {xs : List It} {F : Nat → Nat → Prop} (h : TreeAt B ord w m d iso xs F) (x : Ext G w w') (hG : ∀ y o, G y o → Far B m y ∧ ¬ F y o) : TreeAt B ord w' m d iso xs F := by
  have hm' : ∀ o, ¬ G m o := fun o g => h.nf (hG _ _ g).1
  exact ⟨h.cfg.ext x fun o _ _ => hm' o, h.less.ext x (fun y o g => by have := (hG _ _ g).1; rcases this with h | h <;> omega) (hm' 6), x.rd h.cnt (hm' 3), h.asc, h.root.imp (fun ⟨h1, h2⟩ => ⟨h1, x.rd h2 (hm' 2)⟩) fun ⟨h', b, h1, h2⟩ => ⟨h', b, x.rd h1 (hm' 2), h2.ext x fun y o g k => (hG y o k).2 g⟩,
    h.off, fun y o g => Nat.lt_of_lt_of_le (h.lt y o g) x.size, h.above⟩
/-- Where an iterator stands in a tree: nowhere, or at an item. -/
def PosT (m d : Nat) (iso : Int) (X : List It) (F : Nat → Nat → Prop) (ib : Nat) (w : World) (full : List (Nat × Int)) (p : Option Nat) : Prop := match p with
  | none => full = []
  | some k => rd w ib 3 = some (.bool true) ∧ ∃ H root, rd w m 2 = some (ptr root) ∧ Tr E iso (d - 1) (2 * d - 1) H w 1 root X F ∧ Cur E iso (d - 1) (2 * d - 1) w H 1 root X F full k
theorem PosT.ext {m d : Nat} {iso : Int} {X : List It} {F : Nat → Nat → Prop} {ib : Nat} {w w' : World} {full : List (Nat × Int)} {p : Option Nat} {G : Nat → Nat → Prop} (h : PosT m d iso X F ib w full p) (x : Ext G w w') (h1 : ¬ G ib 3) (h2 : ¬ G m 2) (h3 : ∀ y o, F y o → ¬ G y o) : PosT m d iso X F ib w' full p := by
  cases p with
  | none => exact h
  | some k =>
    obtain ⟨g1, H, root, g2, g3, g4⟩ := h
    exact ⟨x.rd g1 h1, H, root, x.rd g2 h2, g3.ext x h3, g4.ext x h3⟩
theorem TreeAt.rt {B : Nat} {ord : List Int} {w w' : World} {m d root : Nat} {iso : Int} {xs : List It} {F G : Nat → Nat → Prop} (_ : TreeAt B ord w m d iso xs F) (hr : rd w' m 2 = some (ptr root)) (x : Ext G w' w) (hm : ¬ G m 2) : rd w m 2 = some (ptr root) := x.rd hr hm
theorem ItS.skF {ib m : Nat} {mu : Bool} {full : List (Nat × Int)} {sb so cap k : Nat} {w : World} (h : ItS ib m mu full sb so cap w) (hk : k ≠ 14) : ¬ seF Es ib 14 sb so cap ib k := fun g => by
  rcases g with g | g
  · omega
  · exact h.st.ne g.1.symm
theorem sl0 (sb so n cap : Nat) : slcX (some 2) (.slice (some ⟨sb, so, none⟩) n cap) none (some (.int .i64 0)) none = some (.slice (some ⟨sb, so, none⟩) (0 : Nat) cap) := slcX_hi 2 sb so n cap 0 .i64 (Nat.zero_le _)
/-- What a move leaves: an answer, where it stands, the item there. -/
def MvQ (B : Nat) (ord : List Int) (m d : Nat) (iso : Int) (X : List It) (F HF : Nat → Nat → Prop) (mu : Bool) (ib sb0 : Nat) (w1 : World) (p : Option Nat) (v : Value) (w' : World) : Prop :=
  v = .bool p.isSome ∧ (∀ k, p = some k → k < X.length) ∧ TreeAt B ord w' m d iso X F ∧ (∃ full, Its HF w1 ib m mu sb0 full w' ∧ PosT m d iso X F ib w' full p) ∧ ∀ k x, p = some k → X[k]? = some x → Row w' ib 15 (E.cel x)
theorem MvQ.none {B : Nat} {ord : List Int} {m d : Nat} {iso : Int} {X : List It} {F HF : Nat → Nat → Prop} {mu : Bool} {ib sb0 : Nat} {w1 w' : World} (T : TreeAt B ord w' m d iso X F) (h : Its HF w1 ib m mu sb0 [] w') : MvQ B ord m d iso X F HF mu ib sb0 w1 none (.bool false) w' :=
  ⟨rfl, fun k hk => (by cases hk), T, ⟨[], h, rfl⟩, fun k x hk => (by cases hk)⟩
theorem MvQ.some {B : Nat} {ord : List Int} {m d : Nat} {iso : Int} {X : List It} {F HF : Nat → Nat → Prop} {mu : Bool} {ib sb0 k : Nat} {x : It} {w1 w' : World} {full : List (Nat × Int)} (hx : X[k]? = some x) (T : TreeAt B ord w' m d iso X F) (h : Its HF w1 ib m mu sb0 full w') (hp : PosT m d iso X F ib w' full (some k)) (hr : Row w' ib 15 (E.cel x)) : MvQ B ord m d iso X F HF mu ib sb0 w1 (some k) (.bool true) w' :=
  ⟨rfl, fun j hk => (by cases hk; exact (List.getElem?_eq_some_iff.1 hx).1), T, ⟨full, h, hp⟩, fun j y hk hy => (by cases hk; rw [hx] at hy; cases hy; exact hr)⟩
set_option maxHeartbeats 4000000 in
set_option maxRecDepth 8000 in
theorem ifirst_any (B m d : Nat) (ord : List Int) (hd : 2 ≤ d) (hd' : d ≤ 128) (iso : Int) (X : List It) (F HF : Nat → Nat → Prop) (mu : Bool) (ib sb0 so0 cap0 : Nat) (full0 : List (Nat × Int)) (w1 : World) (hM : TreeAt B ord w1 m d iso X F) (hG : ∀ y o, itF HF ib sb0 y o → Far B m y ∧ ¬ F y o) (hI : ItS ib m mu full0 sb0 so0 cap0 w1) (hbig : X.length ≤ 2147483648) :
    CallK Try.prog 79 #[ptr ib] w1 fun v w' => MvQ B ord m d iso X F HF mu ib sb0 w1 (if 0 < X.length then some 0 else none) v w' := by
  have hT : ∀ w, Ext (itF HF ib sb0) w1 w → TreeAt B ord w m d iso X F := fun w x => hM.extF x hG
  have Y := Ext.refl (itF HF ib sb0) w1
  have hs : sb0 = sb0 ∨ w1.heap.size ≤ sb0 := .inl rfl
  have h0 := hI.tr
  refine calls_of_W [.tmp 2] Try.func79 rfl Try.ntmps79 Try.results79 (by simp) fun e he => ?_
  have e0 : e 0 = ptr ib := he 0 _ rfl
  clear he
  refine W_sq fun K hK => (W_text [true] (by kernel_rfl) ?_); simp only [↓List.toList_toArray, ↓rgd, ↓rgf, ↓reduceIte, Nat.reduceEqDiff, rg, ow_79]
  refine hK _ _ ?_; clear hK K
  refine W_seq ?_
  refine W_sq fun K hK => (W_text [true, true, true, true, true] (by kernel_rfl) ?_); simp only [↓List.toList_toArray, ↓rgd, ↓rgf, ↓reduceIte, Nat.reduceEqDiff, rg, ow_79, e0, ptr_eq, h0]
  refine hK _ _ ?_; clear hK K
  refine W_false (by simp only [evt, evc, upd_eq, Nat.reduceEqDiff, ↓reduceIte, ntT, ntF] <;> rfl) (W_skip ?_)
  show W _ _ _ _ _ _
  refine W_sq fun K hK => (W_text [true, true, true, false] (by kernel_rfl) ?_); simp only [↓List.toList_toArray, ↓rgd, ↓rgf, ↓reduceIte, Nat.reduceEqDiff, rg, ow_79, e0, ptr_eq]
  refine do_store (v := .bool false) (by simp only [evt, evc, upd_eq, Nat.reduceEqDiff, ↓reduceIte, ntT, ntF] <;> rfl) (by simp only [evt, evc, upd_eq, Nat.reduceEqDiff, ↓reduceIte, ntT, ntF] <;> rfl) sz_4 rfl hI.wok (by decide) (oc_one rfl rfl) fun a1w a1x a1r a1s => ⟨trivial, ?_⟩
  simp only [↓List.toList_toArray, ↓rgd, ↓rgf, ↓reduceIte, Nat.reduceEqDiff, rg, ow_79]
  refine hK _ _ ?_; clear hK K
  have a1I := hI.flag a1x (Row.cons.1 a1r).1 (by decide) (by decide)
  have a1Y := itF_tr Y hs (a1x.mono (G := itF HF ib sb0) fun y o _ g => .inl g.1)
  refine W_sq fun K hK => (W_text [true, true, true, false] (by kernel_rfl) ?_); simp only [↓List.toList_toArray, ↓rgd, ↓rgf, ↓reduceIte, Nat.reduceEqDiff, rg, ow_79, e0, ptr_eq]
  refine do_store (v := .bool false) (by simp only [evt, evc, upd_eq, Nat.reduceEqDiff, ↓reduceIte, ntT, ntF] <;> rfl) (by simp only [evt, evc, upd_eq, Nat.reduceEqDiff, ↓reduceIte, ntT, ntF] <;> rfl) sz_4 rfl a1I.wok (by decide) (oc_one rfl rfl) fun a2w a2x a2r a2s => ⟨trivial, ?_⟩
  simp only [↓List.toList_toArray, ↓rgd, ↓rgf, ↓reduceIte, Nat.reduceEqDiff, rg, ow_79]
  refine hK _ _ ?_; clear hK K
  have a2I := a1I.flag a2x (Row.cons.1 a2r).1 (by decide) (by decide)
  have a2Y := itF_tr a1Y hs (a2x.mono (G := itF HF ib sb0) fun y o _ g => .inl g.1)
  refine W_sq fun K hK => (W_text [true, true, true, false] (by kernel_rfl) ?_); simp only [↓List.toList_toArray, ↓rgd, ↓rgf, ↓reduceIte, Nat.reduceEqDiff, rg, ow_79, e0, ptr_eq]
  refine do_store (v := .bool true) (by simp only [evt, evc, upd_eq, Nat.reduceEqDiff, ↓reduceIte, ntT, ntF] <;> rfl) (by simp only [evt, evc, upd_eq, Nat.reduceEqDiff, ↓reduceIte, ntT, ntF] <;> rfl) sz_4 rfl a2I.wok (by decide) (oc_one rfl rfl) fun a3w a3x a3r a3s => ⟨trivial, ?_⟩
  simp only [↓List.toList_toArray, ↓rgd, ↓rgf, ↓reduceIte, Nat.reduceEqDiff, rg, ow_79]
  refine hK _ _ ?_; clear hK K
  have a3I := a2I.flag a3x (Row.cons.1 a3r).1 (by decide) (by decide)
  have a3Y := itF_tr a2Y hs (a3x.mono (G := itF HF ib sb0) fun y o _ g => .inl g.1)
  have skd : rd a3w ib 3 = some (.bool true) := (Row.cons.1 a3r).1
  have a4h := a3I.st.hd
  have a4z := sl0 sb0 so0 full0.length cap0
  refine W_sq fun K hK => (W_text [true, true, true, true, true, true, true, true, false] (by kernel_rfl) ?_); simp only [↓List.toList_toArray, ↓rgd, ↓rgf, ↓reduceIte, Nat.reduceEqDiff, rg, ow_79, e0, ptr_eq, a4h, a4z]
  refine do_store (v := .slice (some ⟨sb0, so0, none⟩) (0 : Nat) cap0) (by simp only [evt, evc, upd_eq, Nat.reduceEqDiff, ↓reduceIte, ntT, ntF] <;> rfl) (by simp only [evt, evc, upd_eq, Nat.reduceEqDiff, ↓reduceIte, ntT, ntF] <;> rfl) sz_100 rfl a3I.st.hok (by decide) (oc_one rfl rfl) fun a4w a4x a4r a4s => ⟨trivial, ?_⟩
  simp only [↓List.toList_toArray, ↓rgd, ↓rgf, ↓reduceIte, Nat.reduceEqDiff, rg, ow_79]
  refine hK _ _ ?_; clear hK K
  obtain ⟨a4g, a4f⟩ := a3I.st.cut0 a4x (Row.cons.1 a4r).1
  have a4I := a3I.stack a4f a4g
  have a4Y := itF_tr a3Y hs (a4f.mono fun y o _ g => seF_itF (HF := HF) g)
  have skd := a4x.rd skd (by simp only [rng]; omega)
  have T := hT a4w a4Y
  have ft := a4I.tr
  refine W_seq ?_
  rcases T.root with ⟨hX, hr⟩ | ⟨H, root, hr, ht2⟩
  · refine W_sq fun K hK => (W_text [true, true, true, true, true, true, true, true] (by kernel_rfl) ?_); simp only [↓List.toList_toArray, ↓rgd, ↓rgf, ↓reduceIte, Nat.reduceEqDiff, rg, ow_79, e0, ptr_eq, ft, hr]
    refine hK _ _ ?_; clear hK K
    refine W_true (by simp only [evt, evc, upd_eq, Nat.reduceEqDiff, ↓reduceIte, ntT, ntF] <;> rfl) ?_
    refine W_sq fun K hK => (W_text [true] (by kernel_rfl) ?_); simp only [↓List.toList_toArray, ↓rgd, ↓rgf, ↓reduceIte, Nat.reduceEqDiff, rg, ow_79]
    refine hK _ _ ?_; clear hK K
    refine W_ret ?_
    simp only [andThen_ret]
    rw [if_neg (by simp [hX])]
    exact endQ_1 (by simp only [upd_eq, Nat.reduceEqDiff, ↓reduceIte] <;> rfl) (MvQ.none (hT _ a4Y) ⟨_, _, _, a4I, hs, a4Y⟩)
  · refine W_sq fun K hK => (W_text [true, true, true, true, true, true, true, true] (by kernel_rfl) ?_); simp only [↓List.toList_toArray, ↓rgd, ↓rgf, ↓reduceIte, Nat.reduceEqDiff, rg, ow_79, e0, ptr_eq, ft, hr]
    refine hK _ _ ?_; clear hK K
    refine W_false (by simp only [evt, evc, upd_eq, Nat.reduceEqDiff, ↓reduceIte, ntT, ntF] <;> rfl) (W_skip ?_)
    show W _ _ _ _ _ _
    obtain ⟨H, root, hr, ht⟩ : ∃ H root, rd w1 m 2 = some (ptr root) ∧ Tr E iso (d - 1) (2 * d - 1) H w1 1 root X F := by
      rcases hM.root with ⟨h, h'⟩ | h
      · rw [a4Y.rd h' (fun g => hM.nf (hG _ _ g).1)] at hr; cases hr
      · exact h
    have hm2 : ¬ itF HF ib sb0 m 2 := fun g => hM.nf (hG _ _ g).1
    have htT : ∀ w, Ext (itF HF ib sb0) w1 w → Tr E iso (d - 1) (2 * d - 1) H w 1 root X F := fun w x => ht.ext x fun y o g k => (hG y o k).2 g
    have hXp : 0 < X.length := ht.pos (by decide)
    clear ht2
    have a5m := a4I.mtf
    have a5t := a4I.tr
    refine W_sq fun K hK => (W_draw (some none) none [(0, 0, 0), (0, 1, 0), (0, 2, 0), (0, 3, 0), (0, 4, 0), (0, 5, 0), (0, 6, 0), (0, 7, 0), (0, 8, 0), (0, 9, 0), (0, 10, 0), (0, 11, 0), (0, 12, 0), (0, 13, 0), (1, 14, 0), (0, 15, 0)] mixed (by kernel_rfl) ?_); simp only [↓List.toList_toArray, ↓rgd, ↓rgf, ↓reduceIte, Nat.reduceEqDiff, rg, ow_79, e0, ptr_eq, a5m, a5t]
    refine do_call fn_96 (vs := #[ptr m, .pointer (some ⟨m, 2, none⟩), .bool mu]) (by simp only [evt, evc, upd_eq, Nat.reduceEqDiff, ↓reduceIte, maT, maC, maN, isnN, isnS] <;> rfl) (isoLoad_any m m 2 root mu iso _ T.cfg.iso (a4Y.rd hr hm2) (htT a4w a4Y).iso0.1) ?_
    rintro _ a5w ⟨rfl, a5r⟩
    refine ⟨by first | exact trivial | exact .inr (keeps_ro a5r), ?_⟩
    simp only [↓List.toList_toArray, ↓rgd, ↓rgf, ↓reduceIte, Nat.reduceEqDiff, rg, ow_79]
    refine hK _ _ ?_; clear hK K
    have a5r := (RO.dr _ _).tr a5r
    have a5I := a4I.ext0 a5r.ext
    have a5Y := a4Y.tr a5r.ext
    have skd := a5r.ext.rd skd (fun h : noF _ _ => h)
    refine W_sqx fun J hJ => ?_
    have hend : ∀ (e : Env) (w : World) (full : List (Nat × Int)) (sb so cap : Nat), ItS ib m mu full sb so cap w → (sb = sb0 ∨ w1.heap.size ≤ sb) → Ext (itF HF ib sb0) w1 w → rd w ib 3 = some (.bool true) → Cur E iso (d - 1) (2 * d - 1) w1 H 1 root X F full (0) → e 0 = ptr ib → J e w := by
      clear e0 e
      intro e w full sb so cap hI hs Y skd cur e0
      refine hJ _ _ ?_; clear hJ J
      have hdp := cur.depth
      obtain ⟨st, b, j, bi, oi, cp, ks, ch, x, cnt, rfl, ho1, hoF, hj, hx⟩ := cur.item ht
      rw [List.length_append, List.length_singleton] at hdp
      have hht := ht.height (by omega) (by decide)
      obtain ⟨l1, l2, l3, l4⟩ := hI.st.last
      have q1 := wsub1 (st.length + 1) (by omega) (by omega)
      rw [Nat.add_sub_cancel] at q1
      have q2 : st.length < st.length + 1 := Nat.lt_succ_self _
      have hlen : (st ++ [(b, (j : Int))]).length = st.length + 1 := by simp
      refine W_sq fun K hK => (W_draw (some none) none [(0, 0, 0), (0, 1, 0), (0, 2, 0), (0, 3, 0), (0, 4, 0), (0, 5, 0), (0, 6, 0), (0, 7, 0), (0, 8, 0), (0, 9, 0), (0, 10, 0), (0, 11, 0)] mixed (by kernel_rfl) ?_); simp only [↓List.toList_toArray, ↓rgd, ↓rgf, ↓reduceIte, Nat.reduceEqDiff, rg, ow_79, e0, ptr_eq, l1, q1, q2]
      refine hK _ _ ?_; clear hK K
      have ho := ho1.ext Y fun y o g k => (hG y o k).2 (hoF y o g)
      have hjl := (List.getElem?_eq_some_iff.1 hj).1
      have hk := it_at ho.row hj
      have hi := ho.h2
      refine W_sq fun K hK => (W_draw (some none) (some 16) [(0, 0, 0), (0, 1, 0), (0, 2, 0), (0, 3, 0), (0, 4, 0), (0, 5, 0), (0, 6, 0), (0, 7, 0), (0, 8, 0), (0, 9, 0), (0, 10, 0), (0, 11, 0), (0, 12, 0), (0, 13, 0), (0, 14, 0), (0, 15, 0), (1, 16, 0)] mixed (by kernel_rfl) ?_); simp only [↓List.toList_toArray, ↓rgd, ↓rgf, ↓reduceIte, Nat.reduceEqDiff, rg, ow_79, e0, ptr_eq, l2, l3, hi, hjl, hk]
      refine do_store (v := itV x) (by simp only [evt, evc, upd_eq, Nat.reduceEqDiff, ↓reduceIte, ntT, ntF] <;> rfl) (by simp only [evt, evc, upd_eq, Nat.reduceEqDiff, ↓reduceIte, ntT, ntF] <;> rfl) sz_33 (itV_len x) hI.wok (by decide) (itV_oc x) fun w2 x2 r2 s2 => ⟨by first | exact trivial | exact .inl trivial, ?_⟩
      simp only [↓List.toList_toArray, ↓rgd, ↓rgf, ↓reduceIte, Nat.reduceEqDiff, rg, ow_79]
      refine hK _ _ ?_; clear hK K
      have x2 := x2.od.od
      have hI2 := hI.item (x := x) x2 r2
      have Y2 := itF_tr Y hs (x2.mono (G := itF HF ib sb) fun y o _ g => .inl g.1)
      refine W_sq fun K hK => (W_text [true] (by kernel_rfl) ?_); simp only [↓List.toList_toArray, ↓rgd, ↓rgf, ↓reduceIte, Nat.reduceEqDiff, rg, ow_79]
      refine hK _ _ ?_; clear hK K
      rw [if_pos hXp]
      refine W_ret (endQ_1 (by simp only [upd_eq, Nat.reduceEqDiff, ↓reduceIte] <;> rfl) (MvQ.some hx (hT _ Y2) ⟨sb, so, cap, hI2, hs, Y2⟩ ⟨x2.rd skd (by simp only [rng]; omega), H, root, Y2.rd hr hm2, ht.ext Y2 fun y o g k => (hG y o k).2 g, cur.ext Y2 fun y o g k => (hG y o k).2 g⟩ r2))
    clear hJ
    refine W_block (W_loop (fun mm e w => ∃ (st : List (Nat × Int)) (lo b : Nat) (xs : List It) (Fb : Nat → Nat → Prop) (sb so cap : Nat), Way E iso (d - 1) (2 * d - 1) w1 H 1 root X F st mm lo b xs Fb (0) ∧ ItS ib m mu st sb so cap w ∧ (sb = sb0 ∨ w1.heap.size ≤ sb) ∧ Ext (itF HF ib sb0) w1 w ∧ rd w ib 3 = some (.bool true) ∧ e 0 = ptr ib ∧ e 3 = ptr b)
      _ ⟨_, _, _, _, _, _, _, _, .root, a5I, hs, a5Y, skd, by simp only [upd_eq, Nat.reduceEqDiff, ↓reduceIte]; exact e0, by simp only [upd_eq, Nat.reduceEqDiff, ↓reduceIte]⟩ ?_)
    clear a5I a5Y skd e0 e
    rintro mm e w ⟨st, lo, b, xs, Fb, sb, so, cap, hw, hI, hs, Y, skd, e0, e3⟩
    obtain ⟨bi, oi, cp, ks, ch, ho1, h1, h2, hsub, hin⟩ := (hw.tr ht).open
    have hlo := hw.lo (by decide) (by omega : 1 ≤ d - 1)
    have hoF : ∀ y o, ownF E b bi oi cp y o → ¬ itF HF ib sb0 y o := fun y o g k => (hG y o k).2 (hw.sub y o (hsub y o g))
    refine W_block ?_
    have l0 := hI.st.hd
    refine W_sq fun K hK => (W_text [true, true, true, true, true, true, true, false, false, true, true, false] (by kernel_rfl) ?_); simp only [↓List.toList_toArray, ↓rgd, ↓rgf, ↓reduceIte, Nat.reduceEqDiff, rg, ow_79, e0, e3, ptr_eq, l0, bu_st]
    refine do_bsl rfl (bs_st1 (b, 0)) fun w3 n3 => ⟨by first | exact trivial | exact .inr trivial, ?_⟩
    simp only [↓List.toList_toArray, ↓rgd, ↓rgf, ↓reduceIte, Nat.reduceEqDiff, rg, ow_79, l0]
    have st3 := hI.st.ext0 n3.ext
    have hstl := hw.len
    have hht := ht.height (by omega) (by decide)
    refine do_append (by simp only [evt, evc, upd_eq, Nat.reduceEqDiff, ↓reduceIte, ntT, ntF] <;> rfl) (by simp only [evt, evc, upd_eq, Nat.reduceEqDiff, ↓reduceIte, ntT, ntF] <;> rfl) el_st rfl ni_st st3.slV (u := .slice (some ⟨w.heap.size, 0, none⟩) 1 1) (m := 1) (l' := Es.cel (b, 0)) ⟨rfl, .inr ⟨_, 0, 1, rfl, Nat.le_refl _, n3.row, n3.wok.R (Nat.le_refl _)⟩⟩ (by omega) (by decide) (Es.one _) fun v4 w4 a4 => ⟨by first | exact trivial | exact .inr trivial, ?_⟩
    obtain ⟨sb5, so5, cap5, rfl, wk4, -, nx⟩ := st3.app' (ls := [(b, 0)]) rfl (by rw [flat_one]; exact a4)
    simp only [↓List.toList_toArray, ↓rgd, ↓rgf, ↓reduceIte, Nat.reduceEqDiff, rg, ow_79]
    refine do_store (by simp only [evt, evc, upd_eq, Nat.reduceEqDiff, ↓reduceIte, ntT, ntF] <;> rfl) (by simp only [evt, evc, upd_eq, Nat.reduceEqDiff, ↓reduceIte, ntT, ntF] <;> rfl) sz_100 rfl wk4 (by decide) (oc_one rfl rfl) fun w5 x5 r5 s5 => ⟨by first | exact trivial | exact .inl trivial, ?_⟩
    simp only [↓List.toList_toArray, ↓rgd, ↓rgf, ↓reduceIte, Nat.reduceEqDiff, rg, ow_79]
    refine hK _ _ ?_; clear hK K
    obtain ⟨g1, g2, g3⟩ := nx w5 x5 (Row.cons.1 r5).1
    have G5 := n3.ext.trans g2 (fun _ _ h => h.elim) fun _ _ _ h => h
    have hI5 := hI.stack G5 g1
    have Y5 := itF_tr Y hs (G5.mono fun y o _ g => seF_itF (HF := HF) g)
    have hs5 : sb5 = sb0 ∨ w1.heap.size ≤ sb5 := by
      rcases g3 with g3 | g3
      · rw [g3.1]; exact hs
      · have s3 := n3.size; have s1 := Y.size; exact .inr (by omega)
    have skd5 := G5.rd skd (hI.skF (by decide))
    clear nx x5 r5 s5 a4 wk4 st3 n3 g1 g2 g3 G5
    have ho5 := ho1.ext Y5 hoF
    refine W_seq ?_
    rcases hin with ⟨rfl, rfl, rfl, -⟩ | ⟨h', bc, ba, oa, capc, cs, rfl, rfl, n⟩
    · refine W_sq fun K hK => (W_text [true, false] (by kernel_rfl) ?_); simp only [↓List.toList_toArray, ↓rgd, ↓rgf, ↓reduceIte, Nat.reduceEqDiff, rg, ow_79, e3]
      refine do_call fn_108 (by simp only [evt, evc, upd_eq, Nat.reduceEqDiff, ↓reduceIte, maT, maC, maN, isnN, isnS] <;> rfl) (leaf_any b (none) w5 ho5.h3) ?_
      rintro _ w6 ⟨rfl, hw6⟩
      obtain rfl : w5 = w6 := hw6.symm
      refine ⟨trivial, ?_⟩
      simp only [↓List.toList_toArray, ↓rgd, ↓rgf, ↓reduceIte, Nat.reduceEqDiff, rg, ow_79]
      refine hK _ _ ?_; clear hK K
      refine W_true (by simp only [evt, evc, upd_eq, Nat.reduceEqDiff, ↓reduceIte, ntT, ntF] <;> rfl) (W_exit ?_)
      simp only [andThen_exit, inBlk_exit, andThen_normal, Nat.reduceEqDiff, ↓reduceIte]
      exact hend _ _ _ _ _ _ hI5 hs5 Y5 skd5 ⟨st, b, 0, lo, _, xs, Fb, 0, rfl, hw, .inl ⟨rfl, by omega, by omega⟩⟩ (by simp only [upd_eq, Nat.reduceEqDiff, ↓reduceIte]; exact e0)
    · refine W_sq fun K hK => (W_text [true, false] (by kernel_rfl) ?_); simp only [↓List.toList_toArray, ↓rgd, ↓rgf, ↓reduceIte, Nat.reduceEqDiff, rg, ow_79, e3]
      refine do_call fn_108 (by simp only [evt, evc, upd_eq, Nat.reduceEqDiff, ↓reduceIte, maT, maC, maN, isnN, isnS] <;> rfl) (leaf_any b (some ⟨bc, 0, none⟩) w5 ho5.h3) ?_
      rintro _ w6 ⟨rfl, hw6⟩
      obtain rfl : w5 = w6 := hw6.symm
      refine ⟨trivial, ?_⟩
      simp only [↓List.toList_toArray, ↓rgd, ↓rgf, ↓reduceIte, Nat.reduceEqDiff, rg, ow_79]
      refine hK _ _ ?_; clear hK K
      refine W_false (by simp only [evt, evc, upd_eq, Nat.reduceEqDiff, ↓reduceIte, ntT, ntF] <;> rfl) (W_skip ?_)
      show W _ _ _ _ _ _
      obtain ⟨c, hc⟩ := n.kid (i := 0) (Nat.zero_le _)
      have hcm := List.mem_of_getElem? hc
      have hcl := (List.getElem?_eq_some_iff.1 hc).1
      have k5 := n.kids.ext Y5 fun y o g k => (hG y o k).2 (hw.sub y o ((n.fp y o).2 (.inr (.inl g))))
      have t5 := (n.sub c hcm).ext Y5 fun y o g k => (hG y o k).2 (hw.sub y o ((n.fp y o).2 (.inr (.inr ⟨c, hcm, g⟩))))
      have hc0 := k5.c0
      rw [List.length_map] at hc0
      have hcr : rd w5 ba (oa + 0) = some (ptr c.b) := ptr_at k5.row (by rw [List.getElem?_map, hc]; rfl)
      rw [Nat.add_zero] at hcr
      have i0 := idx0 1 ba oa cs.length hcl
      have f1 := hI5.tr
      have f2 := hI5.mtf
      have f3 := ho5.h3
      refine W_rg fun K hK => (W_draw (some none) none [(0, 0, 0), (0, 1, 0), (0, 2, 0), (0, 3, 0), (0, 4, 0), (0, 5, 0), (0, 6, 0), (0, 7, 0), (0, 8, 0), (0, 9, 0), (0, 10, 0), (0, 11, 0), (0, 12, 0), (0, 13, 0), (0, 14, 0), (1, 15, 0), (0, 16, 0)] mixed (by kernel_rfl) ?_); simp only [↓List.toList_toArray, ↓rgd, ↓rgf, ↓reduceIte, Nat.reduceEqDiff, rg, ow_79, e0, e3, ptr_eq, f1, f2, f3, hc0, i0]
      refine do_call fn_96 (vs := #[ptr m, .pointer (some ⟨ba, oa, none⟩), .bool mu]) (by simp only [evt, evc, upd_eq, Nat.reduceEqDiff, ↓reduceIte, maT, maC, maN, isnN, isnS] <;> rfl) (isoLoad_any m ba oa c.b mu iso _ (hT _ Y5).cfg.iso hcr t5.iso0.1) ?_
      rintro _ w6 ⟨rfl, r6⟩
      refine ⟨by first | exact trivial | exact .inr (keeps_ro r6), ?_⟩
      simp only [↓List.toList_toArray, ↓rgd, ↓rgf, ↓reduceIte, Nat.reduceEqDiff, rg, ow_79]
      refine hK _ _ ?_; clear hK K
      have r6 := (RO.dr _ _).tr r6
      exact ⟨h', by omega, st ++ [(b, 0)], d - 1, c.b, c.xs, c.F, sb5, so5, cap5, hw.down ho1 n hc, hI5.ext0 r6.ext, hs5, Y5.tr r6.ext, r6.ext.rd skd5 (fun h : noF _ _ => h), by simp only [upd_eq, Nat.reduceEqDiff, ↓reduceIte]; exact e0, by simp only [upd_eq, Nat.reduceEqDiff, ↓reduceIte]⟩
end Go.Proofs.Ytbnnkcofnmipoaa
/-
  An iterator goes to the last item. No condition.
-/
set_option linter.unusedSimpArgs false
set_option linter.unusedVariables false
namespace Go.Proofs.Ytbnnkcofnmipoaa
open Go Go.Proofs
set_option maxHeartbeats 4000000 in
set_option maxRecDepth 8000 in
theorem ilast_any (B m d : Nat) (ord : List Int) (hd : 2 ≤ d) (hd' : d ≤ 128) (iso : Int) (X : List It) (F HF : Nat → Nat → Prop) (mu : Bool) (ib sb0 so0 cap0 : Nat) (full0 : List (Nat × Int)) (w1 : World) (hM : TreeAt B ord w1 m d iso X F) (hG : ∀ y o, itF HF ib sb0 y o → Far B m y ∧ ¬ F y o) (hI : ItS ib m mu full0 sb0 so0 cap0 w1) (hbig : X.length ≤ 2147483648) :
    CallK Try.prog 83 #[ptr ib] w1 fun v w' => MvQ B ord m d iso X F HF mu ib sb0 w1 (if 0 < X.length then some (X.length - 1) else none) v w' := by
  have hT : ∀ w, Ext (itF HF ib sb0) w1 w → TreeAt B ord w m d iso X F := fun w x => hM.extF x hG
  have Y := Ext.refl (itF HF ib sb0) w1
  have hs : sb0 = sb0 ∨ w1.heap.size ≤ sb0 := .inl rfl
  have h0 := hI.tr
  refine calls_of_W [.tmp 2] Try.func83 rfl Try.ntmps83 Try.results83 (by simp) fun e he => ?_
  have e0 : e 0 = ptr ib := he 0 _ rfl
  clear he
  refine W_sq fun K hK => (W_text [true] (by kernel_rfl) ?_); simp only [↓List.toList_toArray, ↓rgd, ↓rgf, ↓reduceIte, Nat.reduceEqDiff, rg, ow_83]
  refine hK _ _ ?_; clear hK K
  refine W_seq ?_
  refine W_sq fun K hK => (W_text [true, true, true, true, true] (by kernel_rfl) ?_); simp only [↓List.toList_toArray, ↓rgd, ↓rgf, ↓reduceIte, Nat.reduceEqDiff, rg, ow_83, e0, ptr_eq, h0]
  refine hK _ _ ?_; clear hK K
  refine W_false (by simp only [evt, evc, upd_eq, Nat.reduceEqDiff, ↓reduceIte, ntT, ntF] <;> rfl) (W_skip ?_)
  show W _ _ _ _ _ _
  refine W_sq fun K hK => (W_text [true, true, true, false] (by kernel_rfl) ?_); simp only [↓List.toList_toArray, ↓rgd, ↓rgf, ↓reduceIte, Nat.reduceEqDiff, rg, ow_83, e0, ptr_eq]
  refine do_store (v := .bool true) (by simp only [evt, evc, upd_eq, Nat.reduceEqDiff, ↓reduceIte, ntT, ntF] <;> rfl) (by simp only [evt, evc, upd_eq, Nat.reduceEqDiff, ↓reduceIte, ntT, ntF] <;> rfl) sz_4 rfl hI.wok (by decide) (oc_one rfl rfl) fun a1w a1x a1r a1s => ⟨trivial, ?_⟩
  simp only [↓List.toList_toArray, ↓rgd, ↓rgf, ↓reduceIte, Nat.reduceEqDiff, rg, ow_83]
  refine hK _ _ ?_; clear hK K
  have a1I := hI.flag a1x (Row.cons.1 a1r).1 (by decide) (by decide)
  have a1Y := itF_tr Y hs (a1x.mono (G := itF HF ib sb0) fun y o _ g => .inl g.1)
  have skd : rd a1w ib 3 = some (.bool true) := (Row.cons.1 a1r).1
  have a2h := a1I.st.hd
  have a2z := sl0 sb0 so0 full0.length cap0
  refine W_sq fun K hK => (W_text [true, true, true, true, true, true, true, true, false] (by kernel_rfl) ?_); simp only [↓List.toList_toArray, ↓rgd, ↓rgf, ↓reduceIte, Nat.reduceEqDiff, rg, ow_83, e0, ptr_eq, a2h, a2z]
  refine do_store (v := .slice (some ⟨sb0, so0, none⟩) (0 : Nat) cap0) (by simp only [evt, evc, upd_eq, Nat.reduceEqDiff, ↓reduceIte, ntT, ntF] <;> rfl) (by simp only [evt, evc, upd_eq, Nat.reduceEqDiff, ↓reduceIte, ntT, ntF] <;> rfl) sz_100 rfl a1I.st.hok (by decide) (oc_one rfl rfl) fun a2w a2x a2r a2s => ⟨trivial, ?_⟩
  simp only [↓List.toList_toArray, ↓rgd, ↓rgf, ↓reduceIte, Nat.reduceEqDiff, rg, ow_83]
  refine hK _ _ ?_; clear hK K
  obtain ⟨a2g, a2f⟩ := a1I.st.cut0 a2x (Row.cons.1 a2r).1
  have a2I := a1I.stack a2f a2g
  have a2Y := itF_tr a1Y hs (a2f.mono fun y o _ g => seF_itF (HF := HF) g)
  have skd := a2x.rd skd (by simp only [rng]; omega)
  have T := hT a2w a2Y
  have ft := a2I.tr
  refine W_seq ?_
  rcases T.root with ⟨hX, hr⟩ | ⟨H, root, hr, ht2⟩
  · refine W_sq fun K hK => (W_text [true, true, true, true, true, true, true, true] (by kernel_rfl) ?_); simp only [↓List.toList_toArray, ↓rgd, ↓rgf, ↓reduceIte, Nat.reduceEqDiff, rg, ow_83, e0, ptr_eq, ft, hr]
    refine hK _ _ ?_; clear hK K
    refine W_true (by simp only [evt, evc, upd_eq, Nat.reduceEqDiff, ↓reduceIte, ntT, ntF] <;> rfl) ?_
    refine W_sq fun K hK => (W_text [true] (by kernel_rfl) ?_); simp only [↓List.toList_toArray, ↓rgd, ↓rgf, ↓reduceIte, Nat.reduceEqDiff, rg, ow_83]
    refine hK _ _ ?_; clear hK K
    refine W_ret ?_
    simp only [andThen_ret]
    rw [if_neg (by simp [hX])]
    exact endQ_1 (by simp only [upd_eq, Nat.reduceEqDiff, ↓reduceIte] <;> rfl) (MvQ.none (hT _ a2Y) ⟨_, _, _, a2I, hs, a2Y⟩)
  · refine W_sq fun K hK => (W_text [true, true, true, true, true, true, true, true] (by kernel_rfl) ?_); simp only [↓List.toList_toArray, ↓rgd, ↓rgf, ↓reduceIte, Nat.reduceEqDiff, rg, ow_83, e0, ptr_eq, ft, hr]
    refine hK _ _ ?_; clear hK K
    refine W_false (by simp only [evt, evc, upd_eq, Nat.reduceEqDiff, ↓reduceIte, ntT, ntF] <;> rfl) (W_skip ?_)
    show W _ _ _ _ _ _
    obtain ⟨H, root, hr, ht⟩ : ∃ H root, rd w1 m 2 = some (ptr root) ∧ Tr E iso (d - 1) (2 * d - 1) H w1 1 root X F := by
      rcases hM.root with ⟨h, h'⟩ | h
      · rw [a2Y.rd h' (fun g => hM.nf (hG _ _ g).1)] at hr; cases hr
      · exact h
    have hm2 : ¬ itF HF ib sb0 m 2 := fun g => hM.nf (hG _ _ g).1
    have htT : ∀ w, Ext (itF HF ib sb0) w1 w → Tr E iso (d - 1) (2 * d - 1) H w 1 root X F := fun w x => ht.ext x fun y o g k => (hG y o k).2 g
    have hXp : 0 < X.length := ht.pos (by decide)
    clear ht2
    have a3m := a2I.mtf
    have a3t := a2I.tr
    refine W_sq fun K hK => (W_draw (some none) none [(0, 0, 0), (0, 1, 0), (0, 2, 0), (0, 3, 0), (0, 4, 0), (0, 5, 0), (0, 6, 0), (0, 7, 0), (0, 8, 0), (0, 9, 0), (0, 10, 0), (0, 11, 0), (0, 12, 0), (0, 13, 0), (1, 14, 0), (0, 15, 0)] mixed (by kernel_rfl) ?_); simp only [↓List.toList_toArray, ↓rgd, ↓rgf, ↓reduceIte, Nat.reduceEqDiff, rg, ow_83, e0, ptr_eq, a3m, a3t]
    refine do_call fn_96 (vs := #[ptr m, .pointer (some ⟨m, 2, none⟩), .bool mu]) (by simp only [evt, evc, upd_eq, Nat.reduceEqDiff, ↓reduceIte, maT, maC, maN, isnN, isnS] <;> rfl) (isoLoad_any m m 2 root mu iso _ T.cfg.iso (a2Y.rd hr hm2) (htT a2w a2Y).iso0.1) ?_
    rintro _ a3w ⟨rfl, a3r⟩
    refine ⟨by first | exact trivial | exact .inr (keeps_ro a3r), ?_⟩
    simp only [↓List.toList_toArray, ↓rgd, ↓rgf, ↓reduceIte, Nat.reduceEqDiff, rg, ow_83]
    refine hK _ _ ?_; clear hK K
    have a3r := (RO.dr _ _).tr a3r
    have a3I := a2I.ext0 a3r.ext
    have a3Y := a2Y.tr a3r.ext
    have skd := a3r.ext.rd skd (fun h : noF _ _ => h)
    refine W_sqx fun J hJ => ?_
    have hend : ∀ (e : Env) (w : World) (full : List (Nat × Int)) (sb so cap : Nat), ItS ib m mu full sb so cap w → (sb = sb0 ∨ w1.heap.size ≤ sb) → Ext (itF HF ib sb0) w1 w → rd w ib 3 = some (.bool true) → Cur E iso (d - 1) (2 * d - 1) w1 H 1 root X F full (X.length - 1) → e 0 = ptr ib → J e w := by
      clear e0 e
      intro e w full sb so cap hI hs Y skd cur e0
      refine hJ _ _ ?_; clear hJ J
      have hdp := cur.depth
      obtain ⟨st, b, j, bi, oi, cp, ks, ch, x, cnt, rfl, ho1, hoF, hj, hx⟩ := cur.item ht
      rw [List.length_append, List.length_singleton] at hdp
      have hht := ht.height (by omega) (by decide)
      obtain ⟨l1, l2, l3, l4⟩ := hI.st.last
      have q1 := wsub1 (st.length + 1) (by omega) (by omega)
      rw [Nat.add_sub_cancel] at q1
      have q2 : st.length < st.length + 1 := Nat.lt_succ_self _
      have hlen : (st ++ [(b, (j : Int))]).length = st.length + 1 := by simp
      refine W_sq fun K hK => (W_draw (some none) none [(0, 0, 0), (0, 1, 0), (0, 2, 0), (0, 3, 0), (0, 4, 0), (0, 5, 0), (0, 6, 0), (0, 7, 0), (0, 8, 0), (0, 9, 0), (0, 10, 0), (0, 11, 0)] mixed (by kernel_rfl) ?_); simp only [↓List.toList_toArray, ↓rgd, ↓rgf, ↓reduceIte, Nat.reduceEqDiff, rg, ow_83, e0, ptr_eq, l1, q1, q2]
      refine hK _ _ ?_; clear hK K
      have ho := ho1.ext Y fun y o g k => (hG y o k).2 (hoF y o g)
      have hjl := (List.getElem?_eq_some_iff.1 hj).1
      have hk := it_at ho.row hj
      have hi := ho.h2
      refine W_sq fun K hK => (W_draw (some none) (some 16) [(0, 0, 0), (0, 1, 0), (0, 2, 0), (0, 3, 0), (0, 4, 0), (0, 5, 0), (0, 6, 0), (0, 7, 0), (0, 8, 0), (0, 9, 0), (0, 10, 0), (0, 11, 0), (0, 12, 0), (0, 13, 0), (0, 14, 0), (0, 15, 0), (1, 16, 0)] mixed (by kernel_rfl) ?_); simp only [↓List.toList_toArray, ↓rgd, ↓rgf, ↓reduceIte, Nat.reduceEqDiff, rg, ow_83, e0, ptr_eq, l2, l3, hi, hjl, hk]
      refine do_store (v := itV x) (by simp only [evt, evc, upd_eq, Nat.reduceEqDiff, ↓reduceIte, ntT, ntF] <;> rfl) (by simp only [evt, evc, upd_eq, Nat.reduceEqDiff, ↓reduceIte, ntT, ntF] <;> rfl) sz_33 (itV_len x) hI.wok (by decide) (itV_oc x) fun w2 x2 r2 s2 => ⟨by first | exact trivial | exact .inl trivial, ?_⟩
      simp only [↓List.toList_toArray, ↓rgd, ↓rgf, ↓reduceIte, Nat.reduceEqDiff, rg, ow_83]
      refine hK _ _ ?_; clear hK K
      have x2 := x2.od.od
      have hI2 := hI.item (x := x) x2 r2
      have Y2 := itF_tr Y hs (x2.mono (G := itF HF ib sb) fun y o _ g => .inl g.1)
      refine W_sq fun K hK => (W_text [true] (by kernel_rfl) ?_); simp only [↓List.toList_toArray, ↓rgd, ↓rgf, ↓reduceIte, Nat.reduceEqDiff, rg, ow_83]
      refine hK _ _ ?_; clear hK K
      rw [if_pos hXp]
      refine W_ret (endQ_1 (by simp only [upd_eq, Nat.reduceEqDiff, ↓reduceIte] <;> rfl) (MvQ.some hx (hT _ Y2) ⟨sb, so, cap, hI2, hs, Y2⟩ ⟨x2.rd skd (by simp only [rng]; omega), H, root, Y2.rd hr hm2, ht.ext Y2 fun y o g k => (hG y o k).2 g, cur.ext Y2 fun y o g k => (hG y o k).2 g⟩ r2))
    clear hJ
    refine W_block (W_loop (fun mm e w => ∃ (st : List (Nat × Int)) (lo b off : Nat) (xs : List It) (Fb : Nat → Nat → Prop) (sb so cap : Nat), Way E iso (d - 1) (2 * d - 1) w1 H 1 root X F st mm lo b xs Fb off ∧ off + xs.length = X.length ∧ ItS ib m mu st sb so cap w ∧ (sb = sb0 ∨ w1.heap.size ≤ sb) ∧ Ext (itF HF ib sb0) w1 w ∧ rd w ib 3 = some (.bool true) ∧ e 0 = ptr ib ∧ e 3 = ptr b)
      _ ⟨_, _, _, _, _, _, _, _, _, .root, by omega, a3I, hs, a3Y, skd, by simp only [upd_eq, Nat.reduceEqDiff, ↓reduceIte]; exact e0, by simp only [upd_eq, Nat.reduceEqDiff, ↓reduceIte]⟩ ?_)
    clear a3I a3Y skd e0 e
    rintro mm e w ⟨st, lo, b, off, xs, Fb, sb, so, cap, hw, hQ, hI, hs, Y, skd, e0, e3⟩
    obtain ⟨bi, oi, cp, ks, ch, ho1, h1, h2, hsub, hin⟩ := (hw.tr ht).open
    have hlo := hw.lo (by decide) (by omega : 1 ≤ d - 1)
    have hoF : ∀ y o, ownF E b bi oi cp y o → ¬ itF HF ib sb0 y o := fun y o g k => (hG y o k).2 (hw.sub y o (hsub y o g))
    have hoi := (ho1.ext Y hoF).h2
    refine W_block ?_
    have L0 := on1_0 ib
    have l0 := hI.st.hd
    refine W_sq fun K hK => (W_semi (some (some [ib])) (.take false 0 (.take false 1 (.take false 2 (.take false 3 (.take false 4 (.take false 5 (.take false 6 (.take false 7 (.take false 8 (.take true 9 (.take true 10 (.take false 11 (.act 12 (.bar 13 (.take false 14 (.take false 15 (.bar 16 .nil))))))))))))))))) mixed (by kernel_rfl) ?_); simp only [↓rgm, ↓List.toList_toArray, ↓rgd, ↓rgf, ↓reduceIte, Nat.reduceEqDiff, rg, ow_83, e0, e3, ptr_eq, l0, bu_st, hoi, L0, rB_on]
    refine do_bsl rfl (bs_st1 (b, ((ks.length : Nat) : Int))) fun w3 n3 => ⟨.inr (n3.keep _ (lt1 (wok_lt hI.wok))), ?_⟩
    simp only [↓List.toList_toArray, ↓rgd, ↓rgf, ↓reduceIte, Nat.reduceEqDiff, rg, ow_83, ↓rgm]
    have n3 := n3.od
    have st3 := hI.st.ext0 n3.ext
    have hstl := hw.len
    have hht := ht.height (by omega) (by decide)
    refine do_append (by simp only [evt, evc, upd_eq, Nat.reduceEqDiff, ↓reduceIte, ntT, ntF] <;> rfl) (by simp only [evt, evc, upd_eq, Nat.reduceEqDiff, ↓reduceIte, ntT, ntF] <;> rfl) el_st rfl ni_st st3.slV (u := .slice (some ⟨w.heap.size, 0, none⟩) 1 1) (m := 1) (l' := Es.cel (b, ((ks.length : Nat) : Int))) ⟨rfl, .inr ⟨_, 0, 1, rfl, Nat.le_refl _, n3.row, n3.wok.R (Nat.le_refl _)⟩⟩ (by omega) (by decide) (Es.one _) fun v4 w4 a4 => ⟨by first | exact trivial | exact .inr trivial, ?_⟩
    obtain ⟨sb5, so5, cap5, rfl, wk4, -, nx⟩ := st3.app' (ls := [(b, ((ks.length : Nat) : Int))]) rfl (by rw [flat_one]; exact a4)
    simp only [↓List.toList_toArray, ↓rgd, ↓rgf, ↓reduceIte, Nat.reduceEqDiff, rg, ow_83, ↓rgm]
    refine do_store (by simp only [evt, evc, upd_eq, Nat.reduceEqDiff, ↓reduceIte, ntT, ntF] <;> rfl) (by simp only [evt, evc, upd_eq, Nat.reduceEqDiff, ↓reduceIte, ntT, ntF] <;> rfl) sz_100 rfl wk4 (by decide) (oc_one rfl rfl) fun w5 x5 r5 s5 => ⟨by first | exact trivial | exact .inl trivial, ?_⟩
    simp only [↓List.toList_toArray, ↓rgd, ↓rgf, ↓reduceIte, Nat.reduceEqDiff, rg, ow_83, ↓rgm]
    refine hK _ _ ?_; clear hK K
    obtain ⟨g1, g2, g3⟩ := nx w5 x5 (Row.cons.1 r5).1
    have G5 := n3.ext.trans g2 (fun _ _ h => h.elim) fun _ _ _ h => h
    have hI5 := hI.stack G5 g1
    have Y5 := itF_tr Y hs (G5.mono fun y o _ g => seF_itF (HF := HF) g)
    have hs5 : sb5 = sb0 ∨ w1.heap.size ≤ sb5 := by
      rcases g3 with g3 | g3
      · rw [g3.1]; exact hs
      · have s3 := n3.size; have s1 := Y.size; exact .inr (by omega)
    have skd5 := G5.rd skd (hI.skF (by decide))
    clear nx x5 r5 s5 a4 wk4 st3 n3 g1 g2 g3 G5
    have ho5 := ho1.ext Y5 hoF
    refine W_seq ?_
    rcases hin with ⟨rfl, rfl, rfl, -⟩ | ⟨h', bc, ba, oa, capc, cs, rfl, rfl, n⟩
    · refine W_sq fun K hK => (W_text [true, false] (by kernel_rfl) ?_); simp only [↓List.toList_toArray, ↓rgd, ↓rgf, ↓reduceIte, Nat.reduceEqDiff, rg, ow_83, e3]
      refine do_call fn_108 (by simp only [evt, evc, upd_eq, Nat.reduceEqDiff, ↓reduceIte, maT, maC, maN, isnN, isnS] <;> rfl) (leaf_any b (none) w5 ho5.h3) ?_
      rintro _ w6 ⟨rfl, hw6⟩
      obtain rfl : w5 = w6 := hw6.symm
      refine ⟨trivial, ?_⟩
      simp only [↓List.toList_toArray, ↓rgd, ↓rgf, ↓reduceIte, Nat.reduceEqDiff, rg, ow_83]
      refine hK _ _ ?_; clear hK K
      refine W_true (by simp only [evt, evc, upd_eq, Nat.reduceEqDiff, ↓reduceIte, ntT, ntF] <;> rfl) ?_
      obtain ⟨l1, l2, l3, l4⟩ := hI5.st.last
      have q1 := wsub1 (st.length + 1) (by omega) (by omega)
      rw [Nat.add_sub_cancel] at q1
      have q2 : st.length < st.length + 1 := Nat.lt_succ_self _
      have q3 := wsub1 xs.length (by omega) (by omega)
      refine W_sq fun K hK => (W_draw (some none) (some 16) [(0, 0, 0), (0, 1, 0), (0, 2, 0), (0, 3, 0), (0, 4, 0), (0, 5, 0), (0, 6, 0), (0, 7, 0), (0, 8, 0), (0, 9, 0), (0, 10, 0), (0, 11, 0), (0, 12, 0), (0, 13, 0), (0, 14, 0), (0, 15, 0), (1, 16, 0)] mixed (by kernel_rfl) ?_); simp only [↓List.toList_toArray, ↓rgd, ↓rgf, ↓reduceIte, Nat.reduceEqDiff, rg, ow_83, e0, ptr_eq, l1, q1, q2, l3, q3]
      refine do_store (v := .int .i64 ((xs.length - 1 : Nat) : Int)) (by simp only [evt, evc, upd_eq, Nat.reduceEqDiff, ↓reduceIte, ntT, ntF] <;> rfl) (by simp only [evt, evc, upd_eq, Nat.reduceEqDiff, ↓reduceIte, ntT, ntF] <;> rfl) sz_3 rfl hI5.st.wi (by rw [Es_sz]; omega) (oc_one rfl rfl) fun w6 x6 r6 s6 => ⟨by first | exact trivial | exact .inl trivial, ?_⟩
      simp only [↓List.toList_toArray, ↓rgd, ↓rgf, ↓reduceIte, Nat.reduceEqDiff, rg, ow_83]
      refine hK _ _ ?_; clear hK K
      have x6 : Ext (rng sb5 (so5 + st.length * 2 + 1) 1) w5 w6 := by first | exact x6 | exact x6.od | exact x6.od.od | exact x6.od.od.od
      obtain ⟨g1, g2⟩ := hI5.st.seti x6 (Row.cons.1 r6).1
      have hI6 := hI5.stack g2 g1
      have Y6 := itF_tr Y5 hs5 (g2.mono fun y o _ g => seF_itF (HF := HF) g)
      have skd6 := g2.rd skd5 (hI5.skF (by decide))
      refine W_exit ?_
      simp only [andThen_exit, inBlk_exit, andThen_normal, Nat.reduceEqDiff, ↓reduceIte]
      exact hend _ _ _ _ _ _ hI6 hs5 Y6 skd6 ⟨st, b, 0, lo, off, xs, Fb, xs.length - 1, rfl, hw, .inl ⟨rfl, by omega, by omega⟩⟩ (by simp only [upd_eq, Nat.reduceEqDiff, ↓reduceIte]; exact e0)
    · refine W_sq fun K hK => (W_text [true, false] (by kernel_rfl) ?_); simp only [↓List.toList_toArray, ↓rgd, ↓rgf, ↓reduceIte, Nat.reduceEqDiff, rg, ow_83, e3]
      refine do_call fn_108 (by simp only [evt, evc, upd_eq, Nat.reduceEqDiff, ↓reduceIte, maT, maC, maN, isnN, isnS] <;> rfl) (leaf_any b (some ⟨bc, 0, none⟩) w5 ho5.h3) ?_
      rintro _ w6 ⟨rfl, hw6⟩
      obtain rfl : w5 = w6 := hw6.symm
      refine ⟨trivial, ?_⟩
      simp only [↓List.toList_toArray, ↓rgd, ↓rgf, ↓reduceIte, Nat.reduceEqDiff, rg, ow_83]
      refine hK _ _ ?_; clear hK K
      refine W_false (by simp only [evt, evc, upd_eq, Nat.reduceEqDiff, ↓reduceIte, ntT, ntF] <;> rfl) (W_skip ?_)
      show W _ _ _ _ _ _
      obtain ⟨c, hc⟩ := n.kid (i := ks.length) (Nat.le_refl _)
      have hcm := List.mem_of_getElem? hc
      have hcl := (List.getElem?_eq_some_iff.1 hc).1
      have k5 := n.kids.ext Y5 fun y o g k => (hG y o k).2 (hw.sub y o ((n.fp y o).2 (.inr (.inl g))))
      have t5 := (n.sub c hcm).ext Y5 fun y o g k => (hG y o k).2 (hw.sub y o ((n.fp y o).2 (.inr (.inr ⟨c, hcm, g⟩))))
      have hc0 := k5.c0
      rw [List.length_map] at hc0
      have hcr : rd w5 ba (oa + ks.length) = some (ptr c.b) := ptr_at k5.row (by rw [List.getElem?_map, hc]; rfl)
      have hxl : xs.length = (fr (cs.map Kid.xs) ks ks.length).length + c.xs.length := by
        have := congrArg List.length n.eq
        rw [fr_all (by simpa using n.len) (Kid.at hc), List.length_append] at this
        exact this
      have f1 := hI5.tr
      have f2 := hI5.mtf
      have f3 := ho5.h3
      have f4 := ho5.h2
      refine W_rg fun K hK => (W_draw (some none) none [(0, 0, 0), (0, 1, 0), (0, 2, 0), (0, 3, 0), (0, 4, 0), (0, 5, 0), (0, 6, 0), (0, 7, 0), (0, 8, 0), (0, 9, 0), (0, 10, 0), (0, 11, 0), (0, 12, 0), (0, 13, 0), (0, 14, 0), (0, 15, 0), (0, 16, 0), (0, 17, 0), (0, 18, 0), (0, 19, 0), (1, 20, 0), (0, 21, 0)] mixed (by kernel_rfl) ?_); simp only [↓List.toList_toArray, ↓rgd, ↓rgf, ↓reduceIte, Nat.reduceEqDiff, rg, ow_83, e0, e3, ptr_eq, f1, f2, f3, f4, hc0, hcl]
      refine do_call fn_96 (vs := #[ptr m, .pointer (some ⟨ba, oa + ks.length, none⟩), .bool mu]) (by simp only [evt, evc, upd_eq, Nat.reduceEqDiff, ↓reduceIte, maT, maC, maN, isnN, isnS] <;> rfl) (isoLoad_any m ba (oa + ks.length) c.b mu iso _ (hT _ Y5).cfg.iso hcr t5.iso0.1) ?_
      rintro _ w6 ⟨rfl, r6⟩
      refine ⟨by first | exact trivial | exact .inr (keeps_ro r6), ?_⟩
      simp only [↓List.toList_toArray, ↓rgd, ↓rgf, ↓reduceIte, Nat.reduceEqDiff, rg, ow_83]
      refine hK _ _ ?_; clear hK K
      have r6 := (RO.dr _ _).tr r6
      exact ⟨h', by omega, st ++ [(b, ((ks.length : Nat) : Int))], d - 1, c.b, _, c.xs, c.F, sb5, so5, cap5, hw.down ho1 n hc, by omega, hI5.ext0 r6.ext, hs5, Y5.tr r6.ext, r6.ext.rd skd5 (fun h : noF _ _ => h), by simp only [upd_eq, Nat.reduceEqDiff, ↓reduceIte]; exact e0, by simp only [upd_eq, Nat.reduceEqDiff, ↓reduceIte]⟩
end Go.Proofs.Ytbnnkcofnmipoaa
/-
  An iterator goes on. No condition.
-/
set_option linter.unusedSimpArgs false
set_option linter.unusedVariables false
namespace Go.Proofs.Ytbnnkcofnmipoaa
open Go Go.Proofs
set_option maxHeartbeats 4000000 in
set_option maxRecDepth 8000 in
theorem nextC_any (B m d : Nat) (ord : List Int) (hd : 2 ≤ d) (hd' : d ≤ 128) (iso : Int) (X : List It) (F HF : Nat → Nat → Prop) (mu : Bool) (ib sb0 so0 cap0 : Nat) (full0 : List (Nat × Int)) (w1 : World) (hM : TreeAt B ord w1 m d iso X F) (hG : ∀ y o, itF HF ib sb0 y o → Far B m y ∧ ¬ F y o) (hI : ItS ib m mu full0 sb0 so0 cap0 w1) (hbig : X.length ≤ 2147483648) (hsk : rd w1 ib 3 = some (.bool true)) (H root : Nat) (hr : rd w1 m 2 = some (ptr root)) (ht : Tr E iso (d - 1) (2 * d - 1) H w1 1 root X F) (q : Nat) (hpos : NxAt E iso (d - 1) (2 * d - 1) w1 H 1 root X F full0 q) :
    CallK Try.prog 84 #[ptr ib] w1 fun v w' => MvQ B ord m d iso X F HF mu ib sb0 w1 (if q < X.length then some q else none) v w' := by
  have hT : ∀ w, Ext (itF HF ib sb0) w1 w → TreeAt B ord w m d iso X F := fun w x => hM.extF x hG
  have Y := Ext.refl (itF HF ib sb0) w1
  have hs : sb0 = sb0 ∨ w1.heap.size ≤ sb0 := .inl rfl
  have hm2 : ¬ itF HF ib sb0 m 2 := fun g => hM.nf (hG _ _ g).1
  have htT : ∀ w, Ext (itF HF ib sb0) w1 w → Tr E iso (d - 1) (2 * d - 1) H w 1 root X F := fun w x => ht.ext x fun y o g k => (hG y o k).2 g
  have hht := ht.height (by omega) (by decide)
  have hdp := hpos.depth
  obtain ⟨st, b, h, lo, off, xs, Fb, j, rfl, hw, hcase⟩ := hpos
  rw [List.length_append, List.length_singleton] at hdp
  have h0 := hI.tr
  obtain ⟨l1, l2, l3, l4⟩ := hI.st.last
  have q1 := wsub1 (st.length + 1) (by omega) (by omega)
  rw [Nat.add_sub_cancel] at q1
  have q2 : st.length < st.length + 1 := Nat.lt_succ_self _
  have z5 : (((st.length + 1 : Nat) : Int) == 0) = false := by rw [beq_eq_false_iff_ne]; omega
  obtain ⟨bi, oi, cp, ks, ch, ho1, h1, h2, hsub, hin⟩ := (hw.tr ht).open
  have hoF : ∀ y o, ownF E b bi oi cp y o → ¬ itF HF ib sb0 y o := fun y o g k => (hG y o k).2 (hw.sub y o (hsub y o g))
  have hjb : j ≤ 256 := by
    rcases hcase with ⟨rfl, hj, _⟩ | ⟨h', bi', oi', cap', ks', bc, ba, oa, capc, cs, c, rfl, ho', n', hcs, _⟩
    · rcases hin with ⟨_, _, rfl, _⟩ | ⟨_, _, _, _, _, _, h0', _⟩
      · omega
      · cases h0'
    · have := n'.le hcs
      have e1 := ho'.h2
      have e2 := ho1.h2
      rw [e1] at e2
      simp only [Option.some.injEq, Value.slice.injEq, Addr.mk.injEq, and_true] at e2
      omega
  have q3 : IntKind.i64.wrap ((j : Int) - 1 + 1) = (j : Int) := by rw [IntWalk.i64_in _ (by omega)]; omega
  refine calls_of_W [.tmp 2] Try.func84 rfl Try.ntmps84 Try.results84 (by simp) fun e he => ?_
  have e0 : e 0 = ptr ib := he 0 _ rfl
  clear he
  refine W_sq fun K hK => (W_text [true] (by kernel_rfl) ?_); simp only [↓List.toList_toArray, ↓rgd, ↓rgf, ↓reduceIte, Nat.reduceEqDiff, rg, ow_84]
  refine hK _ _ ?_; clear hK K
  refine W_seq ?_
  refine W_sq fun K hK => (W_text [true, true, true, true, true] (by kernel_rfl) ?_); simp only [↓List.toList_toArray, ↓rgd, ↓rgf, ↓reduceIte, Nat.reduceEqDiff, rg, ow_84, e0, ptr_eq, h0]
  refine hK _ _ ?_; clear hK K
  refine W_false (by simp only [evt, evc, upd_eq, Nat.reduceEqDiff, ↓reduceIte, ntT, ntF] <;> rfl) (W_skip ?_)
  show W _ _ _ _ _ _
  refine W_seq ?_
  refine W_sq fun K hK => (W_text [true, true, true, true, true] (by kernel_rfl) ?_); simp only [↓List.toList_toArray, ↓rgd, ↓rgf, ↓reduceIte, Nat.reduceEqDiff, rg, ow_84, e0, ptr_eq, hsk]
  refine hK _ _ ?_; clear hK K
  refine W_false (by simp only [evt, evc, upd_eq, Nat.reduceEqDiff, ↓reduceIte, ntT, ntF] <;> rfl) (W_skip ?_)
  show W _ _ _ _ _ _
  refine W_seq ?_
  refine W_sq fun K hK => (W_text [true, true, true, true, true, true] (by kernel_rfl) ?_); simp only [↓List.toList_toArray, ↓rgd, ↓rgf, ↓reduceIte, Nat.reduceEqDiff, rg, ow_84, e0, ptr_eq, l1, z5]
  refine hK _ _ ?_; clear hK K
  refine W_false (by simp only [evt, evc, upd_eq, Nat.reduceEqDiff, ↓reduceIte, ntT, ntF] <;> rfl) (W_skip ?_)
  show W _ _ _ _ _ _
  refine W_sq fun K hK => (W_draw (some none) none [(0, 0, 0), (0, 1, 0), (0, 2, 0), (0, 3, 0), (0, 4, 0), (0, 5, 0), (0, 6, 0), (0, 7, 0), (0, 8, 0), (0, 9, 0), (0, 10, 0), (0, 11, 0)] mixed (by kernel_rfl) ?_); simp only [↓List.toList_toArray, ↓rgd, ↓rgf, ↓reduceIte, Nat.reduceEqDiff, rg, ow_84, e0, ptr_eq, l1, q1, q2]
  refine hK _ _ ?_; clear hK K
  refine W_sq fun K hK => (W_text [true, true, true, true, true, true, true, false] (by kernel_rfl) ?_); simp only [↓List.toList_toArray, ↓rgd, ↓rgf, ↓reduceIte, Nat.reduceEqDiff, rg, ow_84, e0, ptr_eq, l3, q3]
  refine do_store (v := .int .i64 (j : Int)) (by simp only [evt, evc, upd_eq, Nat.reduceEqDiff, ↓reduceIte, ntT, ntF] <;> rfl) (by simp only [evt, evc, upd_eq, Nat.reduceEqDiff, ↓reduceIte, ntT, ntF] <;> rfl) sz_3 rfl hI.st.wi (by rw [Es_sz]; omega) (oc_one rfl rfl) fun w2 x2 r2 s2 => ⟨trivial, ?_⟩
  simp only [↓List.toList_toArray, ↓rgd, ↓rgf, ↓reduceIte, Nat.reduceEqDiff, rg, ow_84]
  refine hK _ _ ?_; clear hK K
  have x2 : Ext (rng sb0 (so0 + st.length * 2 + 1) 1) w1 w2 := by first | exact x2 | exact x2.od | exact x2.od.od | exact x2.od.od.od
  obtain ⟨g1, g2⟩ := hI.st.seti x2 (Row.cons.1 r2).1
  have hI2 := hI.stack g2 g1
  have Y2 := itF_tr Y hs (g2.mono fun y o _ g => seF_itF (HF := HF) g)
  have skd := g2.rd hsk (hI.skF (by decide))
  clear g1 g2 x2 r2 l1 l2 l3
  obtain ⟨l1, l2, l3, -⟩ := hI2.st.last
  have ho2 := ho1.ext Y2 hoF
  refine W_sqx fun J hJ => ?_
  have hend : ∀ (e : Env) (w : World) (full : List (Nat × Int)) (sb so cap : Nat), ItS ib m mu full sb so cap w → (sb = sb0 ∨ w1.heap.size ≤ sb) → Ext (itF HF ib sb0) w1 w → rd w ib 3 = some (.bool true) → Cur E iso (d - 1) (2 * d - 1) w1 H 1 root X F full (q) → e 0 = ptr ib → J e w := by
    clear e0 e
    intro e w full sb so cap hI hs Y skd cur e0
    refine hJ _ _ ?_; clear hJ J
    have hdp := cur.depth
    obtain ⟨st, b, j, bi, oi, cp, ks, ch, x, cnt, rfl, ho1, hoF, hj, hx⟩ := cur.item ht
    rw [List.length_append, List.length_singleton] at hdp
    have hht := ht.height (by omega) (by decide)
    obtain ⟨l1, l2, l3, l4⟩ := hI.st.last
    have q1 := wsub1 (st.length + 1) (by omega) (by omega)
    rw [Nat.add_sub_cancel] at q1
    have q2 : st.length < st.length + 1 := Nat.lt_succ_self _
    have hlen : (st ++ [(b, (j : Int))]).length = st.length + 1 := by simp
    refine W_sq fun K hK => (W_draw (some none) none [(0, 0, 0), (0, 1, 0), (0, 2, 0), (0, 3, 0), (0, 4, 0), (0, 5, 0), (0, 6, 0), (0, 7, 0), (0, 8, 0), (0, 9, 0), (0, 10, 0), (0, 11, 0)] mixed (by kernel_rfl) ?_); simp only [↓List.toList_toArray, ↓rgd, ↓rgf, ↓reduceIte, Nat.reduceEqDiff, rg, ow_84, e0, ptr_eq, l1, q1, q2]
    refine hK _ _ ?_; clear hK K
    have ho := ho1.ext Y fun y o g k => (hG y o k).2 (hoF y o g)
    have hjl := (List.getElem?_eq_some_iff.1 hj).1
    have hk := it_at ho.row hj
    have hi := ho.h2
    refine W_sq fun K hK => (W_draw (some none) (some 16) [(0, 0, 0), (0, 1, 0), (0, 2, 0), (0, 3, 0), (0, 4, 0), (0, 5, 0), (0, 6, 0), (0, 7, 0), (0, 8, 0), (0, 9, 0), (0, 10, 0), (0, 11, 0), (0, 12, 0), (0, 13, 0), (0, 14, 0), (0, 15, 0), (1, 16, 0)] mixed (by kernel_rfl) ?_); simp only [↓List.toList_toArray, ↓rgd, ↓rgf, ↓reduceIte, Nat.reduceEqDiff, rg, ow_84, e0, ptr_eq, l2, l3, hi, hjl, hk]
    refine do_store (v := itV x) (by simp only [evt, evc, upd_eq, Nat.reduceEqDiff, ↓reduceIte, ntT, ntF] <;> rfl) (by simp only [evt, evc, upd_eq, Nat.reduceEqDiff, ↓reduceIte, ntT, ntF] <;> rfl) sz_33 (itV_len x) hI.wok (by decide) (itV_oc x) fun w2 x2 r2 s2 => ⟨by first | exact trivial | exact .inl trivial, ?_⟩
    simp only [↓List.toList_toArray, ↓rgd, ↓rgf, ↓reduceIte, Nat.reduceEqDiff, rg, ow_84]
    refine hK _ _ ?_; clear hK K
    have x2 := x2.od.od
    have hI2 := hI.item (x := x) x2 r2
    have Y2 := itF_tr Y hs (x2.mono (G := itF HF ib sb) fun y o _ g => .inl g.1)
    refine W_sq fun K hK => (W_text [true] (by kernel_rfl) ?_); simp only [↓List.toList_toArray, ↓rgd, ↓rgf, ↓reduceIte, Nat.reduceEqDiff, rg, ow_84]
    refine hK _ _ ?_; clear hK K
    rw [if_pos (List.getElem?_eq_some_iff.1 hx).1]
    refine W_ret (endQ_1 (by simp only [upd_eq, Nat.reduceEqDiff, ↓reduceIte] <;> rfl) (MvQ.some hx (hT _ Y2) ⟨sb, so, cap, hI2, hs, Y2⟩ ⟨x2.rd skd (by simp only [rng]; omega), H, root, Y2.rd hr hm2, ht.ext Y2 fun y o g k => (hG y o k).2 g, cur.ext Y2 fun y o g k => (hG y o k).2 g⟩ r2))
  clear hJ
  rcases hcase with ⟨rfl, hj, hq⟩ | ⟨h', bi', oi', cap', ks', bc, ba, oa, capc, cs, c, rfl, ho', n, hc, hq⟩
  · obtain ⟨rfl, rfl⟩ : ch = .pointer none ∧ xs = ks := by
      rcases hin with ⟨_, g1, g2, _⟩ | ⟨_, _, _, _, _, _, h0', _⟩
      · exact ⟨g1, g2⟩
      · cases h0'
    refine W_sq fun K hK => (W_text [true, true, true, true, false] (by kernel_rfl) ?_); simp only [↓List.toList_toArray, ↓rgd, ↓rgf, ↓reduceIte, Nat.reduceEqDiff, rg, ow_84, ptr_eq, l2]
    refine do_call fn_108 (vs := #[ptr b]) (by simp only [evt, evc, upd_eq, Nat.reduceEqDiff, ↓reduceIte, maT, maC, maN, isnN, isnS] <;> rfl) (leaf_any b none w2 ho2.h3) ?_
    rintro _ w6 ⟨rfl, hw6⟩
    obtain rfl : w2 = w6 := hw6.symm
    refine ⟨trivial, ?_⟩
    simp only [↓List.toList_toArray, ↓rgd, ↓rgf, ↓reduceIte, Nat.reduceEqDiff, rg, ow_84]
    refine hK _ _ ?_; clear hK K
    refine W_true (by simp only [evt, evc, upd_eq, Nat.reduceEqDiff, ↓reduceIte, ntT, ntF] <;> rfl) ?_
    have hoi := ho2.h2
    by_cases hjl : j = xs.length
    · have z12 : ((j : Int) == (xs.length : Int)) = true := by rw [beq_iff_eq]; omega
      refine W_sq fun K hK => (W_draw (some none) none [(0, 0, 0), (0, 1, 0), (0, 2, 0), (0, 3, 0), (0, 4, 0), (0, 5, 0), (0, 6, 0), (0, 7, 0), (0, 8, 0), (0, 9, 0), (0, 10, 0), (0, 11, 0), (0, 12, 0)] mixed (by kernel_rfl) ?_); simp only [↓List.toList_toArray, ↓rgd, ↓rgf, ↓reduceIte, Nat.reduceEqDiff, rg, ow_84, ptr_eq, l2, l3, hoi, z12]
      refine hK _ _ ?_; clear hK K
      refine W_true (by simp only [evt, evc, upd_eq, Nat.reduceEqDiff, ↓reduceIte, ntT, ntF] <;> rfl) ?_
      refine W_block (W_loop (fun mm e w => ∃ (st : List (Nat × Int)) (h lo b off : Nat) (i : Int) (xs : List It) (Fb : Nat → Nat → Prop) (sb so cap : Nat), mm = st.length ∧ Way E iso (d - 1) (2 * d - 1) w1 H 1 root X F st h lo b xs Fb off ∧ off + xs.length = q ∧ ItS ib m mu (st ++ [(b, i)]) sb so cap w ∧ (sb = sb0 ∨ w1.heap.size ≤ sb) ∧ Ext (itF HF ib sb0) w1 w ∧ rd w ib 3 = some (.bool true) ∧ e 0 = ptr ib)
        _ ⟨st, _, _, _, _, _, _, _, _, _, _, rfl, hw, by omega, (by first | exact hI2 | exact hI2.ext0 (Ext.dr _ _ _) | exact (hI2.ext0 (Ext.dr _ _ _)).ext0 (Ext.dr _ _ _)), hs, (by first | exact Y2 | exact Y2.tr (Ext.dr _ _ _) | exact (Y2.tr (Ext.dr _ _ _)).tr (Ext.dr _ _ _)), skd, by simp only [upd_eq, Nat.reduceEqDiff, ↓reduceIte]; exact e0⟩ ?_)
      clear hI2 Y2 skd e0 e
      rintro mm e w ⟨st, h, lo, b, off, i, xs, Fb, sb, so, cap, rfl, hw, hq, hI, hs, Y, skd, e0⟩
      have hwl := hw.len
      refine W_block ?_
      obtain ⟨l1, -, -, l4⟩ := hI.st.last
      have q1 := wsub1 (st.length + 1) (by omega) (by omega)
      rw [Nat.add_sub_cancel] at q1
      have z13 := slcX_hi 2 sb so (st.length + 1) cap st.length .i64 (by omega)
      refine W_sq fun K hK => (W_draw (some none) (some 14) [(0, 0, 0), (0, 1, 0), (0, 2, 0), (0, 3, 0), (0, 4, 0), (0, 5, 0), (0, 6, 0), (0, 7, 0), (0, 8, 0), (0, 9, 0), (0, 10, 0), (0, 11, 0), (0, 12, 0), (0, 13, 0), (1, 14, 0)] mixed (by kernel_rfl) ?_); simp only [↓List.toList_toArray, ↓rgd, ↓rgf, ↓reduceIte, Nat.reduceEqDiff, rg, ow_84, e0, ptr_eq, l1, q1, z13]
      refine do_store (v := .slice (some ⟨sb, so, none⟩) st.length cap) (by simp only [evt, evc, upd_eq, Nat.reduceEqDiff, ↓reduceIte, ntT, ntF] <;> rfl) (by simp only [evt, evc, upd_eq, Nat.reduceEqDiff, ↓reduceIte, ntT, ntF] <;> rfl) sz_100 rfl hI.st.hok (by decide) (oc_one rfl rfl) fun w3 x3 r3 s3 => ⟨by first | exact trivial | exact .inl trivial, ?_⟩
      simp only [↓List.toList_toArray, ↓rgd, ↓rgf, ↓reduceIte, Nat.reduceEqDiff, rg, ow_84]
      refine hK _ _ ?_; clear hK K
      have x3 : Ext (rng ib 14 1) w w3 := by first | exact x3 | exact x3.od | exact x3.od.od | exact x3.od.od.od
      obtain ⟨g1, g2⟩ := hI.st.pop (by simp) (Ext.refl _ _) x3 (by simpa using (Row.cons.1 r3).1)
      rw [List.dropLast_concat] at g1
      have hI3 := hI.stack g2 g1
      have Y3 := itF_tr Y hs (g2.mono fun y o _ g => seF_itF (HF := HF) g)
      have skd3 := g2.rd skd (hI.skF (by decide))
      have hd3 := g1.hd
      clear g1 g2 x3 r3 l1
      refine W_seq ?_
      rcases hw.next with ⟨rfl, hX⟩ | ⟨st', lo', b', off', bi, oi, cp, bc, ks, i', xs', Fb', rfl, hw', ho', hoF', hcur⟩
      · have z14 : (((([] : List (Nat × Int)).length : Nat) : Int) == 0) = true := rfl
        refine W_sq fun K hK => (W_text [true, true, true, true, true, true] (by kernel_rfl) ?_); simp only [↓List.toList_toArray, ↓rgd, ↓rgf, ↓reduceIte, Nat.reduceEqDiff, rg, ow_84, e0, ptr_eq, hd3, z14]
        refine hK _ _ ?_; clear hK K
        refine W_true (by simp only [evt, evc, upd_eq, Nat.reduceEqDiff, ↓reduceIte, ntT, ntF] <;> rfl) ?_
        refine W_sq fun K hK => (W_text [true, true, true, false] (by kernel_rfl) ?_); simp only [↓List.toList_toArray, ↓rgd, ↓rgf, ↓reduceIte, Nat.reduceEqDiff, rg, ow_84, e0, ptr_eq]
        refine do_store (v := .bool true) (by simp only [evt, evc, upd_eq, Nat.reduceEqDiff, ↓reduceIte, ntT, ntF] <;> rfl) (by simp only [evt, evc, upd_eq, Nat.reduceEqDiff, ↓reduceIte, ntT, ntF] <;> rfl) sz_4 rfl hI3.wok (by decide) (oc_one rfl rfl) fun w4 x4 r4 s4 => ⟨trivial, ?_⟩
        simp only [↓List.toList_toArray, ↓rgd, ↓rgf, ↓reduceIte, Nat.reduceEqDiff, rg, ow_84]
        refine hK _ _ ?_; clear hK K
        have hI4 := hI3.flag x4 (Row.cons.1 r4).1 (by decide) (by decide)
        have Y4 := itF_tr Y3 hs (x4.mono (G := itF HF ib sb) fun y o _ g => .inl g.1)
        refine W_sq fun K hK => (W_text [true] (by kernel_rfl) ?_); simp only [↓List.toList_toArray, ↓rgd, ↓rgf, ↓reduceIte, Nat.reduceEqDiff, rg, ow_84]
        refine hK _ _ ?_; clear hK K
        refine W_ret ?_
        simp only [andThen_ret, inBlk_ret]
        rw [if_neg (by omega)]
        exact endQ_1 (by simp only [upd_eq, Nat.reduceEqDiff, ↓reduceIte] <;> rfl) (MvQ.none (hT _ Y4) ⟨_, _, _, hI4, hs, Y4⟩)
      · have z14 : ((((st' ++ [(b', (i' : Int))]).length : Nat) : Int) == 0) = false := by rw [beq_eq_false_iff_ne, List.length_append, List.length_singleton]; omega
        refine W_sq fun K hK => (W_text [true, true, true, true, true, true] (by kernel_rfl) ?_); simp only [↓List.toList_toArray, ↓rgd, ↓rgf, ↓reduceIte, Nat.reduceEqDiff, rg, ow_84, e0, ptr_eq, hd3, z14]
        refine hK _ _ ?_; clear hK K
        refine W_false (by simp only [evt, evc, upd_eq, Nat.reduceEqDiff, ↓reduceIte, ntT, ntF] <;> rfl) (W_skip ?_)
        show W _ _ _ _ _ _
        obtain ⟨l1, l2, l3, l4⟩ := hI3.st.last
        have hwl' := hw'.len
        have q1 := wsub1 (st'.length + 1) (by omega) (by omega)
        rw [Nat.add_sub_cancel] at q1
        have q2 : st'.length < st'.length + 1 := Nat.lt_succ_self _
        refine W_sq fun K hK => (W_draw (some none) none [(0, 0, 0), (0, 1, 0), (0, 2, 0), (0, 3, 0), (0, 4, 0), (0, 5, 0), (0, 6, 0), (0, 7, 0), (0, 8, 0), (0, 9, 0), (0, 10, 0), (0, 11, 0)] mixed (by kernel_rfl) ?_); simp only [↓List.toList_toArray, ↓rgd, ↓rgf, ↓reduceIte, Nat.reduceEqDiff, rg, ow_84, e0, ptr_eq, l1, q1, q2]
        refine hK _ _ ?_; clear hK K
        have ho3 := (ho'.ext Y3 fun y o g k => (hG y o k).2 (hw'.sub y o (hoF' y o g))).h2
        rcases hcur with ⟨hi, cur⟩ | ⟨hi, hoff⟩
        · have z18 := lt_tt i' ks.length hi
          refine W_sq fun K hK => (W_draw (some none) none [(0, 0, 0), (0, 1, 0), (0, 2, 0), (0, 3, 0), (0, 4, 0), (0, 5, 0), (0, 6, 0), (0, 7, 0), (0, 8, 0), (0, 9, 0), (0, 10, 0), (0, 11, 0), (0, 12, 0)] mixed (by kernel_rfl) ?_); simp only [↓List.toList_toArray, ↓rgd, ↓rgf, ↓reduceIte, Nat.reduceEqDiff, rg, ow_84, ptr_eq, l2, l3, ho3, z18]
          refine hK _ _ ?_; clear hK K
          refine W_true (by simp only [evt, evc, upd_eq, Nat.reduceEqDiff, ↓reduceIte, ntT, ntF] <;> rfl) (W_exit ?_)
          simp only [andThen_exit, inBlk_exit, andThen_normal, Nat.reduceEqDiff, ↓reduceIte]
          exact hend _ _ _ _ _ _ (by first | exact hI3 | exact hI3.ext0 (Ext.dr _ _ _) | exact (hI3.ext0 (Ext.dr _ _ _)).ext0 (Ext.dr _ _ _)) hs (by first | exact Y3 | exact Y3.tr (Ext.dr _ _ _) | exact (Y3.tr (Ext.dr _ _ _)).tr (Ext.dr _ _ _)) skd3 (by rw [← hq]; exact cur) (by simp only [upd_eq, Nat.reduceEqDiff, ↓reduceIte]; exact e0)
        · have z18 := lt_ff i' ks.length (by omega)
          refine W_sq fun K hK => (W_draw (some none) none [(0, 0, 0), (0, 1, 0), (0, 2, 0), (0, 3, 0), (0, 4, 0), (0, 5, 0), (0, 6, 0), (0, 7, 0), (0, 8, 0), (0, 9, 0), (0, 10, 0), (0, 11, 0), (0, 12, 0)] mixed (by kernel_rfl) ?_); simp only [↓List.toList_toArray, ↓rgd, ↓rgf, ↓reduceIte, Nat.reduceEqDiff, rg, ow_84, ptr_eq, l2, l3, ho3, z18]
          refine hK _ _ ?_; clear hK K
          refine W_false (by simp only [evt, evc, upd_eq, Nat.reduceEqDiff, ↓reduceIte, ntT, ntF] <;> rfl) (W_skip ?_)
          exact ⟨st'.length, by simp, st', _, lo', b', off', _, xs', Fb', _, _, _, rfl, hw', by omega, (by first | exact hI3 | exact hI3.ext0 (Ext.dr _ _ _) | exact (hI3.ext0 (Ext.dr _ _ _)).ext0 (Ext.dr _ _ _)), hs, (by first | exact Y3 | exact Y3.tr (Ext.dr _ _ _) | exact (Y3.tr (Ext.dr _ _ _)).tr (Ext.dr _ _ _)), skd3, by simp only [upd_eq, Nat.reduceEqDiff, ↓reduceIte]; exact e0⟩
    · have z12 : ((j : Int) == (xs.length : Int)) = false := by rw [beq_eq_false_iff_ne]; omega
      refine W_sq fun K hK => (W_draw (some none) none [(0, 0, 0), (0, 1, 0), (0, 2, 0), (0, 3, 0), (0, 4, 0), (0, 5, 0), (0, 6, 0), (0, 7, 0), (0, 8, 0), (0, 9, 0), (0, 10, 0), (0, 11, 0), (0, 12, 0)] mixed (by kernel_rfl) ?_); simp only [↓List.toList_toArray, ↓rgd, ↓rgf, ↓reduceIte, Nat.reduceEqDiff, rg, ow_84, ptr_eq, l2, l3, hoi, z12]
      refine hK _ _ ?_; clear hK K
      refine W_false (by simp only [evt, evc, upd_eq, Nat.reduceEqDiff, ↓reduceIte, ntT, ntF] <;> rfl) (W_skip ?_)
      exact hend _ _ _ _ _ _ (by first | exact hI2 | exact hI2.ext0 (Ext.dr _ _ _) | exact (hI2.ext0 (Ext.dr _ _ _)).ext0 (Ext.dr _ _ _)) hs (by first | exact Y2 | exact Y2.tr (Ext.dr _ _ _) | exact (Y2.tr (Ext.dr _ _ _)).tr (Ext.dr _ _ _)) skd ⟨st, b, 0, lo, off, xs, Fb, j, rfl, hw, .inl ⟨rfl, by omega, hq⟩⟩ (by simp only [upd_eq, Nat.reduceEqDiff, ↓reduceIte]; exact e0)
  · have ho3 := ho'.ext Y2 fun y o g k => (hG y o k).2 (hw.sub y o ((n.fp y o).2 (.inl g)))
    refine W_sq fun K hK => (W_text [true, true, true, true, false] (by kernel_rfl) ?_); simp only [↓List.toList_toArray, ↓rgd, ↓rgf, ↓reduceIte, Nat.reduceEqDiff, rg, ow_84, ptr_eq, l2]
    refine do_call fn_108 (vs := #[ptr b]) (by simp only [evt, evc, upd_eq, Nat.reduceEqDiff, ↓reduceIte, maT, maC, maN, isnN, isnS] <;> rfl) (leaf_any b (some ⟨bc, 0, none⟩) w2 ho3.h3) ?_
    rintro _ w6 ⟨rfl, hw6⟩
    obtain rfl : w2 = w6 := hw6.symm
    refine ⟨trivial, ?_⟩
    simp only [↓List.toList_toArray, ↓rgd, ↓rgf, ↓reduceIte, Nat.reduceEqDiff, rg, ow_84]
    refine hK _ _ ?_; clear hK K
    refine W_false (by simp only [evt, evc, upd_eq, Nat.reduceEqDiff, ↓reduceIte, ntT, ntF] <;> rfl) ?_
    have hcm := List.mem_of_getElem? hc
    have hcl := (List.getElem?_eq_some_iff.1 hc).1
    have k5 := n.kids.ext Y2 fun y o g k => (hG y o k).2 (hw.sub y o ((n.fp y o).2 (.inr (.inl g))))
    have t5 := (n.sub c hcm).ext Y2 fun y o g k => (hG y o k).2 (hw.sub y o ((n.fp y o).2 (.inr (.inr ⟨c, hcm, g⟩))))
    have hc0 := k5.c0
    rw [List.length_map] at hc0
    have hcr : rd w2 ba (oa + j) = some (ptr c.b) := ptr_at k5.row (by rw [List.getElem?_map, hc]; rfl)
    have f1 := hI2.tr
    have f2 := hI2.mtf
    have f3 := ho3.h3
    refine W_sq fun K hK => (W_draw (some none) none [(0, 0, 0), (0, 1, 0), (0, 2, 0), (0, 3, 0), (0, 4, 0), (0, 5, 0), (0, 6, 0), (0, 7, 0), (0, 8, 0), (0, 9, 0), (0, 10, 0), (0, 11, 0), (0, 12, 0), (0, 13, 0), (0, 14, 0), (0, 15, 0), (0, 16, 0), (0, 17, 0), (0, 18, 0), (0, 19, 0), (0, 20, 0), (0, 21, 0), (1, 22, 0), (0, 23, 0)] mixed (by kernel_rfl) ?_); simp only [↓List.toList_toArray, ↓rgd, ↓rgf, ↓reduceIte, Nat.reduceEqDiff, rg, ow_84, e0, ptr_eq, f1, f2, l2, l3, f3, hc0, hcl]
    refine do_call fn_96 (vs := #[ptr m, .pointer (some ⟨ba, oa + j, none⟩), .bool mu]) (by simp only [evt, evc, upd_eq, Nat.reduceEqDiff, ↓reduceIte, maT, maC, maN, isnN, isnS] <;> rfl) (isoLoad_any m ba (oa + j) c.b mu iso _ (hT _ Y2).cfg.iso hcr t5.iso0.1) ?_
    rintro _ w6 ⟨rfl, r6⟩
    refine ⟨by first | exact trivial | exact .inr (keeps_ro r6), ?_⟩
    simp only [↓List.toList_toArray, ↓rgd, ↓rgf, ↓reduceIte, Nat.reduceEqDiff, rg, ow_84]
    refine hK _ _ ?_; clear hK K
    have r6 := (RO.dr _ _).tr r6
    have hI6 := hI2.ext0 r6.ext
    have Y6 := Y2.tr r6.ext
    have skd := r6.ext.rd skd (fun h : noF _ _ => h)
    clear hI2 Y2
    refine W_block (W_loop (fun mm e w => ∃ (st : List (Nat × Int)) (lo b : Nat) (xs : List It) (Fb : Nat → Nat → Prop) (sb so cap : Nat), Way E iso (d - 1) (2 * d - 1) w1 H 1 root X F st mm lo b xs Fb (q) ∧ ItS ib m mu st sb so cap w ∧ (sb = sb0 ∨ w1.heap.size ≤ sb) ∧ Ext (itF HF ib sb0) w1 w ∧ rd w ib 3 = some (.bool true) ∧ e 0 = ptr ib ∧ e 4 = ptr b)
      _ ⟨_, _, _, _, _, _, _, _, (by rw [hq]; exact hw.down ho' n hc), hI6, hs, Y6, skd, by simp only [upd_eq, Nat.reduceEqDiff, ↓reduceIte]; exact e0, by simp only [upd_eq, Nat.reduceEqDiff, ↓reduceIte]⟩ ?_)
    clear hI6 Y6 skd e0 e
    rintro mm e w ⟨st, lo, b, xs, Fb, sb, so, cap, hw, hI, hs, Y, skd, e0, e4⟩
    obtain ⟨bi, oi, cp, ks, ch, ho1, h1, h2, hsub, hin⟩ := (hw.tr ht).open
    have hlo := hw.lo (by decide) (by omega : 1 ≤ d - 1)
    have hoF : ∀ y o, ownF E b bi oi cp y o → ¬ itF HF ib sb0 y o := fun y o g k => (hG y o k).2 (hw.sub y o (hsub y o g))
    refine W_block ?_
    have l0 := hI.st.hd
    refine W_sq fun K hK => (W_text [true, true, true, true, true, true, true, false, false, true, true, false] (by kernel_rfl) ?_); simp only [↓List.toList_toArray, ↓rgd, ↓rgf, ↓reduceIte, Nat.reduceEqDiff, rg, ow_84, e0, e4, ptr_eq, l0, bu_st]
    refine do_bsl rfl (bs_st1 (b, 0)) fun w3 n3 => ⟨by first | exact trivial | exact .inr trivial, ?_⟩
    simp only [↓List.toList_toArray, ↓rgd, ↓rgf, ↓reduceIte, Nat.reduceEqDiff, rg, ow_84, l0]
    have st3 := hI.st.ext0 n3.ext
    have hstl := hw.len
    have hht := ht.height (by omega) (by decide)
    refine do_append (by simp only [evt, evc, upd_eq, Nat.reduceEqDiff, ↓reduceIte, ntT, ntF] <;> rfl) (by simp only [evt, evc, upd_eq, Nat.reduceEqDiff, ↓reduceIte, ntT, ntF] <;> rfl) el_st rfl ni_st st3.slV (u := .slice (some ⟨w.heap.size, 0, none⟩) 1 1) (m := 1) (l' := Es.cel (b, 0)) ⟨rfl, .inr ⟨_, 0, 1, rfl, Nat.le_refl _, n3.row, n3.wok.R (Nat.le_refl _)⟩⟩ (by omega) (by decide) (Es.one _) fun v4 w4 a4 => ⟨by first | exact trivial | exact .inr trivial, ?_⟩
    obtain ⟨sb5, so5, cap5, rfl, wk4, -, nx⟩ := st3.app' (ls := [(b, 0)]) rfl (by rw [flat_one]; exact a4)
    simp only [↓List.toList_toArray, ↓rgd, ↓rgf, ↓reduceIte, Nat.reduceEqDiff, rg, ow_84]
    refine do_store (by simp only [evt, evc, upd_eq, Nat.reduceEqDiff, ↓reduceIte, ntT, ntF] <;> rfl) (by simp only [evt, evc, upd_eq, Nat.reduceEqDiff, ↓reduceIte, ntT, ntF] <;> rfl) sz_100 rfl wk4 (by decide) (oc_one rfl rfl) fun w5 x5 r5 s5 => ⟨by first | exact trivial | exact .inl trivial, ?_⟩
    simp only [↓List.toList_toArray, ↓rgd, ↓rgf, ↓reduceIte, Nat.reduceEqDiff, rg, ow_84]
    refine hK _ _ ?_; clear hK K
    obtain ⟨g1, g2, g3⟩ := nx w5 x5 (Row.cons.1 r5).1
    have G5 := n3.ext.trans g2 (fun _ _ h => h.elim) fun _ _ _ h => h
    have hI5 := hI.stack G5 g1
    have Y5 := itF_tr Y hs (G5.mono fun y o _ g => seF_itF (HF := HF) g)
    have hs5 : sb5 = sb0 ∨ w1.heap.size ≤ sb5 := by
      rcases g3 with g3 | g3
      · rw [g3.1]; exact hs
      · have s3 := n3.size; have s1 := Y.size; exact .inr (by omega)
    have skd5 := G5.rd skd (hI.skF (by decide))
    clear nx x5 r5 s5 a4 wk4 st3 n3 g1 g2 g3 G5
    have ho5 := ho1.ext Y5 hoF
    refine W_seq ?_
    rcases hin with ⟨rfl, rfl, rfl, -⟩ | ⟨h', bc, ba, oa, capc, cs, rfl, rfl, n⟩
    · refine W_sq fun K hK => (W_text [true, false] (by kernel_rfl) ?_); simp only [↓List.toList_toArray, ↓rgd, ↓rgf, ↓reduceIte, Nat.reduceEqDiff, rg, ow_84, e4]
      refine do_call fn_108 (by simp only [evt, evc, upd_eq, Nat.reduceEqDiff, ↓reduceIte, maT, maC, maN, isnN, isnS] <;> rfl) (leaf_any b (none) w5 ho5.h3) ?_
      rintro _ w6 ⟨rfl, hw6⟩
      obtain rfl : w5 = w6 := hw6.symm
      refine ⟨trivial, ?_⟩
      simp only [↓List.toList_toArray, ↓rgd, ↓rgf, ↓reduceIte, Nat.reduceEqDiff, rg, ow_84]
      refine hK _ _ ?_; clear hK K
      refine W_true (by simp only [evt, evc, upd_eq, Nat.reduceEqDiff, ↓reduceIte, ntT, ntF] <;> rfl) (W_exit ?_)
      simp only [andThen_exit, inBlk_exit, andThen_normal, Nat.reduceEqDiff, ↓reduceIte]
      exact hend _ _ _ _ _ _ hI5 hs5 Y5 skd5 ⟨st, b, 0, lo, _, xs, Fb, 0, rfl, hw, .inl ⟨rfl, by omega, by omega⟩⟩ (by simp only [upd_eq, Nat.reduceEqDiff, ↓reduceIte]; exact e0)
    · refine W_sq fun K hK => (W_text [true, false] (by kernel_rfl) ?_); simp only [↓List.toList_toArray, ↓rgd, ↓rgf, ↓reduceIte, Nat.reduceEqDiff, rg, ow_84, e4]
      refine do_call fn_108 (by simp only [evt, evc, upd_eq, Nat.reduceEqDiff, ↓reduceIte, maT, maC, maN, isnN, isnS] <;> rfl) (leaf_any b (some ⟨bc, 0, none⟩) w5 ho5.h3) ?_
      rintro _ w6 ⟨rfl, hw6⟩
      obtain rfl : w5 = w6 := hw6.symm
      refine ⟨trivial, ?_⟩
      simp only [↓List.toList_toArray, ↓rgd, ↓rgf, ↓reduceIte, Nat.reduceEqDiff, rg, ow_84]
      refine hK _ _ ?_; clear hK K
      refine W_false (by simp only [evt, evc, upd_eq, Nat.reduceEqDiff, ↓reduceIte, ntT, ntF] <;> rfl) (W_skip ?_)
      show W _ _ _ _ _ _
      obtain ⟨c, hc⟩ := n.kid (i := 0) (Nat.zero_le _)
      have hcm := List.mem_of_getElem? hc
      have hcl := (List.getElem?_eq_some_iff.1 hc).1
      have k5 := n.kids.ext Y5 fun y o g k => (hG y o k).2 (hw.sub y o ((n.fp y o).2 (.inr (.inl g))))
      have t5 := (n.sub c hcm).ext Y5 fun y o g k => (hG y o k).2 (hw.sub y o ((n.fp y o).2 (.inr (.inr ⟨c, hcm, g⟩))))
      have hc0 := k5.c0
      rw [List.length_map] at hc0
      have hcr : rd w5 ba (oa + 0) = some (ptr c.b) := ptr_at k5.row (by rw [List.getElem?_map, hc]; rfl)
      rw [Nat.add_zero] at hcr
      have i0 := idx0 1 ba oa cs.length hcl
      have f1 := hI5.tr
      have f2 := hI5.mtf
      have f3 := ho5.h3
      refine W_rg fun K hK => (W_draw (some none) none [(0, 0, 0), (0, 1, 0), (0, 2, 0), (0, 3, 0), (0, 4, 0), (0, 5, 0), (0, 6, 0), (0, 7, 0), (0, 8, 0), (0, 9, 0), (0, 10, 0), (0, 11, 0), (0, 12, 0), (0, 13, 0), (0, 14, 0), (1, 15, 0), (0, 16, 0)] mixed (by kernel_rfl) ?_); simp only [↓List.toList_toArray, ↓rgd, ↓rgf, ↓reduceIte, Nat.reduceEqDiff, rg, ow_84, e0, e4, ptr_eq, f1, f2, f3, hc0, i0]
      refine do_call fn_96 (vs := #[ptr m, .pointer (some ⟨ba, oa, none⟩), .bool mu]) (by simp only [evt, evc, upd_eq, Nat.reduceEqDiff, ↓reduceIte, maT, maC, maN, isnN, isnS] <;> rfl) (isoLoad_any m ba oa c.b mu iso _ (hT _ Y5).cfg.iso hcr t5.iso0.1) ?_
      rintro _ w6 ⟨rfl, r6⟩
      refine ⟨by first | exact trivial | exact .inr (keeps_ro r6), ?_⟩
      simp only [↓List.toList_toArray, ↓rgd, ↓rgf, ↓reduceIte, Nat.reduceEqDiff, rg, ow_84]
      refine hK _ _ ?_; clear hK K
      have r6 := (RO.dr _ _).tr r6
      exact ⟨h', by omega, st ++ [(b, 0)], d - 1, c.b, c.xs, c.F, sb5, so5, cap5, hw.down ho1 n hc, hI5.ext0 r6.ext, hs5, Y5.tr r6.ext, r6.ext.rd skd5 (fun h : noF _ _ => h), by simp only [upd_eq, Nat.reduceEqDiff, ↓reduceIte]; exact e0, by simp only [upd_eq, Nat.reduceEqDiff, ↓reduceIte]⟩
end Go.Proofs.Ytbnnkcofnmipoaa
/-
  An iterator goes back. No condition.
-/
set_option linter.unusedSimpArgs false
set_option linter.unusedVariables false
namespace Go.Proofs.Ytbnnkcofnmipoaa
open Go Go.Proofs
set_option maxHeartbeats 4000000 in
set_option maxRecDepth 8000 in
theorem prevC_any (B m d : Nat) (ord : List Int) (hd : 2 ≤ d) (hd' : d ≤ 128) (iso : Int) (X : List It) (F HF : Nat → Nat → Prop) (mu : Bool) (ib sb0 so0 cap0 : Nat) (full0 : List (Nat × Int)) (w1 : World) (hM : TreeAt B ord w1 m d iso X F) (hG : ∀ y o, itF HF ib sb0 y o → Far B m y ∧ ¬ F y o) (hI : ItS ib m mu full0 sb0 so0 cap0 w1) (hbig : X.length ≤ 2147483648) (hsk : rd w1 ib 3 = some (.bool true)) (H root : Nat) (hr : rd w1 m 2 = some (ptr root)) (ht : Tr E iso (d - 1) (2 * d - 1) H w1 1 root X F) (p : Nat) (hpos : Cur E iso (d - 1) (2 * d - 1) w1 H 1 root X F full0 p) :
    CallK Try.prog 85 #[ptr ib] w1 fun v w' => MvQ B ord m d iso X F HF mu ib sb0 w1 (if 0 < p then some (p - 1) else none) v w' := by
  have hT : ∀ w, Ext (itF HF ib sb0) w1 w → TreeAt B ord w m d iso X F := fun w x => hM.extF x hG
  have Y := Ext.refl (itF HF ib sb0) w1
  have hs : sb0 = sb0 ∨ w1.heap.size ≤ sb0 := .inl rfl
  have hm2 : ¬ itF HF ib sb0 m 2 := fun g => hM.nf (hG _ _ g).1
  have htT : ∀ w, Ext (itF HF ib sb0) w1 w → Tr E iso (d - 1) (2 * d - 1) H w 1 root X F := fun w x => ht.ext x fun y o g k => (hG y o k).2 g
  have hht := ht.height (by omega) (by decide)
  have hdp := hpos.depth
  obtain ⟨st, b, h, lo, off, xs, Fb, j, rfl, hw, hcase⟩ := hpos
  rw [List.length_append, List.length_singleton] at hdp
  have h0 := hI.tr
  obtain ⟨l1, l2, l3, l4⟩ := hI.st.last
  have q1 := wsub1 (st.length + 1) (by omega) (by omega)
  rw [Nat.add_sub_cancel] at q1
  have q2 : st.length < st.length + 1 := Nat.lt_succ_self _
  have z5 : (((st.length + 1 : Nat) : Int) == 0) = false := by rw [beq_eq_false_iff_ne]; omega
  obtain ⟨bi, oi, cp, ks, ch, ho1, h1, h2, hsub, hin⟩ := (hw.tr ht).open
  have hoF : ∀ y o, ownF E b bi oi cp y o → ¬ itF HF ib sb0 y o := fun y o g k => (hG y o k).2 (hw.sub y o (hsub y o g))
  refine calls_of_W [.tmp 2] Try.func85 rfl Try.ntmps85 Try.results85 (by simp) fun e he => ?_
  have e0 : e 0 = ptr ib := he 0 _ rfl
  clear he
  refine W_sq fun K hK => (W_text [true] (by kernel_rfl) ?_); simp only [↓List.toList_toArray, ↓rgd, ↓rgf, ↓reduceIte, Nat.reduceEqDiff, rg, ow_85]
  refine hK _ _ ?_; clear hK K
  refine W_seq ?_
  refine W_sq fun K hK => (W_text [true, true, true, true, true] (by kernel_rfl) ?_); simp only [↓List.toList_toArray, ↓rgd, ↓rgf, ↓reduceIte, Nat.reduceEqDiff, rg, ow_85, e0, ptr_eq, h0]
  refine hK _ _ ?_; clear hK K
  refine W_false (by simp only [evt, evc, upd_eq, Nat.reduceEqDiff, ↓reduceIte, ntT, ntF] <;> rfl) (W_skip ?_)
  show W _ _ _ _ _ _
  refine W_seq ?_
  refine W_sq fun K hK => (W_text [true, true, true, true, true] (by kernel_rfl) ?_); simp only [↓List.toList_toArray, ↓rgd, ↓rgf, ↓reduceIte, Nat.reduceEqDiff, rg, ow_85, e0, ptr_eq, hsk]
  refine hK _ _ ?_; clear hK K
  refine W_false (by simp only [evt, evc, upd_eq, Nat.reduceEqDiff, ↓reduceIte, ntT, ntF] <;> rfl) (W_skip ?_)
  show W _ _ _ _ _ _
  refine W_seq ?_
  refine W_sq fun K hK => (W_text [true, true, true, true, true, true] (by kernel_rfl) ?_); simp only [↓List.toList_toArray, ↓rgd, ↓rgf, ↓reduceIte, Nat.reduceEqDiff, rg, ow_85, e0, ptr_eq, l1, z5]
  refine hK _ _ ?_; clear hK K
  refine W_false (by simp only [evt, evc, upd_eq, Nat.reduceEqDiff, ↓reduceIte, ntT, ntF] <;> rfl) (W_skip ?_)
  show W _ _ _ _ _ _
  refine W_sq fun K hK => (W_draw (some none) none [(0, 0, 0), (0, 1, 0), (0, 2, 0), (0, 3, 0), (0, 4, 0), (0, 5, 0), (0, 6, 0), (0, 7, 0), (0, 8, 0), (0, 9, 0), (0, 10, 0), (0, 11, 0)] mixed (by kernel_rfl) ?_); simp only [↓List.toList_toArray, ↓rgd, ↓rgf, ↓reduceIte, Nat.reduceEqDiff, rg, ow_85, e0, ptr_eq, l1, q1, q2]
  refine hK _ _ ?_; clear hK K
  have hI2 := hI.ext0 (Ext.dr noF w1 (w1.drawn + 1))
  have Y2 := Y.tr (Ext.dr _ w1 (w1.drawn + 1))
  have skd := hsk
  have ho2 := ho1
  refine W_sqx fun J hJ => ?_
  have hend : ∀ (e : Env) (w : World) (full : List (Nat × Int)) (sb so cap : Nat), ItS ib m mu full sb so cap w → (sb = sb0 ∨ w1.heap.size ≤ sb) → Ext (itF HF ib sb0) w1 w → rd w ib 3 = some (.bool true) → Cur E iso (d - 1) (2 * d - 1) w1 H 1 root X F full (p - 1) → e 0 = ptr ib → 0 < p → J e w := by
    clear e0 e
    intro e w full sb so cap hI hs Y skd cur e0 hp0
    refine hJ _ _ ?_; clear hJ J
    have hdp := cur.depth
    obtain ⟨st, b, j, bi, oi, cp, ks, ch, x, cnt, rfl, ho1, hoF, hj, hx⟩ := cur.item ht
    rw [List.length_append, List.length_singleton] at hdp
    have hht := ht.height (by omega) (by decide)
    obtain ⟨l1, l2, l3, l4⟩ := hI.st.last
    have q1 := wsub1 (st.length + 1) (by omega) (by omega)
    rw [Nat.add_sub_cancel] at q1
    have q2 : st.length < st.length + 1 := Nat.lt_succ_self _
    have hlen : (st ++ [(b, (j : Int))]).length = st.length + 1 := by simp
    refine W_sq fun K hK => (W_draw (some none) none [(0, 0, 0), (0, 1, 0), (0, 2, 0), (0, 3, 0), (0, 4, 0), (0, 5, 0), (0, 6, 0), (0, 7, 0), (0, 8, 0), (0, 9, 0), (0, 10, 0), (0, 11, 0)] mixed (by kernel_rfl) ?_); simp only [↓List.toList_toArray, ↓rgd, ↓rgf, ↓reduceIte, Nat.reduceEqDiff, rg, ow_85, e0, ptr_eq, l1, q1, q2]
    refine hK _ _ ?_; clear hK K
    have ho := ho1.ext Y fun y o g k => (hG y o k).2 (hoF y o g)
    have hjl := (List.getElem?_eq_some_iff.1 hj).1
    have hk := it_at ho.row hj
    have hi := ho.h2
    refine W_sq fun K hK => (W_draw (some none) (some 16) [(0, 0, 0), (0, 1, 0), (0, 2, 0), (0, 3, 0), (0, 4, 0), (0, 5, 0), (0, 6, 0), (0, 7, 0), (0, 8, 0), (0, 9, 0), (0, 10, 0), (0, 11, 0), (0, 12, 0), (0, 13, 0), (0, 14, 0), (0, 15, 0), (1, 16, 0)] mixed (by kernel_rfl) ?_); simp only [↓List.toList_toArray, ↓rgd, ↓rgf, ↓reduceIte, Nat.reduceEqDiff, rg, ow_85, e0, ptr_eq, l2, l3, hi, hjl, hk]
    refine do_store (v := itV x) (by simp only [evt, evc, upd_eq, Nat.reduceEqDiff, ↓reduceIte, ntT, ntF] <;> rfl) (by simp only [evt, evc, upd_eq, Nat.reduceEqDiff, ↓reduceIte, ntT, ntF] <;> rfl) sz_33 (itV_len x) hI.wok (by decide) (itV_oc x) fun w2 x2 r2 s2 => ⟨by first | exact trivial | exact .inl trivial, ?_⟩
    simp only [↓List.toList_toArray, ↓rgd, ↓rgf, ↓reduceIte, Nat.reduceEqDiff, rg, ow_85]
    refine hK _ _ ?_; clear hK K
    have x2 := x2.od.od
    have hI2 := hI.item (x := x) x2 r2
    have Y2 := itF_tr Y hs (x2.mono (G := itF HF ib sb) fun y o _ g => .inl g.1)
    refine W_sq fun K hK => (W_text [true] (by kernel_rfl) ?_); simp only [↓List.toList_toArray, ↓rgd, ↓rgf, ↓reduceIte, Nat.reduceEqDiff, rg, ow_85]
    refine hK _ _ ?_; clear hK K
    rw [if_pos hp0]
    refine W_ret (endQ_1 (by simp only [upd_eq, Nat.reduceEqDiff, ↓reduceIte] <;> rfl) (MvQ.some hx (hT _ Y2) ⟨sb, so, cap, hI2, hs, Y2⟩ ⟨x2.rd skd (by simp only [rng]; omega), H, root, Y2.rd hr hm2, ht.ext Y2 fun y o g k => (hG y o k).2 g, cur.ext Y2 fun y o g k => (hG y o k).2 g⟩ r2))
  clear hJ
  rcases hcase with ⟨rfl, hj, hq⟩ | ⟨h', bi', oi', cap', ks', bc, ba, oa, capc, cs, c, rfl, ho', n, hc, hj, hq⟩
  · obtain ⟨rfl, rfl⟩ : ch = .pointer none ∧ xs = ks := by
      rcases hin with ⟨_, g1, g2, _⟩ | ⟨_, _, _, _, _, _, h0', _⟩
      · exact ⟨g1, g2⟩
      · cases h0'
    refine W_sq fun K hK => (W_text [true, true, true, true, false] (by kernel_rfl) ?_); simp only [↓List.toList_toArray, ↓rgd, ↓rgf, ↓reduceIte, Nat.reduceEqDiff, rg, ow_85, ptr_eq, l2]
    refine do_call fn_108 (vs := #[ptr b]) (by simp only [evt, evc, upd_eq, Nat.reduceEqDiff, ↓reduceIte, maT, maC, maN, isnN, isnS] <;> rfl) (leaf_any b none _ ho2.h3) ?_
    rintro _ w6 ⟨rfl, hw6⟩
    obtain rfl := hw6.symm
    refine ⟨trivial, ?_⟩
    simp only [↓List.toList_toArray, ↓rgd, ↓rgf, ↓reduceIte, Nat.reduceEqDiff, rg, ow_85]
    refine hK _ _ ?_; clear hK K
    refine W_true (by simp only [evt, evc, upd_eq, Nat.reduceEqDiff, ↓reduceIte, ntT, ntF] <;> rfl) ?_
    have q3 : IntKind.i64.wrap ((j : Int) - 1) = (j : Int) - 1 := by rw [IntWalk.i64_in _ (by omega)]
    refine W_sq fun K hK => (W_text [true, true, true, true, true, true, true, false] (by kernel_rfl) ?_); simp only [↓List.toList_toArray, ↓rgd, ↓rgf, ↓reduceIte, Nat.reduceEqDiff, rg, ow_85, ptr_eq, l3, q3]
    refine do_store (v := .int .i64 ((j : Int) - 1)) (by simp only [evt, evc, upd_eq, Nat.reduceEqDiff, ↓reduceIte, ntT, ntF] <;> rfl) (by simp only [evt, evc, upd_eq, Nat.reduceEqDiff, ↓reduceIte, ntT, ntF] <;> rfl) sz_3 rfl hI2.st.wi (by rw [Es_sz]; omega) (oc_one rfl rfl) fun w3 x3 r3 s3 => ⟨trivial, ?_⟩
    simp only [↓List.toList_toArray, ↓rgd, ↓rgf, ↓reduceIte, Nat.reduceEqDiff, rg, ow_85]
    refine hK _ _ ?_; clear hK K
    obtain ⟨g1, g2⟩ := hI2.st.seti x3 (Row.cons.1 r3).1
    have hI3 := hI2.stack g2 g1
    have Y3 := itF_tr Y2 hs (g2.mono fun y o _ g => seF_itF (HF := HF) g)
    have skd := g2.rd skd (hI2.skF (by decide))
    obtain ⟨l1', l2', l3', -⟩ := hI3.st.last
    by_cases hjl : j = 0
    · have z12 : ((j : Int) - 1 == -1) = true := by rw [beq_iff_eq]; omega
      refine W_sq fun K hK => (W_text [true, true, true, true, true] (by kernel_rfl) ?_); simp only [↓List.toList_toArray, ↓rgd, ↓rgf, ↓reduceIte, Nat.reduceEqDiff, rg, ow_85, ptr_eq, l3', z12]
      refine hK _ _ ?_; clear hK K
      refine W_true (by simp only [evt, evc, upd_eq, Nat.reduceEqDiff, ↓reduceIte, ntT, ntF] <;> rfl) ?_
      refine W_block (W_loop (fun mm e w => ∃ (st : List (Nat × Int)) (h lo b off : Nat) (i : Int) (xs : List It) (Fb : Nat → Nat → Prop) (sb so cap : Nat), mm = st.length ∧ Way E iso (d - 1) (2 * d - 1) w1 H 1 root X F st h lo b xs Fb off ∧ off = p ∧ ItS ib m mu (st ++ [(b, i)]) sb so cap w ∧ (sb = sb0 ∨ w1.heap.size ≤ sb) ∧ Ext (itF HF ib sb0) w1 w ∧ rd w ib 3 = some (.bool true) ∧ e 0 = ptr ib)
        _ ⟨st, _, _, _, _, _, _, _, _, _, _, rfl, hw, by omega, (by first | exact hI3 | exact hI3.ext0 (Ext.dr _ _ _) | exact (hI3.ext0 (Ext.dr _ _ _)).ext0 (Ext.dr _ _ _)), hs, (by first | exact Y3 | exact Y3.tr (Ext.dr _ _ _) | exact (Y3.tr (Ext.dr _ _ _)).tr (Ext.dr _ _ _)), skd, by simp only [upd_eq, Nat.reduceEqDiff, ↓reduceIte]; exact e0⟩ ?_)
      clear hI2 hI3 Y3 Y2 skd e0 e
      rintro mm e w ⟨st, h, lo, b, off, i, xs, Fb, sb, so, cap, rfl, hw, hq, hI, hs, Y, skd, e0⟩
      have hwl := hw.len
      refine W_block ?_
      obtain ⟨l1, -, -, l4⟩ := hI.st.last
      have q1 := wsub1 (st.length + 1) (by omega) (by omega)
      rw [Nat.add_sub_cancel] at q1
      have z13 := slcX_hi 2 sb so (st.length + 1) cap st.length .i64 (by omega)
      refine W_sq fun K hK => (W_draw (some none) (some 14) [(0, 0, 0), (0, 1, 0), (0, 2, 0), (0, 3, 0), (0, 4, 0), (0, 5, 0), (0, 6, 0), (0, 7, 0), (0, 8, 0), (0, 9, 0), (0, 10, 0), (0, 11, 0), (0, 12, 0), (0, 13, 0), (1, 14, 0)] mixed (by kernel_rfl) ?_); simp only [↓List.toList_toArray, ↓rgd, ↓rgf, ↓reduceIte, Nat.reduceEqDiff, rg, ow_85, e0, ptr_eq, l1, q1, z13]
      refine do_store (v := .slice (some ⟨sb, so, none⟩) st.length cap) (by simp only [evt, evc, upd_eq, Nat.reduceEqDiff, ↓reduceIte, ntT, ntF] <;> rfl) (by simp only [evt, evc, upd_eq, Nat.reduceEqDiff, ↓reduceIte, ntT, ntF] <;> rfl) sz_100 rfl hI.st.hok (by decide) (oc_one rfl rfl) fun w3 x3 r3 s3 => ⟨by first | exact trivial | exact .inl trivial, ?_⟩
      simp only [↓List.toList_toArray, ↓rgd, ↓rgf, ↓reduceIte, Nat.reduceEqDiff, rg, ow_85]
      refine hK _ _ ?_; clear hK K
      have x3 : Ext (rng ib 14 1) w w3 := by first | exact x3 | exact x3.od | exact x3.od.od | exact x3.od.od.od
      obtain ⟨g1, g2⟩ := hI.st.pop (by simp) (Ext.refl _ _) x3 (by simpa using (Row.cons.1 r3).1)
      rw [List.dropLast_concat] at g1
      have hI3 := hI.stack g2 g1
      have Y3 := itF_tr Y hs (g2.mono fun y o _ g => seF_itF (HF := HF) g)
      have skd3 := g2.rd skd (hI.skF (by decide))
      have hd3 := g1.hd
      clear g1 g2 x3 r3 l1
      refine W_seq ?_
      rcases hw.prev with ⟨rfl, hX⟩ | ⟨st', lo', b', off', i', xs', Fb', rfl, hw', hcur⟩
      · have z14 : (((([] : List (Nat × Int)).length : Nat) : Int) == 0) = true := rfl
        refine W_sq fun K hK => (W_text [true, true, true, true, true, true] (by kernel_rfl) ?_); simp only [↓List.toList_toArray, ↓rgd, ↓rgf, ↓reduceIte, Nat.reduceEqDiff, rg, ow_85, e0, ptr_eq, hd3, z14]
        refine hK _ _ ?_; clear hK K
        refine W_true (by simp only [evt, evc, upd_eq, Nat.reduceEqDiff, ↓reduceIte, ntT, ntF] <;> rfl) ?_
        refine W_sq fun K hK => (W_text [true, true, true, false] (by kernel_rfl) ?_); simp only [↓List.toList_toArray, ↓rgd, ↓rgf, ↓reduceIte, Nat.reduceEqDiff, rg, ow_85, e0, ptr_eq]
        refine do_store (v := .bool true) (by simp only [evt, evc, upd_eq, Nat.reduceEqDiff, ↓reduceIte, ntT, ntF] <;> rfl) (by simp only [evt, evc, upd_eq, Nat.reduceEqDiff, ↓reduceIte, ntT, ntF] <;> rfl) sz_4 rfl hI3.wok (by decide) (oc_one rfl rfl) fun w4 x4 r4 s4 => ⟨trivial, ?_⟩
        simp only [↓List.toList_toArray, ↓rgd, ↓rgf, ↓reduceIte, Nat.reduceEqDiff, rg, ow_85]
        refine hK _ _ ?_; clear hK K
        have hI4 := hI3.flag x4 (Row.cons.1 r4).1 (by decide) (by decide)
        have Y4 := itF_tr Y3 hs (x4.mono (G := itF HF ib sb) fun y o _ g => .inl g.1)
        refine W_sq fun K hK => (W_text [true] (by kernel_rfl) ?_); simp only [↓List.toList_toArray, ↓rgd, ↓rgf, ↓reduceIte, Nat.reduceEqDiff, rg, ow_85]
        refine hK _ _ ?_; clear hK K
        refine W_ret ?_
        simp only [andThen_ret, inBlk_ret]
        rw [if_neg (by omega)]
        exact endQ_1 (by simp only [upd_eq, Nat.reduceEqDiff, ↓reduceIte] <;> rfl) (MvQ.none (hT _ Y4) ⟨_, _, _, hI4, hs, Y4⟩)
      · have z14 : ((((st' ++ [(b', (i' : Int))]).length : Nat) : Int) == 0) = false := by rw [beq_eq_false_iff_ne, List.length_append, List.length_singleton]; omega
        refine W_sq fun K hK => (W_text [true, true, true, true, true, true] (by kernel_rfl) ?_); simp only [↓List.toList_toArray, ↓rgd, ↓rgf, ↓reduceIte, Nat.reduceEqDiff, rg, ow_85, e0, ptr_eq, hd3, z14]
        refine hK _ _ ?_; clear hK K
        refine W_false (by simp only [evt, evc, upd_eq, Nat.reduceEqDiff, ↓reduceIte, ntT, ntF] <;> rfl) (W_skip ?_)
        show W _ _ _ _ _ _
        obtain ⟨l1, l2, l3, l4⟩ := hI3.st.last
        have hwl' := hw'.len
        have q1 := wsub1 (st'.length + 1) (by omega) (by omega)
        rw [Nat.add_sub_cancel] at q1
        have q2 : st'.length < st'.length + 1 := Nat.lt_succ_self _
        have hi256 : i' ≤ 9223372036854775807 := by
          rcases hcur with ⟨_, _, cur⟩ | ⟨_, _⟩
          · obtain ⟨st2, b2, h2', lo2, off2, xs2, Fb2, j2, hf, hw2, hc2⟩ := cur
            have := List.append_inj' hf rfl
            have e2 := this.2
            simp only [List.cons.injEq, Prod.mk.injEq, and_true] at e2
            have hl2 := hw2.le
            rcases hc2 with ⟨_, hj2, _⟩ | ⟨_, _, _, _, _, _, _, _, _, cs2, c2, _, ho2', n2, hc2, hj2, _⟩
            · omega
            · have hb := weave_length (cs2.map Kid.xs) _ (by simpa using n2.len)
              rw [← n2.eq] at hb
              omega
          · omega
        refine W_sq fun K hK => (W_draw (some none) none [(0, 0, 0), (0, 1, 0), (0, 2, 0), (0, 3, 0), (0, 4, 0), (0, 5, 0), (0, 6, 0), (0, 7, 0), (0, 8, 0), (0, 9, 0), (0, 10, 0), (0, 11, 0)] mixed (by kernel_rfl) ?_); simp only [↓List.toList_toArray, ↓rgd, ↓rgf, ↓reduceIte, Nat.reduceEqDiff, rg, ow_85, e0, ptr_eq, l1, q1, q2]
        refine hK _ _ ?_; clear hK K
        have q3 : IntKind.i64.wrap ((i' : Int) - 1) = (i' : Int) - 1 := by rw [IntWalk.i64_in _ (by omega)]
        refine W_sq fun K hK => (W_text [true, true, true, true, true, true, true, false] (by kernel_rfl) ?_); simp only [↓List.toList_toArray, ↓rgd, ↓rgf, ↓reduceIte, Nat.reduceEqDiff, rg, ow_85, ptr_eq, l3, q3]
        refine do_store (v := .int .i64 ((i' : Int) - 1)) (by simp only [evt, evc, upd_eq, Nat.reduceEqDiff, ↓reduceIte, ntT, ntF] <;> rfl) (by simp only [evt, evc, upd_eq, Nat.reduceEqDiff, ↓reduceIte, ntT, ntF] <;> rfl) sz_3 rfl hI3.st.wi (by rw [Es_sz]; omega) (oc_one rfl rfl) fun w4 x4 r4 s4 => ⟨trivial, ?_⟩
        simp only [↓List.toList_toArray, ↓rgd, ↓rgf, ↓reduceIte, Nat.reduceEqDiff, rg, ow_85]
        refine hK _ _ ?_; clear hK K
        have x4 : Ext (rng sb (so + st'.length * 2 + 1) 1) w3 w4 := by first | exact x4 | exact x4.od | exact x4.od.od | exact x4.od.od.od
        obtain ⟨g1, g2⟩ := hI3.st.seti x4 (Row.cons.1 r4).1
        have hI4 := hI3.stack g2 g1
        have Y4 := itF_tr Y3 hs (g2.mono fun y o _ g => seF_itF (HF := HF) g)
        have skd4 := g2.rd skd3 (hI3.skF (by decide))
        obtain ⟨-, -, l3', -⟩ := hI4.st.last
        rcases hcur with ⟨hi, ho0, cur⟩ | ⟨hi, hoff⟩
        · have z18 : decide ((-1 : Int) < (i' : Int) - 1) = true := by simp; omega
          refine W_sq fun K hK => (W_text [true, true, true, true, true] (by kernel_rfl) ?_); simp only [↓List.toList_toArray, ↓rgd, ↓rgf, ↓reduceIte, Nat.reduceEqDiff, rg, ow_85, ptr_eq, l3', z18]
          refine hK _ _ ?_; clear hK K
          refine W_true (by simp only [evt, evc, upd_eq, Nat.reduceEqDiff, ↓reduceIte, ntT, ntF] <;> rfl) (W_exit ?_)
          simp only [andThen_exit, inBlk_exit, andThen_normal, Nat.reduceEqDiff, ↓reduceIte]
          rw [show (i' : Int) - 1 = ((i' - 1 : Nat) : Int) by omega] at hI4
          exact hend _ _ _ _ _ _ (by first | exact hI4 | exact hI4.ext0 (Ext.dr _ _ _) | exact (hI4.ext0 (Ext.dr _ _ _)).ext0 (Ext.dr _ _ _)) hs (by first | exact Y4 | exact Y4.tr (Ext.dr _ _ _) | exact (Y4.tr (Ext.dr _ _ _)).tr (Ext.dr _ _ _)) skd4 (by rw [← hq]; exact cur) (by simp only [upd_eq, Nat.reduceEqDiff, ↓reduceIte]; exact e0) (by omega)
        · have z18 : decide ((-1 : Int) < (i' : Int) - 1) = false := by simp; omega
          refine W_sq fun K hK => (W_text [true, true, true, true, true] (by kernel_rfl) ?_); simp only [↓List.toList_toArray, ↓rgd, ↓rgf, ↓reduceIte, Nat.reduceEqDiff, rg, ow_85, ptr_eq, l3', z18]
          refine hK _ _ ?_; clear hK K
          refine W_false (by simp only [evt, evc, upd_eq, Nat.reduceEqDiff, ↓reduceIte, ntT, ntF] <;> rfl) (W_skip ?_)
          exact ⟨st'.length, by simp, st', _, lo', b', off', _, xs', Fb', _, _, _, rfl, hw', by omega, (by first | exact hI4 | exact hI4.ext0 (Ext.dr _ _ _) | exact (hI4.ext0 (Ext.dr _ _ _)).ext0 (Ext.dr _ _ _)), hs, (by first | exact Y4 | exact Y4.tr (Ext.dr _ _ _) | exact (Y4.tr (Ext.dr _ _ _)).tr (Ext.dr _ _ _)), skd4, by simp only [upd_eq, Nat.reduceEqDiff, ↓reduceIte]; exact e0⟩
    · have z12 : ((j : Int) - 1 == -1) = false := by rw [beq_eq_false_iff_ne]; omega
      refine W_sq fun K hK => (W_text [true, true, true, true, true] (by kernel_rfl) ?_); simp only [↓List.toList_toArray, ↓rgd, ↓rgf, ↓reduceIte, Nat.reduceEqDiff, rg, ow_85, ptr_eq, l3', z12]
      refine hK _ _ ?_; clear hK K
      refine W_false (by simp only [evt, evc, upd_eq, Nat.reduceEqDiff, ↓reduceIte, ntT, ntF] <;> rfl) (W_skip ?_)
      rw [show (j : Int) - 1 = ((j - 1 : Nat) : Int) by omega] at hI3
      exact hend _ _ _ _ _ _ (by first | exact hI3 | exact hI3.ext0 (Ext.dr _ _ _) | exact (hI3.ext0 (Ext.dr _ _ _)).ext0 (Ext.dr _ _ _)) hs (by first | exact Y3 | exact Y3.tr (Ext.dr _ _ _) | exact (Y3.tr (Ext.dr _ _ _)).tr (Ext.dr _ _ _)) skd ⟨st, b, 0, lo, off, xs, Fb, j - 1, rfl, hw, .inl ⟨rfl, by omega, by omega⟩⟩ (by simp only [upd_eq, Nat.reduceEqDiff, ↓reduceIte]; exact e0) (by omega)
  · have ho3 := ho'
    refine W_sq fun K hK => (W_text [true, true, true, true, false] (by kernel_rfl) ?_); simp only [↓List.toList_toArray, ↓rgd, ↓rgf, ↓reduceIte, Nat.reduceEqDiff, rg, ow_85, ptr_eq, l2]
    refine do_call fn_108 (vs := #[ptr b]) (by simp only [evt, evc, upd_eq, Nat.reduceEqDiff, ↓reduceIte, maT, maC, maN, isnN, isnS] <;> rfl) (leaf_any b (some ⟨bc, 0, none⟩) _ ho3.h3) ?_
    rintro _ w6 ⟨rfl, hw6⟩
    obtain rfl := hw6.symm
    refine ⟨trivial, ?_⟩
    simp only [↓List.toList_toArray, ↓rgd, ↓rgf, ↓reduceIte, Nat.reduceEqDiff, rg, ow_85]
    refine hK _ _ ?_; clear hK K
    refine W_false (by simp only [evt, evc, upd_eq, Nat.reduceEqDiff, ↓reduceIte, ntT, ntF] <;> rfl) ?_
    have hcm := List.mem_of_getElem? hc
    have hcl := (List.getElem?_eq_some_iff.1 hc).1
    have k5 := n.kids
    have t5 := n.sub c hcm
    have hc0 := k5.c0
    rw [List.length_map] at hc0
    have hcr : rd w1 ba (oa + j) = some (ptr c.b) := ptr_at k5.row (by rw [List.getElem?_map, hc]; rfl)
    have f1 := hI.tr
    have f2 := hI.mtf
    have f3 := ho3.h3
    clear hin
    have hcp := t5.pos (by omega)
    refine W_sq fun K hK => (W_draw (some none) none [(0, 0, 0), (0, 1, 0), (0, 2, 0), (0, 3, 0), (0, 4, 0), (0, 5, 0), (0, 6, 0), (0, 7, 0), (0, 8, 0), (0, 9, 0), (0, 10, 0), (0, 11, 0), (0, 12, 0), (0, 13, 0), (0, 14, 0), (0, 15, 0), (0, 16, 0), (0, 17, 0), (0, 18, 0), (0, 19, 0), (0, 20, 0), (0, 21, 0), (1, 22, 0), (0, 23, 0)] mixed (by kernel_rfl) ?_); simp only [↓List.toList_toArray, ↓rgd, ↓rgf, ↓reduceIte, Nat.reduceEqDiff, rg, ow_85, e0, ptr_eq, f1, f2, l2, l3, f3, hc0, hcl]
    refine do_call fn_96 (vs := #[ptr m, .pointer (some ⟨ba, oa + j, none⟩), .bool mu]) (by simp only [evt, evc, upd_eq, Nat.reduceEqDiff, ↓reduceIte, maT, maC, maN, isnN, isnS] <;> rfl) (isoLoad_any m ba (oa + j) c.b mu iso _ hM.cfg.iso hcr t5.iso0.1) ?_
    rintro _ w6 ⟨rfl, r6⟩
    refine ⟨by first | exact trivial | exact .inr (keeps_ro r6), ?_⟩
    simp only [↓List.toList_toArray, ↓rgd, ↓rgf, ↓reduceIte, Nat.reduceEqDiff, rg, ow_85]
    refine hK _ _ ?_; clear hK K
    have r6 := ((RO.dr _ _).tr (RO.dr _ _)).tr r6
    have hI6 := hI.ext0 r6.ext
    have Y6 := Y.tr r6.ext
    have skd := r6.ext.rd skd (fun h : noF _ _ => h)
    clear hI2 Y2
    refine W_block (W_loop (fun mm e w => ∃ (st : List (Nat × Int)) (lo b off : Nat) (xs : List It) (Fb : Nat → Nat → Prop) (sb so cap : Nat), Way E iso (d - 1) (2 * d - 1) w1 H 1 root X F st mm lo b xs Fb off ∧ off + xs.length = p ∧ ItS ib m mu st sb so cap w ∧ (sb = sb0 ∨ w1.heap.size ≤ sb) ∧ Ext (itF HF ib sb0) w1 w ∧ rd w ib 3 = some (.bool true) ∧ e 0 = ptr ib ∧ e 4 = ptr b)
      _ ⟨_, _, _, _, _, _, _, _, _, hw.down ho' n hc, hq.symm, hI6, hs, Y6, skd, by simp only [upd_eq, Nat.reduceEqDiff, ↓reduceIte]; exact e0, by simp only [upd_eq, Nat.reduceEqDiff, ↓reduceIte]⟩ ?_)
    clear hI6 Y6 skd e0 e
    rintro mm e w ⟨st, lo, b, off, xs, Fb, sb, so, cap, hw, hQ, hI, hs, Y, skd, e0, e4⟩
    obtain ⟨bi, oi, cp, ks, ch, ho1, h1, h2, hsub, hin⟩ := (hw.tr ht).open
    have hlo := hw.lo (by decide) (by omega : 1 ≤ d - 1)
    have hoF : ∀ y o, ownF E b bi oi cp y o → ¬ itF HF ib sb0 y o := fun y o g k => (hG y o k).2 (hw.sub y o (hsub y o g))
    have hoi := (ho1.ext Y hoF).h2
    refine W_block ?_
    have L0 := on1_0 ib
    have l0 := hI.st.hd
    refine W_sq fun K hK => (W_semi (some (some [ib])) (.take false 0 (.take false 1 (.take false 2 (.take false 3 (.take false 4 (.take false 5 (.take false 6 (.take false 7 (.take false 8 (.take true 9 (.take true 10 (.take false 11 (.act 12 (.bar 13 (.take false 14 (.take false 15 (.bar 16 .nil))))))))))))))))) mixed (by kernel_rfl) ?_); simp only [↓rgm, ↓List.toList_toArray, ↓rgd, ↓rgf, ↓reduceIte, Nat.reduceEqDiff, rg, ow_85, e0, e4, ptr_eq, l0, bu_st, hoi, L0, rB_on]
    refine do_bsl rfl (bs_st1 (b, ((ks.length : Nat) : Int))) fun w3 n3 => ⟨.inr (n3.keep _ (lt1 (wok_lt hI.wok))), ?_⟩
    simp only [↓List.toList_toArray, ↓rgd, ↓rgf, ↓reduceIte, Nat.reduceEqDiff, rg, ow_85, ↓rgm]
    have n3 := n3.od
    have st3 := hI.st.ext0 n3.ext
    have hstl := hw.len
    have hht := ht.height (by omega) (by decide)
    refine do_append (by simp only [evt, evc, upd_eq, Nat.reduceEqDiff, ↓reduceIte, ntT, ntF] <;> rfl) (by simp only [evt, evc, upd_eq, Nat.reduceEqDiff, ↓reduceIte, ntT, ntF] <;> rfl) el_st rfl ni_st st3.slV (u := .slice (some ⟨w.heap.size, 0, none⟩) 1 1) (m := 1) (l' := Es.cel (b, ((ks.length : Nat) : Int))) ⟨rfl, .inr ⟨_, 0, 1, rfl, Nat.le_refl _, n3.row, n3.wok.R (Nat.le_refl _)⟩⟩ (by omega) (by decide) (Es.one _) fun v4 w4 a4 => ⟨by first | exact trivial | exact .inr trivial, ?_⟩
    obtain ⟨sb5, so5, cap5, rfl, wk4, -, nx⟩ := st3.app' (ls := [(b, ((ks.length : Nat) : Int))]) rfl (by rw [flat_one]; exact a4)
    simp only [↓List.toList_toArray, ↓rgd, ↓rgf, ↓reduceIte, Nat.reduceEqDiff, rg, ow_85, ↓rgm]
    refine do_store (by simp only [evt, evc, upd_eq, Nat.reduceEqDiff, ↓reduceIte, ntT, ntF] <;> rfl) (by simp only [evt, evc, upd_eq, Nat.reduceEqDiff, ↓reduceIte, ntT, ntF] <;> rfl) sz_100 rfl wk4 (by decide) (oc_one rfl rfl) fun w5 x5 r5 s5 => ⟨by first | exact trivial | exact .inl trivial, ?_⟩
    simp only [↓List.toList_toArray, ↓rgd, ↓rgf, ↓reduceIte, Nat.reduceEqDiff, rg, ow_85, ↓rgm]
    refine hK _ _ ?_; clear hK K
    obtain ⟨g1, g2, g3⟩ := nx w5 x5 (Row.cons.1 r5).1
    have G5 := n3.ext.trans g2 (fun _ _ h => h.elim) fun _ _ _ h => h
    have hI5 := hI.stack G5 g1
    have Y5 := itF_tr Y hs (G5.mono fun y o _ g => seF_itF (HF := HF) g)
    have hs5 : sb5 = sb0 ∨ w1.heap.size ≤ sb5 := by
      rcases g3 with g3 | g3
      · rw [g3.1]; exact hs
      · have s3 := n3.size; have s1 := Y.size; exact .inr (by omega)
    have skd5 := G5.rd skd (hI.skF (by decide))
    clear nx x5 r5 s5 a4 wk4 st3 n3 g1 g2 g3 G5
    have ho5 := ho1.ext Y5 hoF
    refine W_seq ?_
    rcases hin with ⟨rfl, rfl, rfl, -⟩ | ⟨h', bc, ba, oa, capc, cs, rfl, rfl, n⟩
    · refine W_sq fun K hK => (W_text [true, false] (by kernel_rfl) ?_); simp only [↓List.toList_toArray, ↓rgd, ↓rgf, ↓reduceIte, Nat.reduceEqDiff, rg, ow_85, e4]
      refine do_call fn_108 (by simp only [evt, evc, upd_eq, Nat.reduceEqDiff, ↓reduceIte, maT, maC, maN, isnN, isnS] <;> rfl) (leaf_any b (none) w5 ho5.h3) ?_
      rintro _ w6 ⟨rfl, hw6⟩
      obtain rfl : w5 = w6 := hw6.symm
      refine ⟨trivial, ?_⟩
      simp only [↓List.toList_toArray, ↓rgd, ↓rgf, ↓reduceIte, Nat.reduceEqDiff, rg, ow_85]
      refine hK _ _ ?_; clear hK K
      refine W_true (by simp only [evt, evc, upd_eq, Nat.reduceEqDiff, ↓reduceIte, ntT, ntF] <;> rfl) ?_
      obtain ⟨l1, l2, l3, l4⟩ := hI5.st.last
      have q1 := wsub1 (st.length + 1) (by omega) (by omega)
      rw [Nat.add_sub_cancel] at q1
      have q2 : st.length < st.length + 1 := Nat.lt_succ_self _
      have q3 := wsub1 xs.length (by omega) (by omega)
      refine W_sq fun K hK => (W_draw (some none) (some 16) [(0, 0, 0), (0, 1, 0), (0, 2, 0), (0, 3, 0), (0, 4, 0), (0, 5, 0), (0, 6, 0), (0, 7, 0), (0, 8, 0), (0, 9, 0), (0, 10, 0), (0, 11, 0), (0, 12, 0), (0, 13, 0), (0, 14, 0), (0, 15, 0), (1, 16, 0)] mixed (by kernel_rfl) ?_); simp only [↓List.toList_toArray, ↓rgd, ↓rgf, ↓reduceIte, Nat.reduceEqDiff, rg, ow_85, e0, ptr_eq, l1, q1, q2, l3, q3]
      refine do_store (v := .int .i64 ((xs.length - 1 : Nat) : Int)) (by simp only [evt, evc, upd_eq, Nat.reduceEqDiff, ↓reduceIte, ntT, ntF] <;> rfl) (by simp only [evt, evc, upd_eq, Nat.reduceEqDiff, ↓reduceIte, ntT, ntF] <;> rfl) sz_3 rfl hI5.st.wi (by rw [Es_sz]; omega) (oc_one rfl rfl) fun w6 x6 r6 s6 => ⟨by first | exact trivial | exact .inl trivial, ?_⟩
      simp only [↓List.toList_toArray, ↓rgd, ↓rgf, ↓reduceIte, Nat.reduceEqDiff, rg, ow_85]
      refine hK _ _ ?_; clear hK K
      have x6 : Ext (rng sb5 (so5 + st.length * 2 + 1) 1) w5 w6 := by first | exact x6 | exact x6.od | exact x6.od.od | exact x6.od.od.od
      obtain ⟨g1, g2⟩ := hI5.st.seti x6 (Row.cons.1 r6).1
      have hI6 := hI5.stack g2 g1
      have Y6 := itF_tr Y5 hs5 (g2.mono fun y o _ g => seF_itF (HF := HF) g)
      have skd6 := g2.rd skd5 (hI5.skF (by decide))
      refine W_exit ?_
      simp only [andThen_exit, inBlk_exit, andThen_normal, Nat.reduceEqDiff, ↓reduceIte]
      exact hend _ _ _ _ _ _ hI6 hs5 Y6 skd6 ⟨st, b, 0, lo, off, xs, Fb, xs.length - 1, rfl, hw, .inl ⟨rfl, by omega, by omega⟩⟩ (by simp only [upd_eq, Nat.reduceEqDiff, ↓reduceIte]; exact e0) (by omega)
    · refine W_sq fun K hK => (W_text [true, false] (by kernel_rfl) ?_); simp only [↓List.toList_toArray, ↓rgd, ↓rgf, ↓reduceIte, Nat.reduceEqDiff, rg, ow_85, e4]
      refine do_call fn_108 (by simp only [evt, evc, upd_eq, Nat.reduceEqDiff, ↓reduceIte, maT, maC, maN, isnN, isnS] <;> rfl) (leaf_any b (some ⟨bc, 0, none⟩) w5 ho5.h3) ?_
      rintro _ w6 ⟨rfl, hw6⟩
      obtain rfl : w5 = w6 := hw6.symm
      refine ⟨trivial, ?_⟩
      simp only [↓List.toList_toArray, ↓rgd, ↓rgf, ↓reduceIte, Nat.reduceEqDiff, rg, ow_85]
      refine hK _ _ ?_; clear hK K
      refine W_false (by simp only [evt, evc, upd_eq, Nat.reduceEqDiff, ↓reduceIte, ntT, ntF] <;> rfl) (W_skip ?_)
      show W _ _ _ _ _ _
      obtain ⟨c, hc⟩ := n.kid (i := ks.length) (Nat.le_refl _)
      have hcm := List.mem_of_getElem? hc
      have hcl := (List.getElem?_eq_some_iff.1 hc).1
      have k5 := n.kids.ext Y5 fun y o g k => (hG y o k).2 (hw.sub y o ((n.fp y o).2 (.inr (.inl g))))
      have t5 := (n.sub c hcm).ext Y5 fun y o g k => (hG y o k).2 (hw.sub y o ((n.fp y o).2 (.inr (.inr ⟨c, hcm, g⟩))))
      have hc0 := k5.c0
      rw [List.length_map] at hc0
      have hcr : rd w5 ba (oa + ks.length) = some (ptr c.b) := ptr_at k5.row (by rw [List.getElem?_map, hc]; rfl)
      have hxl : xs.length = (fr (cs.map Kid.xs) ks ks.length).length + c.xs.length := by
        have := congrArg List.length n.eq
        rw [fr_all (by simpa using n.len) (Kid.at hc), List.length_append] at this
        exact this
      have f1 := hI5.tr
      have f2 := hI5.mtf
      have f3 := ho5.h3
      have f4 := ho5.h2
      refine W_rg fun K hK => (W_draw (some none) none [(0, 0, 0), (0, 1, 0), (0, 2, 0), (0, 3, 0), (0, 4, 0), (0, 5, 0), (0, 6, 0), (0, 7, 0), (0, 8, 0), (0, 9, 0), (0, 10, 0), (0, 11, 0), (0, 12, 0), (0, 13, 0), (0, 14, 0), (0, 15, 0), (0, 16, 0), (0, 17, 0), (0, 18, 0), (0, 19, 0), (1, 20, 0), (0, 21, 0)] mixed (by kernel_rfl) ?_); simp only [↓List.toList_toArray, ↓rgd, ↓rgf, ↓reduceIte, Nat.reduceEqDiff, rg, ow_85, e0, e4, ptr_eq, f1, f2, f3, f4, hc0, hcl]
      refine do_call fn_96 (vs := #[ptr m, .pointer (some ⟨ba, oa + ks.length, none⟩), .bool mu]) (by simp only [evt, evc, upd_eq, Nat.reduceEqDiff, ↓reduceIte, maT, maC, maN, isnN, isnS] <;> rfl) (isoLoad_any m ba (oa + ks.length) c.b mu iso _ (hT _ Y5).cfg.iso hcr t5.iso0.1) ?_
      rintro _ w6 ⟨rfl, r6⟩
      refine ⟨by first | exact trivial | exact .inr (keeps_ro r6), ?_⟩
      simp only [↓List.toList_toArray, ↓rgd, ↓rgf, ↓reduceIte, Nat.reduceEqDiff, rg, ow_85]
      refine hK _ _ ?_; clear hK K
      have r6 := (RO.dr _ _).tr r6
      exact ⟨h', by omega, st ++ [(b, ((ks.length : Nat) : Int))], d - 1, c.b, _, c.xs, c.F, sb5, so5, cap5, hw.down ho1 n hc, by omega, hI5.ext0 r6.ext, hs5, Y5.tr r6.ext, r6.ext.rd skd5 (fun h : noF _ _ => h), by simp only [upd_eq, Nat.reduceEqDiff, ↓reduceIte]; exact e0, by simp only [upd_eq, Nat.reduceEqDiff, ↓reduceIte]⟩
end Go.Proofs.Ytbnnkcofnmipoaa
/-
  An iterator goes on or back from wherever it stands. No condition.
-/
set_option linter.unusedSimpArgs false
set_option linter.unusedVariables false
namespace Go.Proofs.Ytbnnkcofnmipoaa
open Go Go.Proofs
theorem itG_new {B m d ib sb0 sb : Nat} {ord : List Int} {iso : Int} {X : List It} {F HF HG : Nat → Nat → Prop} {w1 : World} (hM : TreeAt B ord w1 m d iso X F) (hG : ∀ y o, itF HF ib sb0 y o → Far B m y ∧ ¬ F y o) (hs : sb = sb0 ∨ w1.heap.size ≤ sb) (hF : ∀ y o, HG y o → HF y o) : ∀ y o, itF HG ib sb y o → Far B m y ∧ ¬ F y o := fun y o g => by
  rcases g with g | g | g
  · exact hG y o (.inl g)
  · rcases hs with h | h
    · exact hG y o (.inr (.inl (g.trans h)))
    · have := hM.mlt
      exact ⟨.inl (by omega), fun k => by have := hM.lt y o k; omega⟩
  · exact hG y o (.inr (.inr (hF y o g)))
theorem MvQ.call {B : Nat} {ord : List Int} {m d : Nat} {iso : Int} {X : List It} {F HF HG : Nat → Nat → Prop} {mu : Bool} {ib sb0 sb : Nat} {w1 w w' : World} {p : Option Nat} {v : Value} (hs : sb = sb0 ∨ w1.heap.size ≤ sb) (x : Ext (itF HF ib sb0) w1 w) (hG : ∀ y o, HG y o → HF y o) (h : MvQ B ord m d iso X F HG mu ib sb w p v w') : MvQ B ord m d iso X F HF mu ib sb0 w1 p v w' := by
  obtain ⟨h1, h2, h3, ⟨full, h4, h5⟩, h6⟩ := h
  exact ⟨h1, h2, h3, ⟨full, Its.call hs x hG h4, h5⟩, h6⟩
set_option maxHeartbeats 4000000 in
set_option maxRecDepth 8000 in
theorem inext_any (B m d : Nat) (ord : List Int) (hd : 2 ≤ d) (hd' : d ≤ 128) (iso : Int) (X : List It) (F HF : Nat → Nat → Prop) (mu : Bool) (ib sb0 so0 cap0 : Nat) (full0 : List (Nat × Int)) (w1 : World) (hM : TreeAt B ord w1 m d iso X F) (hG : ∀ y o, itF HF ib sb0 y o → Far B m y ∧ ¬ F y o) (hI : ItS ib m mu full0 sb0 so0 cap0 w1) (hbig : X.length ≤ 2147483648) (p : Option Nat) (hpos : PosT m d iso X F ib w1 full0 p) :
    CallK Try.prog 84 #[ptr ib] w1 fun v w' => ∃ p', MvQ B ord m d iso X F HF mu ib sb0 w1 p' v w' ∧ (∀ k, p = some k → p' = (if k + 1 < X.length then some (k + 1) else none)) ∧ (p = none → X = [] → p' = none) := by
  cases p with
  | some k =>
    obtain ⟨hsk, H, root, hr, ht, cur⟩ := hpos
    exact CallK_mono (nextC_any B m d ord hd hd' iso X F HF mu ib sb0 so0 cap0 full0 w1 hM hG hI hbig hsk H root hr ht _ cur.nx) fun v w' h => ⟨_, h, fun j hj => (by cases hj; rfl), fun h => by cases h⟩
  | none =>
  obtain rfl : full0 = [] := hpos
  have h0 := hI.tr
  obtain ⟨sk, hsk⟩ := hI.fl 3 (by decide) (by decide)
  obtain ⟨at0, hat⟩ := hI.fl 4 (by decide) (by decide)
  refine calls_of_W [.tmp 2] Try.func84 rfl Try.ntmps84 Try.results84 (by simp) fun e he => ?_
  have e0 : e 0 = ptr ib := he 0 _ rfl
  clear he
  refine W_sq fun K hK => (W_text [true] (by kernel_rfl) ?_); simp only [↓List.toList_toArray, ↓rgd, ↓rgf, ↓reduceIte, Nat.reduceEqDiff, rg, ow_84]
  refine hK _ _ ?_; clear hK K
  refine W_seq ?_
  refine W_sq fun K hK => (W_text [true, true, true, true, true] (by kernel_rfl) ?_); simp only [↓List.toList_toArray, ↓rgd, ↓rgf, ↓reduceIte, Nat.reduceEqDiff, rg, ow_84, e0, ptr_eq, h0]
  refine hK _ _ ?_; clear hK K
  refine W_false (by simp only [evt, evc, upd_eq, Nat.reduceEqDiff, ↓reduceIte, ntT, ntF] <;> rfl) (W_skip ?_)
  show W _ _ _ _ _ _
  refine W_seq ?_
  cases sk with
  | false =>
    refine W_sq fun K hK => (W_text [true, true, true, true, true] (by kernel_rfl) ?_); simp only [↓List.toList_toArray, ↓rgd, ↓rgf, ↓reduceIte, Nat.reduceEqDiff, rg, ow_84, e0, ptr_eq, hsk]
    refine hK _ _ ?_; clear hK K
    refine W_true (by simp only [evt, evc, upd_eq, Nat.reduceEqDiff, ↓reduceIte, ntT, ntF] <;> rfl) ?_
    refine W_sq fun K hK => (W_text [true, false, true] (by kernel_rfl) ?_); simp only [↓List.toList_toArray, ↓rgd, ↓rgf, ↓reduceIte, Nat.reduceEqDiff, rg, ow_84, e0]
    refine do_call fn_79 (vs := #[ptr ib]) (by simp only [evt, evc, upd_eq, Nat.reduceEqDiff, ↓reduceIte, maT, maC, maN, isnN, isnS] <;> rfl) (ifirst_any B m d ord hd hd' iso X F HF mu ib sb0 so0 cap0 [] w1 hM hG hI hbig) ?_
    rintro v w2 h2
    refine ⟨trivial, ?_⟩
    simp only [↓List.toList_toArray, ↓rgd, ↓rgf, ↓reduceIte, Nat.reduceEqDiff, rg, ow_84]
    refine hK _ _ ?_; clear hK K
    refine W_ret ?_
    simp only [andThen_ret]
    exact endQ_1 (by simp only [upd_eq, Nat.reduceEqDiff, ↓reduceIte] <;> rfl) ⟨_, h2, fun k hk => (by cases hk), fun _ hX => by rw [if_neg (by simp [hX])]⟩
  | true =>
    refine W_sq fun K hK => (W_text [true, true, true, true, true] (by kernel_rfl) ?_); simp only [↓List.toList_toArray, ↓rgd, ↓rgf, ↓reduceIte, Nat.reduceEqDiff, rg, ow_84, e0, ptr_eq, hsk]
    refine hK _ _ ?_; clear hK K
    refine W_false (by simp only [evt, evc, upd_eq, Nat.reduceEqDiff, ↓reduceIte, ntT, ntF] <;> rfl) (W_skip ?_)
    show W _ _ _ _ _ _
    refine W_seq ?_
    have l1 := hI.st.hd
    have z5 : (((([] : List (Nat × Int)).length : Nat) : Int) == 0) = true := rfl
    refine W_sq fun K hK => (W_text [true, true, true, true, true, true] (by kernel_rfl) ?_); simp only [↓List.toList_toArray, ↓rgd, ↓rgf, ↓reduceIte, Nat.reduceEqDiff, rg, ow_84, e0, ptr_eq, l1, z5]
    refine hK _ _ ?_; clear hK K
    refine W_true (by simp only [evt, evc, upd_eq, Nat.reduceEqDiff, ↓reduceIte, ntT, ntF] <;> rfl) ?_
    refine W_seq ?_
    cases at0 with
    | false =>
      refine W_sq fun K hK => (W_text [true, true, true, true] (by kernel_rfl) ?_); simp only [↓List.toList_toArray, ↓rgd, ↓rgf, ↓reduceIte, Nat.reduceEqDiff, rg, ow_84, e0, ptr_eq, hat]
      refine hK _ _ ?_; clear hK K
      refine W_false (by simp only [evt, evc, upd_eq, Nat.reduceEqDiff, ↓reduceIte, ntT, ntF] <;> rfl) (W_skip ?_)
      show W _ _ _ _ _ _
      refine W_sq fun K hK => (W_text [true] (by kernel_rfl) ?_); simp only [↓List.toList_toArray, ↓rgd, ↓rgf, ↓reduceIte, Nat.reduceEqDiff, rg, ow_84]
      refine hK _ _ ?_; clear hK K
      refine W_ret ?_
      simp only [andThen_ret]
      exact endQ_1 (by simp only [upd_eq, Nat.reduceEqDiff, ↓reduceIte] <;> rfl) ⟨none, MvQ.none hM ⟨_, _, _, hI, .inl rfl, Ext.refl _ _⟩, fun k hk => (by cases hk), fun _ _ => rfl⟩
    | true =>
      refine W_sq fun K hK => (W_text [true, true, true, true] (by kernel_rfl) ?_); simp only [↓List.toList_toArray, ↓rgd, ↓rgf, ↓reduceIte, Nat.reduceEqDiff, rg, ow_84, e0, ptr_eq, hat]
      refine hK _ _ ?_; clear hK K
      refine W_true (by simp only [evt, evc, upd_eq, Nat.reduceEqDiff, ↓reduceIte, ntT, ntF] <;> rfl) ?_
      refine W_sq fun K hK => (W_text [true, false, true, true, false, true, true] (by kernel_rfl) ?_); simp only [↓List.toList_toArray, ↓rgd, ↓rgf, ↓reduceIte, Nat.reduceEqDiff, rg, ow_84, e0]
      refine do_call fn_79 (vs := #[ptr ib]) (by simp only [evt, evc, upd_eq, Nat.reduceEqDiff, ↓reduceIte, maT, maC, maN, isnN, isnS] <;> rfl) (ifirst_any B m d ord hd hd' iso X F HF mu ib sb0 so0 cap0 [] w1 hM hG hI hbig) ?_
      rintro _ w2 ⟨rfl, hb2, T2, ⟨full2, ⟨sb2, so2, cap2, hI2, hs2, Y2⟩, hp2⟩, hit2⟩
      refine ⟨trivial, ?_⟩
      by_cases hX : 0 < X.length
      · rw [if_pos hX] at hp2
        have hv : (if 0 < X.length then some 0 else (none : Option Nat)).isSome = true := by rw [if_pos hX]; rfl
        rw [hv]
        obtain ⟨hsk2, H, root, hr, ht, cur⟩ := hp2
        simp only [↓List.toList_toArray, ↓rgd, ↓rgf, ↓reduceIte, Nat.reduceEqDiff, rg, ow_84, e0]
        refine do_call fn_84 (vs := #[ptr ib]) (by simp only [evt, evc, upd_eq, Nat.reduceEqDiff, ↓reduceIte, maT, maC, maN, isnN, isnS] <;> rfl) (nextC_any B m d ord hd hd' iso X F HF mu ib sb2 so2 cap2 full2 w2 T2 (itG_new hM hG hs2 fun _ _ g => g) hI2 hbig hsk2 H root hr ht _ cur.nx) ?_
        rintro v w3 h3
        refine ⟨trivial, ?_⟩
        obtain ⟨rfl, -⟩ := id h3
        simp only [↓List.toList_toArray, ↓rgd, ↓rgf, ↓reduceIte, Nat.reduceEqDiff, rg, ow_84]
        refine hK _ _ ?_; clear hK K
        refine W_ret ?_
        simp only [andThen_ret]
        exact endQ_1 (by simp only [upd_eq, Nat.reduceEqDiff, ↓reduceIte] <;> rfl) ⟨_, MvQ.call hs2 Y2 (fun _ _ g => g) h3, fun k hk => (by cases hk), fun _ h => by rw [h] at hX; cases hX⟩
      · have hp0 : (if 0 < X.length then some 0 else (none : Option Nat)) = none := if_neg hX
        rw [hp0] at hp2 ⊢
        simp only [↓List.toList_toArray, ↓rgd, ↓rgf, ↓reduceIte, Nat.reduceEqDiff, rg, ow_84, e0, Option.isSome_none]
        refine hK _ _ ?_; clear hK K
        refine W_ret ?_
        simp only [andThen_ret]
        obtain rfl : full2 = [] := hp2
        exact endQ_1 (by simp only [upd_eq, Nat.reduceEqDiff, ↓reduceIte] <;> rfl) ⟨none, MvQ.none T2 ⟨_, _, _, hI2, hs2, Y2⟩, fun k hk => (by cases hk), fun _ _ => rfl⟩
set_option maxHeartbeats 4000000 in
set_option maxRecDepth 8000 in
theorem iprev_any (B m d : Nat) (ord : List Int) (hd : 2 ≤ d) (hd' : d ≤ 128) (iso : Int) (X : List It) (F HF : Nat → Nat → Prop) (mu : Bool) (ib sb0 so0 cap0 : Nat) (full0 : List (Nat × Int)) (w1 : World) (hM : TreeAt B ord w1 m d iso X F) (hG : ∀ y o, itF HF ib sb0 y o → Far B m y ∧ ¬ F y o) (hI : ItS ib m mu full0 sb0 so0 cap0 w1) (hbig : X.length ≤ 2147483648) (p : Option Nat) (hpos : PosT m d iso X F ib w1 full0 p) :
    CallK Try.prog 85 #[ptr ib] w1 fun v w' => ∃ p', MvQ B ord m d iso X F HF mu ib sb0 w1 p' v w' ∧ (∀ k, p = some k → p' = (if 0 < k then some (k - 1) else none)) ∧ (p = none → X = [] → p' = none) := by
  cases p with
  | some k =>
    obtain ⟨hsk, H, root, hr, ht, cur⟩ := hpos
    exact CallK_mono (prevC_any B m d ord hd hd' iso X F HF mu ib sb0 so0 cap0 full0 w1 hM hG hI hbig hsk H root hr ht _ cur) fun v w' h => ⟨_, h, fun j hj => (by cases hj; rfl), fun h => by cases h⟩
  | none =>
  obtain rfl : full0 = [] := hpos
  have h0 := hI.tr
  obtain ⟨sk, hsk⟩ := hI.fl 3 (by decide) (by decide)
  obtain ⟨at0, hat⟩ := hI.fl 5 (by decide) (by decide)
  refine calls_of_W [.tmp 2] Try.func85 rfl Try.ntmps85 Try.results85 (by simp) fun e he => ?_
  have e0 : e 0 = ptr ib := he 0 _ rfl
  clear he
  refine W_sq fun K hK => (W_text [true] (by kernel_rfl) ?_); simp only [↓List.toList_toArray, ↓rgd, ↓rgf, ↓reduceIte, Nat.reduceEqDiff, rg, ow_85]
  refine hK _ _ ?_; clear hK K
  refine W_seq ?_
  refine W_sq fun K hK => (W_text [true, true, true, true, true] (by kernel_rfl) ?_); simp only [↓List.toList_toArray, ↓rgd, ↓rgf, ↓reduceIte, Nat.reduceEqDiff, rg, ow_85, e0, ptr_eq, h0]
  refine hK _ _ ?_; clear hK K
  refine W_false (by simp only [evt, evc, upd_eq, Nat.reduceEqDiff, ↓reduceIte, ntT, ntF] <;> rfl) (W_skip ?_)
  show W _ _ _ _ _ _
  refine W_seq ?_
  cases sk with
  | false =>
    refine W_sq fun K hK => (W_text [true, true, true, true, true] (by kernel_rfl) ?_); simp only [↓List.toList_toArray, ↓rgd, ↓rgf, ↓reduceIte, Nat.reduceEqDiff, rg, ow_85, e0, ptr_eq, hsk]
    refine hK _ _ ?_; clear hK K
    refine W_true (by simp only [evt, evc, upd_eq, Nat.reduceEqDiff, ↓reduceIte, ntT, ntF] <;> rfl) ?_
    refine W_sq fun K hK => (W_text [true] (by kernel_rfl) ?_); simp only [↓List.toList_toArray, ↓rgd, ↓rgf, ↓reduceIte, Nat.reduceEqDiff, rg, ow_85]
    refine hK _ _ ?_; clear hK K
    refine W_ret ?_
    simp only [andThen_ret]
    exact endQ_1 (by simp only [upd_eq, Nat.reduceEqDiff, ↓reduceIte] <;> rfl) ⟨none, MvQ.none hM ⟨_, _, _, hI, .inl rfl, Ext.refl _ _⟩, fun k hk => (by cases hk), fun _ _ => rfl⟩
  | true =>
    refine W_sq fun K hK => (W_text [true, true, true, true, true] (by kernel_rfl) ?_); simp only [↓List.toList_toArray, ↓rgd, ↓rgf, ↓reduceIte, Nat.reduceEqDiff, rg, ow_85, e0, ptr_eq, hsk]
    refine hK _ _ ?_; clear hK K
    refine W_false (by simp only [evt, evc, upd_eq, Nat.reduceEqDiff, ↓reduceIte, ntT, ntF] <;> rfl) (W_skip ?_)
    show W _ _ _ _ _ _
    refine W_seq ?_
    have l1 := hI.st.hd
    have z5 : (((([] : List (Nat × Int)).length : Nat) : Int) == 0) = true := rfl
    refine W_sq fun K hK => (W_text [true, true, true, true, true, true] (by kernel_rfl) ?_); simp only [↓List.toList_toArray, ↓rgd, ↓rgf, ↓reduceIte, Nat.reduceEqDiff, rg, ow_85, e0, ptr_eq, l1, z5]
    refine hK _ _ ?_; clear hK K
    refine W_true (by simp only [evt, evc, upd_eq, Nat.reduceEqDiff, ↓reduceIte, ntT, ntF] <;> rfl) ?_
    refine W_seq ?_
    cases at0 with
    | false =>
      refine W_sq fun K hK => (W_text [true, true, true, true] (by kernel_rfl) ?_); simp only [↓List.toList_toArray, ↓rgd, ↓rgf, ↓reduceIte, Nat.reduceEqDiff, rg, ow_85, e0, ptr_eq, hat]
      refine hK _ _ ?_; clear hK K
      refine W_false (by simp only [evt, evc, upd_eq, Nat.reduceEqDiff, ↓reduceIte, ntT, ntF] <;> rfl) (W_skip ?_)
      show W _ _ _ _ _ _
      refine W_sq fun K hK => (W_text [true] (by kernel_rfl) ?_); simp only [↓List.toList_toArray, ↓rgd, ↓rgf, ↓reduceIte, Nat.reduceEqDiff, rg, ow_85]
      refine hK _ _ ?_; clear hK K
      refine W_ret ?_
      simp only [andThen_ret]
      exact endQ_1 (by simp only [upd_eq, Nat.reduceEqDiff, ↓reduceIte] <;> rfl) ⟨none, MvQ.none hM ⟨_, _, _, hI, .inl rfl, Ext.refl _ _⟩, fun k hk => (by cases hk), fun _ _ => rfl⟩
    | true =>
      refine W_sq fun K hK => (W_text [true, true, true, true] (by kernel_rfl) ?_); simp only [↓List.toList_toArray, ↓rgd, ↓rgf, ↓reduceIte, Nat.reduceEqDiff, rg, ow_85, e0, ptr_eq, hat]
      refine hK _ _ ?_; clear hK K
      refine W_true (by simp only [evt, evc, upd_eq, Nat.reduceEqDiff, ↓reduceIte, ntT, ntF] <;> rfl) ?_
      refine W_sq fun K hK => (W_text [true, false, true, true, false, true, true] (by kernel_rfl) ?_); simp only [↓List.toList_toArray, ↓rgd, ↓rgf, ↓reduceIte, Nat.reduceEqDiff, rg, ow_85, e0]
      refine do_call fn_83 (vs := #[ptr ib]) (by simp only [evt, evc, upd_eq, Nat.reduceEqDiff, ↓reduceIte, maT, maC, maN, isnN, isnS] <;> rfl) (ilast_any B m d ord hd hd' iso X F HF mu ib sb0 so0 cap0 [] w1 hM hG hI hbig) ?_
      rintro _ w2 ⟨rfl, hb2, T2, ⟨full2, ⟨sb2, so2, cap2, hI2, hs2, Y2⟩, hp2⟩, hit2⟩
      refine ⟨trivial, ?_⟩
      by_cases hX : 0 < X.length
      · rw [if_pos hX] at hp2
        have hv : (if 0 < X.length then some (X.length - 1) else (none : Option Nat)).isSome = true := by rw [if_pos hX]; rfl
        rw [hv]
        obtain ⟨hsk2, H, root, hr, ht, cur⟩ := hp2
        simp only [↓List.toList_toArray, ↓rgd, ↓rgf, ↓reduceIte, Nat.reduceEqDiff, rg, ow_85, e0]
        refine do_call fn_85 (vs := #[ptr ib]) (by simp only [evt, evc, upd_eq, Nat.reduceEqDiff, ↓reduceIte, maT, maC, maN, isnN, isnS] <;> rfl) (prevC_any B m d ord hd hd' iso X F HF mu ib sb2 so2 cap2 full2 w2 T2 (itG_new hM hG hs2 fun _ _ g => g) hI2 hbig hsk2 H root hr ht _ cur) ?_
        rintro v w3 h3
        refine ⟨trivial, ?_⟩
        obtain ⟨rfl, -⟩ := id h3
        simp only [↓List.toList_toArray, ↓rgd, ↓rgf, ↓reduceIte, Nat.reduceEqDiff, rg, ow_85]
        refine hK _ _ ?_; clear hK K
        refine W_ret ?_
        simp only [andThen_ret]
        exact endQ_1 (by simp only [upd_eq, Nat.reduceEqDiff, ↓reduceIte] <;> rfl) ⟨_, MvQ.call hs2 Y2 (fun _ _ g => g) h3, fun k hk => (by cases hk), fun _ h => by rw [h] at hX; cases hX⟩
      · have hp0 : (if 0 < X.length then some (X.length - 1) else (none : Option Nat)) = none := if_neg hX
        rw [hp0] at hp2 ⊢
        simp only [↓List.toList_toArray, ↓rgd, ↓rgf, ↓reduceIte, Nat.reduceEqDiff, rg, ow_85, e0, Option.isSome_none]
        refine hK _ _ ?_; clear hK K
        refine W_ret ?_
        simp only [andThen_ret]
        obtain rfl : full2 = [] := hp2
        exact endQ_1 (by simp only [upd_eq, Nat.reduceEqDiff, ↓reduceIte] <;> rfl) ⟨none, MvQ.none T2 ⟨_, _, _, hI2, hs2, Y2⟩, fun k hk => (by cases hk), fun _ _ => rfl⟩
end Go.Proofs.Ytbnnkcofnmipoaa
/-
  The search in a node of a tree, with a hint or without one. No condition.
-/
set_option linter.unusedSimpArgs false
set_option linter.unusedVariables false
namespace Go.Proofs.Ytbnnkcofnmipoaa
open Go Go.Proofs
/-- A hint's cells. -/
structure HintAt (w : World) (hb : Nat) : Prop where
  wok : wok w hb 16
  used : ∀ i, i < 8 → ∃ u : Bool, rd w hb i = some (.bool u)
  path : ∀ i, i < 8 → ∃ p : Nat, p < 256 ∧ rd w hb (8 + i) = some (.int .u8 p)
theorem HintAt.ext {w w' : World} {G : Nat → Nat → Prop} {hb : Nat} (h : HintAt w hb) (x : Ext G w w') (hG : ∀ o, ¬ G hb o) : HintAt w' hb :=
  ⟨x.wok h.wok, fun i hi => (h.used i hi).imp fun _ g => x.rd g (hG _), fun i hi => (h.path i hi).imp fun _ g => ⟨g.1, x.rd g.2 (hG _)⟩⟩
theorem HintAt.setU {w w' : World} {hb i : Nat} {u : Bool} (h : HintAt w hb) (x : Ext (rng hb i 1) w w') (r : rd w' hb i = some (.bool u)) (hi : i < 8) : HintAt w' hb :=
  ⟨x.wok h.wok, fun j hj => by
    by_cases hij : j = i
    · subst hij; exact ⟨u, r⟩
    · exact (h.used j hj).imp fun _ g => x.rd g (by simp only [rng]; omega), fun j hj => (h.path j hj).imp fun _ g => ⟨g.1, x.rd g.2 (by simp only [rng]; omega)⟩⟩
theorem HintAt.setP {w w' : World} {hb i p : Nat} (h : HintAt w hb) (x : Ext (rng hb (8 + i) 1) w w') (r : rd w' hb (8 + i) = some (.int .u8 p)) (hp : p < 256) : HintAt w' hb :=
  ⟨x.wok h.wok, fun j hj => (h.used j hj).imp fun _ g => x.rd g (by simp only [rng]; omega), fun j hj => by
    by_cases hij : j = i
    · subst hij; exact ⟨p, hp, r⟩
    · exact (h.path j hj).imp fun _ g => ⟨g.1, x.rd g.2 (by simp only [rng]; omega)⟩⟩
/-- The cells of a hint, if there is one. -/
def hF (hp : Option Nat) : Nat → Nat → Prop := fun y _ => hp = some y
def hV (hp : Option Nat) : Value := .pointer (hp.map fun b => ⟨b, 0, none⟩)
theorem hV_none : hV none = .pointer none := id (Eq.trans rfl rfl)
theorem hV_some (b : Nat) : hV (some b) = ptr b := id (Eq.trans rfl rfl)
def HOk (hp : Option Nat) (w : World) : Prop := ∀ hb, hp = some hb → HintAt w hb
theorem HOk.ext {w w' : World} {G : Nat → Nat → Prop} {hp : Option Nat} (h : HOk hp w) (x : Ext G w w') (hG : ∀ hb, hp = some hb → ∀ o, ¬ G hb o) : HOk hp w' := fun hb e => (h hb e).ext x (hG hb e)
theorem HOk.ext0 {w w' : World} {hp : Option Nat} (h : HOk hp w) (x : Ext noF w w') : HOk hp w' := h.ext x fun _ _ _ g => g
theorem HOk.none (w : World) : HOk none w := fun _ h => by cases h
theorem u8_of (n : Int) : ∃ p : Nat, IntKind.u8.wrap n = p ∧ p < 256 := by
  have h1 : 0 ≤ IntKind.u8.wrap n := by rw [IntKind.wrap_u8]; omega
  have h2 : IntKind.u8.wrap n < 256 := by rw [IntKind.wrap_u8]; omega
  exact ⟨(IntKind.u8.wrap n).toNat, by omega, by omega⟩
set_option maxHeartbeats 400000 in
set_option maxRecDepth 8000 in
theorem less_any (B m : Nat) (ord : List Int) (a b : It) (w : World) (hL : Ls B m w ord) :
    CallK Try.prog 138 #[ptr m, itV a, itV b] w fun v w' => v = .bool (O.lt (rkI ord a) (rkI ord b)) ∧ Ext noF w w' := by
  refine calls_of_W [.tmp 6] Try.func138 rfl Try.ntmps138 Try.results138 (by simp) fun e he => ?_
  have e0 : e 0 = ptr m := he 0 _ rfl
  have e1 : e 1 = itV a := he 1 _ rfl
  have e2 : e 2 = itV b := he 2 _ rfl
  clear he
  refine W_sq fun K hK => (W_text [false, false, true] (by kernel_rfl) ?_); simp only [↓List.toList_toArray, ↓rgd, ↓rgf, ↓reduceIte, Nat.reduceEqDiff, rg, ow_138]
  refine do_box (by simp only [evt]; exact e1) fun w1 n1 => ⟨trivial, ?_⟩
  simp only [↓List.toList_toArray, ↓rgd, ↓rgf, ↓reduceIte, Nat.reduceEqDiff, rg, ow_138]
  refine do_box (by simp only [evt, upd_eq, Nat.reduceEqDiff, ↓reduceIte]; exact e2) fun w2 n2 => ⟨trivial, ?_⟩
  simp only [↓List.toList_toArray, ↓rgd, ↓rgf, ↓reduceIte, Nat.reduceEqDiff, rg, ow_138]
  refine hK _ _ ?_; clear hK K
  have s1 := n1.size
  have X2 : Ext noF w w2 := n1.ext.tr n2.ext
  have ra := iX_at (n2.ext.row (show Row w1 w.heap.size 0 (E.cel a) from n1.row) fun _ _ h => h)
  have rb := iX_at (show Row w2 w1.heap.size 0 (E.cel b) from n2.row)
  obtain ⟨lv, hlv, hless, hBm⟩ := id (hL.ext0 X2)
  have A1 := in1 m w.heap.size w1.heap.size w.heap.size
  have A2 := in2 m w.heap.size w1.heap.size w.heap.size
  have A3 := in3 m w.heap.size w1.heap.size w.heap.size
  have hml := rd_lt hlv
  have s2 := n2.size
  refine W_sq fun K hK => (W_draw (some (some [m, w.heap.size, w1.heap.size, w.heap.size])) none [(0, 0, 0), (0, 1, 0), (0, 2, 0), (0, 3, 0), (0, 4, 0), (0, 5, 0), (1, 6, 0), (0, 7, 0)] mixed (by kernel_rfl) ?_); simp only [↓List.toList_toArray, ↓rgd, ↓rgf, ↓reduceIte, Nat.reduceEqDiff, rg, ow_138, e0, ptr_eq, hlv, ra, rb, A1, A2, A3]
  refine do_callW (by simp only [evt, evc, upd_eq, Nat.reduceEqDiff, ↓reduceIte, ntT, ntF] <;> rfl) (by simp only [evt, evc, upd_eq, Nat.reduceEqDiff, ↓reduceIte, maT, maC, maN, isnN, isnS] <;> rfl) (before_any B lv ord a b _ (hless.ext (Ext.dr noF _ _) fun _ _ g => g.elim)) ?_
  rintro _ w3 ⟨rfl, x3⟩
  refine ⟨.inr (keep4 x3 ⟨by rw [sz_dr]; omega, fun _ g => g⟩ ⟨by rw [sz_dr]; omega, fun _ g => g⟩ ⟨by rw [sz_dr]; omega, fun _ g => g⟩ ⟨by rw [sz_dr]; omega, fun _ g => g⟩), ?_⟩
  simp only [↓List.toList_toArray, ↓rgd, ↓rgf, ↓reduceIte, Nat.reduceEqDiff, rg, ow_138]
  refine hK _ _ ?_; clear hK K
  exact W_ret (endQ_1 (by simp only [upd_eq, Nat.reduceEqDiff, ↓reduceIte] <;> rfl) ⟨rfl, X2.tr x3.od⟩)
set_option maxHeartbeats 400000 in
theorem hi_sub (hi : Nat) (h : hi < 4611686018427387904) : IntKind.i64.wrap ((hi : Int) - 1) = (hi : Int) - 1 := IntWalk.i64_in _ (by omega)
theorem hi_add (hi : Nat) (h : hi < 4611686018427387904) : IntKind.i64.wrap ((hi : Int) - 1 + 1) = (hi : Int) := by rw [IntWalk.i64_in _ (by omega)]; omega
theorem u8_i64 (p : Nat) (h : p < 256) : IntKind.i64.wrap (p : Int) = p := IntWalk.i64_in _ (by omega)
set_option maxHeartbeats 1600000 in
set_option maxRecDepth 8000 in
theorem hint_any (B m b bi oi cap : Nat) (ord : List Int) (ks : List It) (x : It) (ch : Option Addr) (hb dep : Nat) (w : World) (hL : Ls B m w ord) (h2 : rd w b 2 = some (.slice (some ⟨bi, oi, none⟩) ks.length cap)) (h3 : rd w b 3 = some (.pointer ch))
    (row : Row w bi oi (flat E ks)) (hbi : bi < w.heap.size) (hlen : ks.length < 4611686018427387904) (hpos : 0 < ks.length) (ha : Asc O (rkI ord) ks) (hH : HintAt w hb) (hne : hb ≠ b) :
    CallK Try.prog 129 #[ptr m, ptr b, itV x, ptr hb, .int .i64 dep] w fun v w' => v = srchG ord ks x ∧ Ext (hF (some hb)) w w' ∧ HintAt w' hb := by
  refine calls_of_W [.tmp 10, .tmp 11] Try.func129 rfl Try.ntmps129 Try.results129 (by simp) fun e he => ?_
  have e0 : e 0 = ptr m := he 0 _ rfl
  have e1 : e 1 = ptr b := he 1 _ rfl
  have e2 : e 2 = itV x := he 2 _ rfl
  have e3 : e 3 = ptr hb := he 3 _ rfl
  have e4 : e 4 = .int .i64 dep := he 4 _ rfl
  clear he
  refine W_sq fun K hK => (W_text [false, true, true] (by kernel_rfl) ?_); simp only [↓List.toList_toArray, ↓rgd, ↓rgf, ↓reduceIte, Nat.reduceEqDiff, rg, ow_129]
  refine do_box (by simp only [evt]; exact e2) fun w1 n1 => ⟨trivial, ?_⟩
  simp only [↓List.toList_toArray, ↓rgd, ↓rgf, ↓reduceIte, Nat.reduceEqDiff, rg, ow_129]
  refine hK _ _ ?_; clear hK K
  have s1 := n1.size
  have bx1 : Row w1 w.heap.size 0 (E.cel x) := n1.row
  have h2 := n1.ext.rd h2 fun g => g
  have h3 := n1.ext.rd h3 fun g => g
  have row := n1.ext.row row fun _ _ g => g
  have hL := hL.ext0 n1.ext
  have hbl := rd_lt h2
  have hH := hH.ext n1.ext fun _ g => g
  have hhl := wok_lt hH.wok
  have X1 := n1.ext
  clear n1
  obtain ⟨q, hq⟩ : ∃ q, q = w.heap.size := ⟨_, rfl⟩
  rw [← hq] at bx1 s1 ⊢
  obtain ⟨-, -, -, hBm⟩ := id hL
  have hml : m < w1.heap.size := by obtain ⟨lv, hlv, -⟩ := id hL; exact rd_lt hlv
  refine W_fwd 0 (fun e w' => Ext noF w1 w' ∧ e 1 = ptr b ∧ e 3 = ptr hb ∧ e 4 = .int .i64 dep ∧ e 10 = .int .i64 (lb O (rkI ord) (rkI ord x) ks : Nat) ∧ e 11 = .bool (hit O (rkI ord) (rkI ord x) ks)) rfl ?_ ?_
  · clear e0 e1 e2 e3 e4 e
    rintro e w' ⟨XW, e1, e3, e4, e10, e11⟩
    have XX : Ext noF w w' := X1.tr XW
    have hH' := hH.ext XW fun _ g => g
    have h3' := XW.rd h3 fun g => g
    have h2' := XW.rd h2 fun g => g
    have hn0 : ∀ o, ¬ rng hb o 1 b 3 := fun o g => hne g.1.symm
    refine W_sqx fun K hK => ?_
    have hend : ∀ (e : Env) (w2 : World), e 10 = .int .i64 (lb O (rkI ord) (rkI ord x) ks : Nat) → e 11 = .bool (hit O (rkI ord) (rkI ord x) ks) → Ext (hF (some hb)) w w2 → HintAt w2 hb → K e w2 := by
      intro e w2 e10 e11 X H
      refine hK _ _ ?_; clear hK K
      refine W_sq fun K hK => (W_text [true, true, true, true] (by kernel_rfl) ?_); simp only [↓List.toList_toArray, ↓rgd, ↓rgf, ↓reduceIte, Nat.reduceEqDiff, rg, ow_129, e10, e11]
      refine hK _ _ ?_; clear hK K
      refine W_ret ?_
      rw [jump_ret]
      exact endQ_2 (by simp only [upd_eq, Nat.reduceEqDiff, ↓reduceIte]) (by simp only [upd_eq, Nat.reduceEqDiff, ↓reduceIte]) ⟨rfl, X.tr (Ext.dr _ _ _), H.ext (Ext.dr noF _ _) fun _ g => g⟩
    clear hK
    have XH : Ext (hF (some hb)) w w' := XX.mono fun _ _ _ g => g.elim
    by_cases hd : dep < 8
    · have td : decide ((dep : Int) < 8) = true := by simp; omega
      refine W_sq fun K hK => (W_text [true, true] (by kernel_rfl) ?_); simp only [↓List.toList_toArray, ↓rgd, ↓rgf, ↓reduceIte, Nat.reduceEqDiff, rg, ow_129, e4, td]
      refine hK _ _ ?_; clear hK K
      refine W_true (by simp only [evt, evc, upd_eq, Nat.reduceEqDiff, ↓reduceIte, ntT, ntF] <;> rfl) ?_
      refine W_sq fun K hK => (W_text [true, true, true, true, true, false] (by kernel_rfl) ?_); simp only [↓List.toList_toArray, ↓rgd, ↓rgf, ↓reduceIte, Nat.reduceEqDiff, rg, ow_129, e3, e4, ptr_eq, idx_ar, idxA_s, hd]
      refine do_store (v := .bool true) (by simp only [evt, evc, upd_eq, Nat.reduceEqDiff, ↓reduceIte, ntT, ntF] <;> rfl) (by simp only [evt, evc, upd_eq, Nat.reduceEqDiff, ↓reduceIte, ntT, ntF] <;> rfl) sz_4 rfl hH'.wok (by omega) (oc_one rfl rfl) fun w2 x2 r2 s2 => ⟨trivial, ?_⟩
      simp only [↓List.toList_toArray, ↓rgd, ↓rgf, ↓reduceIte, Nat.reduceEqDiff, rg, ow_129]
      refine hK _ _ ?_; clear hK K
      have hH2 := hH'.setU x2 (Row.cons.1 r2).1 hd
      have XH2 := XH.trans x2 (fun _ _ g => g) fun y o _ g => (show hF (some hb) y o from by rw [g.1]; rfl)
      have h3'' : rd w2 b 3 = some (.pointer ch) := x2.rd h3' fun g => hne g.1.symm
      refine W_sq fun K hK => (W_text [true] (by kernel_rfl) ?_); simp only [↓List.toList_toArray, ↓rgd, ↓rgf, ↓reduceIte, Nat.reduceEqDiff, rg, ow_129]
      refine hK _ _ ?_; clear hK K
      refine W_sqx fun K hK => ?_
      have hst : ∀ (e : Env) (k p : Nat), p < 256 → e 3 = ptr hb → e 4 = .int .i64 dep → e 10 = .int .i64 (lb O (rkI ord) (rkI ord x) ks : Nat) → e 11 = .bool (hit O (rkI ord) (rkI ord x) ks) → e 15 = .int .u8 p → K e (dr w2 k) := by
        intro e k p hp e3 e4 e10 e11 e15
        refine hK _ _ ?_; clear hK K
        obtain ⟨p0, hp0, hr0⟩ := hH2.path dep hd
        by_cases hpe : p = p0
        · have tp : ((p : Int) != (p0 : Int)) = false := by simp; omega
          refine W_sq fun K hK => (W_text [true, true, true, true, true, true, true, true] (by kernel_rfl) ?_); simp only [↓List.toList_toArray, ↓rgd, ↓rgf, ↓reduceIte, Nat.reduceEqDiff, rg, ow_129, e3, e4, e15, ptr_eq, idx_ar, idxA_s, hd, hr0, tp]
          refine hK _ _ ?_; clear hK K
          refine W_false (by simp only [evt, evc, upd_eq, Nat.reduceEqDiff, ↓reduceIte, ntT, ntF] <;> rfl) (W_skip ?_)
          simp only [andThen_normal]
          exact hend _ _ (by simp only [upd_eq, Nat.reduceEqDiff, ↓reduceIte]; exact e10) (by simp only [upd_eq, Nat.reduceEqDiff, ↓reduceIte]; exact e11) (XH2.tr (Ext.dr _ _ _)) (hH2.ext (Ext.dr noF _ _) fun _ g => g)
        · have tp : ((p : Int) != (p0 : Int)) = true := by simp; omega
          refine W_sq fun K hK => (W_text [true, true, true, true, true, true, true, true] (by kernel_rfl) ?_); simp only [↓List.toList_toArray, ↓rgd, ↓rgf, ↓reduceIte, Nat.reduceEqDiff, rg, ow_129, e3, e4, e15, ptr_eq, idx_ar, idxA_s, hd, hr0, tp]
          refine hK _ _ ?_; clear hK K
          refine W_true (by simp only [evt, evc, upd_eq, Nat.reduceEqDiff, ↓reduceIte, ntT, ntF] <;> rfl) ?_
          refine W_sq fun K hK => (W_text [true, true, true, true, true, true, false] (by kernel_rfl) ?_); simp only [↓List.toList_toArray, ↓rgd, ↓rgf, ↓reduceIte, Nat.reduceEqDiff, rg, ow_129, e3, e4, e15, ptr_eq, idx_ar, idxA_s, hd]
          refine do_store (v := .int .u8 p) (by simp only [evt, evc, upd_eq, Nat.reduceEqDiff, ↓reduceIte, ntT, ntF] <;> rfl) (by simp only [evt, evc, upd_eq, Nat.reduceEqDiff, ↓reduceIte, ntT, ntF] <;> rfl) sz_5 rfl hH2.wok (by omega) (oc_one rfl rfl) fun w3 x3 r3 s3 => ⟨trivial, ?_⟩
          simp only [↓List.toList_toArray, ↓rgd, ↓rgf, ↓reduceIte, Nat.reduceEqDiff, rg, ow_129]
          refine hK _ _ ?_; clear hK K
          have hH3 := hH2.setP x3.od (Row.cons.1 r3).1 hp
          have XH3 := XH2.trans x3.od (fun _ _ g => g) fun y o _ g => (show hF (some hb) y o from by rw [g.1]; rfl)
          have q1 := wadd1 dep (by omega)
          refine W_sq fun K hK => (W_text [true, true, true] (by kernel_rfl) ?_); simp only [↓List.toList_toArray, ↓rgd, ↓rgf, ↓reduceIte, Nat.reduceEqDiff, rg, ow_129, e4, q1]
          refine hK _ _ ?_; clear hK K
          refine W_block (W_loop (fun mm e w' => ∃ i : Nat, mm = 8 - i ∧ e 3 = ptr hb ∧ e 10 = .int .i64 (lb O (rkI ord) (rkI ord x) ks : Nat) ∧ e 11 = .bool (hit O (rkI ord) (rkI ord x) ks) ∧ e 16 = .int .i64 i ∧ Ext (hF (some hb)) w w' ∧ HintAt w' hb)
            (8 - (dep + 1)) ⟨dep + 1, rfl, by simp only [upd_eq, Nat.reduceEqDiff, ↓reduceIte]; exact e3, by simp only [upd_eq, Nat.reduceEqDiff, ↓reduceIte]; exact e10, by simp only [upd_eq, Nat.reduceEqDiff, ↓reduceIte]; exact e11, by simp only [upd_eq, Nat.reduceEqDiff, ↓reduceIte], XH3.tr (Ext.dr _ _ _), hH3.ext (Ext.dr noF _ _) fun _ g => g⟩ ?_)
          clear e3 e4 e10 e11 e15 e XH3 hH3 XH2
          rintro mm e w' ⟨i, rfl, e3, e10, e11, e16, XL, hL'⟩
          refine W_seq ?_
          by_cases hi : i < 8
          · have ti : decide ((i : Int) < 8) = true := by simp; omega
            refine W_sq fun K hK => (W_text [true, true] (by kernel_rfl) ?_); simp only [↓List.toList_toArray, ↓rgd, ↓rgf, ↓reduceIte, Nat.reduceEqDiff, rg, ow_129, e16, ti]
            refine hK _ _ ?_; clear hK K
            refine W_true (by simp only [evt, evc, upd_eq, Nat.reduceEqDiff, ↓reduceIte, ntT, ntF] <;> rfl) (W_skip ?_)
            show W _ _ _ _ _ _
            refine W_seq (W_block ?_)
            refine W_rg fun K hK => (W_text [true, true, true, true, true, false] (by kernel_rfl) ?_); simp only [↓List.toList_toArray, ↓rgd, ↓rgf, ↓reduceIte, Nat.reduceEqDiff, rg, ow_129, e3, e16, ptr_eq, idx_ar, idxA_s, hi]
            refine do_store (v := .bool false) (by simp only [evt, evc, upd_eq, Nat.reduceEqDiff, ↓reduceIte, ntT, ntF] <;> rfl) (by simp only [evt, evc, upd_eq, Nat.reduceEqDiff, ↓reduceIte, ntT, ntF] <;> rfl) sz_4 rfl hL'.wok (by omega) (oc_one rfl rfl) fun w4 x4 r4 s4 => ⟨trivial, ?_⟩
            simp only [↓List.toList_toArray, ↓rgd, ↓rgf, ↓reduceIte, Nat.reduceEqDiff, rg, ow_129]
            refine hK _ _ ?_; clear hK K
            show W _ _ _ _ _ _
            have q2 := wadd1 i (by omega)
            refine W_rg fun K hK => (W_text [true, true, true] (by kernel_rfl) ?_); simp only [↓List.toList_toArray, ↓rgd, ↓rgf, ↓reduceIte, Nat.reduceEqDiff, rg, ow_129, e16, q2]
            refine hK _ _ ?_; clear hK K
            refine ⟨_, ?_, i + 1, rfl, by simp only [upd_eq, Nat.reduceEqDiff, ↓reduceIte]; exact e3, by simp only [upd_eq, Nat.reduceEqDiff, ↓reduceIte]; exact e10, by simp only [upd_eq, Nat.reduceEqDiff, ↓reduceIte]; exact e11, by simp only [upd_eq, Nat.reduceEqDiff, ↓reduceIte], (XL.trans x4.od (fun _ _ g => g) fun y o _ g => (show hF (some hb) y o from by rw [g.1]; rfl)).tr (Ext.dr _ _ _), (hL'.setU x4.od (Row.cons.1 r4).1 hi).ext (Ext.dr noF _ _) fun _ g => g⟩
            omega
          · have ti : decide ((i : Int) < 8) = false := by simp; omega
            refine W_sq fun K hK => (W_text [true, true] (by kernel_rfl) ?_); simp only [↓List.toList_toArray, ↓rgd, ↓rgf, ↓reduceIte, Nat.reduceEqDiff, rg, ow_129, e16, ti]
            refine hK _ _ ?_; clear hK K
            refine W_false (by simp only [evt, evc, upd_eq, Nat.reduceEqDiff, ↓reduceIte, ntT, ntF] <;> rfl) (W_exit ?_)
            simp only [andThen_exit, inBlk_exit, andThen_normal, ↓reduceIte]
            exact hend _ _ (by simp only [upd_eq, Nat.reduceEqDiff, ↓reduceIte]; exact e10) (by simp only [upd_eq, Nat.reduceEqDiff, ↓reduceIte]; exact e11) (XL.tr (Ext.dr _ _ _)) (hL'.ext (Ext.dr noF _ _) fun _ g => g)
      clear hK
      obtain ⟨p1, hp1, hp1'⟩ := u8_of (IntKind.i64.wrap ((lb O (rkI ord) (rkI ord x) ks : Nat) + 1))
      obtain ⟨p2, hp2, hp2'⟩ := u8_of (lb O (rkI ord) (rkI ord x) ks : Nat)
      cases hci : ch.isNone with
      | true =>
        refine W_sq fun K hK => (W_text [true, false, true, true, true] (by kernel_rfl) ?_); simp only [↓List.toList_toArray, ↓rgd, ↓rgf, ↓reduceIte, Nat.reduceEqDiff, rg, ow_129, e1]
        refine do_call fn_108 (by simp only [evt, evc, upd_eq, Nat.reduceEqDiff, ↓reduceIte, maT, maC, maN, isnN, isnS] <;> rfl) (leaf_any b ch w2 h3'') ?_
        rintro _ w3 ⟨rfl, hw3⟩
        obtain rfl : w2 = w3 := hw3.symm
        refine ⟨trivial, ?_⟩
        cases hht : hit O (rkI ord) (rkI ord x) ks with
        | true =>
          simp only [↓List.toList_toArray, ↓rgd, ↓rgf, ↓reduceIte, Nat.reduceEqDiff, rg, ow_129, hci, e11, hht]
          refine hK _ _ ?_; clear hK K
          refine W_true (by simp only [evt, evc, upd_eq, Nat.reduceEqDiff, ↓reduceIte, ntT, ntF] <;> rfl) ?_
          refine W_rg fun K hK => (W_text [true, true, true, true] (by kernel_rfl) ?_); simp only [↓List.toList_toArray, ↓rgd, ↓rgf, ↓reduceIte, Nat.reduceEqDiff, rg, ow_129, e10, hp1]
          refine hK _ _ ?_; clear hK K
          simp only [andThen_normal]
          exact hst _ _ p1 hp1' (by simp only [upd_eq, Nat.reduceEqDiff, ↓reduceIte]; exact e3) (by simp only [upd_eq, Nat.reduceEqDiff, ↓reduceIte]; exact e4) (by simp only [upd_eq, Nat.reduceEqDiff, ↓reduceIte]; exact e10) (by simp only [upd_eq, Nat.reduceEqDiff, ↓reduceIte]; exact e11) (by simp only [upd_eq, Nat.reduceEqDiff, ↓reduceIte])
        | false =>
          simp only [↓List.toList_toArray, ↓rgd, ↓rgf, ↓reduceIte, Nat.reduceEqDiff, rg, ow_129, hci, e11, hht]
          refine hK _ _ ?_; clear hK K
          refine W_false (by simp only [evt, evc, upd_eq, Nat.reduceEqDiff, ↓reduceIte, ntT, ntF] <;> rfl) ?_
          refine W_rg fun K hK => (W_text [true, true, true] (by kernel_rfl) ?_); simp only [↓List.toList_toArray, ↓rgd, ↓rgf, ↓reduceIte, Nat.reduceEqDiff, rg, ow_129, e10, hp2]
          refine hK _ _ ?_; clear hK K
          simp only [andThen_normal]
          exact hst _ _ p2 hp2' (by simp only [upd_eq, Nat.reduceEqDiff, ↓reduceIte]; exact e3) (by simp only [upd_eq, Nat.reduceEqDiff, ↓reduceIte]; exact e4) (by simp only [upd_eq, Nat.reduceEqDiff, ↓reduceIte]; exact e10) (by simp only [upd_eq, Nat.reduceEqDiff, ↓reduceIte]; exact e11) (by simp only [upd_eq, Nat.reduceEqDiff, ↓reduceIte])
      | false =>
        refine W_sq fun K hK => (W_text [true, false, true, true, true] (by kernel_rfl) ?_); simp only [↓List.toList_toArray, ↓rgd, ↓rgf, ↓reduceIte, Nat.reduceEqDiff, rg, ow_129, e1]
        refine do_call fn_108 (by simp only [evt, evc, upd_eq, Nat.reduceEqDiff, ↓reduceIte, maT, maC, maN, isnN, isnS] <;> rfl) (leaf_any b ch w2 h3'') ?_
        rintro _ w3 ⟨rfl, hw3⟩
        obtain rfl : w2 = w3 := hw3.symm
        refine ⟨trivial, ?_⟩
        simp only [↓List.toList_toArray, ↓rgd, ↓rgf, ↓reduceIte, Nat.reduceEqDiff, rg, ow_129, hci]
        refine hK _ _ ?_; clear hK K
        refine W_false (by simp only [evt, evc, upd_eq, Nat.reduceEqDiff, ↓reduceIte, ntT, ntF] <;> rfl) ?_
        refine W_rg fun K hK => (W_text [true, true, true] (by kernel_rfl) ?_); simp only [↓List.toList_toArray, ↓rgd, ↓rgf, ↓reduceIte, Nat.reduceEqDiff, rg, ow_129, e10, hp2]
        refine hK _ _ ?_; clear hK K
        simp only [andThen_normal]
        exact hst _ _ p2 hp2' (by simp only [upd_eq, Nat.reduceEqDiff, ↓reduceIte]; exact e3) (by simp only [upd_eq, Nat.reduceEqDiff, ↓reduceIte]; exact e4) (by simp only [upd_eq, Nat.reduceEqDiff, ↓reduceIte]; exact e10) (by simp only [upd_eq, Nat.reduceEqDiff, ↓reduceIte]; exact e11) (by simp only [upd_eq, Nat.reduceEqDiff, ↓reduceIte])
    · have td : decide ((dep : Int) < 8) = false := by simp; omega
      refine W_sq fun K hK => (W_text [true, true] (by kernel_rfl) ?_); simp only [↓List.toList_toArray, ↓rgd, ↓rgf, ↓reduceIte, Nat.reduceEqDiff, rg, ow_129, e4, td]
      refine hK _ _ ?_; clear hK K
      refine W_false (by simp only [evt, evc, upd_eq, Nat.reduceEqDiff, ↓reduceIte, ntT, ntF] <;> rfl) (W_skip ?_)
      simp only [andThen_normal]
      exact hend _ _ (by simp only [upd_eq, Nat.reduceEqDiff, ↓reduceIte]; exact e10) (by simp only [upd_eq, Nat.reduceEqDiff, ↓reduceIte]; exact e11) (XH.tr (Ext.dr _ _ _)) (hH'.ext (Ext.dr noF _ _) fun _ g => g)
  · intro hon
    refine W_sq fun K hK => (W_text [true] (by kernel_rfl) ?_); simp only [↓List.toList_toArray, ↓rgd, ↓rgf, ↓reduceIte, Nat.reduceEqDiff, rg, ow_129]
    refine hK _ _ ?_; clear hK K
    have q0 := hi_sub ks.length hlen
    refine W_sq fun K hK => (W_text [true, true, true, true, true, true, true] (by kernel_rfl) ?_); simp only [↓List.toList_toArray, ↓rgd, ↓rgf, ↓reduceIte, Nat.reduceEqDiff, rg, ow_129, e1, ptr_eq, h2, q0]
    refine hK _ _ ?_; clear hK K
    refine W_sqx fun K hK => ?_
    have hloop : ∀ (e : Env) (w' : World) (lo hi : Nat), Ext noF w1 w' → lo ≤ hi → hi ≤ ks.length → e 0 = ptr m → e 1 = ptr b → e 3 = ptr hb → e 4 = .int .i64 dep → e 7 = ptr q → e 12 = .int .i64 lo → e 13 = .int .i64 ((hi : Int) - 1) →
        (∀ i y, i < lo → ks[i]? = some y → O.lt (rkI ord x) (rkI ord y) = false) → (∀ i y, hi ≤ i → ks[i]? = some y → O.lt (rkI ord x) (rkI ord y) = true) → K e w' := by
      clear e0 e1 e2 e3 e4 e
      intro e w' lo hi XW hle hhi e0 e1 e3 e4 e7 e12 e13 hlo hup
      refine hK _ _ ?_; clear hK K
      refine W_seq ?_
      refine W_block (W_loop (fun mm e w' => Ext noF w1 w' ∧ ∃ lo hi : Nat, mm = hi - lo ∧ lo ≤ hi ∧ hi ≤ ks.length ∧ e 0 = ptr m ∧ e 1 = ptr b ∧ e 3 = ptr hb ∧ e 4 = .int .i64 dep ∧ e 7 = ptr q ∧ e 12 = .int .i64 lo ∧ e 13 = .int .i64 ((hi : Int) - 1) ∧
        (∀ i y, i < lo → ks[i]? = some y → O.lt (rkI ord x) (rkI ord y) = false) ∧ (∀ i y, hi ≤ i → ks[i]? = some y → O.lt (rkI ord x) (rkI ord y) = true)) (hi - lo) ⟨XW, lo, hi, rfl, hle, hhi, e0, e1, e3, e4, e7, e12, e13, hlo, hup⟩ ?_)
      clear e0 e1 e3 e4 e7 e12 e13 e XW hle hhi hlo hup w' lo hi
      rintro mm e w' ⟨XW, lo, hi, rfl, hle, hhi, e0, e1, e3, e4, e7, e12, e13, hlo, hup⟩
      have sw := XW.size
      have h2' := XW.rd h2 fun g => g
      have row' := XW.row row fun _ _ g => g
      have bx' := iX_at (XW.row bx1 fun _ _ g => g)
      have hL' := hL.ext0 XW
      refine W_seq ?_
      by_cases hlt : lo < hi
      · have ht : decide ((lo : Int) ≤ (hi : Int) - 1) = true := by simp; omega
        refine W_sq fun K hK => (W_text [true, true, true] (by kernel_rfl) ?_); simp only [↓List.toList_toArray, ↓rgd, ↓rgf, ↓reduceIte, Nat.reduceEqDiff, rg, ow_129, e12, e13, ht]
        refine hK _ _ ?_; clear hK K
        refine W_true (by simp only [evt, evc, upd_eq, Nat.reduceEqDiff, ↓reduceIte, ntT, ntF] <;> rfl) (W_skip ?_)
        show W _ _ _ _ _ _
        have q1 := hi_add hi (by omega)
        have q2 := wsub hi lo hle (by omega)
        have q3 := wdiv2 (hi - lo) (by omega)
        have q4 := wadd lo ((hi - lo) / 2) (by omega)
        refine W_block ?_
        refine W_sq fun K hK => (W_text [true, true, true, true, true, true, true, true] (by kernel_rfl) ?_); simp only [↓List.toList_toArray, ↓rgd, ↓rgf, ↓reduceIte, Nat.reduceEqDiff, rg, ow_129, e12, e13, q1, q2, q3, q4]
        refine hK _ _ ?_; clear hK K
        obtain ⟨md, hmd⟩ : ∃ md, md = lo + (hi - lo) / 2 := ⟨_, rfl⟩
        rw [← hmd]
        obtain ⟨y, hy⟩ : ∃ y, ks[md]? = some y := ⟨_, List.getElem?_eq_getElem (by omega)⟩
        have hk := it_at row' hy
        have hi1 : md < ks.length := by omega
        refine W_sq fun K hK => (W_free (some none) (.take 0 (.take 1 (.take 2 (.take 3 (.take 4 (.take 5 (.take 6 (.take 7 (.take 8 (.bar 9 (.take 10 .nil))))))))))) mixed (by kernel_rfl) ?_); simp only [↓List.toList_toArray, ↓rgd, ↓rgf, ↓reduceIte, Nat.reduceEqDiff, rg, ow_129, e0, e1, e7, ptr_eq, h2', hi1, hk, bx']
        refine do_call fn_138 (by simp only [evt, evc, upd_eq, Nat.reduceEqDiff, ↓reduceIte, maT, maC, maN, isnN, isnS] <;> rfl) (less_any B m ord x y _ (hL'.ext0 (Ext.dr noF _ _))) ?_
        rintro _ w2 ⟨rfl, x2⟩
        refine ⟨trivial, ?_⟩
        simp only [↓List.toList_toArray, ↓rgd, ↓rgf, ↓reduceIte, Nat.reduceEqDiff, rg, ow_129]
        refine hK _ _ ?_; clear hK K
        have X2 := XW.tr x2.od
        cases hq : O.lt (rkI ord x) (rkI ord y) with
        | true =>
          refine W_false (by simp only [evt, upd_eq, ↓reduceIte, ntT, ntF]) ?_
          have e5 := hi_sub md (by omega)
          refine W_rg fun K hK => (W_text [true, true, true] (by kernel_rfl) ?_); simp only [↓List.toList_toArray, ↓rgd, ↓rgf, ↓reduceIte, Nat.reduceEqDiff, rg, ow_129, e5]
          refine hK _ _ ?_; clear hK K
          refine ⟨_, ?_, X2.tr (Ext.dr _ _ _), lo, md, rfl, by omega, by omega, ?_, ?_, ?_, ?_, ?_, ?_, ?_, hlo, ?_⟩
          · omega
          · simp only [upd_eq, Nat.reduceEqDiff, ↓reduceIte]; exact e0
          · simp only [upd_eq, Nat.reduceEqDiff, ↓reduceIte]; exact e1
          · simp only [upd_eq, Nat.reduceEqDiff, ↓reduceIte]; exact e3
          · simp only [upd_eq, Nat.reduceEqDiff, ↓reduceIte]; exact e4
          · simp only [upd_eq, Nat.reduceEqDiff, ↓reduceIte]; exact e7
          · simp only [upd_eq, Nat.reduceEqDiff, ↓reduceIte]; exact e12
          · simp only [upd_eq, Nat.reduceEqDiff, ↓reduceIte]
          · intro i z hi' hz
            by_cases he : i = md
            · subst he; rw [hy] at hz; cases hz; exact hq
            · have hsp := List.pairwise_iff_getElem.1 ha md i (by omega) (List.getElem?_eq_some_iff.1 hz).1 (by omega)
              rw [(List.getElem?_eq_some_iff.1 hy).2, (List.getElem?_eq_some_iff.1 hz).2] at hsp
              exact O.tr _ _ _ hq hsp
        | false =>
          refine W_true (by simp only [evt, upd_eq, ↓reduceIte, ntT, ntF]) ?_
          have e5 := wadd1 md (by omega)
          refine W_rg fun K hK => (W_text [true, true, true] (by kernel_rfl) ?_); simp only [↓List.toList_toArray, ↓rgd, ↓rgf, ↓reduceIte, Nat.reduceEqDiff, rg, ow_129, e5]
          refine hK _ _ ?_; clear hK K
          refine ⟨_, ?_, X2.tr (Ext.dr _ _ _), md + 1, hi, rfl, by omega, by omega, ?_, ?_, ?_, ?_, ?_, ?_, ?_, ?_, hup⟩
          · omega
          · simp only [upd_eq, Nat.reduceEqDiff, ↓reduceIte]; exact e0
          · simp only [upd_eq, Nat.reduceEqDiff, ↓reduceIte]; exact e1
          · simp only [upd_eq, Nat.reduceEqDiff, ↓reduceIte]; exact e3
          · simp only [upd_eq, Nat.reduceEqDiff, ↓reduceIte]; exact e4
          · simp only [upd_eq, Nat.reduceEqDiff, ↓reduceIte]; exact e7
          · simp only [upd_eq, Nat.reduceEqDiff, ↓reduceIte]
          · simp only [upd_eq, Nat.reduceEqDiff, ↓reduceIte]; exact e13
          · intro i z hi' hz
            by_cases he : i = md
            · subst he; rw [hy] at hz; cases hz; exact hq
            · have hsp := List.pairwise_iff_getElem.1 ha i md (List.getElem?_eq_some_iff.1 hz).1 (by omega) (by omega)
              rw [(List.getElem?_eq_some_iff.1 hy).2, (List.getElem?_eq_some_iff.1 hz).2] at hsp
              cases hqy : O.lt (rkI ord x) (rkI ord z) with
              | false => rfl
              | true => have := O.tr _ _ _ hqy hsp; rw [hq] at this; cases this
      · obtain rfl : lo = hi := by omega
        have ht : decide ((lo : Int) ≤ (lo : Int) - 1) = false := by simp; omega
        refine W_sq fun K hK => (W_text [true, true, true] (by kernel_rfl) ?_); simp only [↓List.toList_toArray, ↓rgd, ↓rgf, ↓reduceIte, Nat.reduceEqDiff, rg, ow_129, e12, e13, ht]
        refine hK _ _ ?_; clear hK K
        refine W_false (by simp only [evt, evc, upd_eq, Nat.reduceEqDiff, ↓reduceIte, ntT, ntF] <;> rfl) (W_exit ?_)
        simp only [andThen_exit, inBlk_exit, andThen_normal, ↓reduceIte]
        refine W_sqx fun K hK => ?_
        have hlab : ∀ (e : Env) (w' : World), Ext noF w1 w' → e 1 = ptr b → e 3 = ptr hb → e 4 = .int .i64 dep → e 10 = .int .i64 (lb O (rkI ord) (rkI ord x) ks : Nat) → e 11 = .bool (hit O (rkI ord) (rkI ord x) ks) → K e w' :=
          fun e w' X g1 g3 g4 g10 g11 => hK _ _ (W_seq (W_label (by
            simp only [andThen_normal]
            exact hon _ _ ⟨X, g1, g3, g4, g10, g11⟩)))
        clear hK
        by_cases h00 : 0 < lo
        · obtain ⟨y, hy⟩ : ∃ y, ks[lo - 1]? = some y := ⟨_, List.getElem?_eq_getElem (by omega)⟩
          have hk := it_at row' hy
          have hi1 : lo - 1 < ks.length := by omega
          have e5 := wsub1 lo h00 (by omega)
          have ht0 : decide (0 < (lo : Int)) = true := by simp; omega
          refine W_sq fun K hK => (W_free (some none) (.take 0 (.take 1 (.take 2 (.take 3 (.take 4 (.take 5 (.take 6 (.take 7 (.take 8 (.take 9 (.take 10 (.take 11 (.take 12 (.bar 13 (.take 14 (.take 15 .nil)))))))))))))))) mixed (by kernel_rfl) ?_); simp only [↓List.toList_toArray, ↓rgd, ↓rgf, ↓reduceIte, Nat.reduceEqDiff, rg, ow_129, e0, e1, e7, e12, ptr_eq, h2', hi1, hk, bx', ht0, e5]
          refine do_call fn_138 (by simp only [evt, evc, upd_eq, Nat.reduceEqDiff, ↓reduceIte, maT, maC, maN, isnN, isnS] <;> rfl) (less_any B m ord y x _ (hL'.ext0 (Ext.dr noF _ _))) ?_
          rintro _ w2 ⟨rfl, x2⟩
          refine ⟨trivial, ?_⟩
          simp only [↓List.toList_toArray, ↓rgd, ↓rgf, ↓reduceIte, Nat.reduceEqDiff, rg, ow_129]
          refine hK _ _ ?_; clear hK K
          have X2 := XW.tr x2.od
          cases hq : O.lt (rkI ord y) (rkI ord x) with
          | true =>
            obtain ⟨f1, f2⟩ := missed_at O (rkI ord) ha (q := rkI ord x) (u := lo) hhi (fun z hz => hup lo z (Nat.le_refl _) hz) (fun z _ hz => by rw [hy] at hz; cases hz; exact hq)
            refine W_false (by simp only [evt, upd_eq, ↓reduceIte, ntT, ntF]) ?_
            refine W_sq fun K hK => (W_text [true, true] (by kernel_rfl) ?_); simp only [↓List.toList_toArray, ↓rgd, ↓rgf, ↓reduceIte, Nat.reduceEqDiff, rg, ow_129, e12]
            refine hK _ _ ?_; clear hK K
            refine W_rg fun K hK => (W_text [true] (by kernel_rfl) ?_); simp only [↓List.toList_toArray, ↓rgd, ↓rgf, ↓reduceIte, Nat.reduceEqDiff, rg, ow_129]
            refine hK _ _ ?_; clear hK K
            simp only [andThen_normal]
            exact hlab _ _ (X2.tr (Ext.dr _ _ _)) (by simp only [upd_eq, Nat.reduceEqDiff, ↓reduceIte]; exact e1) (by simp only [upd_eq, Nat.reduceEqDiff, ↓reduceIte]; exact e3) (by simp only [upd_eq, Nat.reduceEqDiff, ↓reduceIte]; exact e4) (by simp only [upd_eq, Nat.reduceEqDiff, ↓reduceIte]; rw [f1]) (by simp only [upd_eq, Nat.reduceEqDiff, ↓reduceIte]; rw [f2])
          | false =>
            obtain ⟨f1, f2⟩ := found_at O (rkI ord) ha (q := rkI ord x) (u := lo) hhi hlo (fun z hz => hup lo z (Nat.le_refl _) hz) h00 hy hq
            refine W_true (by simp only [evt, upd_eq, ↓reduceIte, ntT, ntF]) ?_
            refine W_sq fun K hK => (W_text [true, true, true] (by kernel_rfl) ?_); simp only [↓List.toList_toArray, ↓rgd, ↓rgf, ↓reduceIte, Nat.reduceEqDiff, rg, ow_129, e12, e5]
            refine hK _ _ ?_; clear hK K
            refine W_rg fun K hK => (W_text [true] (by kernel_rfl) ?_); simp only [↓List.toList_toArray, ↓rgd, ↓rgf, ↓reduceIte, Nat.reduceEqDiff, rg, ow_129]
            refine hK _ _ ?_; clear hK K
            simp only [andThen_normal]
            exact hlab _ _ (X2.tr (Ext.dr _ _ _)) (by simp only [upd_eq, Nat.reduceEqDiff, ↓reduceIte]; exact e1) (by simp only [upd_eq, Nat.reduceEqDiff, ↓reduceIte]; exact e3) (by simp only [upd_eq, Nat.reduceEqDiff, ↓reduceIte]; exact e4) (by simp only [upd_eq, Nat.reduceEqDiff, ↓reduceIte]; rw [f1]) (by simp only [upd_eq, Nat.reduceEqDiff, ↓reduceIte]; rw [f2])
        · have ht0 : decide (0 < (lo : Int)) = false := by simp; omega
          refine W_sq fun K hK => (W_free (some none) (.take 0 (.take 1 (.take 2 (.take 3 (.take 4 (.take 5 (.take 6 (.take 7 (.take 8 (.take 9 (.take 10 (.take 11 (.take 12 (.bar 13 (.take 14 (.take 15 .nil)))))))))))))))) mixed (by kernel_rfl) ?_); simp only [↓List.toList_toArray, ↓rgd, ↓rgf, ↓reduceIte, Nat.reduceEqDiff, rg, ow_129, e12, ht0]
          refine hK _ _ ?_; clear hK K
          obtain ⟨f1, f2⟩ := missed_at O (rkI ord) ha (q := rkI ord x) (u := lo) hhi (fun z hz => hup lo z (Nat.le_refl _) hz) (fun z h _ => by omega)
          refine W_false (by simp only [evt, evc, upd_eq, Nat.reduceEqDiff, ↓reduceIte, ntT, ntF] <;> rfl) ?_
          refine W_sq fun K hK => (W_text [true, true] (by kernel_rfl) ?_); simp only [↓List.toList_toArray, ↓rgd, ↓rgf, ↓reduceIte, Nat.reduceEqDiff, rg, ow_129, e12]
          refine hK _ _ ?_; clear hK K
          refine W_rg fun K hK => (W_text [true] (by kernel_rfl) ?_); simp only [↓List.toList_toArray, ↓rgd, ↓rgf, ↓reduceIte, Nat.reduceEqDiff, rg, ow_129]
          refine hK _ _ ?_; clear hK K
          simp only [andThen_normal]
          exact hlab _ _ (XW.tr (Ext.dr _ _ _)) (by simp only [upd_eq, Nat.reduceEqDiff, ↓reduceIte]; exact e1) (by simp only [upd_eq, Nat.reduceEqDiff, ↓reduceIte]; exact e3) (by simp only [upd_eq, Nat.reduceEqDiff, ↓reduceIte]; exact e4) (by simp only [upd_eq, Nat.reduceEqDiff, ↓reduceIte]; rw [f1]) (by simp only [upd_eq, Nat.reduceEqDiff, ↓reduceIte]; rw [f2])
    clear hK
    by_cases hd : dep < 8
    · have td : decide ((dep : Int) < 8) = true := by simp; omega
      obtain ⟨u, hu⟩ := hH.used dep hd
      cases u with
      | false =>
        refine W_sq fun K hK => (W_text [true, true, true, true, true, true, true, true, true, true] (by kernel_rfl) ?_); simp only [↓List.toList_toArray, ↓rgd, ↓rgf, ↓reduceIte, Nat.reduceEqDiff, rg, ow_129, e3, e4, td, ptr_eq, idx_ar, idxA_s, hd, hu]
        refine hK _ _ ?_; clear hK K
        refine W_false (by simp only [evt, evc, upd_eq, Nat.reduceEqDiff, ↓reduceIte, ntT, ntF] <;> rfl) (W_skip ?_)
        simp only [andThen_normal]
        refine hloop _ _ 0 ks.length (Ext.dr _ _ _) (Nat.zero_le _) (Nat.le_refl _) (by simp only [upd_eq, Nat.reduceEqDiff, ↓reduceIte]; exact e0) (by simp only [upd_eq, Nat.reduceEqDiff, ↓reduceIte]; exact e1) (by simp only [upd_eq, Nat.reduceEqDiff, ↓reduceIte]; exact e3) (by simp only [upd_eq, Nat.reduceEqDiff, ↓reduceIte]; exact e4) (by simp only [upd_eq, Nat.reduceEqDiff, ↓reduceIte]; rfl) (by simp only [upd_eq, Nat.reduceEqDiff, ↓reduceIte]; rfl) (by simp only [upd_eq, Nat.reduceEqDiff, ↓reduceIte]) (fun i y hi => by omega) (fun i y hi hx => by have := (List.getElem?_eq_some_iff.1 hx).1; omega)
      | true =>
        refine W_sq fun K hK => (W_text [true, true, true, true, true, true, true, true, true, true] (by kernel_rfl) ?_); simp only [↓List.toList_toArray, ↓rgd, ↓rgf, ↓reduceIte, Nat.reduceEqDiff, rg, ow_129, e3, e4, td, ptr_eq, idx_ar, idxA_s, hd, hu]
        refine hK _ _ ?_; clear hK K
        refine W_true (by simp only [evt, evc, upd_eq, Nat.reduceEqDiff, ↓reduceIte, ntT, ntF] <;> rfl) ?_
        obtain ⟨p, hp, hr⟩ := hH.path dep hd
        have p1 := u8_i64 p hp
        refine W_sq fun K hK => (W_text [true, true, true, true, true, true, true, true] (by kernel_rfl) ?_); simp only [↓List.toList_toArray, ↓rgd, ↓rgf, ↓reduceIte, Nat.reduceEqDiff, rg, ow_129, e3, e4, ptr_eq, idx_ar, idxA_s, hd, hr, p1]
        refine hK _ _ ?_; clear hK K
        have hz : ∀ (i : Nat) y, ks[i]? = some y → ∀ j z, i < j → ks[j]? = some z → O.lt (rkI ord y) (rkI ord z) = true := fun i y hy j z hij hz => by
          have hsp := List.pairwise_iff_getElem.1 ha i j (List.getElem?_eq_some_iff.1 hy).1 (List.getElem?_eq_some_iff.1 hz).1 hij
          rwa [(List.getElem?_eq_some_iff.1 hy).2, (List.getElem?_eq_some_iff.1 hz).2] at hsp
        refine W_sqx fun K2 hK2 => ?_
        have hidx : ∀ (e : Env) (w' : World) (i : Nat), i < ks.length → Ext noF w1 w' → e 0 = ptr m → e 1 = ptr b → e 3 = ptr hb → e 4 = .int .i64 dep → e 7 = ptr q → e 10 = .int .i64 i → e 11 = .bool false → e 12 = .int .i64 (0 : Nat) →
            e 13 = .int .i64 ((ks.length : Int) - 1) → K2 e w' := by
          clear e0 e1 e2 e3 e4 e
          intro e w' i hi XW e0 e1 e3 e4 e7 e10 e11 e12 e13
          refine hK2 _ _ ?_; clear hK2 K2
          have sw := XW.size
          have h2' := XW.rd h2 fun g => g
          have row' := XW.row row fun _ _ g => g
          have bx' := iX_at (XW.row bx1 fun _ _ g => g)
          have hL' := hL.ext0 XW
          obtain ⟨y, hy⟩ : ∃ y, ks[i]? = some y := ⟨_, List.getElem?_eq_getElem hi⟩
          have hk := it_at row' hy
          refine W_sq fun K hK => (W_free (some none) (.take 0 (.take 1 (.take 2 (.take 3 (.take 4 (.take 5 (.take 6 (.take 7 (.take 8 (.bar 9 .nil)))))))))) mixed (by kernel_rfl) ?_); simp only [↓List.toList_toArray, ↓rgd, ↓rgf, ↓reduceIte, Nat.reduceEqDiff, rg, ow_129, e0, e1, e7, e10, ptr_eq, h2', hi, hk, bx']
          refine do_call fn_138 (by simp only [evt, evc, upd_eq, Nat.reduceEqDiff, ↓reduceIte, maT, maC, maN, isnN, isnS] <;> rfl) (less_any B m ord x y _ (hL'.ext0 (Ext.dr noF _ _))) ?_
          rintro _ w2 ⟨rfl, x2⟩
          refine ⟨trivial, ?_⟩
          simp only [↓List.toList_toArray, ↓rgd, ↓rgf, ↓reduceIte, Nat.reduceEqDiff, rg, ow_129]
          refine hK _ _ ?_; clear hK K
          have X2 := XW.tr x2.od
          have s2 := X2.size
          have h2'' := X2.rd h2 fun g => g
          have row'' := X2.row row fun _ _ g => g
          have bx'' := iX_at (X2.row bx1 fun _ _ g => g)
          have hL'' := hL.ext0 X2
          have hk2 := it_at row'' hy
          cases hq : O.lt (rkI ord x) (rkI ord y) with
          | true =>
            refine W_true (by simp only [evt, upd_eq, ↓reduceIte, ntT, ntF]) ?_
            have up : ∀ j z, i ≤ j → ks[j]? = some z → O.lt (rkI ord x) (rkI ord z) = true := fun j z hij hjz => by
              by_cases he : j = i
              · subst he; rw [hy] at hjz; cases hjz; exact hq
              · exact O.tr _ _ _ hq (hz i y hy j z (by omega) hjz)
            refine W_seq ?_
            by_cases h00 : i = 0
            · have t0 : ((i : Int) == 0) = true := by simp; omega
              refine W_sq fun K hK => (W_free (some none) (.take 0 (.take 1 (.take 2 (.take 3 (.take 4 (.take 5 (.take 6 (.take 7 (.take 8 (.take 9 (.take 10 (.take 11 (.take 12 (.bar 13 (.take 14 .nil))))))))))))))) mixed (by kernel_rfl) ?_); simp only [↓List.toList_toArray, ↓rgd, ↓rgf, ↓reduceIte, Nat.reduceEqDiff, rg, ow_129, e10, t0]
              refine hK _ _ ?_; clear hK K
              obtain ⟨f1, f2⟩ := missed_at O (rkI ord) ha (q := rkI ord x) (u := i) (by omega) (fun z hz => up i z (Nat.le_refl _) hz) (fun z h _ => by omega)
              refine W_true (by simp only [evt, evc, upd_eq, Nat.reduceEqDiff, ↓reduceIte, ntT, ntF] <;> rfl) (W_goto ?_)
              simp only [andThen_goto, jump_goto]
              exact ⟨trivial, X2.tr (Ext.dr _ _ _), (by simp only [upd_eq, Nat.reduceEqDiff, ↓reduceIte]; exact e1), (by simp only [upd_eq, Nat.reduceEqDiff, ↓reduceIte]; exact e3), (by simp only [upd_eq, Nat.reduceEqDiff, ↓reduceIte]; exact e4), (by simp only [upd_eq, Nat.reduceEqDiff, ↓reduceIte]; rw [f1]; exact e10), (by simp only [upd_eq, Nat.reduceEqDiff, ↓reduceIte]; rw [f2]; exact e11)⟩
            · have t0 : ((i : Int) == 0) = false := by simp; omega
              obtain ⟨y0, hy0⟩ : ∃ y, ks[i - 1]? = some y := ⟨_, List.getElem?_eq_getElem (by omega)⟩
              have hk0 := it_at row'' hy0
              have hi1 : i - 1 < ks.length := by omega
              have e5 := wsub1 i (by omega) (by omega)
              refine W_sq fun K hK => (W_free (some none) (.take 0 (.take 1 (.take 2 (.take 3 (.take 4 (.take 5 (.take 6 (.take 7 (.take 8 (.take 9 (.take 10 (.take 11 (.take 12 (.bar 13 (.take 14 .nil))))))))))))))) mixed (by kernel_rfl) ?_); simp only [↓List.toList_toArray, ↓rgd, ↓rgf, ↓reduceIte, Nat.reduceEqDiff, rg, ow_129, e0, e1, e7, e10, ptr_eq, h2'', hi1, hk0, bx'', t0, e5]
              refine do_call fn_138 (by simp only [evt, evc, upd_eq, Nat.reduceEqDiff, ↓reduceIte, maT, maC, maN, isnN, isnS] <;> rfl) (less_any B m ord y0 x _ (hL''.ext0 (Ext.dr noF _ _))) ?_
              rintro _ w3 ⟨rfl, x3⟩
              refine ⟨trivial, ?_⟩
              simp only [↓List.toList_toArray, ↓rgd, ↓rgf, ↓reduceIte, Nat.reduceEqDiff, rg, ow_129]
              refine hK _ _ ?_; clear hK K
              have X3 := X2.tr x3.od
              cases hq0 : O.lt (rkI ord y0) (rkI ord x) with
              | true =>
                obtain ⟨f1, f2⟩ := missed_at O (rkI ord) ha (q := rkI ord x) (u := i) (by omega) (fun z hz => up i z (Nat.le_refl _) hz) (fun z _ hz => by rw [hy0] at hz; cases hz; exact hq0)
                refine W_true (by simp only [evt, upd_eq, ↓reduceIte, ntT, ntF]) (W_goto ?_)
                simp only [andThen_goto, jump_goto]
                exact ⟨trivial, X3.tr (Ext.dr _ _ _), (by simp only [upd_eq, Nat.reduceEqDiff, ↓reduceIte]; exact e1), (by simp only [upd_eq, Nat.reduceEqDiff, ↓reduceIte]; exact e3), (by simp only [upd_eq, Nat.reduceEqDiff, ↓reduceIte]; exact e4), (by simp only [upd_eq, Nat.reduceEqDiff, ↓reduceIte]; rw [f1]; exact e10), (by simp only [upd_eq, Nat.reduceEqDiff, ↓reduceIte]; rw [f2]; exact e11)⟩
              | false =>
                refine W_false (by simp only [evt, upd_eq, ↓reduceIte, ntT, ntF]) (W_skip ?_)
                show W _ _ _ _ _ _
                have e6 := hi_sub i (by omega)
                refine W_rg fun K hK => (W_text [true, true, true] (by kernel_rfl) ?_); simp only [↓List.toList_toArray, ↓rgd, ↓rgf, ↓reduceIte, Nat.reduceEqDiff, rg, ow_129, e10, e6]
                refine hK _ _ ?_; clear hK K
                simp only [andThen_normal]
                exact hloop _ _ 0 i (X3.tr (Ext.dr _ _ _)) (Nat.zero_le _) (by omega) (by simp only [upd_eq, Nat.reduceEqDiff, ↓reduceIte]; exact e0) (by simp only [upd_eq, Nat.reduceEqDiff, ↓reduceIte]; exact e1) (by simp only [upd_eq, Nat.reduceEqDiff, ↓reduceIte]; exact e3) (by simp only [upd_eq, Nat.reduceEqDiff, ↓reduceIte]; exact e4) (by simp only [upd_eq, Nat.reduceEqDiff, ↓reduceIte]; exact e7) (by simp only [upd_eq, Nat.reduceEqDiff, ↓reduceIte]; exact e12) (by simp only [upd_eq, Nat.reduceEqDiff, ↓reduceIte]) (fun i y hi => by omega) up
          | false =>
            refine W_false (by simp only [evt, upd_eq, ↓reduceIte, ntT, ntF]) ?_
            refine W_sq fun K hK => (W_free (some none) (.take 0 (.take 1 (.take 2 (.take 3 (.take 4 (.take 5 (.take 6 (.take 7 (.take 8 (.bar 9 .nil)))))))))) mixed (by kernel_rfl) ?_); simp only [↓List.toList_toArray, ↓rgd, ↓rgf, ↓reduceIte, Nat.reduceEqDiff, rg, ow_129, e0, e1, e7, e10, ptr_eq, h2'', hi, hk2, bx'']
            refine do_call fn_138 (by simp only [evt, evc, upd_eq, Nat.reduceEqDiff, ↓reduceIte, maT, maC, maN, isnN, isnS] <;> rfl) (less_any B m ord y x _ (hL''.ext0 (Ext.dr noF _ _))) ?_
            rintro _ w3 ⟨rfl, x3⟩
            refine ⟨trivial, ?_⟩
            simp only [↓List.toList_toArray, ↓rgd, ↓rgf, ↓reduceIte, Nat.reduceEqDiff, rg, ow_129]
            refine hK _ _ ?_; clear hK K
            have X3 := X2.tr x3.od
            have low : ∀ j z, j < i + 1 → ks[j]? = some z → O.lt (rkI ord x) (rkI ord z) = false := fun j z hij hjz => by
              by_cases he : j = i
              · subst he; rw [hy] at hjz; cases hjz; exact hq
              · cases hqz : O.lt (rkI ord x) (rkI ord z) with
                | false => rfl
                | true => have := O.tr _ _ _ hqz (hz j z hjz i y (by omega) hy); rw [hq] at this; cases this
            cases hq0 : O.lt (rkI ord y) (rkI ord x) with
            | true =>
              refine W_true (by simp only [evt, upd_eq, ↓reduceIte, ntT, ntF]) ?_
              have e6 := wadd1 i (by omega)
              refine W_rg fun K hK => (W_text [true, true, true] (by kernel_rfl) ?_); simp only [↓List.toList_toArray, ↓rgd, ↓rgf, ↓reduceIte, Nat.reduceEqDiff, rg, ow_129, e10, e6]
              refine hK _ _ ?_; clear hK K
              simp only [andThen_normal]
              exact hloop _ _ (i + 1) ks.length (X3.tr (Ext.dr _ _ _)) hi (Nat.le_refl _) (by simp only [upd_eq, Nat.reduceEqDiff, ↓reduceIte]; exact e0) (by simp only [upd_eq, Nat.reduceEqDiff, ↓reduceIte]; exact e1) (by simp only [upd_eq, Nat.reduceEqDiff, ↓reduceIte]; exact e3) (by simp only [upd_eq, Nat.reduceEqDiff, ↓reduceIte]; exact e4) (by simp only [upd_eq, Nat.reduceEqDiff, ↓reduceIte]; exact e7) (by simp only [upd_eq, Nat.reduceEqDiff, ↓reduceIte]) (by simp only [upd_eq, Nat.reduceEqDiff, ↓reduceIte]; exact e13) low (fun i y hi hx => by have := (List.getElem?_eq_some_iff.1 hx).1; omega)
            | false =>
              have hxy := O.tot _ _ hq0 hq
              obtain ⟨f1, f2⟩ := found_at O (rkI ord) ha (q := rkI ord x) (u := i + 1) hi low (fun z hjz => by rw [← hxy]; exact hz i y hy (i + 1) z (by omega) hjz) (by omega) hy hq0
              refine W_false (by simp only [evt, upd_eq, ↓reduceIte, ntT, ntF]) ?_
              refine W_sq fun K hK => (W_text [true] (by kernel_rfl) ?_); simp only [↓List.toList_toArray, ↓rgd, ↓rgf, ↓reduceIte, Nat.reduceEqDiff, rg, ow_129]
              refine hK _ _ ?_; clear hK K
              refine W_goto ?_
              simp only [andThen_goto, jump_goto]
              exact ⟨trivial, X3.tr (Ext.dr _ _ _), (by simp only [upd_eq, Nat.reduceEqDiff, ↓reduceIte]; exact e1), (by simp only [upd_eq, Nat.reduceEqDiff, ↓reduceIte]; exact e3), (by simp only [upd_eq, Nat.reduceEqDiff, ↓reduceIte]; exact e4), (by simp only [upd_eq, Nat.reduceEqDiff, ↓reduceIte]; rw [f1]; exact e10), (by simp only [upd_eq, Nat.reduceEqDiff, ↓reduceIte]; rw [f2])⟩
        clear hK2
        by_cases hpl : p < ks.length
        · have tp : decide ((ks.length : Int) ≤ (p : Int)) = false := by simp; omega
          refine W_sq fun K hK => (W_text [true, true, true, true, true, true, true] (by kernel_rfl) ?_); simp only [↓List.toList_toArray, ↓rgd, ↓rgf, ↓reduceIte, Nat.reduceEqDiff, rg, ow_129, e1, ptr_eq, h2, tp]
          refine hK _ _ ?_; clear hK K
          refine W_false (by simp only [evt, evc, upd_eq, Nat.reduceEqDiff, ↓reduceIte, ntT, ntF] <;> rfl) (W_skip ?_)
          simp only [andThen_normal]
          exact hidx _ _ p hpl (Ext.dr _ _ _) (by simp only [upd_eq, Nat.reduceEqDiff, ↓reduceIte]; exact e0) (by simp only [upd_eq, Nat.reduceEqDiff, ↓reduceIte]; exact e1) (by simp only [upd_eq, Nat.reduceEqDiff, ↓reduceIte]; exact e3) (by simp only [upd_eq, Nat.reduceEqDiff, ↓reduceIte]; exact e4) (by simp only [upd_eq, Nat.reduceEqDiff, ↓reduceIte]; rfl) (by simp only [upd_eq, Nat.reduceEqDiff, ↓reduceIte]) (by simp only [upd_eq, Nat.reduceEqDiff, ↓reduceIte]) (by simp only [upd_eq, Nat.reduceEqDiff, ↓reduceIte]; rfl) (by simp only [upd_eq, Nat.reduceEqDiff, ↓reduceIte])
        · have tp : decide ((ks.length : Int) ≤ (p : Int)) = true := by simp; omega
          refine W_sq fun K hK => (W_text [true, true, true, true, true, true, true] (by kernel_rfl) ?_); simp only [↓List.toList_toArray, ↓rgd, ↓rgf, ↓reduceIte, Nat.reduceEqDiff, rg, ow_129, e1, ptr_eq, h2, tp]
          refine hK _ _ ?_; clear hK K
          refine W_true (by simp only [evt, evc, upd_eq, Nat.reduceEqDiff, ↓reduceIte, ntT, ntF] <;> rfl) (W_seq ?_)
          obtain ⟨y0, hy0⟩ : ∃ y, ks[ks.length - 1]? = some y := ⟨_, List.getElem?_eq_getElem (by omega)⟩
          have hk0 := it_at row hy0
          have hi1 : ks.length - 1 < ks.length := by omega
          have e5 := wsub1 ks.length (by omega) (by omega)
          have bx' := iX_at bx1
          refine W_sq fun K hK => (W_free (some none) (.take 0 (.take 1 (.take 2 (.take 3 (.take 4 (.take 5 (.take 6 (.take 7 (.take 8 (.take 9 (.take 10 (.take 11 (.take 12 (.take 13 (.bar 14 .nil))))))))))))))) mixed (by kernel_rfl) ?_); simp only [↓List.toList_toArray, ↓rgd, ↓rgf, ↓reduceIte, Nat.reduceEqDiff, rg, ow_129, e0, e1, ptr_eq, h2, hi1, hk0, bx', e5]
          refine do_call fn_138 (by simp only [evt, evc, upd_eq, Nat.reduceEqDiff, ↓reduceIte, maT, maC, maN, isnN, isnS] <;> rfl) (less_any B m ord y0 x _ (hL.ext0 (Ext.dr noF _ _))) ?_
          rintro _ w2 ⟨rfl, x2⟩
          refine ⟨trivial, ?_⟩
          simp only [↓List.toList_toArray, ↓rgd, ↓rgf, ↓reduceIte, Nat.reduceEqDiff, rg, ow_129]
          refine hK _ _ ?_; clear hK K
          have X2 := x2.od
          have h2'' := X2.rd h2 fun g => g
          cases hq0 : O.lt (rkI ord y0) (rkI ord x) with
          | true =>
            obtain ⟨f1, f2⟩ := missed_at O (rkI ord) ha (q := rkI ord x) (u := ks.length) (Nat.le_refl _) (fun z hjz => by have := (List.getElem?_eq_some_iff.1 hjz).1; omega) (fun z _ hz => by rw [hy0] at hz; cases hz; exact hq0)
            refine W_true (by simp only [evt, upd_eq, ↓reduceIte, ntT, ntF]) ?_
            refine W_sq fun K hK => (W_text [true, true, true, true, true, true] (by kernel_rfl) ?_); simp only [↓List.toList_toArray, ↓rgd, ↓rgf, ↓reduceIte, Nat.reduceEqDiff, rg, ow_129, e1, ptr_eq, h2'']
            refine hK _ _ ?_; clear hK K
            refine W_goto ?_
            simp only [andThen_goto, jump_goto]
            exact ⟨trivial, X2.tr (Ext.dr _ _ _), (by simp only [upd_eq, Nat.reduceEqDiff, ↓reduceIte]; exact e1), (by simp only [upd_eq, Nat.reduceEqDiff, ↓reduceIte]; exact e3), (by simp only [upd_eq, Nat.reduceEqDiff, ↓reduceIte]; exact e4), (by simp only [upd_eq, Nat.reduceEqDiff, ↓reduceIte]; rw [f1]), (by simp only [upd_eq, Nat.reduceEqDiff, ↓reduceIte]; rw [f2])⟩
          | false =>
            refine W_false (by simp only [evt, upd_eq, ↓reduceIte, ntT, ntF]) (W_skip ?_)
            show W _ _ _ _ _ _
            refine W_rg fun K hK => (W_text [true, true, true, true, true, true, true] (by kernel_rfl) ?_); simp only [↓List.toList_toArray, ↓rgd, ↓rgf, ↓reduceIte, Nat.reduceEqDiff, rg, ow_129, e1, ptr_eq, h2'', e5]
            refine hK _ _ ?_; clear hK K
            simp only [andThen_normal]
            exact hidx _ _ (ks.length - 1) hi1 (X2.tr (Ext.dr _ _ _)) (by simp only [upd_eq, Nat.reduceEqDiff, ↓reduceIte]; exact e0) (by simp only [upd_eq, Nat.reduceEqDiff, ↓reduceIte]; exact e1) (by simp only [upd_eq, Nat.reduceEqDiff, ↓reduceIte]; exact e3) (by simp only [upd_eq, Nat.reduceEqDiff, ↓reduceIte]; exact e4) (by simp only [upd_eq, Nat.reduceEqDiff, ↓reduceIte]; rfl) (by simp only [upd_eq, Nat.reduceEqDiff, ↓reduceIte]) (by simp only [upd_eq, Nat.reduceEqDiff, ↓reduceIte]) (by simp only [upd_eq, Nat.reduceEqDiff, ↓reduceIte]; rfl) (by simp only [upd_eq, Nat.reduceEqDiff, ↓reduceIte])
    · have td : decide ((dep : Int) < 8) = false := by simp; omega
      refine W_sq fun K hK => (W_text [true, true, true, true, true, true, true, true, true, true] (by kernel_rfl) ?_); simp only [↓List.toList_toArray, ↓rgd, ↓rgf, ↓reduceIte, Nat.reduceEqDiff, rg, ow_129, e3, e4, td]
      refine hK _ _ ?_; clear hK K
      refine W_false (by simp only [evt, evc, upd_eq, Nat.reduceEqDiff, ↓reduceIte, ntT, ntF] <;> rfl) (W_skip ?_)
      simp only [andThen_normal]
      refine hloop _ _ 0 ks.length (Ext.dr _ _ _) (Nat.zero_le _) (Nat.le_refl _) (by simp only [upd_eq, Nat.reduceEqDiff, ↓reduceIte]; exact e0) (by simp only [upd_eq, Nat.reduceEqDiff, ↓reduceIte]; exact e1) (by simp only [upd_eq, Nat.reduceEqDiff, ↓reduceIte]; exact e3) (by simp only [upd_eq, Nat.reduceEqDiff, ↓reduceIte]; exact e4) (by simp only [upd_eq, Nat.reduceEqDiff, ↓reduceIte]; rfl) (by simp only [upd_eq, Nat.reduceEqDiff, ↓reduceIte]; rfl) (by simp only [upd_eq, Nat.reduceEqDiff, ↓reduceIte]) (fun i y hi => by omega) (fun i y hi hx => by have := (List.getElem?_eq_some_iff.1 hx).1; omega)
set_option maxHeartbeats 400000 in
set_option maxRecDepth 8000 in
/-- The search in a node, with a hint or without one. -/
theorem find_any (B m b bi oi cap : Nat) (ord : List Int) (ks : List It) (x : It) (ch : Option Addr) (hp : Option Nat) (dep : Nat) (w : World) (hL : Ls B m w ord) (h2 : rd w b 2 = some (.slice (some ⟨bi, oi, none⟩) ks.length cap)) (h3 : rd w b 3 = some (.pointer ch))
    (row : Row w bi oi (flat E ks)) (hbi : bi < w.heap.size) (hlen : ks.length < 4611686018427387904) (hpos : 0 < ks.length) (ha : Asc O (rkI ord) ks) (hH : HOk hp w) (hne : ∀ hb, hp = some hb → hb ≠ b) :
    CallK Try.prog 97 #[ptr m, ptr b, itV x, hV hp, .int .i64 dep] w fun v w' => v = srchG ord ks x ∧ Ext (hF hp) w w' ∧ HOk hp w' := by
  refine calls_of_W [.tmp 10, .tmp 11] Try.func97 rfl Try.ntmps97 Try.results97 (by simp) fun e he => ?_
  have e0 : e 0 = ptr m := he 0 _ rfl
  have e1 : e 1 = ptr b := he 1 _ rfl
  have e2 : e 2 = itV x := he 2 _ rfl
  have e3 : e 3 = hV hp := he 3 _ rfl
  have e4 : e 4 = .int .i64 dep := he 4 _ rfl
  clear he
  refine W_sq fun K hK => (W_text [false, true, true] (by kernel_rfl) ?_); simp only [↓List.toList_toArray, ↓rgd, ↓rgf, ↓reduceIte, Nat.reduceEqDiff, rg, ow_97]
  refine do_box (by simp only [evt]; exact e2) fun w1 n1 => ⟨trivial, ?_⟩
  simp only [↓List.toList_toArray, ↓rgd, ↓rgf, ↓reduceIte, Nat.reduceEqDiff, rg, ow_97]
  refine hK _ _ ?_; clear hK K
  have ix := iX_at (show Row w1 w.heap.size 0 (E.cel x) from n1.row)
  have X1 := n1.ext
  have h2' := X1.rd h2 fun g => g
  have h3' := X1.rd h3 fun g => g
  have row' := X1.row row fun _ _ g => g
  have hL' := hL.ext0 X1
  have hs := X1.size
  refine W_seq ?_
  cases hp with
  | none =>
    rw [hV_none] at e3
    refine W_sq fun K hK => (W_text [true, true] (by kernel_rfl) ?_); simp only [↓List.toList_toArray, ↓rgd, ↓rgf, ↓reduceIte, Nat.reduceEqDiff, rg, ow_97, e3]
    refine hK _ _ ?_; clear hK K
    refine W_true (by simp only [evt, evc, upd_eq, Nat.reduceEqDiff, ↓reduceIte, ntT, ntF] <;> rfl) ?_
    refine W_sq fun K hK => (W_text [true, true, true, false, true, true, true, true] (by kernel_rfl) ?_); simp only [↓List.toList_toArray, ↓rgd, ↓rgf, ↓reduceIte, Nat.reduceEqDiff, rg, ow_97, e0, e1, ix]
    refine do_call fn_128 (by simp only [evt, evc, upd_eq, Nat.reduceEqDiff, ↓reduceIte, maT, maC, maN, isnN, isnS] <;> rfl) (bsearch_any B m b bi oi cap ord ks x _ hL' h2' row' (by omega) hlen ha) ?_
    rintro _ w2 ⟨rfl, x2⟩
    refine ⟨trivial, ?_⟩
    simp only [↓List.toList_toArray, ↓rgd, ↓rgf, ↓reduceIte, Nat.reduceEqDiff, rg, ow_97, srchG]
    refine hK _ _ ?_; clear hK K
    refine W_ret ?_
    simp only [andThen_ret]
    exact endQ_2 (by simp only [upd_eq, Nat.reduceEqDiff, ↓reduceIte] <;> rfl) (by simp only [upd_eq, Nat.reduceEqDiff, ↓reduceIte] <;> rfl) ⟨rfl, ((X1.tr x2).tr (Ext.dr _ _ _)).mono fun _ _ _ g => g.elim, HOk.none _⟩
  | some hb =>
    rw [hV_some] at e3
    refine W_sq fun K hK => (W_text [true, true] (by kernel_rfl) ?_); simp only [↓List.toList_toArray, ↓rgd, ↓rgf, ↓reduceIte, Nat.reduceEqDiff, rg, ow_97, e3, ptr_eq]
    refine hK _ _ ?_; clear hK K
    refine W_false (by simp only [evt, evc, upd_eq, Nat.reduceEqDiff, ↓reduceIte, ntT, ntF] <;> rfl) (W_skip ?_)
    show W _ _ _ _ _ _
    refine W_sq fun K hK => (W_text [true, true, true, true, true, false, true, true, true, true] (by kernel_rfl) ?_); simp only [↓List.toList_toArray, ↓rgd, ↓rgf, ↓reduceIte, Nat.reduceEqDiff, rg, ow_97, e0, e1, e3, e4, ix]
    refine do_call fn_129 (by simp only [evt, evc, upd_eq, Nat.reduceEqDiff, ↓reduceIte, maT, maC, maN, isnN, isnS] <;> rfl) (hint_any B m b bi oi cap ord ks x ch hb dep _ hL' h2' h3' row' (by omega) hlen hpos ha ((hH hb rfl).ext X1 fun _ g => g) (hne hb rfl)) ?_
    rintro _ w2 ⟨rfl, x2, hH2⟩
    refine ⟨trivial, ?_⟩
    simp only [↓List.toList_toArray, ↓rgd, ↓rgf, ↓reduceIte, Nat.reduceEqDiff, rg, ow_97, srchG]
    refine hK _ _ ?_; clear hK K
    refine W_ret ?_
    exact endQ_2 (by simp only [upd_eq, Nat.reduceEqDiff, ↓reduceIte] <;> rfl) (by simp only [upd_eq, Nat.reduceEqDiff, ↓reduceIte] <;> rfl) ⟨rfl, (X1.trans x2 (fun _ _ g => g.elim) fun _ _ _ g => g).tr (Ext.dr _ _ _), fun b' h => by cases h; exact hH2.ext (Ext.dr noF _ _) fun _ g => g⟩
end Go.Proofs.Ytbnnkcofnmipoaa
/-
  The item of a key, with a hint or without one. No condition.
-/
set_option linter.unusedSimpArgs false
set_option linter.unusedVariables false
namespace Go.Proofs.Ytbnnkcofnmipoaa
open Go Go.Proofs
theorem srchG_eqG (ord : List Int) (ks : List It) (x : It) : srchG ord ks x = .tuple #[.int .i64 (lb O (rkI ord) (rkI ord x) ks : Nat), .bool (hit O (rkI ord) (rkI ord x) ks)] := id (Eq.trans rfl rfl)
theorem at_noneG {ord : List Int} {x : It} {xs : List It} (h : hit O (rkI ord) (rkI ord x) xs = false) : at? O (rkI ord) (rkI ord x) xs = none := by unfold at?; rw [h]; rfl
set_option maxHeartbeats 1000000 in
set_option maxRecDepth 8000 in
theorem getHint_any (B m d : Nat) (ord : List Int) (hd : 2 ≤ d) (hd' : d ≤ 128) (iso : Int) (xs : List It) (F : Nat → Nat → Prop) (q : It) (hp : Option Nat) (mu : Bool) (w : World) (hM : TreeAt B ord w m d iso xs F) (hbig : xs.length ≤ 4294967295) (hH : HOk hp w)
    (hB : ∀ hb, hp = some hb → (m < hb ∨ hb < B) ∧ ∀ y o, F y o → y ≠ hb) :
    CallK Try.prog 93 #[ptr m, itV q, hV hp, .bool mu] w fun v w' => v = gotG (at? O (rkI ord) (rkI ord q) xs) ∧ Ext (Go.Proofs.Ytbnnkcofnmipoaa.hF hp) w w' ∧ HOk hp w' := by
  have hBm : B ≤ m := by obtain ⟨_, _, _, h⟩ := hM.less; exact h
  have hml := hM.mlt
  refine calls_of_W [.cell 8 33, .tmp 9] Try.func93 rfl Try.ntmps93 Try.results93 (by simp) fun e he => ?_
  have e0 : e 0 = ptr m := he 0 _ rfl
  have e1 : e 1 = itV q := he 1 _ rfl
  have e2 : e 2 = hV hp := he 2 _ rfl
  have e3 : e 3 = .bool mu := he 3 _ rfl
  clear he
  refine W_sq fun K0 hK => (W_text [false, false, true] (by kernel_rfl) ?_); simp only [↓List.toList_toArray, ↓rgd, ↓rgf, ↓reduceIte, Nat.reduceEqDiff, rg, ow_93]
  refine do_box (by simp only [evt]; exact e1) fun w1 n1 => ⟨trivial, ?_⟩
  simp only [↓List.toList_toArray, ↓rgd, ↓rgf, ↓reduceIte, Nat.reduceEqDiff, rg, ow_93]
  refine do_alloc z_it fun w2 n2 => ⟨trivial, ?_⟩
  simp only [↓List.toList_toArray, ↓rgd, ↓rgf, ↓reduceIte, Nat.reduceEqDiff, rg, ow_93]
  refine hK _ _ ?_; clear hK K0
  have s1 := n1.size
  have s2 := n2.size
  have X0 : Ext noF w w2 := n1.ext.tr n2.ext
  have ix0 : Row w2 w.heap.size 0 (E.cel q) := n2.ext.row n1.row fun _ _ h => h
  have k2 : wok w2 w1.heap.size 2 := n2.wok
  obtain ⟨qb, hqb⟩ : ∃ qb, qb = w1.heap.size := ⟨_, rfl⟩
  rw [← hqb] at k2 ⊢
  clear n1 n2
  have hM1 := hM.ext X0
  have hH1 := hH.ext0 X0
  have hhl : ∀ hb, hp = some hb → hb < w.heap.size := fun hb h => wok_lt (hH hb h).wok
  refine W_seq ?_
  refine W_sq fun K0 hK => (W_text [true, true, false] (by kernel_rfl) ?_); simp only [↓List.toList_toArray, ↓rgd, ↓rgf, ↓reduceIte, Nat.reduceEqDiff, rg, ow_93, e0, e3]
  refine do_call fn_91 (by simp only [evt, evc, upd_eq, Nat.reduceEqDiff, ↓reduceIte, maT, maC, maN, isnN, isnS] <;> rfl) (lock_any _ _ w2) ?_
  rintro _ _ ⟨rfl, rfl⟩
  refine ⟨trivial, ?_⟩
  simp only [↓List.toList_toArray, ↓rgd, ↓rgf, ↓reduceIte, Nat.reduceEqDiff, rg, ow_93]
  refine hK _ _ ?_; clear hK K0
  refine W_false (by simp only [evt, evc, upd_eq, Nat.reduceEqDiff, ↓reduceIte, ntT, ntF] <;> rfl) (W_skip ?_)
  show W _ _ _ _ _ _
  have hz := zIt_at hM1.cfg
  have hres : ∀ (e : Env) (w4 w5 : World) (x : Option It), Ext (Go.Proofs.Ytbnnkcofnmipoaa.hF hp) w w4 → HOk hp w4 → Ext (rng qb 0 2) w4 w5 → Row w5 qb 0 (E.cel (x.getD zIt)) → e 8 = ptr qb → e 9 = .bool x.isSome → x = at? O (rkI ord) (rkI ord q) xs →
      endQ Try.prog [.cell 8 33, .tmp 9] (fun v w' => v = gotG (at? O (rkI ord) (rkI ord q) xs) ∧ Ext (Go.Proofs.Ytbnnkcofnmipoaa.hF hp) w w' ∧ HOk hp w') .ret e w5 := by
    rintro e w4 w5 x XX HH x5 r5 e8 e9 rfl
    refine endQ_ct e8 e9 ld_33 (iX_at r5) ⟨rfl, ?_, HH.ext x5 fun hb h o g => ?_⟩
    · refine XX.trans x5 (fun _ _ g => g) fun y o hy g => ?_
      simp only [rng] at g
      omega
    · have := hhl hb h
      simp only [rng] at g
      omega
  have X02 : Ext (Go.Proofs.Ytbnnkcofnmipoaa.hF hp) w w2 := X0.mono fun _ _ _ g => g.elim
  refine W_seq ?_
  rcases hM1.root with ⟨rfl, hr⟩ | ⟨h, b, hr, ht⟩
  · refine W_sq fun K0 hK => (W_text [true, true, true, true, true] (by kernel_rfl) ?_); simp only [↓List.toList_toArray, ↓rgd, ↓rgf, ↓reduceIte, Nat.reduceEqDiff, rg, ow_93, e0, ptr_eq, hr]
    refine hK _ _ ?_; clear hK K0
    refine W_true (by simp only [evt, evc, upd_eq, Nat.reduceEqDiff, ↓reduceIte, ntT, ntF] <;> rfl) ?_
    refine W_sq fun K0 hK => (W_text [true, true, true, true, false, true] (by kernel_rfl) ?_); simp only [↓List.toList_toArray, ↓rgd, ↓rgf, ↓reduceIte, Nat.reduceEqDiff, rg, ow_93, e0, ptr_eq, hz]
    refine do_store (by simp only [evt, evc, upd_eq, Nat.reduceEqDiff, ↓reduceIte, ntT, ntF] <;> rfl) (by simp only [evt, evc, upd_eq, Nat.reduceEqDiff, ↓reduceIte, ntT, ntF] <;> rfl) sz_33 (itV_len zIt) k2 (by decide) (itV_oc zIt) fun w5 x5 r5 s5 => ⟨trivial, ?_⟩
    simp only [↓List.toList_toArray, ↓rgd, ↓rgf, ↓reduceIte, Nat.reduceEqDiff, rg, ow_93]
    refine hK _ _ ?_; clear hK K0
    refine W_ret ?_
    simp only [andThen_ret]
    exact hres _ w2 w5 none X02 hH1 x5 r5 (by simp only [upd_eq, Nat.reduceEqDiff, ↓reduceIte] <;> rfl) (by simp only [upd_eq, Nat.reduceEqDiff, ↓reduceIte] <;> rfl) (at_noneG rfl).symm
  · refine W_sq fun K0 hK => (W_text [true, true, true, true, true] (by kernel_rfl) ?_); simp only [↓List.toList_toArray, ↓rgd, ↓rgf, ↓reduceIte, Nat.reduceEqDiff, rg, ow_93, e0, ptr_eq, hr]
    refine hK _ _ ?_; clear hK K0
    refine W_false (by simp only [evt, evc, upd_eq, Nat.reduceEqDiff, ↓reduceIte, ntT, ntF] <;> rfl) (W_skip ?_)
    show W _ _ _ _ _ _
    have hh := ht.height (by omega) (by omega)
    refine W_sq fun K0 hK => (W_text [true, true, true, true, true, false, true] (by kernel_rfl) ?_); simp only [↓List.toList_toArray, ↓rgd, ↓rgf, ↓reduceIte, Nat.reduceEqDiff, rg, ow_93, e0, e3, ptr_eq]
    refine do_call fn_96 (by simp only [evt, evc, upd_eq, Nat.reduceEqDiff, ↓reduceIte, maT, maC, maN, isnN, isnS] <;> rfl) (isoLoad_any m m 2 b mu iso w2 hM1.cfg.iso hr ht.iso0.1) ?_
    rintro _ w3 ⟨rfl, r3⟩
    refine ⟨trivial, ?_⟩
    simp only [↓List.toList_toArray, ↓rgd, ↓rgf, ↓reduceIte, Nat.reduceEqDiff, rg, ow_93]
    refine hK _ _ ?_; clear hK K0
    refine W_sq fun K0 hK => (W_text [true] (by kernel_rfl) ?_); simp only [↓List.toList_toArray, ↓rgd, ↓rgf, ↓reduceIte, Nat.reduceEqDiff, rg, ow_93]
    refine hK _ _ ?_; clear hK K0
    have x3 : Ext noF w2 w3 := r3.ext
    have X23 : Ext (Go.Proofs.Ytbnnkcofnmipoaa.hF hp) w2 w3 := x3.mono fun _ _ _ g => g.elim
    refine W_block (W_loop (fun mm e w' => ∃ (lo b : Nat) (ys : List It) (F' : Nat → Nat → Prop) (dep : Nat), Tr E iso (d - 1) (2 * d - 1) mm w2 lo b ys F' ∧ 1 ≤ lo ∧ Asc O (rkI ord) ys ∧ at? O (rkI ord) (rkI ord q) ys = at? O (rkI ord) (rkI ord q) xs ∧
        (∀ y o, F' y o → F y o) ∧ dep + mm = h ∧ Ext (Go.Proofs.Ytbnnkcofnmipoaa.hF hp) w2 w' ∧ HOk hp w' ∧ e 0 = ptr m ∧ e 2 = hV hp ∧ e 3 = .bool mu ∧ e 5 = ptr w.heap.size ∧ e 8 = ptr qb ∧ e 10 = ptr b ∧ e 11 = .int .i64 dep)
      h ⟨1, b, xs, F, 0, ht, Nat.le_refl _, hM1.asc, rfl, fun _ _ g => g, by omega, X23.tr (Ext.dr _ _ _), (hH1.ext0 x3).ext0 (Ext.dr _ _ _), ?_, ?_, ?_, ?_, ?_, ?_, ?_⟩ ?_)
    · simp only [upd_eq, Nat.reduceEqDiff, ↓reduceIte]; exact e0
    · simp only [upd_eq, Nat.reduceEqDiff, ↓reduceIte]; exact e2
    · simp only [upd_eq, Nat.reduceEqDiff, ↓reduceIte]; exact e3
    · simp only [upd_eq, Nat.reduceEqDiff, ↓reduceIte]; rfl
    · simp only [upd_eq, Nat.reduceEqDiff, ↓reduceIte]; rfl
    · simp only [upd_eq, Nat.reduceEqDiff, ↓reduceIte]
    · simp only [upd_eq, Nat.reduceEqDiff, ↓reduceIte]; rfl
    clear e0 e1 e2 e3 e hr ht r3 x3 X23
    rintro mm e w' ⟨lo, b, ys, F', dep, ht, hlo, ha, h1, hFF, hdep, X, HH, e0, e2, e3, e5, e8, e10, e11⟩
    have hmh : ∀ o, ¬ Go.Proofs.Ytbnnkcofnmipoaa.hF hp m o := fun o g => by have := (hB m g).1; omega
    have hL' := hM1.less.ext X (fun y o g => by have := (hB y g).1; omega) (hmh 6)
    have hiso := X.rd hM1.cfg.iso (hmh 0)
    have hz' : rdA w' m 7 2 = some (itV zIt) := (X.row hM1.cfg.ez fun i _ g => hmh _ g).rdA 2 (by simp [E])
    have ixw := iX_at (X.row ix0 fun i _ g => by have := hhl _ g; omega)
    obtain ⟨bi, oi, cap, ks, ch, ho, hl1, hl2, hoF, hin⟩ := ht.open
    have hnF : ∀ y o, F' y o → ¬ Go.Proofs.Ytbnnkcofnmipoaa.hF hp y o := fun y o g k => (hB y k).2 y o (hFF y o g) rfl
    have ho' := ho.ext X fun y o g => hnF y o (hoF y o g)
    have hak : Asc O (rkI ord) ks := by
      rcases hin with ⟨_, _, hx, _⟩ | ⟨_, _, _, _, _, cs, _, _, n⟩
      · rw [← hx]; exact ha
      · refine List.Pairwise.sublist ?_ ha
        rw [n.eq]; exact weave_sub _ _ (by simpa using n.len)
    have hb2 := ho'.h2
    have hb3 := ho'.h3
    have hbb : ∀ hb, hp = some hb → hb ≠ b := fun hb hh hE => (hB hb hh).2 b 0 (hFF _ _ (ht.self 0)) hE.symm
    have hch : ∃ a : Option Addr, ch = .pointer a := by
      rcases hin with ⟨_, rfl, _⟩ | ⟨_, bc, _, _, _, _, _, rfl, _⟩
      · exact ⟨none, rfl⟩
      · exact ⟨some ⟨bc, 0, none⟩, rfl⟩
    obtain ⟨cha, rfl⟩ := hch
    refine W_block ?_
    refine W_sq fun K0 hK => (W_text [true, true, true, true, true, false, true, true, true, true, true] (by kernel_rfl) ?_); simp only [↓List.toList_toArray, ↓rgd, ↓rgf, ↓reduceIte, Nat.reduceEqDiff, rg, ow_93, e0, e2, e5, e10, e11, ixw, ptr_eq]
    refine do_call fn_97 (by simp only [evt, evc, upd_eq, Nat.reduceEqDiff, ↓reduceIte, maT, maC, maN, isnN, isnS] <;> rfl) (find_any B m b bi oi cap ord ks q cha hp dep w' hL' hb2 hb3 ho'.row (wok_lt ho'.wi) (by omega) (by omega) hak HH hbb) ?_
    rintro _ w4 ⟨rfl, X4, HH4⟩
    refine ⟨trivial, ?_⟩
    simp only [↓List.toList_toArray, ↓rgd, ↓rgf, ↓reduceIte, Nat.reduceEqDiff, rg, ow_93, srchG_eqG]
    refine hK _ _ ?_; clear hK K0
    have X24 := X.tr X4
    have ho4 := ho.ext X24 fun y o g => hnF y o (hoF y o g)
    have hb2' := ho4.h2
    have hb3' := ho4.h3
    have k4 := X24.wok k2
    have X04 : Ext (Go.Proofs.Ytbnnkcofnmipoaa.hF hp) w w4 := X02.tr X24
    refine W_seq ?_
    cases hh : hit O (rkI ord) (rkI ord q) ks with
    | true =>
      refine W_sq fun K0 hK => (W_text [true] (by kernel_rfl) ?_); simp only [↓List.toList_toArray, ↓rgd, ↓rgf, ↓reduceIte, Nat.reduceEqDiff, rg, ow_93]
      refine hK _ _ ?_; clear hK K0
      refine W_true (by simp only [evt, evc, upd_eq, Nat.reduceEqDiff, ↓reduceIte, ntT, ntF] <;> rfl) ?_
      obtain ⟨kk, hk1, hk2⟩ := hit_at O (rkI ord) hh
      have hi := (List.getElem?_eq_some_iff.1 hk1).1
      have hv := it_at ho4.row hk1
      refine W_sq fun K0 hK => (W_text [true, true, true, true, true, true, true, false, true] (by kernel_rfl) ?_); simp only [↓List.toList_toArray, ↓rgd, ↓rgf, ↓reduceIte, Nat.reduceEqDiff, rg, ow_93, e8, e10, ptr_eq, hb2', hi, hv]
      refine do_store (by simp only [evt, upd_eq, Nat.reduceEqDiff, ↓reduceIte]; exact e8) (by simp only [evt, evc, upd_eq, Nat.reduceEqDiff, ↓reduceIte, ntT, ntF] <;> rfl) sz_33 (itV_len kk) k4 (by decide) (itV_oc kk) fun w5 x5 r5 s5 => ⟨trivial, ?_⟩
      simp only [↓List.toList_toArray, ↓rgd, ↓rgf, ↓reduceIte, Nat.reduceEqDiff, rg, ow_93]
      refine hK _ _ ?_; clear hK K0
      have key : at? O (rkI ord) (rkI ord q) ys = some kk := by
        rcases hin with ⟨_, _, rfl, _⟩ | ⟨_, _, _, _, _, cs, _, _, n⟩
        · unfold at?; rw [hh]; exact hk1
        · obtain ⟨A, C, hw⟩ := weave_key (lb O (rkI ord) (rkI ord q) ks) (cs.map Kid.xs) ks kk (by simpa using n.len) hk1
          have hxs : ys = A ++ kk :: C := by
            rw [n.eq, ← hw kk]
            obtain ⟨g1, g2⟩ := List.getElem?_eq_some_iff.1 hk1
            rw [← g2, List.set_getElem_self g1]
          subst hxs
          rw [hk2]
          exact at_found O (rkI ord) ha rfl
      refine W_ret ?_
      simp only [andThen_ret, inBlk_ret]
      exact hres _ w4 w5 (some kk) X04 HH4 x5 r5 (by simp only [upd_eq, Nat.reduceEqDiff, ↓reduceIte]; exact e8) (by simp only [upd_eq, Nat.reduceEqDiff, ↓reduceIte] <;> rfl) (by rw [← h1, key])
    | false =>
      refine W_sq fun K0 hK => (W_text [true] (by kernel_rfl) ?_); simp only [↓List.toList_toArray, ↓rgd, ↓rgf, ↓reduceIte, Nat.reduceEqDiff, rg, ow_93]
      refine hK _ _ ?_; clear hK K0
      refine W_false (by simp only [evt, evc, upd_eq, Nat.reduceEqDiff, ↓reduceIte, ntT, ntF] <;> rfl) (W_skip ?_)
      simp only [andThen_normal]
      refine W_seq ?_
      have hlb : lb O (rkI ord) (rkI ord q) ks ≤ ks.length := lb_le O (rkI ord) _ _
      rcases hin with ⟨rfl, hcn, rfl, hF⟩ | ⟨h', bc, ba, oa, capc, cs, rfl, hcp, n⟩
      · cases hcn
        refine W_sq fun K0 hK => (W_text [true, true, true, true, true] (by kernel_rfl) ?_); simp only [↓List.toList_toArray, ↓rgd, ↓rgf, ↓reduceIte, Nat.reduceEqDiff, rg, ow_93, e10, ptr_eq, hb3']
        refine hK _ _ ?_; clear hK K0
        refine W_true (by simp only [evt, evc, upd_eq, Nat.reduceEqDiff, ↓reduceIte, ntT, ntF] <;> rfl) ?_
        have hz4 : rdA w4 m 7 2 = some (itV zIt) := (X24.row hM1.cfg.ez fun i _ g => hmh _ g).rdA 2 (by simp [E])
        refine W_sq fun K0 hK => (W_text [true, true, true, true, false, true] (by kernel_rfl) ?_); simp only [↓List.toList_toArray, ↓rgd, ↓rgf, ↓reduceIte, Nat.reduceEqDiff, rg, ow_93, e0, ptr_eq, hz4]
        refine do_store (by simp only [evt, upd_eq, Nat.reduceEqDiff, ↓reduceIte]; exact e8) (by simp only [evt, evc, upd_eq, Nat.reduceEqDiff, ↓reduceIte, ntT, ntF] <;> rfl) sz_33 (itV_len zIt) k4 (by decide) (itV_oc zIt) fun w5 x5 r5 s5 => ⟨trivial, ?_⟩
        simp only [↓List.toList_toArray, ↓rgd, ↓rgf, ↓reduceIte, Nat.reduceEqDiff, rg, ow_93]
        refine hK _ _ ?_; clear hK K0
        refine W_ret ?_
        simp only [andThen_ret, inBlk_ret]
        exact hres _ w4 w5 none X04 HH4 x5.od r5 (by simp only [upd_eq, Nat.reduceEqDiff, ↓reduceIte]; exact e8) (by simp only [upd_eq, Nat.reduceEqDiff, ↓reduceIte] <;> rfl) (by rw [← h1, at_noneG hh])
      · cases hcp
        generalize hli : lb O (rkI ord) (rkI ord q) ks = i at *
        obtain ⟨c, hci⟩ : ∃ c, cs[i]? = some c := ⟨_, List.getElem?_eq_getElem (by have := n.len; omega)⟩
        have hcm := List.mem_of_getElem? hci
        have hcl := (List.getElem?_eq_some_iff.1 hci).1
        have hcx : (cs.map Kid.xs)[i]? = some c.xs := by rw [List.getElem?_map, hci]; rfl
        obtain ⟨A, C, hw⟩ := weave_at i (cs.map Kid.xs) ks (by simpa using n.len) hlb
        have hxs : ys = A ++ c.xs ++ C := by rw [n.eq]; exact hw.eq hcx
        obtain ⟨hA, hC⟩ := hw.mid O (rkI ord) hcx (by rw [← n.eq]; exact ha) hli hh
        have hkF : ∀ y o, kidF bc ba oa capc y o → F' y o := fun y o g => (n.fp y o).2 (.inr (.inl g))
        have hcF : ∀ y o, c.F y o → F' y o := fun y o g => (n.fp y o).2 (.inr (.inr ⟨c, hcm, g⟩))
        have hkids := n.kids.ext X24 fun y o g => hnF y o (hkF y o g)
        have ga : rd w4 ba (oa + i) = some (ptr c.b) := hkids.row i _ (by rw [List.getElem?_map, List.getElem?_map, hci]; rfl)
        have gc := hkids.c0
        rw [List.length_map] at gc
        have htc := n.sub c hcm
        have hc0 : rd w4 c.b 0 = some (.int .u64 iso) := X24.rd htc.iso0.1 (hnF _ _ (hcF _ _ (htc.self 0)))
        refine W_sq fun K0 hK => (W_text [true, true, true, true, true] (by kernel_rfl) ?_); simp only [↓List.toList_toArray, ↓rgd, ↓rgf, ↓reduceIte, Nat.reduceEqDiff, rg, ow_93, e10, ptr_eq, hb3']
        refine hK _ _ ?_; clear hK K0
        refine W_false (by simp only [evt, evc, upd_eq, Nat.reduceEqDiff, ↓reduceIte, ntT, ntF] <;> rfl) (W_skip ?_)
        simp only [andThen_normal]
        refine W_sq fun K0 hK => (W_text [true, true, true, true, true, true, true, true, true, true, false, true] (by kernel_rfl) ?_); simp only [↓List.toList_toArray, ↓rgd, ↓rgf, ↓reduceIte, Nat.reduceEqDiff, rg, ow_93, e0, e3, e10, ptr_eq, hb3', gc, hcl]
        refine do_call fn_96 (by simp only [evt, evc, upd_eq, Nat.reduceEqDiff, ↓reduceIte, maT, maC, maN, isnN, isnS] <;> rfl) (isoLoad_any m ba (oa + i) c.b mu iso _ (X24.rd hM1.cfg.iso (hmh 0)) ga hc0) ?_
        rintro _ w5 ⟨rfl, r5⟩
        refine ⟨trivial, ?_⟩
        simp only [↓List.toList_toArray, ↓rgd, ↓rgf, ↓reduceIte, Nat.reduceEqDiff, rg, ow_93]
        refine hK _ _ ?_; clear hK K0
        have q1 := wadd1 dep (by omega)
        refine W_rg fun K0 hK => (W_text [true, true, true] (by kernel_rfl) ?_); simp only [↓List.toList_toArray, ↓rgd, ↓rgf, ↓reduceIte, Nat.reduceEqDiff, rg, ow_93, e11, q1]
        refine hK _ _ ?_; clear hK K0
        have hac : Asc O (rkI ord) c.xs := by rw [hxs] at ha; exact ((Asc.append O (rkI ord)).1 ((Asc.append O (rkI ord)).1 ha).1).2.1
        have X5 : Ext noF w4 w5 := Ext.od r5.ext
        refine ⟨h', by omega, d - 1, c.b, c.xs, c.F, dep + 1, htc, by omega, hac, ?_, fun y o g => hFF y o (hcF y o g), by omega, (X24.tr (X5.mono fun _ _ _ g => g.elim)).tr (Ext.dr _ _ _), (HH4.ext0 X5).ext0 (Ext.dr _ _ _), ?_, ?_, ?_, ?_, ?_, ?_, ?_⟩
        · rw [← h1, hxs, at_mid O (rkI ord) hA hC]
        · simp only [upd_eq, Nat.reduceEqDiff, ↓reduceIte]; exact e0
        · simp only [upd_eq, Nat.reduceEqDiff, ↓reduceIte]; exact e2
        · simp only [upd_eq, Nat.reduceEqDiff, ↓reduceIte]; exact e3
        · simp only [upd_eq, Nat.reduceEqDiff, ↓reduceIte]; exact e5
        · simp only [upd_eq, Nat.reduceEqDiff, ↓reduceIte]; exact e8
        · simp only [upd_eq, Nat.reduceEqDiff, ↓reduceIte]
        · simp only [upd_eq, Nat.reduceEqDiff, ↓reduceIte]
end Go.Proofs.Ytbnnkcofnmipoaa
/-
  An iterator goes to a key. No condition.
-/
set_option linter.unusedSimpArgs false
set_option linter.unusedVariables false
namespace Go.Proofs.Ytbnnkcofnmipoaa
open Go Go.Proofs
set_option maxHeartbeats 4000000 in
set_option maxRecDepth 8000 in
theorem iseek_any (B m d : Nat) (hp : Option Nat) (q : It) (ord : List Int) (hd : 2 ≤ d) (hd' : d ≤ 128) (iso : Int) (X : List It) (F : Nat → Nat → Prop) (mu : Bool) (ib sb0 so0 cap0 : Nat) (full0 : List (Nat × Int)) (w0 : World) (hM : TreeAt B ord w0 m d iso X F) (hG : ∀ y o, itF (hF hp) ib sb0 y o → Far B m y ∧ ¬ F y o) (hI : ItS ib m mu full0 sb0 so0 cap0 w0) (hbig : X.length ≤ 2147483648) (hH : HOk hp w0) (hHi : ∀ hb, hp = some hb → hb ≠ ib ∧ hb ≠ sb0) :
    CallK Try.prog 121 #[ptr ib, itV q, hV hp] w0 fun v w' => MvQ B ord m d iso X F (hF hp) mu ib sb0 w0 (if lb O (rkI ord) (rkI ord q) X < X.length then some (lb O (rkI ord) (rkI ord q) X) else none) v w' ∧ HOk hp w' := by
  refine calls_of_W [.tmp 6] Try.func121 rfl Try.ntmps121 Try.results121 (by simp) fun e he => ?_
  have e0 : e 0 = ptr ib := he 0 _ rfl
  have e1 : e 1 = itV q := he 1 _ rfl
  have e2 : e 2 = hV hp := he 2 _ rfl
  clear he
  refine W_sq fun K hK => (W_text [false, true] (by kernel_rfl) ?_); simp only [↓List.toList_toArray, ↓rgd, ↓rgf, ↓reduceIte, Nat.reduceEqDiff, rg, ow_121]
  refine do_box (by simp only [evt]; exact e1) fun w1 n1 => ⟨trivial, ?_⟩
  simp only [↓List.toList_toArray, ↓rgd, ↓rgf, ↓reduceIte, Nat.reduceEqDiff, rg, ow_121]
  refine hK _ _ ?_; clear hK K
  have hkb : ∀ y o, itF (hF hp) ib sb0 y o → y ≠ w0.heap.size := fun y o g => by
    have h1 := wok_lt hI.wok
    have h2 := wok_lt hI.st.wi
    rcases g with g | g | g
    · omega
    · omega
    · have := wok_lt (hH y g).wok; omega
  have hcv : ∀ p v w', MvQ B ord m d iso X F (hF hp) mu ib sb0 w1 p v w' → MvQ B ord m d iso X F (hF hp) mu ib sb0 w0 p v w' := fun p v w' h => MvQ.call (.inl rfl) (n1.ext.mono fun _ _ _ g => g.elim) (fun _ _ g => g) h
  have kr : Row w1 w0.heap.size 0 (E.cel q) := n1.row
  replace hM := hM.ext n1.ext
  replace hI := hI.ext0 n1.ext
  replace hH := hH.ext0 n1.ext
  have hT : ∀ w, Ext (itF (hF hp) ib sb0) w1 w → TreeAt B ord w m d iso X F := fun w x => hM.extF x hG
  have Y := Ext.refl (itF (hF hp) ib sb0) w1
  have hs : sb0 = sb0 ∨ w1.heap.size ≤ sb0 := .inl rfl
  have h0 := hI.tr
  refine W_seq ?_
  refine W_sq fun K hK => (W_text [true, true, true, true, true] (by kernel_rfl) ?_); simp only [↓List.toList_toArray, ↓rgd, ↓rgf, ↓reduceIte, Nat.reduceEqDiff, rg, ow_121, e0, ptr_eq, h0]
  refine hK _ _ ?_; clear hK K
  refine W_false (by simp only [evt, evc, upd_eq, Nat.reduceEqDiff, ↓reduceIte, ntT, ntF] <;> rfl) (W_skip ?_)
  show W _ _ _ _ _ _
  refine W_sq fun K hK => (W_text [true, true, true, false] (by kernel_rfl) ?_); simp only [↓List.toList_toArray, ↓rgd, ↓rgf, ↓reduceIte, Nat.reduceEqDiff, rg, ow_121, e0, ptr_eq]
  refine do_store (v := .bool true) (by simp only [evt, evc, upd_eq, Nat.reduceEqDiff, ↓reduceIte, ntT, ntF] <;> rfl) (by simp only [evt, evc, upd_eq, Nat.reduceEqDiff, ↓reduceIte, ntT, ntF] <;> rfl) sz_4 rfl hI.wok (by decide) (oc_one rfl rfl) fun a1w a1x a1r a1s => ⟨trivial, ?_⟩
  simp only [↓List.toList_toArray, ↓rgd, ↓rgf, ↓reduceIte, Nat.reduceEqDiff, rg, ow_121]
  refine hK _ _ ?_; clear hK K
  have a1I := hI.flag a1x (Row.cons.1 a1r).1 (by decide) (by decide)
  have a1Y := itF_tr Y hs (a1x.mono (G := itF (hF hp) ib sb0) fun y o _ g => .inl g.1)
  have skd : rd a1w ib 3 = some (.bool true) := (Row.cons.1 a1r).1
  have a2h := a1I.st.hd
  have a2z := sl0 sb0 so0 full0.length cap0
  refine W_sq fun K hK => (W_text [true, true, true, true, true, true, true, true, false] (by kernel_rfl) ?_); simp only [↓List.toList_toArray, ↓rgd, ↓rgf, ↓reduceIte, Nat.reduceEqDiff, rg, ow_121, e0, ptr_eq, a2h, a2z]
  refine do_store (v := .slice (some ⟨sb0, so0, none⟩) (0 : Nat) cap0) (by simp only [evt, evc, upd_eq, Nat.reduceEqDiff, ↓reduceIte, ntT, ntF] <;> rfl) (by simp only [evt, evc, upd_eq, Nat.reduceEqDiff, ↓reduceIte, ntT, ntF] <;> rfl) sz_100 rfl a1I.st.hok (by decide) (oc_one rfl rfl) fun a2w a2x a2r a2s => ⟨trivial, ?_⟩
  simp only [↓List.toList_toArray, ↓rgd, ↓rgf, ↓reduceIte, Nat.reduceEqDiff, rg, ow_121]
  refine hK _ _ ?_; clear hK K
  obtain ⟨a2g, a2f⟩ := a1I.st.cut0 a2x (Row.cons.1 a2r).1
  have a2I := a1I.stack a2f a2g
  have a2Y := itF_tr a1Y hs (a2f.mono fun y o _ g => seF_itF (HF := hF hp) g)
  have skd := a2x.rd skd (by simp only [rng]; omega)
  have T := hT a2w a2Y
  have ft := a2I.tr
  have hx0 : Ext (fun y _ => y = ib ∨ y = sb0) w1 a2w := (a1x.mono fun y o _ g => .inl g.1).tr (a2f.mono fun y o _ g => by
    rcases g with g | g
    · exact .inl g.1
    · exact .inr g.1)
  have HH : HOk hp a2w := hH.ext hx0 fun hb hh o g => g.elim (hHi hb hh).1 (hHi hb hh).2
  refine W_seq ?_
  rcases T.root with ⟨hX, hr⟩ | ⟨H, root, hr, ht2⟩
  · refine W_sq fun K hK => (W_text [true, true, true, true, true, true, true, true] (by kernel_rfl) ?_); simp only [↓List.toList_toArray, ↓rgd, ↓rgf, ↓reduceIte, Nat.reduceEqDiff, rg, ow_121, e0, ptr_eq, ft, hr]
    refine hK _ _ ?_; clear hK K
    refine W_true (by simp only [evt, evc, upd_eq, Nat.reduceEqDiff, ↓reduceIte, ntT, ntF] <;> rfl) ?_
    refine W_sq fun K hK => (W_text [true] (by kernel_rfl) ?_); simp only [↓List.toList_toArray, ↓rgd, ↓rgf, ↓reduceIte, Nat.reduceEqDiff, rg, ow_121]
    refine hK _ _ ?_; clear hK K
    refine W_ret ?_
    simp only [andThen_ret]
    rw [if_neg (by simp [hX])]
    exact endQ_1 (by simp only [upd_eq, Nat.reduceEqDiff, ↓reduceIte] <;> rfl) ⟨hcv _ _ _ (MvQ.none (hT _ a2Y) ⟨_, _, _, a2I, hs, a2Y⟩), HH⟩
  · refine W_sq fun K hK => (W_text [true, true, true, true, true, true, true, true] (by kernel_rfl) ?_); simp only [↓List.toList_toArray, ↓rgd, ↓rgf, ↓reduceIte, Nat.reduceEqDiff, rg, ow_121, e0, ptr_eq, ft, hr]
    refine hK _ _ ?_; clear hK K
    refine W_false (by simp only [evt, evc, upd_eq, Nat.reduceEqDiff, ↓reduceIte, ntT, ntF] <;> rfl) (W_skip ?_)
    show W _ _ _ _ _ _
    obtain ⟨H, root, hr, ht⟩ : ∃ H root, rd w1 m 2 = some (ptr root) ∧ Tr E iso (d - 1) (2 * d - 1) H w1 1 root X F := by
      rcases hM.root with ⟨h, h'⟩ | h
      · rw [a2Y.rd h' (fun g => hM.nf (hG _ _ g).1)] at hr; cases hr
      · exact h
    have hm2 : ¬ itF (hF hp) ib sb0 m 2 := fun g => hM.nf (hG _ _ g).1
    have htT : ∀ w, Ext (itF (hF hp) ib sb0) w1 w → Tr E iso (d - 1) (2 * d - 1) H w 1 root X F := fun w x => ht.ext x fun y o g k => (hG y o k).2 g
    have hht := ht.height (by omega) (by decide)
    have hHs : ∀ hb, hp = some hb → hb < w1.heap.size := fun hb hh => wok_lt (hH hb hh).wok
    clear ht2
    have a3m := a2I.mtf
    have a3t := a2I.tr
    refine W_sq fun K hK => (W_draw (some none) none [(0, 0, 0), (0, 1, 0), (0, 2, 0), (0, 3, 0), (0, 4, 0), (0, 5, 0), (0, 6, 0), (0, 7, 0), (0, 8, 0), (0, 9, 0), (0, 10, 0), (0, 11, 0), (0, 12, 0), (0, 13, 0), (1, 14, 0), (0, 15, 0)] mixed (by kernel_rfl) ?_); simp only [↓List.toList_toArray, ↓rgd, ↓rgf, ↓reduceIte, Nat.reduceEqDiff, rg, ow_121, e0, ptr_eq, a3m, a3t]
    refine do_call fn_96 (vs := #[ptr m, .pointer (some ⟨m, 2, none⟩), .bool mu]) (by simp only [evt, evc, upd_eq, Nat.reduceEqDiff, ↓reduceIte, maT, maC, maN, isnN, isnS] <;> rfl) (isoLoad_any m m 2 root mu iso _ T.cfg.iso (a2Y.rd hr hm2) (htT a2w a2Y).iso0.1) ?_
    rintro _ a3w ⟨rfl, a3r⟩
    refine ⟨by first | exact trivial | exact .inr (keeps_ro a3r), ?_⟩
    simp only [↓List.toList_toArray, ↓rgd, ↓rgf, ↓reduceIte, Nat.reduceEqDiff, rg, ow_121]
    refine hK _ _ ?_; clear hK K
    have a3r := (RO.dr _ _).tr a3r
    have a3I := a2I.ext0 a3r.ext
    have a3Y := a2Y.tr a3r.ext
    have skd := a3r.ext.rd skd (fun h : noF _ _ => h)
    have HH := HH.ext0 a3r.ext
    refine W_sq fun K hK => (W_text [true] (by kernel_rfl) ?_); simp only [↓List.toList_toArray, ↓rgd, ↓rgf, ↓reduceIte, Nat.reduceEqDiff, rg, ow_121]
    refine hK _ _ ?_; clear hK K
    refine W_block (W_loop (fun mm e w => ∃ (st : List (Nat × Int)) (lo b off : Nat) (xs : List It) (Fb : Nat → Nat → Prop) (sb so cap dep : Nat), Way E iso (d - 1) (2 * d - 1) w1 H 1 root X F st mm lo b xs Fb off ∧ lb O (rkI ord) (rkI ord q) X = off + lb O (rkI ord) (rkI ord q) xs ∧ dep + mm = H ∧ ItS ib m mu st sb so cap w ∧ (sb = sb0 ∨ w1.heap.size ≤ sb) ∧ Ext (itF (hF hp) ib sb0) w1 w ∧ rd w ib 3 = some (.bool true) ∧ HOk hp w ∧ e 0 = ptr ib ∧ e 4 = ptr w0.heap.size ∧ e 2 = hV hp ∧ e 7 = ptr b ∧ e 8 = .int .i64 dep)
      _ ⟨_, _, _, _, _, _, _, _, _, 0, .root, by omega, by omega, a3I, hs, a3Y, skd, HH, by simp only [upd_eq, Nat.reduceEqDiff, ↓reduceIte]; exact e0, by simp only [upd_eq, Nat.reduceEqDiff, ↓reduceIte]; rfl, by simp only [upd_eq, Nat.reduceEqDiff, ↓reduceIte]; exact e2, by simp only [upd_eq, Nat.reduceEqDiff, ↓reduceIte], by simp only [upd_eq, Nat.reduceEqDiff, ↓reduceIte]; rfl⟩ ?_)
    clear a3I a3Y skd HH e0 e1 e2 e
    rintro mm e w ⟨st, lo, b, off, xs, Fb, sb, so, cap, dep, hw, hlb, hdep, hI, hs, Y, skd, HH, e0, e4, e2, e7, e8⟩
    have hhb : ∀ hb, hp = some hb → hb ≠ ib ∧ hb ≠ sb := fun hb hh => ⟨(hHi hb hh).1, by
      rcases hs with h | h
      · rw [h]; exact (hHi hb hh).2
      · have := hHs hb hh; omega⟩
    obtain ⟨bi, oi, cp, ks, ch, ho1, h1, h2, hsub, hin⟩ := (hw.tr ht).open
    have hlo := hw.lo (by decide) (by omega : 1 ≤ d - 1)
    have hoF : ∀ y o, ownF E b bi oi cp y o → ¬ itF (hF hp) ib sb0 y o := fun y o g k => (hG y o k).2 (hw.sub y o (hsub y o g))
    have hasc : Asc O (rkI ord) xs := by
      obtain ⟨A, C, hX, -⟩ := hw.at
      have := hM.asc
      rw [hX] at this
      exact ((Asc.append O (rkI ord)).1 ((Asc.append O (rkI ord)).1 this).1).2.1
    have hak : Asc O (rkI ord) ks := by
      rcases hin with ⟨_, _, hx, _⟩ | ⟨_, _, _, _, _, cs, _, _, n⟩
      · rw [← hx]; exact hasc
      · refine List.Pairwise.sublist ?_ hasc
        rw [n.eq]; exact weave_sub _ _ (by simpa using n.len)
    have hch : ∃ a : Option Addr, ch = .pointer a := by
      rcases hin with ⟨_, rfl, _⟩ | ⟨_, bc, _, _, _, _, _, rfl, _⟩
      · exact ⟨none, rfl⟩
      · exact ⟨some ⟨bc, 0, none⟩, rfl⟩
    obtain ⟨cha, rfl⟩ := hch
    have ho := ho1.ext Y hoF
    have hT1 := hT _ Y
    have f1 := hI.tr
    have hbne : ∀ hb, hp = some hb → hb ≠ b := fun hb hh hE => (hG hb 0 (.inr (.inr hh))).2 (hE ▸ hw.sub b 0 (hsub b 0 (.inl rfl)))
    refine W_block ?_
    have ik := iX_at (Y.row kr fun i hi g => hkb _ _ g rfl)
    refine W_sq fun K hK => (W_free (some none) (.take 0 (.take 1 (.take 2 (.take 3 (.take 4 (.take 5 (.take 6 (.take 7 (.bar 8 (.take 9 (.take 10 (.take 11 (.take 12 (.take 13 .nil)))))))))))))) mixed (by kernel_rfl) ?_); simp only [↓List.toList_toArray, ↓rgd, ↓rgf, ↓reduceIte, Nat.reduceEqDiff, rg, ow_121, e0, e4, e2, e7, e8, ptr_eq, f1, ik]
    refine do_call fn_97 (vs := #[ptr m, ptr b, itV q, hV hp, .int .i64 dep]) (by simp only [evt, evc, upd_eq, Nat.reduceEqDiff, ↓reduceIte, maT, maC, maN, isnN, isnS] <;> rfl) (find_any B m b bi oi cp ord ks q cha hp dep _ (by first | exact hT1.less | exact (hT1.ext (Ext.dr _ _ _)).less) ho.h2 ho.h3 ho.row (wok_lt ho.wi) (by omega) (by omega) hak (by first | exact HH | exact HH.ext0 (Ext.dr _ _ _)) hbne) ?_
    rintro _ w4 ⟨rfl, X4, HH⟩
    refine ⟨trivial, ?_⟩
    simp only [↓List.toList_toArray, ↓rgd, ↓rgf, ↓reduceIte, Nat.reduceEqDiff, rg, ow_121, srchG_eqG]
    refine hK _ _ ?_; clear hK K
    have X4 : Ext (hF hp) w w4 := by first | exact X4 | exact X4.od
    have Y := itF_tr Y hs (X4.mono (G := itF (hF hp) ib sb) fun y o _ g => .inr (.inr g))
    have hI := hI.ext X4 (fun o g => (hhb _ g).1 rfl) (fun o g => (hhb _ g).2 rfl)
    have skd := X4.rd skd (fun g => (hhb _ g).1 rfl)
    clear ho f1 hT1
    have l0 := hI.st.hd
    refine W_sq fun K hK => (W_text [true, true, true, true, true, true, true, true, false, false, true, true, false] (by kernel_rfl) ?_); simp only [↓List.toList_toArray, ↓rgd, ↓rgf, ↓reduceIte, Nat.reduceEqDiff, rg, ow_121, e0, e7, ptr_eq, l0, bu_st]
    refine do_bsl rfl (bs_st1 (b, ((lb O (rkI ord) (rkI ord q) ks : Nat) : Int))) fun w3 n3 => ⟨by first | exact trivial | exact .inr trivial, ?_⟩
    simp only [↓List.toList_toArray, ↓rgd, ↓rgf, ↓reduceIte, Nat.reduceEqDiff, rg, ow_121, l0]
    have st3 := hI.st.ext0 n3.ext
    have hstl := hw.len
    have hht := ht.height (by omega) (by decide)
    refine do_append (by simp only [evt, evc, upd_eq, Nat.reduceEqDiff, ↓reduceIte, ntT, ntF] <;> rfl) (by simp only [evt, evc, upd_eq, Nat.reduceEqDiff, ↓reduceIte, ntT, ntF] <;> rfl) el_st rfl ni_st st3.slV (u := .slice (some ⟨w4.heap.size, 0, none⟩) 1 1) (m := 1) (l' := Es.cel (b, ((lb O (rkI ord) (rkI ord q) ks : Nat) : Int))) ⟨rfl, .inr ⟨_, 0, 1, rfl, Nat.le_refl _, n3.row, n3.wok.R (Nat.le_refl _)⟩⟩ (by omega) (by decide) (Es.one _) fun v4 w4 a4 => ⟨by first | exact trivial | exact .inr trivial, ?_⟩
    obtain ⟨sb5, so5, cap5, rfl, wk4, -, nx⟩ := st3.app' (ls := [(b, ((lb O (rkI ord) (rkI ord q) ks : Nat) : Int))]) rfl (by rw [flat_one]; exact a4)
    simp only [↓List.toList_toArray, ↓rgd, ↓rgf, ↓reduceIte, Nat.reduceEqDiff, rg, ow_121]
    refine do_store (by simp only [evt, evc, upd_eq, Nat.reduceEqDiff, ↓reduceIte, ntT, ntF] <;> rfl) (by simp only [evt, evc, upd_eq, Nat.reduceEqDiff, ↓reduceIte, ntT, ntF] <;> rfl) sz_100 rfl wk4 (by decide) (oc_one rfl rfl) fun w5 x5 r5 s5 => ⟨by first | exact trivial | exact .inl trivial, ?_⟩
    simp only [↓List.toList_toArray, ↓rgd, ↓rgf, ↓reduceIte, Nat.reduceEqDiff, rg, ow_121]
    refine hK _ _ ?_; clear hK K
    obtain ⟨g1, g2, g3⟩ := nx w5 x5 (Row.cons.1 r5).1
    have G5 := n3.ext.trans g2 (fun _ _ h => h.elim) fun _ _ _ h => h
    have hI5 := hI.stack G5 g1
    have Y5 := itF_tr Y hs (G5.mono fun y o _ g => seF_itF (HF := hF hp) g)
    have hs5 : sb5 = sb0 ∨ w1.heap.size ≤ sb5 := by
      rcases g3 with g3 | g3
      · rw [g3.1]; exact hs
      · have s3 := n3.size; have s1 := Y.size; exact .inr (by omega)
    have skd5 := G5.rd skd (hI.skF (by decide))
    have HH := HH.ext G5 fun hb hh o g => by
      rcases g with g | g
      · exact (hhb hb hh).1 g.1
      · exact (hhb hb hh).2 g.1
    clear nx x5 r5 s5 a4 wk4 st3 n3 g1 g2 g3 G5
    have ho5 := ho1.ext Y5 hoF
    have hlk := lb_le O (rkI ord) (rkI ord q) ks
    refine W_seq ?_
    cases hh : hit O (rkI ord) (rkI ord q) ks with
    | true =>
      refine W_sq fun K hK => (W_text [true] (by kernel_rfl) ?_); simp only [↓List.toList_toArray, ↓rgd, ↓rgf, ↓reduceIte, Nat.reduceEqDiff, rg, ow_121]
      refine hK _ _ ?_; clear hK K
      refine W_true (by simp only [evt, evc, upd_eq, Nat.reduceEqDiff, ↓reduceIte, ntT, ntF] <;> rfl) ?_
      obtain ⟨kk, hk1, hk2⟩ := hit_at O (rkI ord) hh
      have hi := (List.getElem?_eq_some_iff.1 hk1).1
      have hv := it_at ho5.row hk1
      have hi2 := ho5.h2
      refine W_sq fun K hK => (W_text [true, true, true, true, true, true, true, true, true, true, false] (by kernel_rfl) ?_); simp only [↓List.toList_toArray, ↓rgd, ↓rgf, ↓reduceIte, Nat.reduceEqDiff, rg, ow_121, e0, e7, ptr_eq, hi2, hi, hv]
      refine do_store (v := itV kk) (by simp only [evt, evc, upd_eq, Nat.reduceEqDiff, ↓reduceIte, ntT, ntF] <;> rfl) (by simp only [evt, evc, upd_eq, Nat.reduceEqDiff, ↓reduceIte, ntT, ntF] <;> rfl) sz_33 (itV_len kk) hI5.wok (by decide) (itV_oc kk) fun w6 x6 r6 s6 => ⟨trivial, ?_⟩
      simp only [↓List.toList_toArray, ↓rgd, ↓rgf, ↓reduceIte, Nat.reduceEqDiff, rg, ow_121]
      refine hK _ _ ?_; clear hK K
      have hI6 := hI5.item (x := kk) x6 r6
      have Y6 := itF_tr Y5 hs5 (x6.mono (G := itF (hF hp) ib sb5) fun y o _ g => .inl g.1)
      have HH6 := HH.ext x6 fun hb hh o g => (hHi hb hh).1 g.1
      refine W_sq fun K hK => (W_text [true] (by kernel_rfl) ?_); simp only [↓List.toList_toArray, ↓rgd, ↓rgf, ↓reduceIte, Nat.reduceEqDiff, rg, ow_121]
      refine hK _ _ ?_; clear hK K
      have key : X[lb O (rkI ord) (rkI ord q) X]? = some kk ∧ Cur E iso (d - 1) (2 * d - 1) w1 H 1 root X F (st ++ [(b, ((lb O (rkI ord) (rkI ord q) ks : Nat) : Int))]) (lb O (rkI ord) (rkI ord q) X) := by
        rcases hin with ⟨rfl, _, rfl, _⟩ | ⟨h', bc, ba, oa, capc, cs, rfl, hc0, n⟩
        · exact ⟨by rw [hlb, hw.get hi]; exact hk1, st, b, 0, lo, off, xs, Fb, _, rfl, hw, .inl ⟨rfl, hi, hlb⟩⟩
        · obtain ⟨c, hc⟩ := n.kid (Nat.le_of_lt hi)
          obtain ⟨c', hc'⟩ := n.kid (i := lb O (rkI ord) (rkI ord q) ks + 1) hi
          have hx := n.xs hc'
          rw [fr_step (Kid.at hc) hk1] at hx
          obtain ⟨A, hA⟩ : ∃ A, A = fr (cs.map Kid.xs) ks (lb O (rkI ord) (rkI ord q) ks) ++ c.xs := ⟨_, rfl⟩
          have hxs : xs = A ++ kk :: (c'.xs ++ tl (cs.map Kid.xs) ks (lb O (rkI ord) (rkI ord q) ks + 1)) := by rw [hA]; rw [hx]; simp
          have hl : lb O (rkI ord) (rkI ord q) xs = A.length := by
            rw [hk2, hxs]
            exact (found_mid O (rkI ord) (hxs ▸ hasc)).1
          have hlt : A.length < xs.length := by rw [hxs]; simp
          have hg : xs[A.length]? = some kk := by
            conv => lhs; rw [hxs]
            rw [List.getElem?_append_right (Nat.le_refl _), Nat.sub_self]; rfl
          refine ⟨by rw [hlb, hl, hw.get hlt]; exact hg, st, b, _, lo, off, xs, Fb, _, rfl, hw, .inr ⟨h', bi, oi, cp, ks, bc, ba, oa, capc, cs, c, rfl, hc0 ▸ ho1, n, hc, hi, ?_⟩⟩
          rw [hlb, hl, hA, List.length_append]; omega
      obtain ⟨hx, cur⟩ := key
      refine W_ret ?_
      simp only [andThen_ret, inBlk_ret]
      rw [if_pos (List.getElem?_eq_some_iff.1 hx).1]
      exact endQ_1 (by simp only [upd_eq, Nat.reduceEqDiff, ↓reduceIte] <;> rfl) ⟨hcv _ _ _ (MvQ.some hx (hT _ Y6) ⟨_, _, _, hI6, hs5, Y6⟩ ⟨x6.rd skd5 (by simp only [rng]; omega), H, root, Y6.rd hr hm2, ht.ext Y6 fun y o g k => (hG y o k).2 g, cur.ext Y6 fun y o g k => (hG y o k).2 g⟩ r6), HH6⟩
    | false =>
      refine W_sq fun K hK => (W_text [true] (by kernel_rfl) ?_); simp only [↓List.toList_toArray, ↓rgd, ↓rgf, ↓reduceIte, Nat.reduceEqDiff, rg, ow_121]
      refine hK _ _ ?_; clear hK K
      refine W_false (by simp only [evt, evc, upd_eq, Nat.reduceEqDiff, ↓reduceIte, ntT, ntF] <;> rfl) (W_skip ?_)
      show W _ _ _ _ _ _
      refine W_seq ?_
      rcases hin with ⟨rfl, hc0, rfl, -⟩ | ⟨h', bc, ba, oa, capc, cs, rfl, hc0, n⟩
      · obtain rfl : cha = none := by simp only [Value.pointer.injEq] at hc0; exact hc0
        refine W_sq fun K hK => (W_text [true, false] (by kernel_rfl) ?_); simp only [↓List.toList_toArray, ↓rgd, ↓rgf, ↓reduceIte, Nat.reduceEqDiff, rg, ow_121, e7]
        refine do_call fn_108 (by simp only [evt, evc, upd_eq, Nat.reduceEqDiff, ↓reduceIte, maT, maC, maN, isnN, isnS] <;> rfl) (leaf_any b (none) w5 ho5.h3) ?_
        rintro _ w6 ⟨rfl, hw6⟩
        obtain rfl : w5 = w6 := hw6.symm
        refine ⟨trivial, ?_⟩
        simp only [↓List.toList_toArray, ↓rgd, ↓rgf, ↓reduceIte, Nat.reduceEqDiff, rg, ow_121]
        refine hK _ _ ?_; clear hK K
        refine W_true (by simp only [evt, evc, upd_eq, Nat.reduceEqDiff, ↓reduceIte, ntT, ntF] <;> rfl) ?_
        obtain ⟨l1, l2, l3, l4⟩ := hI5.st.last
        have q1 := wsub1 (st.length + 1) (by omega) (by omega)
        rw [Nat.add_sub_cancel] at q1
        have q2 : st.length < st.length + 1 := Nat.lt_succ_self _
        have q3 : IntKind.i64.wrap (((lb O (rkI ord) (rkI ord q) xs : Nat) : Int) - 1) = ((lb O (rkI ord) (rkI ord q) xs : Nat) : Int) - 1 := by rw [IntWalk.i64_in _ (by omega)]
        refine W_sq fun K hK => (W_draw (some none) (some 16) [(0, 0, 0), (0, 1, 0), (0, 2, 0), (0, 3, 0), (0, 4, 0), (0, 5, 0), (0, 6, 0), (0, 7, 0), (0, 8, 0), (0, 9, 0), (0, 10, 0), (0, 11, 0), (0, 12, 0), (0, 13, 0), (0, 14, 0), (0, 15, 0), (1, 16, 0)] mixed (by kernel_rfl) ?_); simp only [↓List.toList_toArray, ↓rgd, ↓rgf, ↓reduceIte, Nat.reduceEqDiff, rg, ow_121, e0, ptr_eq, l1, q1, q2, l3, q3]
        refine do_store (v := .int .i64 (((lb O (rkI ord) (rkI ord q) xs : Nat) : Int) - 1)) (by simp only [evt, evc, upd_eq, Nat.reduceEqDiff, ↓reduceIte, ntT, ntF] <;> rfl) (by simp only [evt, evc, upd_eq, Nat.reduceEqDiff, ↓reduceIte, ntT, ntF] <;> rfl) sz_3 rfl hI5.st.wi (by rw [Es_sz]; omega) (oc_one rfl rfl) fun w6 x6 r6 s6 => ⟨by first | exact trivial | exact .inl trivial, ?_⟩
        simp only [↓List.toList_toArray, ↓rgd, ↓rgf, ↓reduceIte, Nat.reduceEqDiff, rg, ow_121]
        refine hK _ _ ?_; clear hK K
        have x6 : Ext (rng sb5 (so5 + st.length * 2 + 1) 1) w5 w6 := by first | exact x6 | exact x6.od | exact x6.od.od | exact x6.od.od.od
        obtain ⟨g1, g2⟩ := hI5.st.seti x6 (Row.cons.1 r6).1
        have hI6 := hI5.stack g2 g1
        have Y6 := itF_tr Y5 hs5 (g2.mono fun y o _ g => seF_itF (HF := hF hp) g)
        have skd6 := g2.rd skd5 (hI5.skF (by decide))
        have hb5 : ∀ hb, hp = some hb → hb ≠ sb5 := fun hb hh => by
          rcases hs5 with h | h
          · rw [h]; exact (hHi hb hh).2
          · have := hHs hb hh; omega
        have HH6 := HH.ext x6 fun hb hh o g => hb5 hb hh g.1
        refine W_sq fun K hK => (W_text [true, false, true] (by kernel_rfl) ?_); simp only [↓List.toList_toArray, ↓rgd, ↓rgf, ↓reduceIte, Nat.reduceEqDiff, rg, ow_121, e0]
        refine do_call fn_84 (vs := #[ptr ib]) (by simp only [evt, evc, upd_eq, Nat.reduceEqDiff, ↓reduceIte, maT, maC, maN, isnN, isnS] <;> rfl) (nextC_any B m d ord hd hd' iso X F noF mu ib sb5 so5 cap5 (st ++ [(b, ((lb O (rkI ord) (rkI ord q) xs : Nat) : Int) - 1)]) w6 (hT _ Y6) (itG_new hM hG hs5 fun _ _ g => g.elim) hI6 hbig skd6 H root (Y6.rd hr hm2) (htT _ Y6) (lb O (rkI ord) (rkI ord q) X) ⟨st, b, 0, lo, off, xs, Fb, lb O (rkI ord) (rkI ord q) xs, rfl, hw.ext Y6 (fun y o g k => (hG y o k).2 g), .inl ⟨rfl, hlk, hlb⟩⟩) ?_
        rintro v w7 h7
        refine ⟨trivial, ?_⟩
        obtain ⟨rfl, -⟩ := id h7
        simp only [↓List.toList_toArray, ↓rgd, ↓rgf, ↓reduceIte, Nat.reduceEqDiff, rg, ow_121]
        refine hK _ _ ?_; clear hK K
        refine W_ret ?_
        simp only [andThen_ret, inBlk_ret]
        obtain ⟨_, _, _, ⟨_, i7, _⟩, _⟩ := id h7
        exact endQ_1 (by simp only [upd_eq, Nat.reduceEqDiff, ↓reduceIte] <;> rfl) ⟨hcv _ _ _ (MvQ.call hs5 Y6 (fun _ _ g => g.elim) h7), HH6.ext i7.x fun hb hh o g => by
          rcases g with g | g | g
          · exact (hHi hb hh).1 g
          · exact hb5 hb hh g
          · exact g⟩
      · obtain rfl : cha = some ⟨bc, 0, none⟩ := by simp only [ptr, Value.pointer.injEq] at hc0; exact hc0
        refine W_sq fun K hK => (W_text [true, false] (by kernel_rfl) ?_); simp only [↓List.toList_toArray, ↓rgd, ↓rgf, ↓reduceIte, Nat.reduceEqDiff, rg, ow_121, e7]
        refine do_call fn_108 (by simp only [evt, evc, upd_eq, Nat.reduceEqDiff, ↓reduceIte, maT, maC, maN, isnN, isnS] <;> rfl) (leaf_any b (some ⟨bc, 0, none⟩) w5 ho5.h3) ?_
        rintro _ w6 ⟨rfl, hw6⟩
        obtain rfl : w5 = w6 := hw6.symm
        refine ⟨trivial, ?_⟩
        simp only [↓List.toList_toArray, ↓rgd, ↓rgf, ↓reduceIte, Nat.reduceEqDiff, rg, ow_121]
        refine hK _ _ ?_; clear hK K
        refine W_false (by simp only [evt, evc, upd_eq, Nat.reduceEqDiff, ↓reduceIte, ntT, ntF] <;> rfl) (W_skip ?_)
        show W _ _ _ _ _ _
        obtain ⟨c, hc⟩ := n.kid hlk
        have hcm := List.mem_of_getElem? hc
        have hcl := (List.getElem?_eq_some_iff.1 hc).1
        have k5 := n.kids.ext Y5 fun y o g k => (hG y o k).2 (hw.sub y o ((n.fp y o).2 (.inr (.inl g))))
        have t5 := (n.sub c hcm).ext Y5 fun y o g k => (hG y o k).2 (hw.sub y o ((n.fp y o).2 (.inr (.inr ⟨c, hcm, g⟩))))
        have hcc := k5.c0
        rw [List.length_map] at hcc
        have hcr : rd w5 ba (oa + lb O (rkI ord) (rkI ord q) ks) = some (ptr c.b) := ptr_at k5.row (by rw [List.getElem?_map, hc]; rfl)
        have hlb2 : lb O (rkI ord) (rkI ord q) xs = (fr (cs.map Kid.xs) ks (lb O (rkI ord) (rkI ord q) ks)).length + lb O (rkI ord) (rkI ord q) c.xs := by
          have hl : (cs.map Kid.xs).length = ks.length + 1 := by simpa using n.len
          have ha := hasc
          rw [n.eq] at ha
          obtain ⟨A, hA⟩ := weave_tl _ (cs.map Kid.xs) ks hl hlk
          obtain ⟨g1, g2⟩ := hA.mid O (rkI ord) (Kid.at hc) ha rfl hh
          have hAf := hA.is_fr hl hlk (Kid.at hc)
          subst hAf
          rw [n.xs hc]
          exact lb_mid O (rkI ord) g1 fun x hx => O.asym (g2 x hx)
        have f1 := hI5.tr
        have f2 := hI5.mtf
        have f3 := ho5.h3
        rw [show (Value.pointer (some ⟨bc, 0, none⟩)) = ptr bc from rfl] at f3
        refine W_sq fun K hK => (W_draw (some none) none [(0, 0, 0), (0, 1, 0), (0, 2, 0), (0, 3, 0), (0, 4, 0), (0, 5, 0), (0, 6, 0), (0, 7, 0), (0, 8, 0), (0, 9, 0), (0, 10, 0), (0, 11, 0), (0, 12, 0), (0, 13, 0), (0, 14, 0), (0, 15, 0), (1, 16, 0), (0, 17, 0)] mixed (by kernel_rfl) ?_); simp only [↓List.toList_toArray, ↓rgd, ↓rgf, ↓reduceIte, Nat.reduceEqDiff, rg, ow_121, e0, e7, ptr_eq, f1, f2, f3, hcc, hcl]
        refine do_call fn_96 (vs := #[ptr m, .pointer (some ⟨ba, oa + lb O (rkI ord) (rkI ord q) ks, none⟩), .bool mu]) (by simp only [evt, evc, upd_eq, Nat.reduceEqDiff, ↓reduceIte, maT, maC, maN, isnN, isnS] <;> rfl) (isoLoad_any m ba (oa + lb O (rkI ord) (rkI ord q) ks) c.b mu iso _ (hT _ Y5).cfg.iso hcr t5.iso0.1) ?_
        rintro _ w6 ⟨rfl, r6⟩
        refine ⟨by first | exact trivial | exact .inr (keeps_ro r6), ?_⟩
        simp only [↓List.toList_toArray, ↓rgd, ↓rgf, ↓reduceIte, Nat.reduceEqDiff, rg, ow_121]
        refine hK _ _ ?_; clear hK K
        have r6 := (RO.dr _ _).tr r6
        have q8 := wadd1 dep (by omega)
        refine W_rg fun K hK => (W_text [true, true, true] (by kernel_rfl) ?_); simp only [↓List.toList_toArray, ↓rgd, ↓rgf, ↓reduceIte, Nat.reduceEqDiff, rg, ow_121, e8, q8]
        refine hK _ _ ?_; clear hK K
        exact ⟨h', by omega, st ++ [(b, ((lb O (rkI ord) (rkI ord q) ks : Nat) : Int))], d - 1, c.b, _, c.xs, c.F, sb5, so5, cap5, dep + 1, hw.down ho1 n hc, by omega, by omega, hI5.ext0 r6.ext, hs5, Y5.tr r6.ext, r6.ext.rd skd5 (fun h : noF _ _ => h), HH.ext0 r6.ext, by simp only [upd_eq, Nat.reduceEqDiff, ↓reduceIte]; exact e0, by simp only [upd_eq, Nat.reduceEqDiff, ↓reduceIte]; exact e4, by simp only [upd_eq, Nat.reduceEqDiff, ↓reduceIte]; exact e2, by simp only [upd_eq, Nat.reduceEqDiff, ↓reduceIte], by simp only [upd_eq, Nat.reduceEqDiff, ↓reduceIte]⟩
end Go.Proofs.Ytbnnkcofnmipoaa
