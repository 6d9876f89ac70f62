/-
  Memory as cells: reading, writing, new blocks, what a step changes; the operations that write: store, alloc, box, slice literals, append, copy, make. For whatever program. No condition.
-/
import Derived.Test.YtdffddiaoheklaaFun
import Derived.Laws.Append
set_option linter.unusedSimpArgs false
set_option linter.unusedVariables false
namespace Go.Proofs.Ytdffddiaoheklaa
open Go

def rd (w : World) (b o : Nat) : Option Value := w.cell? ⟨b, o, none⟩
def rdA (w : World) (b o n : Nat) : Option Value := (cellsFrom w ⟨b, o, none⟩ 0 n).map fun l => .agg l.toArray
/-- The number of the program's own types. -/
def tyN : Nat := 156
/-- The block has n cells at least, none is frozen; its type is one of the program's own. -/
def wok (w : World) (b n : Nat) : Prop := ∃ arr T, w.heap[b]? = some (.cells arr T (0, 0)) ∧ n ≤ arr.size ∧ T < tyN
/-- The k cells from o on are there, and none is frozen. -/
def wokR (w : World) (b o k : Nat) : Prop := ∃ arr T fr, w.heap[b]? = some (.cells arr T fr) ∧ (k = 0 ∨ o + k ≤ arr.size) ∧ ∀ j, o ≤ j → j < o + k → ¬ (fr.1 ≤ j ∧ j < fr.2)
def Row (w : World) (b o : Nat) (l : List Value) : Prop := ∀ i v, l[i]? = some v → rd w b (o + i) = some v
def oc (l : List Value) : Prop := ∀ v ∈ l, v.oneCell' = true

theorem add_mk (b o n : Nat) : Addr.add ⟨b, o, none⟩ n = ⟨b, o + n, none⟩ := by
  unfold Addr.add; split
  · rename_i h; subst h; rfl
  · rfl
theorem loadV_none (w : World) (b o : Nat) : loadV w ⟨b, o, none⟩ none = rd w b o := rfl
theorem loadV_some (w : World) (b o n : Nat) : loadV w ⟨b, o, none⟩ (some n) = rdA w b o n := rfl
theorem rd_drew (w : World) (b o : Nat) : rd w.drew b o = rd w b o := id (Eq.trans rfl rfl)
theorem cellsFrom_drew (w : World) (a : Addr) : ∀ n i, cellsFrom w.drew a i n = cellsFrom w a i n := fun n i => cellsFrom_of_heap (w := w) (w' := w.drew) rfl n i
theorem rdA_drew (w : World) (b o n : Nat) : rdA w.drew b o n = rdA w b o n := by simp only [rdA, cellsFrom_drew]

theorem Row.cellsFrom {w : World} {b o : Nat} {l : List Value} (h : Row w b o l) : ∀ n i, i + n ≤ l.length → cellsFrom w ⟨b, o, none⟩ i n = some ((l.drop i).take n)
  | 0, i, _ => by simp [Go.Proofs.Ytdffddiaoheklaa.cellsFrom]
  | n + 1, i, hi => by
    have hlt : i < l.length := by omega
    have h1 : w.cell? (Addr.add ⟨b, o, none⟩ i) = some l[i] := by rw [add_mk]; exact h i _ (List.getElem?_eq_getElem hlt)
    simp only [Go.Proofs.Ytdffddiaoheklaa.cellsFrom, h1, Row.cellsFrom h n (i + 1) (by omega), Option.map_some]
    congr 1
    rw [List.drop_eq_getElem_cons hlt, List.take_succ_cons]
theorem Row.rdA {w : World} {b o : Nat} {l : List Value} (h : Row w b o l) (n : Nat) (hn : n ≤ l.length) : rdA w b o n = some (.agg (l.take n).toArray) := by
  simp [Go.Proofs.Ytdffddiaoheklaa.rdA, h.cellsFrom n 0 (by omega)]
theorem Row.nil (w : World) (b o : Nat) : Row w b o [] := fun i v h => by simp at h
theorem Row.cons {w : World} {b o : Nat} {v : Value} {l : List Value} : Row w b o (v :: l) ↔ rd w b o = some v ∧ Row w b (o + 1) l := by
  constructor
  · intro h
    refine ⟨h 0 v rfl, fun i u hu => ?_⟩
    have := h (i + 1) u (by simpa using hu)
    rwa [show o + (i + 1) = o + 1 + i by omega] at this
  · rintro ⟨h0, h⟩ i u hu
    cases i with
    | zero => simp at hu; subst hu; exact h0
    | succ i => have := h i u (by simpa using hu); rwa [show o + (i + 1) = o + 1 + i by omega]
theorem Row.append {w : World} {b o : Nat} {l m : List Value} : Row w b o (l ++ m) ↔ Row w b o l ∧ Row w b (o + l.length) m := by
  induction l generalizing o with
  | nil => simp [Row.nil]
  | cons v l ih => simp only [List.cons_append, Row.cons, ih, List.length_cons, and_assoc]; rw [show o + 1 + l.length = o + (l.length + 1) by omega]
theorem Row.take {w : World} {b o : Nat} {l : List Value} (h : Row w b o l) (n : Nat) : Row w b o (l.take n) := fun i v hi => by
  rw [List.getElem?_take] at hi; split at hi
  · exact h i v hi
  · cases hi
theorem Row.drop {w : World} {b o : Nat} {l : List Value} (h : Row w b o l) (n : Nat) : Row w b (o + n) (l.drop n) := fun i v hi => by
  rw [List.getElem?_drop] at hi
  have := h (n + i) v hi
  rwa [show o + (n + i) = o + n + i by omega] at this
theorem Row.of_eq {w : World} {b o o' : Nat} {l l' : List Value} (h : Row w b o l) (ho : o = o') (hl : l = l') : Row w b o' l' := ho ▸ hl ▸ h

/-! ### What a step changes -/
structure Ext (F : Nat → Nat → Prop) (w w' : World) : Prop where
  os : w'.os = w.os
  output : w'.output = w.output
  tape : w'.tape = w.tape
  size : w.heap.size ≤ w'.heap.size
  cells : ∀ (b : Nat) arr T fr, w.heap[b]? = some (.cells arr T fr) → ∃ arr', w'.heap[b]? = some (.cells arr' T fr) ∧ arr'.size = arr.size ∧ ∀ o, ¬ F b o → arr'[o]? = arr[o]?
  other : ∀ (b : Nat) x, w.heap[b]? = some x → (∀ arr T fr, x ≠ Obj.cells arr T fr) → w'.heap[b]? = some x

def noF : Nat → Nat → Prop := fun _ _ => False
def rng (b o n : Nat) : Nat → Nat → Prop := fun b' o' => b' = b ∧ o ≤ o' ∧ o' < o + n
/-- Every cell of the blocks from B on. -/
def fromB (B : Nat) : Nat → Nat → Prop := fun b _ => B ≤ b

theorem Ext.refl (F : Nat → Nat → Prop) (w : World) : Ext F w w := ⟨rfl, rfl, rfl, Nat.le_refl _, fun _ arr _ _ h => ⟨arr, h, rfl, fun _ _ => rfl⟩, fun _ _ h _ => h⟩
theorem Ext.of_heap {F : Nat → Nat → Prop} {w w' : World} (h1 : w'.os = w.os) (h2 : w'.output = w.output) (h3 : w'.tape = w.tape) (h : w'.heap = w.heap) : Ext F w w' :=
  ⟨h1, h2, h3, by rw [h]; exact Nat.le_refl _, fun _ arr _ _ hb => ⟨arr, by rw [h]; exact hb, rfl, fun _ _ => rfl⟩, fun _ _ hb _ => by rw [h]; exact hb⟩
theorem Ext.drew (F : Nat → Nat → Prop) (w : World) : Ext F w w.drew := Ext.of_heap rfl rfl rfl rfl
theorem lt_of_some {w : World} {b : Nat} {x : Obj} (h : w.heap[b]? = some x) : b < w.heap.size := (Array.getElem?_eq_some_iff.1 h).1
theorem Ext.trans {F G H : Nat → Nat → Prop} {a b c : World} (h : Ext F a b) (k : Ext G b c) (hF : ∀ x o, F x o → H x o) (hG : ∀ x o, x < a.heap.size → G x o → H x o) : Ext H a c :=
  ⟨k.os.trans h.os, k.output.trans h.output, k.tape.trans h.tape, Nat.le_trans h.size k.size, fun x arr T fr hx => by
    obtain ⟨a1, h1, s1, c1⟩ := h.cells x arr T fr hx
    obtain ⟨a2, h2, s2, c2⟩ := k.cells x a1 T fr h1
    exact ⟨a2, h2, s2.trans s1, fun o ho => (c2 o fun hg => ho (hG x o (lt_of_some hx) hg)).trans (c1 o fun hf => ho (hF x o hf))⟩,
   fun x y hx hn => k.other x y (h.other x y hx hn) hn⟩
theorem Ext.mono {F G : Nat → Nat → Prop} {a b : World} (h : Ext F a b) (hFG : ∀ x o, x < a.heap.size → F x o → G x o) : Ext G a b :=
  ⟨h.os, h.output, h.tape, h.size, fun x arr T fr hx => by
    obtain ⟨a1, h1, s1, c1⟩ := h.cells x arr T fr hx
    exact ⟨a1, h1, s1, fun o ho => c1 o fun hf => ho (hFG x o (lt_of_some hx) hf)⟩, h.other⟩
theorem Ext.tr {F : Nat → Nat → Prop} {a b c : World} (h : Ext F a b) (k : Ext F b c) : Ext F a c := h.trans k (fun _ _ h => h) fun _ _ _ h => h
theorem rd_some {w : World} {b o : Nat} {v : Value} (h : rd w b o = some v) : ∃ arr T fr, w.heap[b]? = some (.cells arr T fr) ∧ arr[o]? = some v := by
  unfold rd World.cell? at h
  split at h
  · rename_i c e f hb; simp at h; exact ⟨c, e, f, hb, h⟩
  · cases h
theorem rd_of {w : World} {b o : Nat} {arr : Array Value} {T : Nat} {fr : Nat × Nat} (h : w.heap[b]? = some (.cells arr T fr)) : rd w b o = arr[o]? := by
  simp [rd, World.cell?, h]
theorem rd_lt {w : World} {b o : Nat} {v : Value} (h : rd w b o = some v) : b < w.heap.size := by
  obtain ⟨_, _, _, hb, _⟩ := rd_some h; exact lt_of_some hb
theorem Ext.rd {F : Nat → Nat → Prop} {w w' : World} (h : Ext F w w') {b o : Nat} {v : Value} (hv : rd w b o = some v) (hF : ¬ F b o) : rd w' b o = some v := by
  obtain ⟨arr, T, fr, hb, ho⟩ := rd_some hv
  obtain ⟨arr', hb', _, hc⟩ := h.cells b arr T fr hb
  rw [rd_of hb', hc o hF, ho]
theorem Ext.row {F : Nat → Nat → Prop} {w w' : World} (h : Ext F w w') {b o : Nat} {l : List Value} (hr : Row w b o l) (hF : ∀ i, i < l.length → ¬ F b (o + i)) : Row w' b o l :=
  fun i v hi => h.rd (hr i v hi) (hF i (List.getElem?_eq_some_iff.1 hi).1)
theorem Ext.wok {F : Nat → Nat → Prop} {w w' : World} (h : Ext F w w') {b n : Nat} (hw : wok w b n) : wok w' b n := by
  obtain ⟨arr, T, hb, hn, hT⟩ := hw
  obtain ⟨arr', hb', hs, _⟩ := h.cells b arr T _ hb
  exact ⟨arr', T, hb', by omega, hT⟩
theorem wok_lt {w : World} {b n : Nat} (h : wok w b n) : b < w.heap.size := by obtain ⟨_, _, hb, _⟩ := h; exact lt_of_some hb
theorem wok.mono {w : World} {b n m : Nat} (h : wok w b n) (hm : m ≤ n) : wok w b m := by obtain ⟨a, T, hb, hn, hT⟩ := h; exact ⟨a, T, hb, by omega, hT⟩
theorem wok.R {w : World} {b n o k : Nat} (h : wok w b n) (hk : o + k ≤ n) : wokR w b o k := by
  obtain ⟨arr, T, hb, hn⟩ := h
  exact ⟨arr, T, (0, 0), hb, by omega, fun j _ _ h => by simp at h⟩
theorem wokR.mono {w : World} {b o k o' k' : Nat} (h : wokR w b o k) (h1 : o ≤ o') (h2 : o' + k' ≤ o + k) : wokR w b o' k' := by
  obtain ⟨arr, T, fr, hb, hn, hf⟩ := h
  exact ⟨arr, T, fr, hb, by omega, fun j a c => hf j (by omega) (by omega)⟩
theorem Ext.wokR {F : Nat → Nat → Prop} {w w' : World} (h : Ext F w w') {b o k : Nat} (hw : wokR w b o k) : wokR w' b o k := by
  obtain ⟨arr, T, fr, hb, hn, hf⟩ := hw
  obtain ⟨arr', hb', hs, _⟩ := h.cells b arr T _ hb
  exact ⟨arr', T, fr, hb', by omega, hf⟩
theorem wokR_lt {w : World} {b o k : Nat} (h : wokR w b o k) : b < w.heap.size := by obtain ⟨_, _, _, hb, _⟩ := h; exact lt_of_some hb
theorem wok_drew {w : World} {b n : Nat} (h : wok w b n) : wok w.drew b n := h
theorem Row.drew {w : World} {b o : Nat} {l : List Value} (h : Row w b o l) : Row w.drew b o l := h
/-- What is untouched is the same block. -/
theorem Ext.block {F : Nat → Nat → Prop} {w w' : World} (h : Ext F w w') {b : Nat} (hb : b < w.heap.size) (hF : ∀ o, ¬ F b o) : w'.heap[b]? = w.heap[b]? := by
  have hx : w.heap[b]? = some w.heap[b] := Array.getElem?_eq_getElem hb
  by_cases hc : ∃ arr T fr, w.heap[b] = .cells arr T fr
  · obtain ⟨arr, T, fr, he⟩ := hc
    rw [he] at hx
    obtain ⟨arr', hb', hs, hcs⟩ := h.cells b arr T fr hx
    have : arr' = arr := Array.ext_getElem? fun i => hcs i (hF i)
    rw [hb', hx, this]
  · rw [hx]; exact h.other b _ hx fun arr T fr he => hc ⟨arr, T, fr, he⟩

/-! ### Draws alone -/
def dr (w : World) (n : Nat) : World := { w with drawn := n }
theorem drew_dr (w : World) : w.drew = dr w (w.drawn + 1) := id (Eq.trans rfl rfl)
theorem dr_drew (w : World) (n : Nat) : (dr w n).drew = dr w (n + 1) := id (Eq.trans rfl rfl)
theorem dr_dr (w : World) (n m : Nat) : dr (dr w n) m = dr w m := id (Eq.trans rfl rfl)
theorem dr_self (w : World) : w = dr w w.drawn := rfl
theorem rd_dr (w : World) (n b o : Nat) : rd (dr w n) b o = rd w b o := id (Eq.trans rfl rfl)
theorem rdA_dr (w : World) (n b o k : Nat) : rdA (dr w n) b o k = rdA w b o k := by
  simp only [rdA, cellsFrom_of_heap (w := w) (w' := dr w n) rfl]
theorem heap_dr (w : World) (n : Nat) : (dr w n).heap = w.heap := rfl
theorem Ext.dr (F : Nat → Nat → Prop) (w : World) (n : Nat) : Ext F w (dr w n) := Ext.of_heap rfl rfl rfl rfl
/-- Only draws. -/
def RO (w w' : World) : Prop := ∃ n, w' = Go.Proofs.Ytdffddiaoheklaa.dr w n
theorem RO.refl (w : World) : RO w w := ⟨w.drawn, rfl⟩
theorem RO.drew (w : World) : RO w w.drew := ⟨_, rfl⟩
theorem RO.dr (w : World) (n : Nat) : RO w (Go.Proofs.Ytdffddiaoheklaa.dr w n) := ⟨n, rfl⟩
theorem RO.tr {a b c : World} (h : RO a b) (k : RO b c) : RO a c := by obtain ⟨n, rfl⟩ := h; obtain ⟨m, rfl⟩ := k; exact ⟨m, rfl⟩
theorem RO.ext {F : Nat → Nat → Prop} {a b : World} (h : RO a b) : Ext F a b := by obtain ⟨n, rfl⟩ := h; exact Ext.dr F a n

/-! ### Writing -/
def putL (arr : Array Value) (o : Nat) : List Value → Array Value
  | [] => arr
  | v :: r => putL (arr.setIfInBounds o v) (o + 1) r
theorem putL_size : ∀ (l : List Value) (arr : Array Value) (o : Nat), (putL arr o l).size = arr.size
  | [], _, _ => rfl
  | v :: r, arr, o => by simp [putL, putL_size r]
theorem putL_out : ∀ (l : List Value) (arr : Array Value) (o i : Nat), ¬ (o ≤ i ∧ i < o + l.length) → (putL arr o l)[i]? = arr[i]?
  | [], _, _, _, _ => rfl
  | v :: r, arr, o, i, h => by
    simp only [List.length_cons] at h
    rw [putL, putL_out r _ _ _ (by omega), Array.getElem?_setIfInBounds_ne (by omega)]
theorem putL_in : ∀ (l : List Value) (arr : Array Value) (o i : Nat), o + l.length ≤ arr.size → i < l.length → (putL arr o l)[o + i]? = l[i]?
  | v :: r, arr, o, 0, h, _ => by
    simp only [List.length_cons] at h
    rw [putL, Nat.add_zero, putL_out r _ _ _ (by omega)]
    have : o < arr.size := by omega
    simp [this]
  | v :: r, arr, o, i + 1, h, hi => by
    simp only [List.length_cons] at h hi
    have := putL_in r (arr.setIfInBounds o v) (o + 1) i (by simp; omega) (by omega)
    rw [show o + (i + 1) = o + 1 + i by omega, putL, this]
    simp
def putW (w : World) (b o : Nat) (l : List Value) : World :=
  { w with heap := w.heap.modify b fun | .cells c T f => .cells (putL c o l) T f | x => x }
theorem putW_heap {w : World} {b o : Nat} {l : List Value} {arr : Array Value} {T : Nat} {fr : Nat × Nat} (h : w.heap[b]? = some (.cells arr T fr)) (b' : Nat) :
    (putW w b o l).heap[b']? = if b' = b then some (.cells (putL arr o l) T fr) else w.heap[b']? := by
  simp only [putW, Array.getElem?_modify]
  by_cases hb : b = b'
  · subst hb; simp [h]
  · rw [if_neg hb, if_neg (Ne.symm hb)]
theorem putW_extR {w : World} {b o k p : Nat} {l : List Value} (h : wokR w b o k) : Ext (rng b p l.length) w (putW w b p l) := by
  obtain ⟨arr, T, fr0, hb, _⟩ := h
  refine ⟨rfl, rfl, rfl, by simp [putW], fun x a1 T1 fr hx => ?_, fun x y hx hn => ?_⟩
  · rw [putW_heap hb]
    by_cases hxb : x = b
    · subst hxb
      rw [hb] at hx
      simp only [Option.some.injEq, Obj.cells.injEq] at hx
      obtain ⟨rfl, rfl, rfl⟩ := hx
      rw [if_pos rfl]
      exact ⟨_, rfl, putL_size _ _ _, fun i hi => putL_out _ _ _ _ fun hh => hi ⟨rfl, hh⟩⟩
    · rw [if_neg hxb]; exact ⟨a1, hx, rfl, fun _ _ => rfl⟩
  · rw [putW_heap hb]
    by_cases hxb : x = b
    · subst hxb; rw [hb] at hx; cases hx; exact (hn _ _ _ rfl).elim
    · rw [if_neg hxb]; exact hx
theorem putW_ext {w : World} {b n o : Nat} {l : List Value} (h : wok w b n) : Ext (rng b o l.length) w (putW w b o l) := putW_extR (h.R (o := 0) (k := n) (by omega))
theorem putW_rowR {w : World} {b o k p : Nat} {l : List Value} (h : wokR w b o k) (ho : o ≤ p) (hn : p + l.length ≤ o + k) : Row (putW w b p l) b p l := by
  obtain ⟨arr, T, fr, hb, hs, _⟩ := h
  intro i v hi
  have hlt := (List.getElem?_eq_some_iff.1 hi).1
  have h1 : (putW w b p l).heap[b]? = some (.cells (putL arr p l) T fr) := by rw [putW_heap hb, if_pos rfl]
  rw [rd_of h1, putL_in _ _ _ _ (by omega) hlt, hi]
theorem putW_row {w : World} {b n o : Nat} {l : List Value} (h : wok w b n) (hn : o + l.length ≤ n) : Row (putW w b o l) b o l := putW_rowR (h.R (o := 0) (k := n) (by omega)) (by omega) (by omega)
theorem modify_same {w : World} {b : Nat} {f : Obj → Obj} (h : ∀ x, w.heap[b]? = some x → f x = x) : w.heap.modify b f = w.heap := by
  apply Array.ext_getElem?
  intro i
  rw [Array.getElem?_modify]
  split
  · rename_i hb; subst hb
    cases hx : w.heap[b]? with
    | none => rfl
    | some x => simp [h x hx]
  · rfl
theorem run_storeCellsR {P : Program} : ∀ (l : List Value) (w : World) (b lo k o i : Nat), wokR w b lo k → lo ≤ o + i → o + i + l.length ≤ lo + k → oc l →
    (storeCells ⟨b, o, none⟩ l i).run P w = .ok () (putW w b (o + i) l)
  | [], w, b, lo, k, o, i, _, _, _, _ => by
    have : putW w b (o + i) [] = w := by
      have hm : w.heap.modify b (fun | .cells c T f => .cells (putL c (o + i) []) T f | x => x) = w.heap := modify_same fun x _ => by cases x <;> rfl
      show ({ w with heap := _ } : World) = w
      rw [hm]
    rw [this]; simp [storeCells]
  | v :: r, w, b, lo, k, o, i, hw, hlo, hn, ho => by
    simp only [List.length_cons] at hn
    have hwc := hw
    obtain ⟨arr, T, fr, hb, hs, hfr⟩ := hw
    have hv : v.oneCell' = true := ho v (by simp)
    have hc : w.cell? (Addr.add ⟨b, o, none⟩ i) = some arr[o + i] := by
      rw [add_mk]; exact (rd_of hb).trans (Array.getElem?_eq_getElem (by omega))
    have hf : w.frozen? (Addr.add ⟨b, o, none⟩ i) = false := by
      rw [add_mk]
      have := hfr (o + i) hlo (by omega)
      simp only [World.frozen?, hb]
      cases fr with
      | mk x y => simp at this ⊢; exact this
    have hset : w.setCell (Addr.add ⟨b, o, none⟩ i) v = putW w b (o + i) [v] := by
      rw [add_mk]
      simp only [World.setCell, putW, putL]
      rfl
    have hw' : wokR (putW w b (o + i) [v]) b lo k := (putW_extR hwc).wokR hwc
    have ih := run_storeCellsR (P := P) r (putW w b (o + i) [v]) b lo k o (i + 1) hw' (by omega) (by omega) fun u hu => ho u (by simp [hu])
    have hcomp : putW (putW w b (o + i) [v]) b (o + (i + 1)) r = putW w b (o + i) (v :: r) := by
      simp only [putW]
      congr 1
      apply Array.ext_getElem?
      intro k
      simp only [Array.getElem?_modify]
      by_cases hk : b = k
      · subst hk; simp [hb, putL, show o + (i + 1) = o + i + 1 by omega]
      · simp [hk]
    simp only [storeCells, Sem.run_bind, run_store P w _ v .plain hv, hc, hf, Bool.false_eq_true, if_false, Result.andThen_ok, hset, ih, hcomp]
theorem run_storeCells {P : Program} (l : List Value) (w : World) (b n o i : Nat) (h : wok w b n) (hn : o + i + l.length ≤ n) (ho : oc l) :
    (storeCells ⟨b, o, none⟩ l i).run P w = .ok () (putW w b (o + i) l) := run_storeCellsR l w b 0 n o i (h.R (by omega)) (by omega) (by omega) ho

/-! ### New blocks -/
theorem alloc_heap (w : World) (x : Obj) (b : Nat) : (w.alloc x).heap[b]? = if b = w.heap.size then some x else w.heap[b]? := by
  simp only [World.alloc, Array.getElem?_push]
theorem alloc_ext (w : World) (x : Obj) : Ext noF w (w.alloc x) := by
  refine ⟨rfl, rfl, rfl, by rw [World.size_alloc]; omega, fun b arr T fr hb => ⟨arr, ?_, rfl, fun _ _ => rfl⟩, fun b y hb _ => ?_⟩
  · rw [alloc_heap, if_neg (Nat.ne_of_lt (lt_of_some hb))]; exact hb
  · rw [alloc_heap, if_neg (Nat.ne_of_lt (lt_of_some hb))]; exact hb
theorem alloc_row (w : World) (l : List Value) (T : Nat) : Row (w.alloc (.cells l.toArray T)) w.heap.size 0 l := fun i v hi => by
  have h1 : (w.alloc (.cells l.toArray T)).heap[w.heap.size]? = some (.cells l.toArray T (0, 0)) := by rw [alloc_heap, if_pos rfl]
  rw [rd_of h1, Nat.zero_add]; simpa using hi
theorem alloc_wok (w : World) (l : List Value) (T : Nat) (hT : T < tyN) : wok (w.alloc (.cells l.toArray T)) w.heap.size l.length :=
  ⟨l.toArray, T, by rw [alloc_heap, if_pos rfl], by simp, hT⟩

/-- A new block of cells: what is known behind it. -/
structure New (w w' : World) (l : List Value) : Prop where
  ext : Ext noF w w'
  size : w'.heap.size = w.heap.size + 1
  row : Row w' w.heap.size 0 l
  wok : wok w' w.heap.size l.length
theorem new_alloc (w : World) (l : List Value) (T : Nat) (hT : T < tyN) : New w (w.alloc (.cells l.toArray T)) l := ⟨alloc_ext _ _, World.size_alloc _ _, alloc_row _ _ _, alloc_wok _ _ _ hT⟩
theorem wok.ty {P : Program} (hP : P.types.size = tyN) {w : World} {b n : Nat} (h : wok w b n) : tyOk P w b = true := by
  obtain ⟨arr, T, hb, _, hT⟩ := h
  simp only [tyOk, hb, hP]
  simpa using hT
theorem ty_dr (P : Program) (w : World) (n b : Nat) : tyOk P (dr w n) b = tyOk P w b := id (Eq.trans rfl rfl)
end Go.Proofs.Ytdffddiaoheklaa
