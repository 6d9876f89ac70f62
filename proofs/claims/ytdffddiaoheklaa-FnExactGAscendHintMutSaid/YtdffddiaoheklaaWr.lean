/-
  The operations that write: store, alloc, box, slice literals, append, copy, make. For whatever program. No condition.
-/
import Derived.Test.YtdffddiaoheklaaMem
import Derived.IntWalk
set_option linter.unusedSimpArgs false
set_option linter.unusedVariables false
namespace Go.Proofs.Ytdffddiaoheklaa
open Go

def szK (P : Program) (T : Nat) : Option Nat := (P.info? T).map fun i => i.size
def zK (P : Program) (T : Nat) : Option (List Value) := ((P.info? T).bind fun i => i.zero).map fun z => z.cells.toList
def elK (P : Program) (T : Nat) : Option (Nat × Nat × Nat × List Value) :=
  match P.underlying T with
  | some (.slice E) => match P.info? E with
    | some i => i.zero.map fun z => (E, i.size, i.bytes, z.cells.toList)
    | none => none
  | _ => none

section
variable {P : Program} {e : Env} {w : World} {K : Value → World → Prop}
variable {d : Option Nat} {ty : Nat} {pos : String} {af : Array Edge} {g : Option (Nat × Bool)}

def RunK (P : Program) (s : Sem Value) (w : World) (K : Value → World → Prop) : Prop := ∃ v w', s.run P w = .ok v w' ∧ K v w'
def StoreK (P : Program) (T : Nat) (x v : Value) (w : World) (K : Value → World → Prop) : Prop := ∃ w', (Instr.storeAt T x v).run P w = .ok () w' ∧ K undef w'
def AllocK (P : Program) (T : Nat) (w : World) (K : Value → World → Prop) : Prop := RunK P (Instr.alloc T true (.tuple #[])) w K
def BoxK (P : Program) (T : Nat) (v : Value) (w : World) (K : Value → World → Prop) : Prop := RunK P (Instr.box T v) w K
def BSlK (P : Program) (T n : Nat) (parts : List (Nat × Value)) (w : World) (K : Value → World → Prop) : Prop := RunK P (Instr.buildSlice T n parts.toArray) w K
def AppK (P : Program) (T U : Nat) (s x : Value) (w : World) (K : Value → World → Prop) : Prop := ∀ ty, RunK P (Builtin.append_ #[T, U] ty #[s, x]) w K
def CpyK (P : Program) (T U : Nat) (s x : Value) (w : World) (K : Value → World → Prop) : Prop := ∀ ty, RunK P (Builtin.copy_ #[T, U] ty #[s, x]) w K
def MkSK (P : Program) (T : Nat) (l c : Value) (w : World) (K : Value → World → Prop) : Prop := RunK P (Instr.makeSlice T l c) w K

theorem DoOp_store {T : Nat} {x y : Operand} (h : StoreK P T (ev e x) (ev e y) w K) : DoOp P e w ⟨d, .store T x y, ty, pos, af, g⟩ K := by
  obtain ⟨w', hr, hk⟩ := h
  simp [DoOp, execOp, hr]; exact hk
theorem DoOp_alloc {T : Nat} (h : AllocK P T w K) : DoOp P e w ⟨d, .alloc T, ty, pos, af, g⟩ K := by
  obtain ⟨v, w', hr, hk⟩ := h
  simp [DoOp, execOp, hr]; exact hk
theorem DoOp_box {T : Nat} {x : Operand} (h : BoxK P T (ev e x) w K) : DoOp P e w ⟨d, .box T x, ty, pos, af, g⟩ K := by
  obtain ⟨v, w', hr, hk⟩ := h
  simp [DoOp, execOp, hr]; exact hk
theorem DoOp_bsl {T n : Nat} {parts : List (Nat × Operand)} (h : BSlK P T n (parts.map fun p => (p.1, ev e p.2)) w K) : DoOp P e w ⟨d, .buildSlice T n parts.toArray, ty, pos, af, g⟩ K := by
  obtain ⟨v, w', hr, hk⟩ := h
  have : (parts.toArray.map fun (i, x) => (i, ev e x)) = (parts.map fun p => (p.1, ev e p.2)).toArray := by simp
  simp only [DoOp, execOp]
  rw [this]
  simp [hr]; exact hk
theorem DoOp_append {T U : Nat} {x y : Operand} (h : AppK P T U (ev e x) (ev e y) w K) : DoOp P e w ⟨d, .call ⟨.builtin .append, #[x, y], #[T, U]⟩, ty, pos, af, g⟩ K := by
  obtain ⟨v, w', hr, hk⟩ := h ty
  simp [DoOp, execOp, resolve, invoke, builtin, hr]; exact hk
theorem DoOp_copy {T U : Nat} {x y : Operand} (h : CpyK P T U (ev e x) (ev e y) w K) : DoOp P e w ⟨d, .call ⟨.builtin .copy, #[x, y], #[T, U]⟩, ty, pos, af, g⟩ K := by
  obtain ⟨v, w', hr, hk⟩ := h ty
  simp [DoOp, execOp, resolve, invoke, builtin, hr]; exact hk
theorem DoOp_make {T : Nat} {x y : Operand} (h : MkSK P T (ev e x) (ev e y) w K) : DoOp P e w ⟨d, .makeSlice T x y, ty, pos, af, g⟩ K := by
  obtain ⟨v, w', hr, hk⟩ := h
  simp [DoOp, execOp, hr]; exact hk

/-- A store of k cells. -/
theorem StoreK_intro {T k b o n : Nat} {v : Value} (hT : szK P T = some k) (hk : v.cells.toList.length = k) (hw : wok w b n) (hn : o + k ≤ n) (hoc : oc v.cells.toList)
    (hK : ∀ w', Ext (rng b o k) w w' → Row w' b o v.cells.toList → w'.heap.size = w.heap.size → K undef w') : StoreK P T (.pointer (some ⟨b, o, none⟩)) v w K := by
  unfold szK at hT
  cases hi : P.info? T with
  | none => simp [hi] at hT
  | some i =>
    simp [hi] at hT
    have hsz : v.cells.size = i.size := by rw [hT, ← hk]; simp
    have hr := run_storeCells (P := P) v.cells.toList w b n o 0 hw (by omega) hoc
    rw [Nat.add_zero] at hr
    refine ⟨putW w b o v.cells.toList, ?_, hK _ (hk ▸ putW_ext hw) (putW_row hw (by omega)) (by simp [putW])⟩
    simp only [Instr.storeAt, Instr.sureAddr, storeVar, Sem.run_bind, Sem.run_pure, Result.andThen_ok, run_sizeOf hi, hsz, ne_eq, not_true_eq_false, if_false]
    exact hr

theorem AllocK_intro {T : Nat} {z : List Value} (hz : zK P T = some z) (hT : T < tyN) (hK : ∀ w', New w w' z → K (.pointer (some ⟨w.heap.size, 0, none⟩)) w') : AllocK P T w K := by
  unfold zK at hz
  cases hi : P.info? T with
  | none => simp [hi] at hz
  | some i =>
    cases hzz : i.zero with
    | none => simp [hi, hzz] at hz
    | some v =>
      simp [hi, hzz] at hz
      refine ⟨_, w.alloc (.cells z.toArray T), ?_, hK _ (new_alloc _ _ _ hT)⟩
      subst hz
      simp [Instr.alloc, zeroValue, typeInfo, hi, hzz, newVar, newRow]
theorem BoxK_intro {T : Nat} {v : Value} (hT : T < tyN) (hK : ∀ w', New w w' v.cells.toList → K (.pointer (some ⟨w.heap.size, 0, none⟩)) w') : BoxK P T v w K := by
  refine ⟨_, w.alloc (.cells v.cells.toList.toArray T), ?_, hK _ (new_alloc _ _ _ hT)⟩
  simp [Instr.box, newVar, newRow]

/-- A slice literal. -/
def bsV (P : Program) (T n : Nat) (parts : List (Nat × Value)) : Option (Nat × List Value) :=
  match elK P T with
  | some (E, sz, _, z) =>
    if n * sz ≤ 16777216 then
      (Instr.fill (fun i => some (i * sz, sz)) ((Array.range (n * sz)).map (fun j => (if n * sz = 0 then #[] else z.toArray)[j % (if n * sz = 0 then #[] else z.toArray).size]!)) parts).map fun c => (E, c.toList)
    else none
  | none => none
theorem BSlK_intro {T n E : Nat} {parts : List (Nat × Value)} {l : List Value} (h : bsV P T n parts = some (E, l)) (hT : E < tyN)
    (hK : ∀ w', New w w' l → K (.slice (some ⟨w.heap.size, 0, none⟩) n n) w') : BSlK P T n parts w K := by
  unfold bsV elK at h
  cases hu : P.underlying T with
  | none => simp [hu] at h
  | some td =>
    cases td with
    | slice E' =>
      cases hi : P.info? E' with
      | none => simp [hu, hi] at h
      | some i =>
        cases hz : i.zero with
        | none => simp [hu, hi, hz] at h
        | some z =>
          simp only [hu, hi, hz, Option.map_some] at h
          split at h
          · rename_i hle
            simp only [Option.map_eq_some_iff, Prod.mk.injEq] at h
            obtain ⟨c, hc, rfl, rfl⟩ := h
            have hle' : ¬ n * i.size > 2 ^ 24 := by omega
            refine ⟨_, w.alloc (.cells c E'), ?_, hK _ (by simpa using new_alloc w c.toList E' hT)⟩
            by_cases h0 : n * i.size = 0
            · simp [h0] at hc
              simp [Instr.buildSlice, run_underlying' hu, run_sizeOf hi, h0, hc, newRow]
            · simp only [if_neg h0] at hc
              have hzv : (zeroValue E').run P w = .ok z w := by simp [zeroValue, typeInfo, hi, hz]
              simp [Instr.buildSlice, run_underlying' hu, run_sizeOf hi, h0, hle', hzv, newRow]
              simp at hc
              rw [hc]
              simp
          · simp at h
    | _ => simp [hu] at h

/-! ### Slices as lists of cells -/
/-- The slice v has n elements of sz cells each; the cells are l. -/
def SlV (w : World) (sz : Nat) (v : Value) (n : Nat) (l : List Value) : Prop :=
  l.length = n * sz ∧ ((v = .slice none 0 0 ∧ n = 0) ∨ ∃ b o cap, v = .slice (some ⟨b, o, none⟩) n cap ∧ n ≤ cap ∧ Row w b o l ∧ wokR w b o (cap * sz))
theorem SlV.len {sz : Nat} {v : Value} {n : Nat} {l : List Value} (h : SlV w sz v n l) : Builtin.lenOf v = Sem.pure n := by
  rcases h.2 with ⟨rfl, rfl⟩ | ⟨b, o, cap, rfl, _⟩ <;> rfl
theorem SlV.first {sz : Nat} {v : Value} {n : Nat} {l : List Value} (h : SlV w sz v n l) (k : Nat) (hk : k ≤ n) : (Builtin.firstCells sz k v).run P w = .ok (l.take (k * sz)).toArray w := by
  rcases h.2 with ⟨rfl, rfl⟩ | ⟨b, o, cap, rfl, _, hr, _⟩
  · have : k = 0 := by omega
    subst this; simp [Builtin.firstCells]
  · have hle : k * sz ≤ l.length := by rw [h.1]; exact Nat.mul_le_mul_right _ hk
    have := hr.cellsFrom (k * sz) 0 (by omega)
    simp only [Builtin.firstCells]
    rw [run_loadCells this]; simp
theorem SlV.ext {F : Nat → Nat → Prop} {w' : World} {sz : Nat} {v : Value} {n : Nat} {l : List Value} (h : SlV w sz v n l) (hx : Ext F w w')
    (hF : ∀ b o cap, v = .slice (some ⟨b, o, none⟩) n cap → ∀ i, i < l.length → ¬ F b (o + i)) : SlV w' sz v n l := by
  refine ⟨h.1, ?_⟩
  rcases h.2 with h | ⟨b, o, cap, hv, hc, hr, hw⟩
  · exact .inl h
  · exact .inr ⟨b, o, cap, hv, hc, hx.row hr (hF b o cap hv), hx.wokR hw⟩
theorem SlV.ext0 {w' : World} {sz : Nat} {v : Value} {n : Nat} {l : List Value} (h : SlV w sz v n l) (hx : Ext noF w w') : SlV w' sz v n l := h.ext hx fun _ _ _ _ _ _ hf => hf

theorem nextcap_le {need c : Nat} (h : c < need) : Builtin.nextslicecap need c ≤ 2 * need + 256 := by
  unfold Builtin.nextslicecap
  split
  · omega
  · split
    · omega
    · simp only [Builtin.growBy]
      repeat' split
      all_goals omega

/-- What an append leaves. -/
def AppRes (w : World) (sz : Nat) (v : Value) (n m : Nat) (l l' : List Value) (v' : Value) (w' : World) : Prop :=
  SlV w' sz v' (n + m) (l ++ l') ∧
  ((v' = v ∧ w' = w ∧ v = .slice none 0 0) ∨
   (∃ b o cap, v = .slice (some ⟨b, o, none⟩) n cap ∧ v' = .slice (some ⟨b, o, none⟩) (n + m) cap ∧ Ext (rng b (o + n * sz) (m * sz)) w w' ∧ w'.heap.size = w.heap.size ∧ n + m ≤ cap) ∨
   (∃ cap, v' = .slice (some ⟨w.heap.size, 0, none⟩) (n + m) cap ∧ Ext noF w w' ∧ w'.heap.size = w.heap.size + 1 ∧ wok w' w.heap.size (cap * sz)))
def noInt (P : Program) (U : Nat) : Bool :=
  match P.underlying U with
  | some (.slice _) => true
  | _ => false
theorem AppK_intro {T U E sz by_ : Nat} {z : List Value} {v x : Value} {n m : Nat} {l l' : List Value} (hel : elK P T = some (E, sz, by_, z)) (hT : E < tyN) (hz : z.length = sz) (hU : noInt P U = true)
    (hv : SlV w sz v n l) (hx : SlV w sz x m l') (hbig : n + m ≤ 4294967296) (hby : by_ ≤ 64) (hoc : oc l')
    (hK : ∀ v' w', AppRes w sz v n m l l' v' w' → K v' w') : AppK P T U v x w K := by
  intro ty
  unfold elK at hel
  cases hu : P.underlying T with
  | none => simp [hu] at hel
  | some td =>
    cases td with
    | slice E' =>
      cases hi : P.info? E' with
      | none => simp [hu, hi] at hel
      | some i =>
        cases hzz : i.zero with
        | none => simp [hu, hi, hzz] at hel
        | some zv =>
          simp only [hu, hi, hzz, Option.map_some, Option.some.injEq, Prod.mk.injEq] at hel
          obtain ⟨rfl, rfl, rfl, rfl⟩ := hel
          unfold noInt at hU
          cases hud' : P.underlying U with
          | none => simp [hud'] at hU
          | some ud =>
            obtain ⟨eU, rfl⟩ : ∃ eU, ud = .slice eU := by cases ud <;> simp [hud'] at hU; exact ⟨_, rfl⟩
            have hud := hud'
            have hnew := hx.first (P := P) m (Nat.le_refl _)
            have hold := hv.first (P := P) n (Nat.le_refl _)
            rw [← hx.1, List.take_length] at hnew
            rw [← hv.1, List.take_length] at hold
            have hlen := hx.len
            by_cases hroom : ∃ b o cap, v = .slice (some ⟨b, o, none⟩) n cap ∧ n + m ≤ cap
            · obtain ⟨b, o, cap, rfl, hle⟩ := hroom
              obtain ⟨hr, hw⟩ : Row w b o l ∧ wokR w b o (cap * i.size) := by
                rcases hv.2 with ⟨h, _⟩ | ⟨b', o', cap', h, _, hr, hw⟩
                · cases h
                · cases h; exact ⟨hr, hw⟩
              have hfit : o + n * i.size + l'.length ≤ o + cap * i.size := by
                rw [hx.1, Nat.add_assoc, ← Nat.add_mul]; exact Nat.add_le_add_left (Nat.mul_le_mul_right _ hle) _
              have hst := run_storeCellsR (P := P) l' w b _ _ (o + n * i.size) 0 hw (by omega) hfit hoc
              rw [Nat.add_zero] at hst
              have hx1 : Ext (rng b (o + n * i.size) l'.length) w (putW w b (o + n * i.size) l') := putW_extR hw
              refine ⟨.slice (some ⟨b, o, none⟩) (n + m) cap, putW w b (o + n * i.size) l', ?_, hK _ _ ⟨⟨?_, .inr ⟨b, o, cap, rfl, hle, ?_, hx1.wokR hw⟩⟩, .inr (.inl ⟨b, o, cap, rfl, rfl, hx.1 ▸ hx1, by simp [putW], hle⟩)⟩⟩
              · simp [Builtin.append_, run_underlying' hu, run_underlying' hud, run_sizeOf hi, hlen, hle, hnew, add_mk, hst]
              · simp [hv.1, hx.1, Nat.add_mul]
              · refine Row.append.2 ⟨hx1.row hr fun k hk hf => ?_, ?_⟩
                · have := hf.2.1; rw [hv.1] at hk; omega
                · rw [hv.1]; exact putW_rowR hw (by omega) hfit
            · by_cases hnil : v = .slice none 0 0 ∧ m = 0
              · obtain ⟨rfl, rfl⟩ := hnil
                have hn : n = 0 := by
                  rcases hv.2 with ⟨_, h⟩ | ⟨b', o', cap', h, _⟩
                  · exact h
                  · cases h
                subst hn
                have hl' : l' = [] := List.eq_nil_of_length_eq_zero (by rw [hx.1]; simp)
                have hl : l = [] := List.eq_nil_of_length_eq_zero (by rw [hv.1]; simp)
                subst hl hl'
                refine ⟨.slice none 0 0, w, ?_, hK _ _ ⟨⟨by simp, .inl ⟨rfl, rfl⟩⟩, .inl ⟨rfl, rfl, rfl⟩⟩⟩
                simp [Builtin.append_, run_underlying' hu, run_underlying' hud, run_sizeOf hi, hlen, hnew]
              · obtain ⟨base, cap, rfl, hgr⟩ : ∃ base cap, v = .slice base n cap ∧ cap < n + m := by
                  rcases hv.2 with ⟨h, h2⟩ | ⟨b', o', cap', h, hc, _⟩
                  · refine ⟨none, 0, by rw [h, h2], ?_⟩
                    have : m ≠ 0 := fun hm => hnil ⟨h, hm⟩
                    omega
                  · refine ⟨_, cap', h, ?_⟩
                    exact Nat.lt_of_not_le fun hle => hroom ⟨b', o', cap', h, hle⟩
                have h1 := nextcap_le hgr
                have h2 : Builtin.nextslicecap (n + m) cap * i.bytes ≤ 281474976710656 := by
                  calc Builtin.nextslicecap (n + m) cap * i.bytes ≤ (2 * (n + m) + 256) * 64 := Nat.mul_le_mul h1 hby
                    _ ≤ 281474976710656 := by omega
                have h2' : ¬ 281474976710656 < Builtin.nextslicecap (n + m) cap * i.bytes := by omega
                have h3 : ¬ (9223372036854775807 < ((n : Int) + (m : Int))) := by omega
                have h4 : ¬ (n + m ≤ cap) := by omega
                let q := Question.appendCap (n + m) cap E'
                have hq : q.forced = false := rfl
                let c := q.cut (w.tape w.drawn q)
                have hc : n + m ≤ c := by show n + m ≤ (n + m) + _ % _; omega
                let cells : Array Value := l.toArray ++ l'.toArray ++ Builtin.zeroCells zv.cells (c - (n + m))
                have hcs : cells.toList.length = c * i.size := by
                  have hz' : zv.cells.size = i.size := by simpa using hz
                  simp only [cells, Array.toList_append, List.length_append, List.toList_toArray, hv.1, hx.1, Array.length_toList, Builtin.zeroCells, Array.size_map, Array.size_range, hz']
                  rw [← Nat.add_mul, ← Nat.add_mul]; congr 1; omega
                have hnw := new_alloc w.drew cells.toList E' hT
                rw [Array.toArray_toList] at hnw
                refine ⟨.slice (some ⟨w.heap.size, 0, none⟩) (n + m) c, w.drew.alloc (.cells cells E'), ?_, hK _ _ ⟨⟨?_, .inr ⟨_, 0, c, rfl, hc, ?_, ?_⟩⟩, .inr (.inr ⟨c, rfl, (Ext.drew noF w).tr hnw.ext, hnw.size, by have := hnw.wok; rwa [hcs] at this⟩)⟩⟩
                · have hold' : (Builtin.firstCells i.size n (.slice base n cap)).run P w.drew = .ok l.toArray w.drew := by
                    have := (show SlV w.drew i.size (.slice base n cap) n l from hv.ext0 (Ext.drew _ _)).first (P := P) n (Nat.le_refl _)
                    rwa [← hv.1, List.take_length] at this
                  have hnew' : (Builtin.firstCells i.size m x).run P w.drew = .ok l'.toArray w.drew := by
                    have := (show SlV w.drew i.size x m l' from hx.ext0 (Ext.drew _ _)).first (P := P) m (Nat.le_refl _)
                    rwa [← hx.1, List.take_length] at this
                  have hdr : ({ w with drawn := w.drawn + 1 } : World) = w.drew := rfl
                  have hzv : ∀ w, (zeroValue E').run P w = .ok zv w := fun w => by simp [zeroValue, typeInfo, hi, hzz]
                  simp [Builtin.append_, run_underlying' hu, run_underlying' hud, run_sizeOf hi, hlen, h4, h3, h2', typeInfo, hi, hq, hdr, hold', hnew', hzv, newRow, q, c, cells]
                · simp [hv.1, hx.1, Nat.add_mul]
                · have : Row (w.drew.alloc (.cells cells E')) w.heap.size 0 cells.toList := hnw.row
                  have e1 : cells.toList = (l ++ l') ++ (Builtin.zeroCells zv.cells (c - (n + m))).toList := by simp [cells]
                  rw [e1] at this
                  exact (Row.append.1 this).1
                · have := hnw.wok
                  rw [hcs] at this
                  exact this.R (by omega)
    | _ => simp [hu] at hel

/-- copy(dst, src): k elements, k the lesser length. -/
theorem CpyK_intro {T U E sz by_ : Nat} {z : List Value} {b o dl dc n : Nat} {x : Value} {l : List Value} (hel : elK P T = some (E, sz, by_, z))
    (hx : SlV w sz x n l) (hw : wok w b (o + dl * sz)) (hoc : oc l)
    (hK : ∀ w', Ext (rng b o (min n dl * sz)) w w' → Row w' b o (l.take (min n dl * sz)) → w'.heap.size = w.heap.size → K (.int .i64 (min n dl : Nat)) w') :
    CpyK P T U (.slice (some ⟨b, o, none⟩) dl dc) x w K := by
  intro ty
  unfold elK at hel
  cases hu : P.underlying T with
  | none => simp [hu] at hel
  | some td =>
    cases td with
    | slice E' =>
      cases hi : P.info? E' with
      | none => simp [hu, hi] at hel
      | some i =>
        cases hzz : i.zero with
        | none => simp [hu, hi, hzz] at hel
        | some zv =>
          simp only [hu, hi, hzz, Option.map_some, Option.some.injEq, Prod.mk.injEq] at hel
          obtain ⟨rfl, rfl, rfl, rfl⟩ := hel
          have hf := hx.first (P := P) (min n dl) (Nat.min_le_left _ _)
          have hlen : (l.take (min n dl * i.size)).length = min n dl * i.size := by
            rw [List.length_take, hx.1]; exact Nat.min_eq_left (Nat.mul_le_mul_right _ (Nat.min_le_left _ _))
          have hfit : o + (min n dl * i.size) ≤ o + dl * i.size := Nat.add_le_add_left (Nat.mul_le_mul_right _ (Nat.min_le_right _ _)) _
          have hst := run_storeCells (P := P) (l.take (min n dl * i.size)) w b _ o 0 hw (by rw [hlen]; omega) fun u hu => hoc u (List.mem_of_mem_take hu)
          rw [Nat.add_zero] at hst
          refine ⟨_, putW w b o (l.take (min n dl * i.size)), ?_, hK _ (by have := putW_ext (o := o) (l := l.take (min n dl * i.size)) hw; rwa [hlen] at this) (putW_row hw (by rw [hlen]; omega)) (by simp [putW])⟩
          have hlx := hx.len
          have hm : Nat.min n dl = min n dl := rfl
          simp [Builtin.copy_, run_underlying' hu, hlx, run_sizeOf hi, hf, hst, goInt, hm]
    | _ => simp [hu] at hel

/-- make of a slice. -/
theorem MkSK_intro {T E sz by_ : Nat} {z : List Value} {n c : Nat} (hel : elK P T = some (E, sz, by_, z)) (hT : E < tyN) (hz : z.length = sz) (hle : n ≤ c) (hc : c * by_ ≤ 281474976710656) (hc' : c < 9223372036854775808)
    (hK : ∀ w' l, l.length = c * sz → New w w' l → K (.slice (some ⟨w.heap.size, 0, none⟩) n c) w') :
    MkSK P T (.int .i64 n) (.int .i64 c) w K := by
  unfold elK at hel
  cases hu : P.underlying T with
  | none => simp [hu] at hel
  | some td =>
    cases td with
    | slice E' =>
      cases hi : P.info? E' with
      | none => simp [hu, hi] at hel
      | some i =>
        cases hzz : i.zero with
        | none => simp [hu, hi, hzz] at hel
        | some zv =>
          simp only [hu, hi, hzz, Option.map_some, Option.some.injEq, Prod.mk.injEq] at hel
          obtain ⟨rfl, rfl, rfl, rfl⟩ := hel
          have wr : ∀ k : Nat, k < 9223372036854775808 → IntKind.i64.wrap (k : Int) = k := fun k hk => by
            exact IntWalk.i64_in _ (by omega)
          have hwn : IntKind.i64.wrap (n : Int) = n := wr n (by omega)
          have hwc : IntKind.i64.wrap (c : Int) = c := wr c hc'
          have h1 : ¬ (281474976710656 < (i.bytes : Int) * (c : Int)) := by
            have : ((i.bytes * c : Nat) : Int) ≤ 281474976710656 := by rw [Nat.mul_comm]; omega
            rw [Int.natCast_mul] at this; omega
          have h2 : ¬ ((n : Int) < 0) := by omega
          have h2' : ¬ ((c : Int) < 0) := by omega
          have h3 : ¬ ((c : Int) < (n : Int)) := by omega
          let cells : List Value := (((Array.range (c * i.size)).map fun j => (if c * i.size = 0 then #[] else zv.cells)[j % (if c * i.size = 0 then #[] else zv.cells).size]!)).toList
          refine ⟨_, w.alloc (.cells cells.toArray E'), ?_, hK _ cells (by simp [cells]) (new_alloc _ _ _ hT)⟩
          by_cases h0 : c * i.size = 0
          · simp [Instr.makeSlice, run_underlying' hu, asInt, asIntOf, typeInfo, hi, hwn, hwc, h1, h2, h2', h3, run_sizeOf hi, h0, newRow, cells]
            congr 2
            apply Array.ext'
            simp
          · have hzv : ∀ w, (zeroValue E').run P w = .ok zv w := fun w => by simp [zeroValue, typeInfo, hi, hzz]
            simp [Instr.makeSlice, run_underlying' hu, asInt, asIntOf, typeInfo, hi, hwn, hwc, h1, h2, h2', h3, run_sizeOf hi, h0, newRow, cells, hzv]
            congr 2
            apply Array.ext'
            simp
    | _ => simp [hu] at hel

/-! ### The same, at the operation in a region -/
variable {ops : Array Oper} {C : World → World → Prop} {KE : Env → World → Prop}
theorem do_store {T k b o n : Nat} {x y : Operand} {v : Value} (hx : ev e x = .pointer (some ⟨b, o, none⟩)) (hy : ev e y = v) (hT : szK P T = some k) (hk : v.cells.toList.length = k) (hw : wok w b n) (hn : o + k ≤ n)
    (hoc : oc v.cells.toList) (hK : ∀ w', Ext (rng b o k) w w' → Row w' b o v.cells.toList → w'.heap.size = w.heap.size → C w w' ∧ KE (updO e d undef) w') :
    DoO P ops C KE e w ⟨d, .store T x y, ty, pos, af, none⟩ :=
  DoO_intro (DoOp_store (by rw [hx, hy]; exact StoreK_intro hT hk hw hn hoc hK))
theorem do_alloc {T : Nat} {z : List Value} (hz : zK P T = some z) (hK : ∀ w', New w w' z → C w w' ∧ KE (updO e d (.pointer (some ⟨w.heap.size, 0, none⟩))) w') (hT : T < tyN := by decide) :
    DoO P ops C KE e w ⟨d, .alloc T, ty, pos, af, none⟩ := DoO_intro (DoOp_alloc (AllocK_intro hz hT hK))
theorem do_box {T : Nat} {x : Operand} {v : Value} (hx : ev e x = v) (hK : ∀ w', New w w' v.cells.toList → C w w' ∧ KE (updO e d (.pointer (some ⟨w.heap.size, 0, none⟩))) w') (hT : T < tyN := by decide) :
    DoO P ops C KE e w ⟨d, .box T x, ty, pos, af, none⟩ := DoO_intro (DoOp_box (by rw [hx]; exact BoxK_intro hT hK))
theorem do_bsl {T n E : Nat} {parts : List (Nat × Operand)} {pv : List (Nat × Value)} {l : List Value} (hp : parts.map (fun p => (p.1, ev e p.2)) = pv) (h : bsV P T n pv = some (E, l))
    (hK : ∀ w', New w w' l → C w w' ∧ KE (updO e d (.slice (some ⟨w.heap.size, 0, none⟩) n n)) w') (hT : E < tyN := by decide) :
    DoO P ops C KE e w ⟨d, .buildSlice T n parts.toArray, ty, pos, af, none⟩ := DoO_intro (DoOp_bsl (by rw [hp]; exact BSlK_intro h hT hK))
theorem do_append {T U E sz by_ : Nat} {z : List Value} {x y : Operand} {v u : Value} {n m : Nat} {l l' : List Value} (hx : ev e x = v) (hy : ev e y = u) (hel : elK P T = some (E, sz, by_, z)) (hz : z.length = sz)
    (hU : noInt P U = true) (hv : SlV w sz v n l) (hu : SlV w sz u m l') (hbig : n + m ≤ 4294967296) (hby : by_ ≤ 64) (hoc : oc l')
    (hK : ∀ v' w', AppRes w sz v n m l l' v' w' → C w w' ∧ KE (updO e d v') w') (hT : E < tyN := by decide) : DoO P ops C KE e w ⟨d, .call ⟨.builtin .append, #[x, y], #[T, U]⟩, ty, pos, af, none⟩ :=
  DoO_intro (DoOp_append (by rw [hx, hy]; exact AppK_intro hel hT hz hU hv hu hbig hby hoc hK))
theorem do_copy {T U E sz by_ : Nat} {z : List Value} {x y : Operand} {b o dl dc n : Nat} {u : Value} {l : List Value} (hx : ev e x = .slice (some ⟨b, o, none⟩) dl dc) (hy : ev e y = u) (hel : elK P T = some (E, sz, by_, z))
    (hu : SlV w sz u n l) (hw : wok w b (o + dl * sz)) (hoc : oc l)
    (hK : ∀ w', Ext (rng b o (min n dl * sz)) w w' → Row w' b o (l.take (min n dl * sz)) → w'.heap.size = w.heap.size → C w w' ∧ KE (updO e d (.int .i64 (min n dl : Nat))) w') :
    DoO P ops C KE e w ⟨d, .call ⟨.builtin .copy, #[x, y], #[T, U]⟩, ty, pos, af, none⟩ := DoO_intro (DoOp_copy (by rw [hx, hy]; exact CpyK_intro hel hu hw hoc hK))
theorem do_make {T E sz by_ : Nat} {z : List Value} {x y : Operand} {n c : Nat} (hx : ev e x = .int .i64 n) (hy : ev e y = .int .i64 c) (hel : elK P T = some (E, sz, by_, z)) (hz : z.length = sz) (hle : n ≤ c)
    (hc : c * by_ ≤ 281474976710656) (hc' : c < 9223372036854775808)
    (hK : ∀ w' l, l.length = c * sz → New w w' l → C w w' ∧ KE (updO e d (.slice (some ⟨w.heap.size, 0, none⟩) n c)) w') (hT : E < tyN := by decide) :
    DoO P ops C KE e w ⟨d, .makeSlice T x y, ty, pos, af, none⟩ := DoO_intro (DoOp_make (by rw [hx, hy]; exact MkSK_intro hel hT hz hle hc hc' hK))
theorem do_call {f : Nat} {args : Array Operand} {tys : Array Nat} {vs : Array Value} {R : Value → World → Prop} (hf : isFn P f = true) (ha : args.map (ev e) = vs) (hc : CallK P f vs w R)
    (hK : ∀ v w', R v w' → C w w' ∧ KE (updO e d v) w') : DoO P ops C KE e w ⟨d, .call ⟨.value (.func f), args, tys⟩, ty, pos, af, none⟩ :=
  DoO_intro (by rw [DoOp_callf hf, ha]; exact CallK_mono hc hK)
theorem do_callv {t f : Nat} {args : Array Operand} {tys : Array Nat} {first captured vs : Array Value} {R : Value → World → Prop} (ht : e t = .func (.func f) first captured) (hf : isFn P f = true)
    (ha : first ++ args.map (ev e) ++ captured = vs) (hc : CallK P f vs w R) (hK : ∀ v w', R v w' → C w w' ∧ KE (updO e d v) w') :
    DoO P ops C KE e w ⟨d, .call ⟨.value (.tmp t), args, tys⟩, ty, pos, af, none⟩ :=
  DoO_intro (DoOp_callv (by rw [ht]; exact ⟨hf, by rw [ha]; exact CallK_mono hc hK⟩))
end
/-- What a step keeps of blocks that it does not touch. -/
theorem keeps_on {F : Nat → Nat → Prop} {w w' : World} {L : List Nat} (h : Ext F w w') (hL : ∀ b ∈ L, b < w.heap.size ∧ ∀ o, ¬ F b o) : keeps (some (some L)) w w' :=
  fun b hb => h.block (hL b hb).1 (hL b hb).2
theorem keeps_ro {w w' : World} (h : RO w w') : keeps (some none) w w' := by obtain ⟨n, rfl⟩ := h; rfl
end Go.Proofs.Ytdffddiaoheklaa
