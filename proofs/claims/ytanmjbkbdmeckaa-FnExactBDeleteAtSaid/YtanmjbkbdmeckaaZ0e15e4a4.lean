/-
  A slice that a cell holds: what appends, insertions, removals and settings leave of it. For whatever program. No condition.
-/
import Derived.Test.YtanmjbkbdmeckaaZ0b558072
import Derived.Test.YtanmjbkbdmeckaaZA
import Derived.Test.YtanmjbkbdmeckaaZGSet
import Derived.Test.YtanmjbkbdmeckaaRows
import Derived.ChangeArms
/-
  A tree with an order in memory. No condition.
-/
set_option linter.unusedSimpArgs false
set_option linter.unusedVariables false
namespace Go.Proofs.Ytanmjbkbdmeckaa
open Go Go.Proofs
/-- The tree at m holds the list xs, which ascends by the ranks under ord; what the order reads is older than B. -/
structure TreeAt (B : Nat) (ord : List Int) (w : World) (m d : Nat) (iso : Int) (xs : List It) (F : Nat → Nat → Prop) : Prop where
  cfg : Cfg w m iso d
  less : Ls B m w ord
  cnt : rd w m 3 = some (.int .i64 xs.length)
  asc : Asc O (rkI ord) xs
  root : (xs = [] ∧ rd w m 2 = some (.pointer none)) ∨ ∃ h b, rd w m 2 = some (ptr b) ∧ Tr E iso (d - 1) (2 * d - 1) h w 1 b xs F
  off : ∀ o, ¬ F m o
  lt : ∀ y o, F y o → y < w.heap.size
  above : ∀ y o, F y o → m < y
def mapF (m : Nat) (F : Nat → Nat → Prop) : Nat → Nat → Prop := fun y o => F y o ∨ y = m ∧ (o = 2 ∨ o = 3)
theorem TreeAt.extG {B : Nat} {ord : List Int} {w w' : World} {G : Nat → Nat → Prop} {m d : Nat} {iso : Int} {xs : List It} {F : Nat → Nat → Prop} (h : TreeAt B ord w m d iso xs F) (x : Ext G w w') (hF : ∀ y o, F y o → ¬ G y o) (hm : ∀ y o, G y o → m < y) : TreeAt B ord w' m d iso xs F := by
  have hm' : ∀ o, ¬ G m o := fun o g => Nat.lt_irrefl _ (hm _ _ g)
  have hB : B ≤ m := by obtain ⟨_, _, _, h⟩ := h.less; exact h
  exact ⟨h.cfg.ext x fun o _ _ => hm' o, h.less.ext x (fun y o g => by have := hm _ _ g; omega) (hm' 6), x.rd h.cnt (hm' 3), h.asc, h.root.imp (fun ⟨h1, h2⟩ => ⟨h1, x.rd h2 (hm' 2)⟩) fun ⟨h', b, h1, h2⟩ => ⟨h', b, x.rd h1 (hm' 2), h2.ext x hF⟩,
    h.off, fun y o g => Nat.lt_of_lt_of_le (h.lt y o g) x.size, h.above⟩
theorem TreeAt.ext {B : Nat} {ord : List Int} {w w' : World} {m d : Nat} {iso : Int} {xs : List It} {F : Nat → Nat → Prop} (h : TreeAt B ord w m d iso xs F) (x : Ext noF w w') : TreeAt B ord w' m d iso xs F :=
  h.extG x (fun _ _ _ g => g) fun _ _ g => g.elim
theorem TreeAt.mlt {B : Nat} {ord : List Int} {w : World} {m d : Nat} {iso : Int} {xs : List It} {F : Nat → Nat → Prop} (h : TreeAt B ord w m d iso xs F) : m < w.heap.size := wok_lt h.cfg.wok
end Go.Proofs.Ytanmjbkbdmeckaa
/-
  A tree is not higher than its number of items. No condition.
-/
set_option linter.unusedSimpArgs false
set_option linter.unusedVariables false
namespace Go.Proofs.Ytanmjbkbdmeckaa
open Go Go.Proofs
theorem Tr.height {α : Type} {E : Enc α} {iso : Int} {mn mx : Nat} {w : World} (hmn : 1 ≤ mn) : ∀ {h lo b : Nat} {xs : List α} {F : Nat → Nat → Prop}, 1 ≤ lo → Tr E iso mn mx h w lo b xs F → h < xs.length
  | 0, _, _, _, _, hlo, ⟨_, _, _, _, h1, _⟩ => by omega
  | h + 1, _, _, _, _, hlo, ⟨_, _, _, _, _, _, _, ks, cs, _, _, h1, _, hcs, hxs, hT, _⟩ => by
    have hl := weave_length (cs.map Kid.xs) ks (by simpa using hcs)
    rw [← hxs] at hl
    cases cs with
    | nil => simp at hcs
    | cons c cs =>
      have := Tr.height hmn hmn (hT c (by simp))
      simp at hl; omega
theorem Tr.iso0 {w : World} {iso : Int} {mn mx h lo b : Nat} {xs : List It} {F : Nat → Nat → Prop} (ht : Tr E iso mn mx h w lo b xs F) : rd w b 0 = some (.int .u64 iso) ∧ rd w b 1 = some (.int .i64 xs.length) := by
  obtain ⟨bi, oi, cap, ks, ch, ho, _⟩ := ht.open
  exact ⟨ho.h0, ho.h1⟩
end Go.Proofs.Ytanmjbkbdmeckaa
/-
  Setting an item in a tree. No condition.
-/
set_option linter.unusedSimpArgs false
set_option linter.unusedVariables false
namespace Go.Proofs.Ytanmjbkbdmeckaa
open Go Go.Proofs
theorem bs_it0 : bsV Try.prog 140 0 [] = some (20, []) := by kernel_rfl
theorem bs_it1 (x : It) : bsV Try.prog 140 1 [(0, itV x)] = some (20, E.cel x) := by kernel_rfl
theorem bs_kid0 : bsV Try.prog 144 0 [] = some (106, []) := by kernel_rfl
theorem bs_kid2 (a b : Nat) : bsV Try.prog 144 2 [(0, ptr a), (1, ptr b)] = some (106, [ptr a, ptr b]) := by kernel_rfl
theorem keep2 {F : Nat → Nat → Prop} {w w' : World} {a b : Nat} (h : Ext F w w') (h1 : a < w.heap.size ∧ ∀ o, ¬ F a o) (h2 : b < w.heap.size ∧ ∀ o, ¬ F b o) : keeps (some (some [a, b])) w w' := keeps_on h fun x hx => by
  simp only [List.mem_cons, List.not_mem_nil, or_false] at hx
  rcases hx with rfl | rfl
  · exact h1
  · exact h2
theorem app_new {w w' : World} {sz m b o : Nat} {l' : List Value} {v' : Value} (h : AppRes w sz (.slice (some ⟨b, o, none⟩) 0 0) 0 m [] l' v' w') (hm : 0 < m) :
    ∃ cap', v' = .slice (some ⟨w.heap.size, 0, none⟩) m cap' ∧ m ≤ cap' ∧ Row w' w.heap.size 0 l' ∧ wok w' w.heap.size (cap' * sz) ∧ Ext noF w w' ∧ w'.heap.size = w.heap.size + 1 := by
  obtain ⟨hs, hc⟩ := h
  rw [Nat.zero_add] at hs hc
  rcases hc with ⟨_, _, h3⟩ | ⟨b0, o0, cap0, h1, h2, h3, h4, h5⟩ | ⟨cap', h1, h2, h3, h4⟩
  · cases h3
  · simp only [Value.slice.injEq, Option.some.injEq, Addr.mk.injEq, true_and, and_true] at h1
    omega
  · subst h1
    rcases hs.2 with ⟨h, _⟩ | ⟨b1, o1, c1, h1, hle, hr, hw⟩
    · cases h
    · simp only [Value.slice.injEq, Option.some.injEq, Addr.mk.injEq, true_and, and_true] at h1
      obtain ⟨⟨rfl, rfl⟩, rfl⟩ := h1
      exact ⟨_, rfl, hle, by simpa using hr, h4, h2, h3⟩
set_option maxHeartbeats 1000000 in
set_option maxRecDepth 8000 in
/-- Setting, where there is a root. -/
theorem set_root (B m d : Nat) (iso : Int) (ord : List Int) (x : It) (hd : 2 ≤ d) (hd' : d ≤ 128) : ∀ (k h b : Nat) (xs : List It) (F : Nat → Nat → Prop) (w : World), xs.length - h = k → Cfg w m iso d → Ls B m w ord → (∀ y o, F y o → m < y) →
    rd w m 3 = some (.int .i64 xs.length) → Asc O (rkI ord) xs → rd w m 2 = some (ptr b) → Tr E iso (d - 1) (2 * d - 1) h w 1 b xs F → (∀ o, ¬ F m o) → xs.length < 1152921504606846976 →
    CallK Try.prog 120 #[ptr m, itV x, .pointer none] w fun v w' => v = .tuple #[itO (at? O (rkI ord) (rkI ord x) xs), .bool (hit O (rkI ord) (rkI ord x) xs)] ∧ Ext (mapF m F) w w' ∧
      ∃ F', TreeAt B ord w' m d iso (put O (rkI ord) x xs) F' ∧ ∀ y o, F' y o → F y o ∨ w.heap.size ≤ y := by
  intro k
  induction k using Nat.strongRecOn with
  | _ k ih =>
  intro h b xs F w hk hc hL hBF hcnt ha hroot ht hm hbig
  have hml := wok_lt hc.wok
  have hht := Tr.height (by omega) (Nat.le_refl 1) ht
  have hBm : B ≤ m := by obtain ⟨_, _, _, h⟩ := hL; exact h
  refine calls_of_W [.tmp 6, .tmp 7] Try.func120 rfl Try.ntmps120 Try.results120 (by simp) fun e he => ?_
  have e0 : e 0 = ptr m := he 0 _ rfl
  have e1 : e 1 = itV x := he 1 _ rfl
  have e2 : e 2 = .pointer none := he 2 _ rfl
  clear he
  refine W_sq fun K hK => (W_text [true, true] (by kernel_rfl) ?_); simp only [↓List.toList_toArray, ↓rgd, ↓rgf, ↓reduceIte, Nat.reduceEqDiff, rg, ow_120]
  refine hK _ _ ?_; clear hK K
  have X2 : Ext noF w w := Ext.refl _ _
  have c2 := hc.ext X2 fun _ _ _ h => h
  have rt2 := X2.rd hroot (fun h => h)
  refine W_seq ?_
  refine W_sq fun K hK => (W_text [true, true, true, true, true] (by kernel_rfl) ?_); simp only [↓List.toList_toArray, ↓rgd, ↓rgf, ↓reduceIte, Nat.reduceEqDiff, rg, ow_120, e0, ptr_eq, rt2]
  refine hK _ _ ?_; clear hK K
  refine W_false (by simp only [evt, evc, upd_eq, Nat.reduceEqDiff, ↓reduceIte, ntT, ntF] <;> rfl) (W_skip ?_)
  show W _ _ _ _ _ _
  have hFlt := ht.lt
  refine W_sq fun K hK => (W_text [true, true, true, true, true, true, false, true, true, true, true, true, true, true] (by kernel_rfl) ?_); simp only [↓List.toList_toArray, ↓rgd, ↓rgf, ↓reduceIte, Nat.reduceEqDiff, rg, ow_120, e0, e1, e2, ptr_eq]
  refine do_call fn_150 (by simp only [evt, evc, upd_eq, Nat.reduceEqDiff, ↓reduceIte, maT, maC, maN, isnN, isnS] <;> rfl) (set_any B m d iso ord x hd hd' h _ 1 rfl (Nat.le_refl 1) b xs F _ m 2 0 c2 hL hBF (by omega) ht ha hbig hm rt2 (hm 2)) ?_
  rintro v w3p ⟨x3p, F', hF', hres⟩
  refine ⟨trivial, ?_⟩
  have hF3 : ∀ y o, F' y o → F y o ∨ w.heap.size ≤ y := hF'
  have s3p := x3p.size
  have hF'm : ∀ o, ¬ F' m o := fun o g => by
    rcases hF3 m o g with g | g
    · exact hm o g
    · omega
  rcases hres with ⟨rfl, hT', hh⟩ | ⟨rfl, hT'⟩
  · simp only [↓List.toList_toArray, ↓rgd, ↓rgf, ↓reduceIte, Nat.reduceEqDiff, rg, ow_120]
    refine hK _ _ ?_; clear hK K
    refine W_name (by first | exact .inl rfl | exact .inr ⟨_, rfl⟩) fun w3 x3s s3s => ?_
    have x3 : Ext (fun y o => F y o ∨ rng 0 0 0 y o) w w3 := x3p.trans x3s (fun _ _ g => .inl g) fun _ _ _ g => .inr g
    have X3 : Ext F w w3 := X2.trans x3 (fun _ _ g => g.elim) fun y o hy g => g.elim id fun g => by simp only [rng] at g; omega
    have s3 := x3.size
    have hmG : ∀ o, ¬ (F m o ∨ rng 0 0 0 m o) := fun o g => g.elim (hm o) fun g => by simp only [rng] at g; omega
    have c3 := c2.ext x3 fun o _ _ => hmG o
    have rt3 := x3.rd rt2 (hmG 2)
    have ct3 := X3.rd hcnt (hm 3)
    have hL3 := hL.ext X3 (fun y o g => by have := hBF y o g; omega) (hm 6)
    have hT' := hT'.ext x3s fun y o g k => by simp only [rng] at k; omega
    have hab3 : ∀ y o, F' y o → m < y := fun y o g => by
      rcases hF3 y o g with g | g
      · exact hBF _ _ g
      · omega
    refine W_seq ?_
    refine W_sq fun K hK => (W_text [true] (by kernel_rfl) ?_); simp only [↓List.toList_toArray, ↓rgd, ↓rgf, ↓reduceIte, Nat.reduceEqDiff, rg, ow_120]
    refine hK _ _ ?_; clear hK K
    refine W_true (by simp only [evt, evc, upd_eq, Nat.reduceEqDiff, ↓reduceIte, ntT, ntF] <;> rfl) ?_
    refine W_sq fun K hK => (W_text [true, true, true, true, false, true] (by kernel_rfl) ?_); simp only [↓List.toList_toArray, ↓rgd, ↓rgf, ↓reduceIte, Nat.reduceEqDiff, rg, ow_120, e0, ptr_eq]
    have tb3 : rd w3 b 0 = some (.int .u64 iso) := hT'.iso0.1
    refine do_call fn_121 (by simp only [evt, evc, upd_eq, Nat.reduceEqDiff, ↓reduceIte, maT, maC, maN, isnN, isnS] <;> rfl) (isoLoad_any m m 2 b true iso w3 c3.iso rt3 tb3) ?_
    rintro _ _ ⟨rfl, n3, rfl⟩
    refine ⟨trivial, ?_⟩
    simp only [↓List.toList_toArray, ↓rgd, ↓rgf, ↓reduceIte, Nat.reduceEqDiff, rg, ow_120]
    refine hK _ _ ?_; clear hK K
    refine W_sq fun K hK => (W_text [true, true, false, true, true, true, true, true] (by kernel_rfl) ?_); simp only [↓List.toList_toArray, ↓rgd, ↓rgf, ↓reduceIte, Nat.reduceEqDiff, rg, ow_120, e0]
    refine do_call fn_151 (by simp only [evt, evc, upd_eq, Nat.reduceEqDiff, ↓reduceIte, maT, maC, maN, isnN, isnS] <;> rfl) (split_tr m d b h iso xs F' (dr w3 n3) hd hd' (c3.ext (Ext.dr noF _ _) fun _ _ _ g => g) (hT'.ext (Ext.dr noF _ _) fun _ _ _ g => g) hF'm (by omega)) ?_
    rintro _ w4 ⟨rb, md, xl, xr, Fl, Fr, rfl, hxs, x4, hFl, hFr, hlr, tL, tR⟩
    refine ⟨trivial, ?_⟩
    (try replace x4 := x4.od)
    have hFr : ∀ y o, Fr y o → F' y o ∨ w3.heap.size ≤ y := hFr
    simp only [↓List.toList_toArray, ↓rgd, ↓rgf, ↓reduceIte, Nat.reduceEqDiff, rg, ow_120]
    refine hK _ _ ?_; clear hK K
    refine W_name (by first | exact .inl rfl | exact .inr ⟨_, rfl⟩) fun w6 x6 s6 => ?_
    have s4 := x4.size
    have X6 : Ext noF w4 w6 := x6.mono fun y o _ h => by simp only [rng] at h; omega
    have c4 := c3.ext x4 fun o _ _ => hF'm o
    have c6 := c4.ext X6 fun _ _ _ h => h
    refine W_sq fun K hK => (W_text [true, true, false, true, true, false] (by kernel_rfl) ?_); simp only [↓List.toList_toArray, ↓rgd, ↓rgf, ↓reduceIte, Nat.reduceEqDiff, rg, ow_120, e0]
    refine do_call fn_149 (by simp only [evt, evc, upd_eq, Nat.reduceEqDiff, ↓reduceIte, maT, maC, maN, isnN, isnS] <;> rfl) (newNode_any m false iso w6 c6.iso) ?_
    rintro _ w7 ⟨b2, rfl, x7, nn⟩
    refine ⟨trivial, ?_⟩
    simp only [↓List.toList_toArray, ↓rgd, ↓rgf, ↓reduceIte, Nat.reduceEqDiff, rg, ow_120, ptr_eq]
    have c7 := c6.ext x7 fun _ _ _ h => h
    refine do_store (by simp only [evt, evc, upd_eq, Nat.reduceEqDiff, ↓reduceIte, ntT, ntF] <;> rfl) (by simp only [evt, evc, upd_eq, Nat.reduceEqDiff, ↓reduceIte, ntT, ntF] <;> rfl) sz_106 rfl (c7.wok.mono (by decide)) (Nat.le_refl 3) (oc_one rfl rfl) fun w8 x8 r8 s8 => ⟨trivial, ?_⟩
    simp only [↓List.toList_toArray, ↓rgd, ↓rgf, ↓reduceIte, Nat.reduceEqDiff, rg, ow_120]
    refine hK _ _ ?_; clear hK K
    obtain ⟨bc2, nk, nk1, nk2, nk3, nk4⟩ := nn.kids rfl
    have s7 := x7.size
    have nnge := nn.ge
    have rt8 : rd w8 m 2 = some (ptr b2) := (Row.cons.1 r8).1
    have c8 := c7.ext x8 fun o h2 _ g => h2 (by simp only [rng] at g; omega)
    have kp8 := x8.rd nk (by simp only [rng]; omega)
    have q1 : IntKind.i64.wrap (((2 * d - 1 : Nat) : Int) + 1) = ((2 * d : Nat) : Int) := by rw [wadd1 _ (by omega)]; congr 1; omega
    have M2 : readsB (some (some [m, b2])) m = true := by simp [readsB]
    have M3 : readsB (some (some [m, b2])) b2 = true := by simp [readsB]
    have hb2l := wok_lt nn.wb
    refine W_sq fun K hK => (W_draw (some (some [m, b2])) (some 14) [(0, 0, 0), (0, 1, 0), (0, 2, 0), (0, 3, 0), (0, 4, 0), (0, 5, 0), (0, 6, 0), (0, 7, 0), (0, 8, 0), (0, 9, 0), (0, 10, 0), (0, 11, 0), (1, 12, 0), (0, 13, 0), (1, 14, 0)] mixed (by kernel_rfl) ?_); simp only [↓List.toList_toArray, ↓rgd, ↓rgf, ↓reduceIte, Nat.reduceEqDiff, rg, ow_120, e0, ptr_eq, rt8, kp8, c8.mx, q1, M2, M3]
    refine do_make (n := 0) (c := 2 * d) (by simp only [evt, evc, upd_eq, Nat.reduceEqDiff, ↓reduceIte, ntT, ntF] <;> rfl) (by simp only [evt, evc, upd_eq, Nat.reduceEqDiff, ↓reduceIte, ntT, ntF] <;> rfl) el_kid rfl (by omega) (by omega) (by omega) fun w9 l9 hl9 n9 => ⟨.inr (keeps_on n9.ext fun y hy => ⟨?_, fun _ h => h⟩), ?_⟩
    · rw [sz_dr]
      simp only [List.mem_cons, List.not_mem_nil, or_false] at hy
      omega
    simp only [↓List.toList_toArray, ↓rgd, ↓rgf, ↓reduceIte, Nat.reduceEqDiff, rg, ow_120]
    have n9 := n9.od
    refine do_store (by simp only [evt, evc, upd_eq, Nat.reduceEqDiff, ↓reduceIte, ntT, ntF] <;> rfl) (by simp only [evt, evc, upd_eq, Nat.reduceEqDiff, ↓reduceIte, ntT, ntF] <;> rfl) sz_144 rfl (n9.ext.wok (x8.wok nk4)) (by decide) (oc_one rfl rfl) fun w10 x10 r10 s10 => ⟨(by first | exact trivial | exact .inl trivial), ?_⟩
    simp only [↓List.toList_toArray, ↓rgd, ↓rgf, ↓reduceIte, Nat.reduceEqDiff, rg, ow_120]
    refine hK _ _ ?_; clear hK K
    have rt10 : rd w10 m 2 = some (ptr b2) := x10.rd (n9.ext.rd rt8 fun h => h) (by simp only [rng]; omega)
    have kp10 : rd w10 b2 3 = some (ptr bc2) := x10.rd (n9.ext.rd kp8 fun h => h) (by simp only [rng]; omega)
    have wbc10 : wok w10 bc2 1 := x10.wok (n9.ext.wok (x8.wok nk4))
    have s9 := n9.size
    have hbc2l := wok_lt wbc10
    refine W_sq fun K hK => (W_draw (some (some [m, b2])) (some 13) [(0, 0, 0), (0, 1, 0), (0, 2, 0), (0, 3, 0), (0, 4, 0), (0, 5, 0), (0, 6, 0), (0, 8, 0), (0, 9, 0), (2, 7, 10), (1, 11, 0), (0, 12, 0), (1, 13, 0)] mixed (by kernel_rfl) ?_); simp only [↓List.toList_toArray, ↓rgd, ↓rgf, ↓reduceIte, Nat.reduceEqDiff, rg, ow_120, e0, ptr_eq, rt10, kp10, M2, M3]
    have rest : ∀ e' w', e' 0 = ptr m → e' 2 = .pointer none → e' 1 = itV x → e' 11 = itV md → Ext (rng bc2 0 1) w10 w' →
        (∃ ba2 cap2, rd w' bc2 0 = some (.slice (some ⟨ba2, 0, none⟩) 2 cap2) ∧ 2 ≤ cap2 ∧ Row w' ba2 0 [ptr b, ptr rb] ∧ wok w' ba2 cap2 ∧ w10.heap.size ≤ ba2) → K e' w' := by
      intro e' w14 f0 f2 f8 f14 x14 ⟨ba2, cap2, q0, q2, q3, q4, q5⟩
      refine hK _ _ ?_; clear hK K
      have s10' := x10.size
      have s14 := x14.size
      have rt14 : rd w14 m 2 = some (ptr b2) := x14.rd rt10 (by simp only [rng]; omega)
      have wb14 : wok w14 b2 4 := x14.wok (x10.wok (n9.ext.wok (x8.wok nn.wb)))
      have M4 : readsB (some (some [m, m])) m = true := by simp [readsB]
      have M5 : readsB (some (some [m, m])) m = true := by simp [readsB]
      have s8' := x8.size
      have s6' : w6.heap.size = w4.heap.size := s6
      refine W_sq fun K hK => (W_draw (some (some [m, m])) (some 10) [(0, 0, 0), (0, 1, 0), (0, 2, 0), (0, 3, 0), (0, 5, 0), (2, 4, 6), (1, 7, 0), (0, 8, 0), (0, 9, 0), (1, 10, 0)] mixed (by kernel_rfl) ?_); simp only [↓List.toList_toArray, ↓rgd, ↓rgf, ↓reduceIte, Nat.reduceEqDiff, rg, ow_120, f0, f14, ptr_eq, rt14, M4, M5]
      have rest2 : ∀ e'' w', e'' 0 = ptr m → e'' 2 = .pointer none → e'' 1 = itV x → Ext (rng b2 2 1) w14 w' →
          (∃ bi2 cap3, rd w' b2 2 = some (.slice (some ⟨bi2, 0, none⟩) 1 cap3) ∧ 1 ≤ cap3 ∧ Row w' bi2 0 (E.cel md) ∧ wok w' bi2 (cap3 * 1) ∧ w14.heap.size ≤ bi2) → K e'' w' := by
        intro e'' w18 f0 f2 f8 x18 ⟨bi2, cap3, p0, p2, p3, p4, p5⟩
        refine hK _ _ ?_; clear hK K
        have s18 := x18.size
        have hb4 : b < w4.heap.size := tL.lt _ _ (tL.self 0)
        have hrb4 : rb < w4.heap.size := tR.lt _ _ (tR.self 0)
        have hba18 := wok_lt (x18.wok q4)
        have hba14 := wok_lt q4
        have hbi18 := wok_lt p4
        have T18 : Ext (fun y o => (y = m ∧ o = 2) ∨ w4.heap.size ≤ y) w4 w18 := by
          refine ((((((X6.trans x7 (H := fun y o => (y = m ∧ o = 2) ∨ w4.heap.size ≤ y) (fun _ _ g => g.elim) fun _ _ _ g => g.elim).trans x8 (fun _ _ g => g) fun y o _ g => ?_).trans n9.ext (fun _ _ g => g) fun _ _ _ g => g.elim).trans x10 (fun _ _ g => g) fun y o _ g => ?_).trans x14 (fun _ _ g => g) fun y o _ g => ?_).trans x18 (fun _ _ g => g) fun y o _ g => ?_)
          all_goals simp only [rng] at g; omega
        have hFlm : ∀ y o, Fl y o → ¬ ((y = m ∧ o = 2) ∨ w4.heap.size ≤ y) := fun y o g k => by
          rcases k with ⟨rfl, _⟩ | k
          · exact hF'm _ (hFl _ _ g)
          · have := tL.lt _ _ g; omega
        have hFrm' : ∀ o, ¬ Fr m o := fun o g => by
          rcases hFr _ _ g with g | g
          · exact hF'm _ g
          · omega
        have hFrm : ∀ y o, Fr y o → ¬ ((y = m ∧ o = 2) ∨ w4.heap.size ≤ y) := fun y o g k => by
          rcases k with ⟨rfl, _⟩ | k
          · exact hFrm' _ g
          · have := tR.lt _ _ g; omega
        have tL18 := tL.ext T18 hFlm
        have tR18 := tR.ext T18 hFrm
        have kp18 : rd w18 b2 3 = some (ptr bc2) := x18.rd (x14.rd kp10 (by simp only [rng]; omega)) (by simp only [rng]; omega)
        have K18 : Kids w18 bc2 ba2 0 cap2 [b, rb] := ⟨x18.rd q0 (by simp only [rng]; omega), x18.wok (x14.wok wbc10), x18.row q3 fun j _ h => by simp only [rng] at h; omega, by rw [Nat.zero_add]; exact x18.wok q4, q2, by omega⟩
        have wb18 := x18.wok wb14
        have rt18 : rd w18 m 2 = some (ptr b2) := x18.rd rt14 (by simp only [rng]; omega)
        have hcn : cntP (cnW w18) [b, rb] = xl.length + xr.length := by simp [cntP, cnW_eq tL18.cnt, cnW_eq tR18.cnt]
        have hxl : xs.length = xl.length + 1 + xr.length := by rw [hxs]; simp; omega
        refine W_sq fun K hK => (W_text [true, true, true, true, false] (by kernel_rfl) ?_); simp only [↓List.toList_toArray, ↓rgd, ↓rgf, ↓reduceIte, Nat.reduceEqDiff, rg, ow_120, f0, ptr_eq, rt18]
        refine do_call fn_152 (by simp only [evt, evc, upd_eq, Nat.reduceEqDiff, ↓reduceIte, maT, maC, maN, isnN, isnS] <;> rfl) (count_kids b2 1 cap3 bc2 ba2 0 cap2 _ [b, rb] (cnW w18) w18 p0 kp18 wb18 K18 (by omega) (by omega) (fun p hp => by
          simp only [List.mem_cons, List.not_mem_nil, or_false] at hp
          rcases hp with rfl | rfl
          · exact ⟨by rw [cnW_eq tL18.cnt]; exact tL18.cnt, by omega⟩
          · exact ⟨by rw [cnW_eq tR18.cnt]; exact tR18.cnt, by omega⟩) (by omega) (by simp)) ?_
        rintro _ w19 ⟨x19, d1, s19⟩
        refine ⟨trivial, ?_⟩
        simp only [↓List.toList_toArray, ↓rgd, ↓rgf, ↓reduceIte, Nat.reduceEqDiff, rg, ow_120]
        refine hK _ _ ?_; clear hK K
        rw [hcn] at d1
        have T19 : Ext (fun y o => (y = m ∧ o = 2) ∨ w4.heap.size ≤ y) w4 w19 := T18.trans x19 (fun _ _ g => g) fun y o _ g => by simp only [rng] at g; omega
        have c19 := c4.ext T19 fun o h2 _ g => by
          rcases g with g | g
          · exact h2 g.2
          · have := wok_lt c4.wok; omega
        have ct19 : rd w19 m 3 = some (.int .i64 xs.length) := T19.rd (x4.rd ct3 (hF'm 3)) fun g => by omega
        have hL19 := (hL3.ext x4 (fun y o g => by have := hab3 y o g; omega) (hF'm 6)).ext T19 (fun y o g => by omega) (by omega)
        have own19 : Own E w19 b2 iso xs.length bi2 0 cap3 [md] (ptr bc2) := by
          have h0 := x19.rd (x18.rd (x14.rd (x10.rd (n9.ext.rd (x8.rd nn.h0 (by simp only [rng]; omega)) fun h => h) (by simp only [rng]; omega)) (by simp only [rng]; omega)) (by simp only [rng]; omega)) (by simp only [rng]; omega)
          refine ⟨h0, ?_, x19.rd p0 (by simp only [rng]; omega), x19.rd kp18 (by simp only [rng]; omega), x19.wok wb18, ?_, by rw [Nat.zero_add]; exact x19.wok p4, p2, by omega⟩
          · rw [d1, hxl]; congr 3; omega
          · rw [flat_one]; exact x19.row p3 fun j _ h => by simp only [rng] at h; omega
        have K19 := K18.ext x19 fun y o g h => by simp only [kidF, rng] at g h; omega
        have tL19 := tL.ext T19 hFlm
        have tR19 := tR.ext T19 hFrm
        have tr19 : Tr E iso (d - 1) (2 * d - 1) (h + 1) w19 1 b2 xs (fun y o => ownF E b2 bi2 0 cap3 y o ∨ kidF bc2 ba2 0 cap2 y o ∨ ∃ c ∈ [Kid.mk b xl Fl, Kid.mk rb xr Fr], c.F y o) := by
          refine ⟨bi2, 0, cap3, bc2, ba2, 0, cap2, [md], [Kid.mk b xl Fl, Kid.mk rb xr Fr], own19, K19, Nat.le_refl _, (by show 1 ≤ 2 * d - 1; omega), rfl, hxs, ?_, ⟨nk2, by omega, by omega, by omega, ?_, ?_, ?_⟩, fun _ _ => Iff.rfl⟩
          · intro c hc
            simp only [List.mem_cons, List.not_mem_nil, or_false] at hc
            rcases hc with rfl | rfl
            · exact tL19
            · exact tR19
          · intro c hc y o g k
            have : y < w4.heap.size := by
              simp only [List.mem_cons, List.not_mem_nil, or_false] at hc
              rcases hc with rfl | rfl
              · exact tL.lt _ _ g
              · exact tR.lt _ _ g
            simp only [ownF, rng] at k; omega
          · intro c hc y o g k
            have : y < w4.heap.size := by
              simp only [List.mem_cons, List.not_mem_nil, or_false] at hc
              rcases hc with rfl | rfl
              · exact tL.lt _ _ g
              · exact tR.lt _ _ g
            simp only [kidF, rng] at k; omega
          · exact List.pairwise_cons.2 ⟨fun c hc y o g k => by
              simp only [List.mem_cons, List.not_mem_nil, or_false] at hc
              subst hc; exact hlr y o g k, List.pairwise_singleton _ _⟩
        have hF2 : ∀ y o, (ownF E b2 bi2 0 cap3 y o ∨ kidF bc2 ba2 0 cap2 y o ∨ ∃ c ∈ [Kid.mk b xl Fl, Kid.mk rb xr Fr], c.F y o) → y ≠ m ∧ (F y o ∨ w.heap.size ≤ y) := by
          have hF'2 : ∀ y o, F' y o → y ≠ m ∧ (F y o ∨ w.heap.size ≤ y) := fun y o g => ⟨fun k => hF'm o (k ▸ g), hF3 y o g⟩
          rintro y o (g | g | ⟨c, hc, g⟩)
          · simp only [ownF, rng] at g; omega
          · simp only [kidF, rng] at g; omega
          · simp only [List.mem_cons, List.not_mem_nil, or_false] at hc
            rcases hc with rfl | rfl
            · exact hF'2 y o (hFl y o g)
            · rcases hFr y o g with g | g
              · exact hF'2 y o g
              · exact ⟨by omega, .inr (by omega)⟩
        refine W_sq fun K hK => (W_text [true, true, true, false, true, true, true, true] (by kernel_rfl) ?_); simp only [↓List.toList_toArray, ↓rgd, ↓rgf, ↓reduceIte, Nat.reduceEqDiff, rg, ow_120, f0, f2, f8]
        refine do_call fn_120 (by simp only [evt, evc, upd_eq, Nat.reduceEqDiff, ↓reduceIte, maT, maC, maN, isnN, isnS] <;> rfl) (ih (xs.length - (h + 1)) (by omega) (h + 1) b2 xs _ w19 rfl c19 hL19 (fun y o g => by
          rcases (hF2 _ _ g).2 with g | g
          · exact hBF _ _ g
          · omega) ct19 ha (x19.rd rt18 (by simp only [rng]; omega)) tr19 (fun o g => (hF2 _ _ g).1 rfl) hbig) ?_
        rintro _ w20 ⟨rfl, x20, F'', hM, hF''⟩
        refine ⟨trivial, ?_⟩
        simp only [↓List.toList_toArray, ↓rgd, ↓rgf, ↓reduceIte, Nat.reduceEqDiff, rg, ow_120]
        refine hK _ _ ?_; clear hK K
        refine W_name (by first | exact .inl rfl | exact .inr ⟨_, rfl⟩) fun w21 x21 s21 => ?_
        have s20 := x20.size
        have hF9 : ∀ y o, F'' y o → F y o ∨ w.heap.size ≤ y := fun y o g => by
          rcases hF'' y o g with g | g
          · exact (hF2 y o g).2
          · exact .inr (by omega)
        refine W_ret ?_
        simp only [andThen_ret]
        refine endQ_2 (by simp only [upd_eq, Nat.reduceEqDiff, ↓reduceIte] <;> rfl) (by simp only [upd_eq, Nat.reduceEqDiff, ↓reduceIte] <;> rfl) ⟨rfl, ?_, F'', hM.extG x21 (fun y o g k => ?_) (fun y o g => by simp only [rng] at g; omega), fun y o g => ?_⟩
        · refine ((((X3.trans x4 (H := mapF m F) (fun _ _ g => .inl g) fun y o hy g => ?_).trans T19 (fun _ _ g => g) fun y o hy g => ?_).trans x20 (fun _ _ g => g) fun y o hy g => ?_).trans x21 (fun _ _ g => g) fun y o hy g => by simp only [rng] at g; omega)
          · rcases hF3 y o g with g | g
            · exact .inl g
            · omega
          · rcases g with g | g
            · exact .inr ⟨g.1, .inl g.2⟩
            · omega
          · rcases g with g | g
            · rcases (hF2 y o g).2 with g | g
              · exact .inl g
              · omega
            · exact .inr g
        · simp only [rng] at k
          rcases hF9 y o g with g | g
          · have := hFlt _ _ g; omega
          · omega
        · exact (hF9 y o g).imp id fun g => by omega
      constructor
      · refine do_bsl rfl bs_it0 fun w15 n15 => ⟨.inr (keep2 n15.ext ⟨by rw [sz_dr]; omega, fun _ h => h⟩ ⟨by rw [sz_dr]; omega, fun _ h => h⟩), ?_⟩
        simp only [↓List.toList_toArray, ↓rgd, ↓rgf, ↓reduceIte, Nat.reduceEqDiff, rg, ow_120]
        have n15 := n15.od
        have s15 := n15.size
        refine do_bsl rfl (bs_it1 md) fun w16 n16 => ⟨.inr (keep2 n16.ext ⟨by omega, fun _ h => h⟩ ⟨by omega, fun _ h => h⟩), ?_⟩
        simp only [↓List.toList_toArray, ↓rgd, ↓rgf, ↓reduceIte, Nat.reduceEqDiff, rg, ow_120]
        have s16 := n16.size
        have hv : SlV w16 1 (.slice (some ⟨w14.heap.size, 0, none⟩) 0 0) 0 [] := ⟨rfl, .inr ⟨_, 0, 0, rfl, Nat.le_refl _, Row.nil _ _ _, (n16.ext.wok n15.wok).R (Nat.le_refl _)⟩⟩
        have hu : SlV w16 1 (.slice (some ⟨w15.heap.size, 0, none⟩) 1 1) 1 (E.cel md) := ⟨rfl, .inr ⟨_, 0, 1, rfl, Nat.le_refl _, n16.row, n16.wok.R (Nat.le_refl _)⟩⟩
        have X16 : Ext noF w14 w16 := n15.ext.tr n16.ext
        refine do_append (by simp only [evt, evc, upd_eq, Nat.reduceEqDiff, ↓reduceIte, ntT, ntF] <;> rfl) (by simp only [evt, evc, upd_eq, Nat.reduceEqDiff, ↓reduceIte, ntT, ntF] <;> rfl) el_it rfl ni_140 hv hu (by omega) (by decide) (E.one md) fun v17 w17 a17 => ?_
        obtain ⟨cap3, rfl, hcap3, row17, wok17, x17, s17⟩ := app_new a17 (by omega)
        refine ⟨.inr (keep2 x17 ⟨by omega, fun _ h => h⟩ ⟨by omega, fun _ h => h⟩), ?_⟩
        simp only [↓List.toList_toArray, ↓rgd, ↓rgf, ↓reduceIte, Nat.reduceEqDiff, rg, ow_120, ptr_eq]
        refine do_store (by simp only [evt, evc, upd_eq, Nat.reduceEqDiff, ↓reduceIte, ntT, ntF] <;> rfl) (by simp only [evt, evc, upd_eq, Nat.reduceEqDiff, ↓reduceIte, ntT, ntF] <;> rfl) sz_140 rfl (x17.wok (X16.wok wb14)) (by decide) (oc_one rfl rfl) fun w18 x18 r18 s18 => ⟨(by first | exact trivial | exact .inl trivial), ?_⟩
        simp only [↓List.toList_toArray, ↓rgd, ↓rgf, ↓reduceIte, Nat.reduceEqDiff, rg, ow_120]
        refine rest2 _ _ (by simp only [upd_eq, Nat.reduceEqDiff, ↓reduceIte]; exact f0) (by simp only [upd_eq, Nat.reduceEqDiff, ↓reduceIte]; exact f2) (by simp only [upd_eq, Nat.reduceEqDiff, ↓reduceIte]; exact f8) (((X16.tr x17).mono fun _ _ _ g => g.elim).tr x18) ⟨w16.heap.size, cap3, (Row.cons.1 r18).1, hcap3, x18.row row17 fun j _ h => by simp only [rng] at h; omega, x18.wok wok17, by omega⟩
      · refine do_bsl rfl (bs_it1 md) fun w15 n15 => ⟨.inr (keep2 n15.ext ⟨by rw [sz_dr]; omega, fun _ h => h⟩ ⟨by rw [sz_dr]; omega, fun _ h => h⟩), ?_⟩
        simp only [↓List.toList_toArray, ↓rgd, ↓rgf, ↓reduceIte, Nat.reduceEqDiff, rg, ow_120]
        have n15 := n15.od
        have s15 := n15.size
        refine do_bsl rfl bs_it0 fun w16 n16 => ⟨.inr (keep2 n16.ext ⟨by omega, fun _ h => h⟩ ⟨by omega, fun _ h => h⟩), ?_⟩
        simp only [↓List.toList_toArray, ↓rgd, ↓rgf, ↓reduceIte, Nat.reduceEqDiff, rg, ow_120]
        have s16 := n16.size
        have hv : SlV w16 1 (.slice (some ⟨w15.heap.size, 0, none⟩) 0 0) 0 [] := ⟨rfl, .inr ⟨_, 0, 0, rfl, Nat.le_refl _, Row.nil _ _ _, n16.wok.R (Nat.le_refl _)⟩⟩
        have hu : SlV w16 1 (.slice (some ⟨w14.heap.size, 0, none⟩) 1 1) 1 (E.cel md) := ⟨rfl, .inr ⟨_, 0, 1, rfl, Nat.le_refl _, n16.ext.row n15.row fun _ _ h => h, (n16.ext.wok n15.wok).R (Nat.le_refl _)⟩⟩
        have X16 : Ext noF w14 w16 := n15.ext.tr n16.ext
        refine do_append (by simp only [evt, evc, upd_eq, Nat.reduceEqDiff, ↓reduceIte, ntT, ntF] <;> rfl) (by simp only [evt, evc, upd_eq, Nat.reduceEqDiff, ↓reduceIte, ntT, ntF] <;> rfl) el_it rfl ni_140 hv hu (by omega) (by decide) (E.one md) fun v17 w17 a17 => ?_
        obtain ⟨cap3, rfl, hcap3, row17, wok17, x17, s17⟩ := app_new a17 (by omega)
        refine ⟨.inr (keep2 x17 ⟨by omega, fun _ h => h⟩ ⟨by omega, fun _ h => h⟩), ?_⟩
        simp only [↓List.toList_toArray, ↓rgd, ↓rgf, ↓reduceIte, Nat.reduceEqDiff, rg, ow_120, ptr_eq]
        refine do_store (by simp only [evt, evc, upd_eq, Nat.reduceEqDiff, ↓reduceIte, ntT, ntF] <;> rfl) (by simp only [evt, evc, upd_eq, Nat.reduceEqDiff, ↓reduceIte, ntT, ntF] <;> rfl) sz_140 rfl (x17.wok (X16.wok wb14)) (by decide) (oc_one rfl rfl) fun w18 x18 r18 s18 => ⟨(by first | exact trivial | exact .inl trivial), ?_⟩
        simp only [↓List.toList_toArray, ↓rgd, ↓rgf, ↓reduceIte, Nat.reduceEqDiff, rg, ow_120]
        refine rest2 _ _ (by simp only [upd_eq, Nat.reduceEqDiff, ↓reduceIte]; exact f0) (by simp only [upd_eq, Nat.reduceEqDiff, ↓reduceIte]; exact f2) (by simp only [upd_eq, Nat.reduceEqDiff, ↓reduceIte]; exact f8) (((X16.tr x17).mono fun _ _ _ g => g.elim).tr x18) ⟨w16.heap.size, cap3, (Row.cons.1 r18).1, hcap3, x18.row row17 fun j _ h => by simp only [rng] at h; omega, x18.wok wok17, by omega⟩
    constructor
    · refine do_bsl rfl bs_kid0 fun w11 n11 => ⟨.inr (keep2 n11.ext ⟨by rw [sz_dr]; omega, fun _ h => h⟩ ⟨by rw [sz_dr]; omega, fun _ h => h⟩), ?_⟩
      simp only [↓List.toList_toArray, ↓rgd, ↓rgf, ↓reduceIte, Nat.reduceEqDiff, rg, ow_120]
      have n11 := n11.od
      have s11 := n11.size
      refine do_bsl rfl (bs_kid2 b rb) fun w12 n12 => ⟨.inr (keep2 n12.ext ⟨by omega, fun _ h => h⟩ ⟨by omega, fun _ h => h⟩), ?_⟩
      simp only [↓List.toList_toArray, ↓rgd, ↓rgf, ↓reduceIte, Nat.reduceEqDiff, rg, ow_120]
      have s12 := n12.size
      have hv : SlV w12 1 (.slice (some ⟨w10.heap.size, 0, none⟩) 0 0) 0 [] := ⟨rfl, .inr ⟨_, 0, 0, rfl, Nat.le_refl _, Row.nil _ _ _, (n12.ext.wok n11.wok).R (Nat.le_refl _)⟩⟩
      have hu : SlV w12 1 (.slice (some ⟨w11.heap.size, 0, none⟩) 2 2) 2 [ptr b, ptr rb] := ⟨rfl, .inr ⟨_, 0, 2, rfl, Nat.le_refl _, n12.row, n12.wok.R (Nat.le_refl _)⟩⟩
      have X12 : Ext noF w10 w12 := n11.ext.tr n12.ext
      refine do_append (by simp only [evt, evc, upd_eq, Nat.reduceEqDiff, ↓reduceIte, ntT, ntF] <;> rfl) (by simp only [evt, evc, upd_eq, Nat.reduceEqDiff, ↓reduceIte, ntT, ntF] <;> rfl) el_kid rfl ni_144 hv hu (by omega) (by decide) (by intro v hv; simp at hv; rcases hv with rfl | rfl <;> rfl) fun v13 w13 a13 => ?_
      obtain ⟨cap2, rfl, hcap2, row13, wok13, x13, s13⟩ := app_new a13 (by omega)
      refine ⟨.inr (keep2 x13 ⟨by omega, fun _ h => h⟩ ⟨by omega, fun _ h => h⟩), ?_⟩
      simp only [↓List.toList_toArray, ↓rgd, ↓rgf, ↓reduceIte, Nat.reduceEqDiff, rg, ow_120]
      refine do_store (by simp only [evt, evc, upd_eq, Nat.reduceEqDiff, ↓reduceIte, ntT, ntF] <;> rfl) (by simp only [evt, evc, upd_eq, Nat.reduceEqDiff, ↓reduceIte, ntT, ntF] <;> rfl) sz_144 rfl (x13.wok (X12.wok wbc10)) (by decide) (oc_one rfl rfl) fun w14 x14 r14 s14 => ⟨(by first | exact trivial | exact .inl trivial), ?_⟩
      simp only [↓List.toList_toArray, ↓rgd, ↓rgf, ↓reduceIte, Nat.reduceEqDiff, rg, ow_120]
      refine rest _ _ (by simp only [upd_eq, Nat.reduceEqDiff, ↓reduceIte]; exact e0) (by simp only [upd_eq, Nat.reduceEqDiff, ↓reduceIte]; exact e2) (by simp only [upd_eq, Nat.reduceEqDiff, ↓reduceIte]; exact e1) (by simp only [upd_eq, Nat.reduceEqDiff, ↓reduceIte] <;> rfl) (((X12.tr x13).mono fun _ _ _ g => g.elim).tr x14) ⟨w12.heap.size, cap2, (Row.cons.1 r14).1, hcap2, x14.row row13 fun j _ h => by simp only [rng] at h; omega, by have := x14.wok wok13; rwa [Nat.mul_one] at this, by omega⟩
    · refine do_bsl rfl (bs_kid2 b rb) fun w11 n11 => ⟨.inr (keep2 n11.ext ⟨by rw [sz_dr]; omega, fun _ h => h⟩ ⟨by rw [sz_dr]; omega, fun _ h => h⟩), ?_⟩
      simp only [↓List.toList_toArray, ↓rgd, ↓rgf, ↓reduceIte, Nat.reduceEqDiff, rg, ow_120]
      have n11 := n11.od
      have s11 := n11.size
      refine do_bsl rfl bs_kid0 fun w12 n12 => ⟨.inr (keep2 n12.ext ⟨by omega, fun _ h => h⟩ ⟨by omega, fun _ h => h⟩), ?_⟩
      simp only [↓List.toList_toArray, ↓rgd, ↓rgf, ↓reduceIte, Nat.reduceEqDiff, rg, ow_120]
      have s12 := n12.size
      have hv : SlV w12 1 (.slice (some ⟨w11.heap.size, 0, none⟩) 0 0) 0 [] := ⟨rfl, .inr ⟨_, 0, 0, rfl, Nat.le_refl _, Row.nil _ _ _, n12.wok.R (Nat.le_refl _)⟩⟩
      have hu : SlV w12 1 (.slice (some ⟨w10.heap.size, 0, none⟩) 2 2) 2 [ptr b, ptr rb] := ⟨rfl, .inr ⟨_, 0, 2, rfl, Nat.le_refl _, n12.ext.row n11.row fun _ _ h => h, (n12.ext.wok n11.wok).R (Nat.le_refl _)⟩⟩
      have X12 : Ext noF w10 w12 := n11.ext.tr n12.ext
      refine do_append (by simp only [evt, evc, upd_eq, Nat.reduceEqDiff, ↓reduceIte, ntT, ntF] <;> rfl) (by simp only [evt, evc, upd_eq, Nat.reduceEqDiff, ↓reduceIte, ntT, ntF] <;> rfl) el_kid rfl ni_144 hv hu (by omega) (by decide) (by intro v hv; simp at hv; rcases hv with rfl | rfl <;> rfl) fun v13 w13 a13 => ?_
      obtain ⟨cap2, rfl, hcap2, row13, wok13, x13, s13⟩ := app_new a13 (by omega)
      refine ⟨.inr (keep2 x13 ⟨by omega, fun _ h => h⟩ ⟨by omega, fun _ h => h⟩), ?_⟩
      simp only [↓List.toList_toArray, ↓rgd, ↓rgf, ↓reduceIte, Nat.reduceEqDiff, rg, ow_120]
      refine do_store (by simp only [evt, evc, upd_eq, Nat.reduceEqDiff, ↓reduceIte, ntT, ntF] <;> rfl) (by simp only [evt, evc, upd_eq, Nat.reduceEqDiff, ↓reduceIte, ntT, ntF] <;> rfl) sz_144 rfl (x13.wok (X12.wok wbc10)) (by decide) (oc_one rfl rfl) fun w14 x14 r14 s14 => ⟨(by first | exact trivial | exact .inl trivial), ?_⟩
      simp only [↓List.toList_toArray, ↓rgd, ↓rgf, ↓reduceIte, Nat.reduceEqDiff, rg, ow_120]
      refine rest _ _ (by simp only [upd_eq, Nat.reduceEqDiff, ↓reduceIte]; exact e0) (by simp only [upd_eq, Nat.reduceEqDiff, ↓reduceIte]; exact e2) (by simp only [upd_eq, Nat.reduceEqDiff, ↓reduceIte]; exact e1) (by simp only [upd_eq, Nat.reduceEqDiff, ↓reduceIte] <;> rfl) (((X12.tr x13).mono fun _ _ _ g => g.elim).tr x14) ⟨w12.heap.size, cap2, (Row.cons.1 r14).1, hcap2, x14.row row13 fun j _ h => by simp only [rng] at h; omega, by have := x14.wok wok13; rwa [Nat.mul_one] at this, by omega⟩
  · simp only [↓List.toList_toArray, ↓rgd, ↓rgf, ↓reduceIte, Nat.reduceEqDiff, rg, ow_120]
    refine hK _ _ ?_; clear hK K
    refine W_name (by first | exact .inl rfl | exact .inr ⟨_, rfl⟩) fun w3 x3s s3s => ?_
    have x3 : Ext (fun y o => F y o ∨ rng 0 0 0 y o) w w3 := x3p.trans x3s (fun _ _ g => .inl g) fun _ _ _ g => .inr g
    have X3 : Ext F w w3 := X2.trans x3 (fun _ _ g => g.elim) fun y o hy g => g.elim id fun g => by simp only [rng] at g; omega
    have s3 := x3.size
    have hmG : ∀ o, ¬ (F m o ∨ rng 0 0 0 m o) := fun o g => g.elim (hm o) fun g => by simp only [rng] at g; omega
    have c3 := c2.ext x3 fun o _ _ => hmG o
    have rt3 := x3.rd rt2 (hmG 2)
    have ct3 := X3.rd hcnt (hm 3)
    have hL3 := hL.ext X3 (fun y o g => by have := hBF y o g; omega) (hm 6)
    have hT' := hT'.ext x3s fun y o g k => by simp only [rng] at k; omega
    have hab3 : ∀ y o, F' y o → m < y := fun y o g => by
      rcases hF3 y o g with g | g
      · exact hBF _ _ g
      · omega
    refine W_seq ?_
    refine W_sq fun K hK => (W_text [true] (by kernel_rfl) ?_); simp only [↓List.toList_toArray, ↓rgd, ↓rgf, ↓reduceIte, Nat.reduceEqDiff, rg, ow_120]
    refine hK _ _ ?_; clear hK K
    refine W_false (by simp only [evt, evc, upd_eq, Nat.reduceEqDiff, ↓reduceIte, ntT, ntF] <;> rfl) (W_skip ?_)
    show W _ _ _ _ _ _
    refine W_seq ?_
    have hpl := put_length O (rkI ord) x xs
    have hpa := put_asc O (rkI ord) (x := x) ha
    cases hh2 : hit O (rkI ord) (rkI ord x) xs with
    | true =>
      rw [hh2] at hpl
      refine W_sq fun K hK => (W_text [true] (by kernel_rfl) ?_); simp only [↓List.toList_toArray, ↓rgd, ↓rgf, ↓reduceIte, Nat.reduceEqDiff, rg, ow_120]
      refine hK _ _ ?_; clear hK K
      refine W_true (by simp only [evt, evc, upd_eq, Nat.reduceEqDiff, ↓reduceIte, ntT, ntF] <;> rfl) ?_
      refine W_sq fun K hK => (W_text [true, true, true] (by kernel_rfl) ?_); simp only [↓List.toList_toArray, ↓rgd, ↓rgf, ↓reduceIte, Nat.reduceEqDiff, rg, ow_120]
      refine hK _ _ ?_; clear hK K
      refine W_name (by first | exact .inl rfl | exact .inr ⟨_, rfl⟩) fun w4 x4 s4 => ?_
      refine W_ret ?_
      simp only [andThen_ret]
      have TA : TreeAt B ord w3 m d iso (put O (rkI ord) x xs) F' := ⟨c3, hL3, by rw [hpl]; exact ct3, hpa, .inr ⟨h, b, rt3, hT'⟩, hF'm, hT'.lt, hab3⟩
      exact endQ_2 (by simp only [upd_eq, Nat.reduceEqDiff, ↓reduceIte] <;> rfl) (by simp only [upd_eq, Nat.reduceEqDiff, ↓reduceIte] <;> rfl) ⟨rfl, X3.trans x4 (fun _ _ g => .inl g) fun y o hy g => by simp only [rng] at g; omega, F',
        TA.extG x4 (fun y o g k => by simp only [rng] at k; omega) (fun y o g => by simp only [rng] at g; omega), fun y o g => (hF3 y o g).imp id fun g => by omega⟩
    | false =>
      rw [hh2] at hpl
      have q1 := wadd1 xs.length (by omega)
      refine W_sq fun K hK => (W_text [true] (by kernel_rfl) ?_); simp only [↓List.toList_toArray, ↓rgd, ↓rgf, ↓reduceIte, Nat.reduceEqDiff, rg, ow_120]
      refine hK _ _ ?_; clear hK K
      refine W_false (by simp only [evt, evc, upd_eq, Nat.reduceEqDiff, ↓reduceIte, ntT, ntF] <;> rfl) (W_skip ?_)
      show W _ _ _ _ _ _
      refine W_sq fun K hK => (W_text [true, true, true, true, true, true, true, false] (by kernel_rfl) ?_); simp only [↓List.toList_toArray, ↓rgd, ↓rgf, ↓reduceIte, Nat.reduceEqDiff, rg, ow_120, e0, ptr_eq, ct3, q1]
      refine do_store (by simp only [evt, evc, upd_eq, Nat.reduceEqDiff, ↓reduceIte, ntT, ntF] <;> rfl) (by simp only [evt, evc, upd_eq, Nat.reduceEqDiff, ↓reduceIte, ntT, ntF] <;> rfl) sz_3 rfl c3.wok (by decide) (oc_one rfl rfl) fun w4 x4 r4 s4 => ⟨trivial, ?_⟩
      simp only [↓List.toList_toArray, ↓rgd, ↓rgf, ↓reduceIte, Nat.reduceEqDiff, rg, ow_120]
      refine hK _ _ ?_; clear hK K
      have c4 := c3.ext x4 fun o _ h3 g => h3 (by simp only [rng] at g; omega)
      have z4 := zIt_at c4
      refine W_sq fun K hK => (W_text [true, true, true, true, true, true] (by kernel_rfl) ?_); simp only [↓List.toList_toArray, ↓rgd, ↓rgf, ↓reduceIte, Nat.reduceEqDiff, rg, ow_120, e0, ptr_eq, z4]
      refine hK _ _ ?_; clear hK K
      refine W_name (by first | exact .inl rfl | exact .inr ⟨_, rfl⟩) fun w5 x5 s5 => ?_
      have hat : at? O (rkI ord) (rkI ord x) xs = none := by unfold at?; rw [hh2]; rfl
      have TA : TreeAt B ord w4 m d iso (put O (rkI ord) x xs) F' := by
        refine ⟨c4, hL3.ext x4 (fun y o g => by simp only [rng] at g; omega) (by simp only [rng]; omega), ?_, hpa, .inr ⟨h, b, x4.rd rt3 (by simp only [rng]; omega), ?_⟩, hF'm, fun y o g => ?_, hab3⟩
        · rw [hpl]; exact (Row.cons.1 r4).1
        · exact hT'.ext x4 fun y o g k => hF'm o (by simp only [rng] at k; rw [← k.1]; exact g)
        · have := hT'.lt y o g; omega
      refine W_ret (endQ_2 (by simp only [upd_eq, Nat.reduceEqDiff, ↓reduceIte] <;> rfl) (by simp only [upd_eq, Nat.reduceEqDiff, ↓reduceIte] <;> rfl) ⟨by rw [hat]; rfl, (X3.trans x4 (fun _ _ g => .inl g) fun y o _ g => .inr ⟨g.1, by simp only [rng] at g; omega⟩).trans x5 (fun _ _ g => g) fun y o hy g => by simp only [rng] at g; omega, F',
        TA.extG x5 (fun y o g k => by simp only [rng] at k; omega) (fun y o g => by simp only [rng] at g; omega), fun y o g => (hF3 y o g).imp id fun g => by omega⟩)
set_option maxHeartbeats 400000 in
set_option maxRecDepth 8000 in
theorem init_again (m d : Nat) (iso : Int) (hd : 2 ≤ d) (v : Value) (w : World) (hc : Cfg w m iso d) : CallK Try.prog 148 #[ptr m, v] w fun _ w' => w = w' := by
  refine calls_of_W [] Try.func148 rfl Try.ntmps148 Try.results148 (by simp) fun e he => ?_
  have e0 : e 0 = ptr m := he 0 _ rfl
  clear he
  have t1 : (((d - 1 : Nat) : Int) != 0) = true := by simp; omega
  refine W_seq ?_
  refine W_sq fun K hK => (W_text [true, true, true, true, true] (by kernel_rfl) ?_); simp only [↓List.toList_toArray, ↓rgd, ↓rgf, ↓reduceIte, Nat.reduceEqDiff, rg, ow_148, e0, ptr_eq, hc.mn, t1]
  refine hK _ _ ?_; clear hK K
  refine W_true (by simp only [evt, evc, upd_eq, Nat.reduceEqDiff, ↓reduceIte, ntT, ntF] <;> rfl) (W_ret ?_)
  simp only [andThen_ret]
  exact endQ_0 rfl
set_option maxHeartbeats 1000000 in
set_option maxRecDepth 8000 in
/-- Setting in an empty map. -/
theorem set_nil (B m d : Nat) (iso : Int) (ord : List Int) (x : It) (hd : 2 ≤ d) (hd' : d ≤ 128) (w : World) (hc : Cfg w m iso d) (hL : Ls B m w ord) (hroot : rd w m 2 = some (.pointer none)) :
    CallK Try.prog 120 #[ptr m, itV x, .pointer none] w fun v w' => v = .tuple #[zV, .bool false] ∧ Ext (mapF m noF) w w' ∧ ∃ F', TreeAt B ord w' m d iso [x] F' ∧ ∀ y o, F' y o → w.heap.size ≤ y := by
  have hml := rd_lt hroot
  have hBm : B ≤ m := by obtain ⟨_, _, _, h⟩ := hL; exact h
  refine calls_of_W [.tmp 6, .tmp 7] Try.func120 rfl Try.ntmps120 Try.results120 (by simp) fun e he => ?_
  have e0 : e 0 = ptr m := he 0 _ rfl
  have e1 : e 1 = itV x := he 1 _ rfl
  have e2 : e 2 = .pointer none := he 2 _ rfl
  clear he
  refine W_sq fun K hK => (W_text [true, true] (by kernel_rfl) ?_); simp only [↓List.toList_toArray, ↓rgd, ↓rgf, ↓reduceIte, Nat.reduceEqDiff, rg, ow_120]
  refine hK _ _ ?_; clear hK K
  have X2 : Ext noF w w := Ext.refl _ _
  have c2 := hc.ext X2 fun _ _ _ h => h
  have rt2 := X2.rd hroot (fun h => h)
  refine W_seq ?_
  refine W_sq fun K hK => (W_text [true, true, true, true, true] (by kernel_rfl) ?_); simp only [↓List.toList_toArray, ↓rgd, ↓rgf, ↓reduceIte, Nat.reduceEqDiff, rg, ow_120, e0, ptr_eq, rt2]
  refine hK _ _ ?_; clear hK K
  refine W_true (by simp only [evt, evc, upd_eq, Nat.reduceEqDiff, ↓reduceIte, ntT, ntF] <;> rfl) ?_
  refine W_sq fun K hK => (W_text [true, false] (by kernel_rfl) ?_); simp only [↓List.toList_toArray, ↓rgd, ↓rgf, ↓reduceIte, Nat.reduceEqDiff, rg, ow_120, e0]
  refine do_call fn_148 (by simp only [evt, evc, upd_eq, Nat.reduceEqDiff, ↓reduceIte, maT, maC, maN, isnN, isnS] <;> rfl) (init_again m d iso hd (.int .i64 0) w c2) ?_
  rintro _ _ rfl
  refine ⟨trivial, ?_⟩
  simp only [↓List.toList_toArray, ↓rgd, ↓rgf, ↓reduceIte, Nat.reduceEqDiff, rg, ow_120]
  refine hK _ _ ?_; clear hK K
  refine W_sq fun K hK => (W_text [true, true, false, true, true, false] (by kernel_rfl) ?_); simp only [↓List.toList_toArray, ↓rgd, ↓rgf, ↓reduceIte, Nat.reduceEqDiff, rg, ow_120, e0]
  refine do_call fn_149 (by simp only [evt, evc, upd_eq, Nat.reduceEqDiff, ↓reduceIte, maT, maC, maN, isnN, isnS] <;> rfl) (newNode_any m true iso w c2.iso) ?_
  rintro _ w3 ⟨b, rfl, x3, nn⟩
  refine ⟨trivial, ?_⟩
  simp only [↓List.toList_toArray, ↓rgd, ↓rgf, ↓reduceIte, Nat.reduceEqDiff, rg, ow_120, ptr_eq]
  have c3 := c2.ext x3 fun _ _ _ h => h
  refine do_store (by simp only [evt, evc, upd_eq, Nat.reduceEqDiff, ↓reduceIte, ntT, ntF] <;> rfl) (by simp only [evt, evc, upd_eq, Nat.reduceEqDiff, ↓reduceIte, ntT, ntF] <;> rfl) sz_106 rfl (c3.wok.mono (by decide)) (Nat.le_refl 3) (oc_one rfl rfl) fun w4 x4 r4 s4 => ⟨trivial, ?_⟩
  simp only [↓List.toList_toArray, ↓rgd, ↓rgf, ↓reduceIte, Nat.reduceEqDiff, rg, ow_120]
  refine hK _ _ ?_; clear hK K
  have nnge := nn.ge
  have s3 := x3.size
  have hbl := wok_lt nn.wb
  have rt4 : rd w4 m 2 = some (ptr b) := (Row.cons.1 r4).1
  have c4 := c3.ext x4 fun o h2 _ g => h2 (by simp only [rng] at g; omega)
  have wb4 := x4.wok nn.wb
  have M4 : readsB (some (some [m, m])) m = true := by simp [readsB]
  have M5 : readsB (some (some [m, m])) m = true := by simp [readsB]
  refine W_sq fun K hK => (W_draw (some (some [m, m])) (some 10) [(0, 0, 0), (0, 1, 0), (0, 2, 0), (0, 3, 0), (0, 5, 0), (2, 4, 6), (1, 7, 0), (0, 8, 0), (0, 9, 0), (1, 10, 0)] mixed (by kernel_rfl) ?_); simp only [↓List.toList_toArray, ↓rgd, ↓rgf, ↓reduceIte, Nat.reduceEqDiff, rg, ow_120, e0, e1, ptr_eq, rt4, M4, M5]
  have rest2 : ∀ e'' w', e'' 0 = ptr m → Ext (rng b 2 1) w4 w' →
      (∃ bi2 cap3, rd w' b 2 = some (.slice (some ⟨bi2, 0, none⟩) 1 cap3) ∧ 1 ≤ cap3 ∧ Row w' bi2 0 (E.cel x) ∧ wok w' bi2 (cap3 * 1) ∧ w4.heap.size ≤ bi2) → K e'' w' := by
    intro e'' w18 f0 x18 ⟨bi2, cap3, p0, p2, p3, p4, p5⟩
    refine hK _ _ ?_; clear hK K
    have s18 := x18.size
    have hbi18 := wok_lt p4
    have rt18 : rd w18 m 2 = some (ptr b) := x18.rd rt4 (by simp only [rng]; omega)
    have c18 := c4.ext x18 fun o _ _ g => by simp only [rng] at g; omega
    refine W_sq fun K hK => (W_text [true, true, true, true, true, true, false] (by kernel_rfl) ?_); simp only [↓List.toList_toArray, ↓rgd, ↓rgf, ↓reduceIte, Nat.reduceEqDiff, rg, ow_120, f0, ptr_eq, rt18]
    refine do_store (by simp only [evt, evc, upd_eq, Nat.reduceEqDiff, ↓reduceIte, ntT, ntF] <;> rfl) (by simp only [evt, evc, upd_eq, Nat.reduceEqDiff, ↓reduceIte, ntT, ntF] <;> rfl) sz_3 rfl (x18.wok wb4) (by decide) (oc_one rfl rfl) fun w19 x19 r19 s19 => ⟨trivial, ?_⟩
    simp only [↓List.toList_toArray, ↓rgd, ↓rgf, ↓reduceIte, Nat.reduceEqDiff, rg, ow_120]
    refine hK _ _ ?_; clear hK K
    have c19 := c18.ext x19 fun o _ _ g => by simp only [rng] at g; omega
    refine W_sq fun K hK => (W_text [true, true, true, false] (by kernel_rfl) ?_); simp only [↓List.toList_toArray, ↓rgd, ↓rgf, ↓reduceIte, Nat.reduceEqDiff, rg, ow_120, f0, ptr_eq]
    refine do_store (by simp only [evt, evc, upd_eq, Nat.reduceEqDiff, ↓reduceIte, ntT, ntF] <;> rfl) (by simp only [evt, evc, upd_eq, Nat.reduceEqDiff, ↓reduceIte, ntT, ntF] <;> rfl) sz_3 rfl (c19.wok.mono (by decide)) (Nat.le_refl 4) (oc_one rfl rfl) fun w20 x20 r20 s20 => ⟨trivial, ?_⟩
    simp only [↓List.toList_toArray, ↓rgd, ↓rgf, ↓reduceIte, Nat.reduceEqDiff, rg, ow_120]
    refine hK _ _ ?_; clear hK K
    have c20 := c19.ext x20 fun o _ h3 g => h3 (by simp only [rng] at g; omega)
    have z20 := zIt_at c20
    have hL20 : Ls B m w20 ord := ((((((hL.ext0 X2).ext0 x3).ext x4 (fun y o g => by simp only [rng] at g; omega) (by simp only [rng]; omega)).ext x18 (fun y o g => by simp only [rng] at g; omega) (by simp only [rng]; omega)).ext x19 (fun y o g => by simp only [rng] at g; omega) (by simp only [rng]; omega)).ext x20 (fun y o g => by simp only [rng] at g; omega) (by simp only [rng]; omega))
    refine W_sq fun K hK => (W_text [true, true, true, true, true, true] (by kernel_rfl) ?_); simp only [↓List.toList_toArray, ↓rgd, ↓rgf, ↓reduceIte, Nat.reduceEqDiff, rg, ow_120, f0, ptr_eq, z20]
    refine hK _ _ ?_; clear hK K
    refine W_name (by first | exact .inl rfl | exact .inr ⟨_, rfl⟩) fun w21 x21 s21 => ?_
    have X20 : Ext (mapF m noF) w w20 := by
      refine (((((X2.tr x3).trans x4 (H := mapF m noF) (fun _ _ g => g.elim) fun y o _ g => ?_).trans x18 (fun _ _ g => g) fun y o _ g => ?_).trans x19 (fun _ _ g => g) fun y o _ g => ?_).trans x20 (fun _ _ g => g) fun y o _ g => ?_)
      · simp only [rng] at g; exact .inr ⟨g.1, by omega⟩
      · simp only [rng] at g; omega
      · simp only [rng] at g; omega
      · simp only [rng] at g; exact .inr ⟨g.1, by omega⟩
    have tr : Tr E iso (d - 1) (2 * d - 1) 0 w20 1 b [x] (ownF E b bi2 0 cap3) := by
      refine ⟨bi2, 0, cap3, ⟨x20.rd (x19.rd (x18.rd (x4.rd nn.h0 (by simp only [rng]; omega)) (by simp only [rng]; omega)) (by simp only [rng]; omega)) (by simp only [rng]; omega), ?_, x20.rd (x19.rd p0 (by simp only [rng]; omega)) (by simp only [rng]; omega),
        x20.rd (x19.rd (x18.rd (x4.rd (nn.leaf rfl) (by simp only [rng]; omega)) (by simp only [rng]; omega)) (by simp only [rng]; omega)) (by simp only [rng]; omega), x20.wok (x19.wok (x18.wok wb4)), ?_, by rw [Nat.zero_add]; exact x20.wok (x19.wok p4), p2, by omega⟩,
        Nat.le_refl _, (by show 1 ≤ 2 * d - 1; omega), fun _ _ => Iff.rfl⟩
      · exact x20.rd (Row.cons.1 r19).1 (by simp only [rng]; omega)
      · rw [flat_one]; exact x20.row (x19.row p3 fun j _ h => by simp only [rng] at h; omega) fun j _ h => by simp only [rng] at h; omega
    have hown : ∀ y o, ownF E b bi2 0 cap3 y o → w.heap.size ≤ y := fun y o g => by simp only [ownF, rng] at g; omega
    refine W_ret ?_
    simp only [andThen_ret]
    have TA : TreeAt B ord w20 m d iso [x] (ownF E b bi2 0 cap3) := ⟨c20, hL20, (Row.cons.1 r20).1, List.pairwise_singleton _ _, .inr ⟨0, b, x20.rd (x19.rd rt18 (by simp only [rng]; omega)) (by simp only [rng]; omega), tr⟩, fun o g => by have := hown _ _ g; omega, tr.lt,
      fun y o g => by have := hown _ _ g; omega⟩
    exact endQ_2 (by simp only [upd_eq, Nat.reduceEqDiff, ↓reduceIte] <;> rfl) (by simp only [upd_eq, Nat.reduceEqDiff, ↓reduceIte] <;> rfl) ⟨rfl, X20.trans x21 (fun _ _ g => g) fun y o hy g => by simp only [rng] at g; omega, _,
      TA.extG x21 (fun y o g k => by have := hown _ _ g; simp only [rng] at k; omega) (fun y o g => by simp only [rng] at g; omega), fun y o g => by have := hown _ _ g; omega⟩
  constructor
  · refine do_bsl rfl bs_it0 fun w15 n15 => ⟨.inr (keep2 n15.ext ⟨by rw [sz_dr]; omega, fun _ h => h⟩ ⟨by rw [sz_dr]; omega, fun _ h => h⟩), ?_⟩
    simp only [↓List.toList_toArray, ↓rgd, ↓rgf, ↓reduceIte, Nat.reduceEqDiff, rg, ow_120]
    have n15 := n15.od
    have s15 := n15.size
    refine do_bsl rfl (bs_it1 x) fun w16 n16 => ⟨.inr (keep2 n16.ext ⟨by omega, fun _ h => h⟩ ⟨by omega, fun _ h => h⟩), ?_⟩
    simp only [↓List.toList_toArray, ↓rgd, ↓rgf, ↓reduceIte, Nat.reduceEqDiff, rg, ow_120]
    have s16 := n16.size
    have hv : SlV w16 1 (.slice (some ⟨w4.heap.size, 0, none⟩) 0 0) 0 [] := ⟨rfl, .inr ⟨_, 0, 0, rfl, Nat.le_refl _, Row.nil _ _ _, (n16.ext.wok n15.wok).R (Nat.le_refl _)⟩⟩
    have hu : SlV w16 1 (.slice (some ⟨w15.heap.size, 0, none⟩) 1 1) 1 (E.cel x) := ⟨rfl, .inr ⟨_, 0, 1, rfl, Nat.le_refl _, n16.row, n16.wok.R (Nat.le_refl _)⟩⟩
    have X16 : Ext noF w4 w16 := n15.ext.tr n16.ext
    refine do_append (by simp only [evt, evc, upd_eq, Nat.reduceEqDiff, ↓reduceIte, ntT, ntF] <;> rfl) (by simp only [evt, evc, upd_eq, Nat.reduceEqDiff, ↓reduceIte, ntT, ntF] <;> rfl) el_it rfl ni_140 hv hu (by omega) (by decide) (E.one x) fun v17 w17 a17 => ?_
    obtain ⟨cap3, rfl, hcap3, row17, wok17, x17, s17⟩ := app_new a17 (by omega)
    refine ⟨.inr (keep2 x17 ⟨by omega, fun _ h => h⟩ ⟨by omega, fun _ h => h⟩), ?_⟩
    simp only [↓List.toList_toArray, ↓rgd, ↓rgf, ↓reduceIte, Nat.reduceEqDiff, rg, ow_120, ptr_eq]
    refine do_store (by simp only [evt, evc, upd_eq, Nat.reduceEqDiff, ↓reduceIte, ntT, ntF] <;> rfl) (by simp only [evt, evc, upd_eq, Nat.reduceEqDiff, ↓reduceIte, ntT, ntF] <;> rfl) sz_140 rfl (x17.wok (X16.wok wb4)) (by decide) (oc_one rfl rfl) fun w18 x18 r18 s18 => ⟨(by first | exact trivial | exact .inl trivial), ?_⟩
    simp only [↓List.toList_toArray, ↓rgd, ↓rgf, ↓reduceIte, Nat.reduceEqDiff, rg, ow_120]
    refine rest2 _ _ (by simp only [upd_eq, Nat.reduceEqDiff, ↓reduceIte]; exact e0) (((X16.tr x17).mono fun _ _ _ g => g.elim).tr x18) ⟨w16.heap.size, cap3, (Row.cons.1 r18).1, hcap3, x18.row row17 fun j _ h => by simp only [rng] at h; omega, x18.wok wok17, by omega⟩
  · refine do_bsl rfl (bs_it1 x) fun w15 n15 => ⟨.inr (keep2 n15.ext ⟨by rw [sz_dr]; omega, fun _ h => h⟩ ⟨by rw [sz_dr]; omega, fun _ h => h⟩), ?_⟩
    simp only [↓List.toList_toArray, ↓rgd, ↓rgf, ↓reduceIte, Nat.reduceEqDiff, rg, ow_120]
    have n15 := n15.od
    have s15 := n15.size
    refine do_bsl rfl bs_it0 fun w16 n16 => ⟨.inr (keep2 n16.ext ⟨by omega, fun _ h => h⟩ ⟨by omega, fun _ h => h⟩), ?_⟩
    simp only [↓List.toList_toArray, ↓rgd, ↓rgf, ↓reduceIte, Nat.reduceEqDiff, rg, ow_120]
    have s16 := n16.size
    have hv : SlV w16 1 (.slice (some ⟨w15.heap.size, 0, none⟩) 0 0) 0 [] := ⟨rfl, .inr ⟨_, 0, 0, rfl, Nat.le_refl _, Row.nil _ _ _, n16.wok.R (Nat.le_refl _)⟩⟩
    have hu : SlV w16 1 (.slice (some ⟨w4.heap.size, 0, none⟩) 1 1) 1 (E.cel x) := ⟨rfl, .inr ⟨_, 0, 1, rfl, Nat.le_refl _, n16.ext.row n15.row fun _ _ h => h, (n16.ext.wok n15.wok).R (Nat.le_refl _)⟩⟩
    have X16 : Ext noF w4 w16 := n15.ext.tr n16.ext
    refine do_append (by simp only [evt, evc, upd_eq, Nat.reduceEqDiff, ↓reduceIte, ntT, ntF] <;> rfl) (by simp only [evt, evc, upd_eq, Nat.reduceEqDiff, ↓reduceIte, ntT, ntF] <;> rfl) el_it rfl ni_140 hv hu (by omega) (by decide) (E.one x) fun v17 w17 a17 => ?_
    obtain ⟨cap3, rfl, hcap3, row17, wok17, x17, s17⟩ := app_new a17 (by omega)
    refine ⟨.inr (keep2 x17 ⟨by omega, fun _ h => h⟩ ⟨by omega, fun _ h => h⟩), ?_⟩
    simp only [↓List.toList_toArray, ↓rgd, ↓rgf, ↓reduceIte, Nat.reduceEqDiff, rg, ow_120, ptr_eq]
    refine do_store (by simp only [evt, evc, upd_eq, Nat.reduceEqDiff, ↓reduceIte, ntT, ntF] <;> rfl) (by simp only [evt, evc, upd_eq, Nat.reduceEqDiff, ↓reduceIte, ntT, ntF] <;> rfl) sz_140 rfl (x17.wok (X16.wok wb4)) (by decide) (oc_one rfl rfl) fun w18 x18 r18 s18 => ⟨(by first | exact trivial | exact .inl trivial), ?_⟩
    simp only [↓List.toList_toArray, ↓rgd, ↓rgf, ↓reduceIte, Nat.reduceEqDiff, rg, ow_120]
    refine rest2 _ _ (by simp only [upd_eq, Nat.reduceEqDiff, ↓reduceIte]; exact e0) (((X16.tr x17).mono fun _ _ _ g => g.elim).tr x18) ⟨w16.heap.size, cap3, (Row.cons.1 r18).1, hcap3, x18.row row17 fun j _ h => by simp only [rng] at h; omega, x18.wok wok17, by omega⟩
end Go.Proofs.Ytanmjbkbdmeckaa
/-
  Items as a program's cells. No condition.
-/
set_option linter.unusedSimpArgs false
set_option linter.unusedVariables false
namespace Go.Proofs.Ytanmjbkbdmeckaa
open Go Go.Proofs
/-- A list's items as a program's cells: key, then value. -/
def Ei : Enc It where
  cel x := [.int .i64 x.1, .int .i64 x.2]
  sz := 2
  len _ := rfl
  one x v hv := by simp at hv; rcases hv with rfl | rfl <;> rfl
  pos := by decide
theorem Ei_sz : Ei.sz = 2 := rfl
theorem z_item : zK Try.prog 33 = some [.int .i64 0, .int .i64 0] := by kernel_rfl
theorem iV_at {w : World} {b o : Nat} {l : List It} (h : Row w b o (flat Ei l)) {i : Nat} {x : It} (hi : l[i]? = some x) : rdA w b (o + i * 2) 2 = some (iV x) :=
  (row_at Ei h hi).rdA 2 (by simp [Ei])
/-- A list of items as a slice. -/
def SlI (w : World) (v : Value) (l : List It) : Prop := SlV w 2 v l.length (flat Ei l)
theorem bu_item (a b : Int) : buildV Try.prog 33 [(0, .int .i64 a), (1, .int .i64 b)] = some (iV (a, b)) := by kernel_rfl
end Go.Proofs.Ytanmjbkbdmeckaa
/-
  A new tree with an order; setting in it; a tree that is grown from a list. No condition.
-/
set_option linter.unusedSimpArgs false
set_option linter.unusedVariables false
namespace Go.Proofs.Ytanmjbkbdmeckaa
open Go Go.Proofs
/-- The degree that is meant: 32 where none is given. -/
def degOf (d : Nat) : Nat := if d = 0 then 32 else d
/-- A degree of 0 or from 2 to 128. -/
def DOk (d : Nat) : Prop := d = 0 ∨ 2 ≤ d ∧ d ≤ 128
theorem DOk.of {d : Nat} (h : DOk d) : 2 ≤ degOf d ∧ degOf d ≤ 128 := by
  unfold degOf
  rcases h with rfl | h
  · simp
  · rw [if_neg (by omega)]; exact h
set_option maxHeartbeats 400000 in
set_option maxRecDepth 8000 in
theorem minmax_any (d : Nat) (h : DOk d) (w : World) :
    CallK Try.prog 170 #[.int .i64 d] w fun v w' => v = .tuple #[.int .i64 (degOf d - 1 : Nat), .int .i64 (2 * degOf d - 1 : Nat)] ∧ w = w' := by
  refine calls_of_W [.tmp 2, .tmp 3] Try.func170 rfl Try.ntmps170 Try.results170 (by simp) fun e he => ?_
  have e0 : e 0 = .int .i64 d := he 0 _ rfl
  clear he
  obtain ⟨h2, h3⟩ := h.of
  have q1 : IntKind.i64.wrap ((degOf d : Int) * 2) = ((2 * degOf d : Nat) : Int) := by rw [IntWalk.i64_in _ (by omega)]; omega
  have q2 : IntKind.i64.wrap (((2 * degOf d : Nat) : Int) - 1) = ((2 * degOf d - 1 : Nat) : Int) := wsub1 _ (by omega) (by omega)
  have q3 : IntKind.i64.wrap (((2 * degOf d - 1 : Nat) : Int).tdiv 2) = ((degOf d - 1 : Nat) : Int) := by rw [wdiv2 _ (by omega)]; congr 1; omega
  refine W_sq fun K hK => (W_text [true, true] (by kernel_rfl) ?_); simp only [↓List.toList_toArray, ↓rgd, ↓rgf, ↓reduceIte, Nat.reduceEqDiff, rg, ow_170]
  refine hK _ _ ?_; clear hK K
  refine W_sqx fun K hK => ?_
  have rest : ∀ e', e' 0 = .int .i64 (degOf d) → K e' w := fun e' f0 => by
    refine hK _ _ ?_; clear hK K
    refine W_sq fun K hK => (W_text [true, true, true, true] (by kernel_rfl) ?_); simp only [↓List.toList_toArray, ↓rgd, ↓rgf, ↓reduceIte, Nat.reduceEqDiff, rg, ow_170, f0, bv_mul, q1, q2]
    refine hK _ _ ?_; clear hK K
    refine W_sq fun K hK => (W_text [true, true, true] (by kernel_rfl) ?_); simp only [↓List.toList_toArray, ↓rgd, ↓rgf, ↓reduceIte, Nat.reduceEqDiff, rg, ow_170, q3]
    refine hK _ _ ?_; clear hK K
    refine W_sq fun K hK => (W_text [true, true, true, true] (by kernel_rfl) ?_); simp only [↓List.toList_toArray, ↓rgd, ↓rgf, ↓reduceIte, Nat.reduceEqDiff, rg, ow_170]
    refine hK _ _ ?_; clear hK K
    exact W_ret (endQ_2 (by simp only [upd_eq, Nat.reduceEqDiff, ↓reduceIte] <;> rfl) (by simp only [upd_eq, Nat.reduceEqDiff, ↓reduceIte] <;> rfl) ⟨rfl, rfl⟩)
  clear hK
  rcases h with rfl | ⟨g1, g2⟩
  · have t1 : decide ((0 : Int) ≤ 0) = true := rfl
    refine W_sq fun K hK => (W_text [true, true] (by kernel_rfl) ?_); simp only [↓List.toList_toArray, ↓rgd, ↓rgf, ↓reduceIte, Nat.reduceEqDiff, rg, ow_170, e0, Int.natCast_zero, t1]
    refine hK _ _ ?_; clear hK K
    refine W_true (by simp only [evt, evc, upd_eq, Nat.reduceEqDiff, ↓reduceIte, ntT, ntF] <;> rfl) ?_
    refine W_rg fun K hK => (W_text [true] (by kernel_rfl) ?_); simp only [↓List.toList_toArray, ↓rgd, ↓rgf, ↓reduceIte, Nat.reduceEqDiff, rg, ow_170]
    refine hK _ _ ?_; clear hK K
    refine rest _ ?_
    simp only [upd_eq, Nat.reduceEqDiff, ↓reduceIte]; rfl
  · have t1 : decide ((d : Int) ≤ 0) = false := by simp; omega
    have t2 : ((d : Int) == 1) = false := by simp; omega
    refine W_sq fun K hK => (W_text [true, true] (by kernel_rfl) ?_); simp only [↓List.toList_toArray, ↓rgd, ↓rgf, ↓reduceIte, Nat.reduceEqDiff, rg, ow_170, e0, t1]
    refine hK _ _ ?_; clear hK K
    refine W_false (by simp only [evt, evc, upd_eq, Nat.reduceEqDiff, ↓reduceIte, ntT, ntF] <;> rfl) ?_
    refine W_sq fun K hK => (W_text [true, true] (by kernel_rfl) ?_); simp only [↓List.toList_toArray, ↓rgd, ↓rgf, ↓reduceIte, Nat.reduceEqDiff, rg, ow_170, e0, t2]
    refine hK _ _ ?_; clear hK K
    refine W_false (by simp only [evt, evc, upd_eq, Nat.reduceEqDiff, ↓reduceIte, ntT, ntF] <;> rfl) (W_skip ?_)
    refine rest _ ?_
    simp only [upd_eq, Nat.reduceEqDiff, ↓reduceIte]
    rw [e0, degOf, if_neg (by omega)]
theorem nz_cv : nzK Try.prog 170 = some .nilIface := by kernel_rfl
theorem nz_ci : nzK Try.prog 173 = some .nilIface := by kernel_rfl
theorem tas_nil (T : Nat) (z : Value) (h : nzK Try.prog T = some z) : tasV Try.prog zV T true = some (.tuple #[z, .bool false]) := by simp [tasV, zV, h]
/-- A tree's record that is all zero. -/
theorem z_tree : zK Try.prog 136 = some [.int .u64 0, .pointer none, .pointer none, .int .i64 0, .bool false, .bool false, .nilFunc, zV, .int .i64 0, .int .i64 0] := by kernel_rfl
theorem z_fun : zK Try.prog 127 = some [.nilFunc] := by kernel_rfl
theorem z_u64 : zK Try.prog 133 = some [.int .u64 0] := by kernel_rfl
theorem z_ints : zK Try.prog 22 = some [.slice none 0 0] := by kernel_rfl
theorem z_opt : zK Try.prog 97 = some [.int .i64 0, .bool false] := by kernel_rfl
theorem el_int : elK Try.prog 22 = some (3, 1, 8, [.int .i64 0]) := by kernel_rfl
theorem ld_opt : ldK Try.prog 97 = some (some 2) := by kernel_rfl
theorem bs_int0 : bsV Try.prog 22 0 [] = some (3, []) := by kernel_rfl
theorem bu_opt (d : Int) (b : Bool) : buildV Try.prog 97 [(0, .int .i64 d), (1, .bool b)] = some (.agg #[.int .i64 d, .bool b]) := by kernel_rfl
theorem eq_nil (a : Option Addr) (n c : Nat) : binV Try.prog .eql 22 (.slice a n c) (.slice none 0 0) = some (.bool a.isNone) := by kernel_rfl
theorem oc_ints (l : List Int) : oc (ints l) := fun v hv => by
  obtain ⟨n, _, rfl⟩ := List.mem_map.1 hv
  rfl
set_option maxHeartbeats 400000 in
set_option maxRecDepth 8000 in
theorem init_any (m d : Nat) (hd : DOk d) (w : World) (wm : wok w m 10) (hr : Row w m 7 [zV, .int .i64 0, .int .i64 0]) :
    CallK Try.prog 148 #[ptr m, .int .i64 d] w fun _ w' => Ext (fun y o => y = m ∧ (o = 4 ∨ o = 5 ∨ o = 8 ∨ o = 9)) w w' ∧ rd w' m 9 = some (.int .i64 (degOf d - 1 : Nat)) ∧ rd w' m 8 = some (.int .i64 (2 * degOf d - 1 : Nat)) ∧
      rd w' m 4 = some (.bool false) ∧ rd w' m 5 = some (.bool false) ∧ w'.heap.size = w.heap.size := by
  simp only [Row.cons] at hr
  obtain ⟨g7, g8, g10, -⟩ := hr
  refine calls_of_W [] Try.func148 rfl Try.ntmps148 Try.results148 (by simp) fun e he => ?_
  have e0 : e 0 = ptr m := he 0 _ rfl
  have e1 : e 1 = .int .i64 d := he 1 _ rfl
  clear he
  have t1 : ((0 : Int) != 0) = false := by simp
  refine W_seq ?_
  refine W_sq fun K hK => (W_text [true, true, true, true, true] (by kernel_rfl) ?_); simp only [↓List.toList_toArray, ↓rgd, ↓rgf, ↓reduceIte, Nat.reduceEqDiff, rg, ow_148, e0, ptr_eq, g10, t1]
  refine hK _ _ ?_; clear hK K
  refine W_false (by simp only [evt, evc, upd_eq, Nat.reduceEqDiff, ↓reduceIte, ntT, ntF] <;> rfl) (W_skip ?_)
  show W _ _ _ _ _ _
  refine W_sq fun K hK => (W_text [true, true, true, false, true, true, true, true, true, false, true, true, false] (by kernel_rfl) ?_); simp only [↓List.toList_toArray, ↓rgd, ↓rgf, ↓reduceIte, Nat.reduceEqDiff, rg, ow_148, e0, e1, ptr_eq]
  refine do_call fn_170 (by simp only [evt, evc, upd_eq, Nat.reduceEqDiff, ↓reduceIte, maT, maC, maN, isnN, isnS] <;> rfl) (minmax_any d hd w) ?_
  rintro _ _ ⟨rfl, rfl⟩
  refine ⟨trivial, ?_⟩
  simp only [↓List.toList_toArray, ↓rgd, ↓rgf, ↓reduceIte, Nat.reduceEqDiff, rg, ow_148, ptr_eq]
  refine do_store (by simp only [evt, evc, upd_eq, Nat.reduceEqDiff, ↓reduceIte, ntT, ntF] <;> rfl) (by simp only [evt, evc, upd_eq, Nat.reduceEqDiff, ↓reduceIte, ntT, ntF] <;> rfl) sz_3 rfl wm (by decide) (oc_one rfl rfl) fun w1 x1 r1 s1 => ⟨trivial, ?_⟩
  simp only [↓List.toList_toArray, ↓rgd, ↓rgf, ↓reduceIte, Nat.reduceEqDiff, rg, ow_148, ptr_eq]
  refine do_store (by simp only [evt, evc, upd_eq, Nat.reduceEqDiff, ↓reduceIte, ntT, ntF] <;> rfl) (by simp only [evt, evc, upd_eq, Nat.reduceEqDiff, ↓reduceIte, ntT, ntF] <;> rfl) sz_3 rfl (x1.wok wm) (by decide) (oc_one rfl rfl) fun w2 x2 r2 s2 => ⟨trivial, ?_⟩
  simp only [↓List.toList_toArray, ↓rgd, ↓rgf, ↓reduceIte, Nat.reduceEqDiff, rg, ow_148]
  refine hK _ _ ?_; clear hK K
  have Z : ∀ {u : World} {G : Nat → Nat → Prop}, Ext G w u → (∀ o, G m o → o ≠ 7) → rd u m 7 = some zV := fun hx hG => hx.rd g7 fun g => hG _ g rfl
  have X2 : Ext (fun y o => y = m ∧ (o = 4 ∨ o = 5 ∨ o = 8 ∨ o = 9)) w w2 := x1.trans x2 (fun y o g => by simp only [rng] at g; omega) fun y o _ g => by simp only [rng] at g; omega
  have z2 := Z X2 fun o g => by omega
  have n1 := tas_nil _ _ nz_cv
  have n2 := tas_nil _ _ nz_ci
  refine W_sq fun K hK => (W_text [true, true, true, true, true, true, true, true, true, true, true, false] (by kernel_rfl) ?_); simp only [↓List.toList_toArray, ↓rgd, ↓rgf, ↓reduceIte, Nat.reduceEqDiff, rg, ow_148, e0, ptr_eq, z2, n1]
  refine do_store (by simp only [evt, evc, upd_eq, Nat.reduceEqDiff, ↓reduceIte, ntT, ntF] <;> rfl) (by simp only [evt, evc, upd_eq, Nat.reduceEqDiff, ↓reduceIte, ntT, ntF] <;> rfl) sz_4 rfl (x2.wok (x1.wok wm)) (by decide) (oc_one rfl rfl) fun w3 x3 r3 s3 => ⟨trivial, ?_⟩
  simp only [↓List.toList_toArray, ↓rgd, ↓rgf, ↓reduceIte, Nat.reduceEqDiff, rg, ow_148]
  refine hK _ _ ?_; clear hK K
  have g8' : rd w3 m 4 = some (.bool false) := (Row.cons.1 r3).1
  have X3 : Ext (fun y o => y = m ∧ (o = 4 ∨ o = 5 ∨ o = 8 ∨ o = 9)) w w3 := X2.trans x3 (fun _ _ g => g) fun y o _ g => by simp only [rng] at g; omega
  have z3 := Z X3 fun o g => by omega
  refine W_sq fun K hK => (W_text [true, true, true, true, true] (by kernel_rfl) ?_); simp only [↓List.toList_toArray, ↓rgd, ↓rgf, ↓reduceIte, Nat.reduceEqDiff, rg, ow_148, e0, ptr_eq, g8']
  refine hK _ _ ?_; clear hK K
  refine W_true (by simp only [evt, evc, upd_eq, Nat.reduceEqDiff, ↓reduceIte, ntT, ntF] <;> rfl) ?_
  refine W_rg fun K hK => (W_text [true, true, true, true, true, true, true, true, true, true, true, false] (by kernel_rfl) ?_); simp only [↓List.toList_toArray, ↓rgd, ↓rgf, ↓reduceIte, Nat.reduceEqDiff, rg, ow_148, e0, ptr_eq, z3, n2]
  refine do_store (by simp only [evt, evc, upd_eq, Nat.reduceEqDiff, ↓reduceIte, ntT, ntF] <;> rfl) (by simp only [evt, evc, upd_eq, Nat.reduceEqDiff, ↓reduceIte, ntT, ntF] <;> rfl) sz_4 rfl (x3.wok (x2.wok (x1.wok wm))) (by decide) (oc_one rfl rfl) fun w4 x4 r4 s4 => ⟨trivial, ?_⟩
  simp only [↓List.toList_toArray, ↓rgd, ↓rgf, ↓reduceIte, Nat.reduceEqDiff, rg, ow_148]
  refine hK _ _ ?_; clear hK K
  have X : Ext (fun y o => y = m ∧ (o = 4 ∨ o = 5 ∨ o = 8 ∨ o = 9)) w w4 := X3.trans x4 (fun _ _ g => g) fun y o _ g => by simp only [rng] at g; omega
  exact endQ_0n ⟨X, x4.rd (x3.rd (x2.rd (Row.cons.1 r1).1 (by simp only [rng]; omega)) (by simp only [rng]; omega)) (by simp only [rng]; omega), x4.rd (x3.rd (Row.cons.1 r2).1 (by simp only [rng]; omega)) (by simp only [rng]; omega),
    x4.rd g8' (by simp only [rng]; omega), (Row.cons.1 r4).1, by rw [s4, s3, s2, s1]⟩
set_option maxRecDepth 8000 in
theorem newIso_any (c : Nat) (w : World) (wc : wok w c 1) (h0 : rd w c 0 = some (.int .u64 0)) :
    CallK Try.prog 147 #[ptr c] w fun v w' => v = .int .u64 1 ∧ Ext (rng c 0 1) w w' ∧ w'.heap.size = w.heap.size := by
  refine calls_of_W [.tmp 2] Try.func147 rfl Try.ntmps147 Try.results147 (by simp) fun e he => ?_
  have e0 : e 0 = ptr c := he 0 _ rfl
  clear he
  have q : IntKind.u64.wrap (0 + 1) = 1 := rfl
  refine W_sq fun K hK => (W_text [true] (by kernel_rfl) ?_); simp only [↓List.toList_toArray, ↓rgd, ↓rgf, ↓reduceIte, Nat.reduceEqDiff, rg, ow_147]
  refine hK _ _ ?_; clear hK K
  refine W_sq fun K hK => (W_text [true, true, true, true, true, false] (by kernel_rfl) ?_); simp only [↓List.toList_toArray, ↓rgd, ↓rgf, ↓reduceIte, Nat.reduceEqDiff, rg, ow_147, e0, ptr_eq, h0, q]
  refine do_store (by simp only [evt, evc, upd_eq, Nat.reduceEqDiff, ↓reduceIte, ntT, ntF] <;> rfl) (by simp only [evt, evc, upd_eq, Nat.reduceEqDiff, ↓reduceIte, ntT, ntF] <;> rfl) sz_133 rfl wc (by decide) (oc_one rfl rfl) fun w1 x1 r1 s1 => ⟨trivial, ?_⟩
  simp only [↓List.toList_toArray, ↓rgd, ↓rgf, ↓reduceIte, Nat.reduceEqDiff, rg, ow_147]
  refine hK _ _ ?_; clear hK K
  have d0 : rd w1 c 0 = some (.int .u64 1) := (Row.cons.1 r1).1
  refine W_sq fun K hK => (W_text [true, true, true, true] (by kernel_rfl) ?_); simp only [↓List.toList_toArray, ↓rgd, ↓rgf, ↓reduceIte, Nat.reduceEqDiff, rg, ow_147, e0, ptr_eq, d0]
  refine hK _ _ ?_; clear hK K
  exact W_ret (endQ_1 (by simp only [upd_eq, Nat.reduceEqDiff, ↓reduceIte] <;> rfl) ⟨rfl, x1, s1⟩)
set_option maxHeartbeats 400000 in
set_option maxRecDepth 8000 in
theorem newTree_any (B d : Nat) (ord : List Int) (lv : Value) (nl : Bool) (hd : DOk d) (w : World) (hL : LessAt B w.heap.size w lv ord) (hB : B ≤ w.heap.size) :
    CallK Try.prog 117 #[lv, .agg #[.int .i64 d, .bool nl]] w fun v w' => ∃ m, v = ptr m ∧ w.heap.size ≤ m ∧ Ext noF w w' ∧ TreeAt B ord w' m (degOf d) 1 [] noF := by
  obtain ⟨cc, sv, rfl, -⟩ := id hL.ex
  obtain ⟨lv, hlv⟩ : ∃ lv : Value, lv = .func (.func 115) #[] #[ptr cc] := ⟨_, rfl⟩
  have h1c : lv.cells.toList = [lv] := by rw [hlv]; rfl
  have h1o : lv.oneCell' = true := by rw [hlv]; rfl
  rw [← hlv] at hL ⊢
  refine calls_of_W [.tmp 4] Try.func117 rfl Try.ntmps117 Try.results117 (by simp) fun e he => ?_
  have e0 : e 0 = lv := he 0 _ rfl
  have e1 : e 1 = .agg #[.int .i64 d, .bool nl] := he 1 _ rfl
  clear he
  refine W_sq fun K hK => (W_text [false, true] (by kernel_rfl) ?_); simp only [↓List.toList_toArray, ↓rgd, ↓rgf, ↓reduceIte, Nat.reduceEqDiff, rg, ow_117]
  refine do_box (by simp only [evt]; exact e1) fun w1 n1 => ⟨trivial, ?_⟩
  simp only [↓List.toList_toArray, ↓rgd, ↓rgf, ↓reduceIte, Nat.reduceEqDiff, rg, ow_117]
  refine hK _ _ ?_; clear hK K
  have s1 := n1.size
  have op1 : rd w1 w.heap.size 0 = some (.int .i64 d) := (Row.cons.1 n1.row).1
  refine W_sq fun K hK => (W_text [false, true] (by kernel_rfl) ?_); simp only [↓List.toList_toArray, ↓rgd, ↓rgf, ↓reduceIte, Nat.reduceEqDiff, rg, ow_117]
  refine do_alloc z_tree fun w2 n2 => ⟨trivial, ?_⟩
  simp only [↓List.toList_toArray, ↓rgd, ↓rgf, ↓reduceIte, Nat.reduceEqDiff, rg, ow_117]
  refine hK _ _ ?_; clear hK K
  have s2 := n2.size
  have r2 := n2.row
  obtain ⟨m, hm⟩ : ∃ m, m = w1.heap.size := ⟨_, rfl⟩
  have wm2 : wok w2 m 10 := by rw [hm]; exact n2.wok
  rw [← hm] at r2 ⊢
  refine W_sq fun K hK => (W_text [true, false, true, true, false] (by kernel_rfl) ?_); simp only [↓List.toList_toArray, ↓rgd, ↓rgf, ↓reduceIte, Nat.reduceEqDiff, rg, ow_117]
  refine do_alloc z_u64 fun w3 n3 => ⟨trivial, ?_⟩
  simp only [↓List.toList_toArray, ↓rgd, ↓rgf, ↓reduceIte, Nat.reduceEqDiff, rg, ow_117]
  have s3 := n3.size
  obtain ⟨c, hc⟩ : ∃ c, c = w2.heap.size := ⟨_, rfl⟩
  have wc3 : wok w3 c 1 := by rw [hc]; exact n3.wok
  have c3 : rd w3 c 0 = some (.int .u64 0) := by rw [hc]; exact (Row.cons.1 n3.row).1
  have hcm : c ≠ m := by omega
  rw [← hc]
  refine do_store (by simp only [evt, evc, upd_eq, Nat.reduceEqDiff, ↓reduceIte, ntT, ntF] <;> rfl) (by simp only [evt, evc, upd_eq, Nat.reduceEqDiff, ↓reduceIte, ntT, ntF] <;> rfl) sz_134 rfl (n3.ext.wok wm2) (by decide) (oc_one rfl rfl) fun w4 x4 r4 s4 => ⟨trivial, ?_⟩
  simp only [↓List.toList_toArray, ↓rgd, ↓rgf, ↓reduceIte, Nat.reduceEqDiff, rg, ow_117]
  refine hK _ _ ?_; clear hK K
  have rc4 : rd w4 m 1 = some (.pointer (some ⟨c, 0, none⟩)) := (Row.cons.1 r4).1
  have X34 : Ext (fun y o => y = m ∧ o ≤ 1 ∨ y = c) w2 w4 := n3.ext.trans x4 (fun _ _ g => g.elim) fun y o _ g => by simp only [rng] at g; omega
  refine W_sq fun K hK => (W_text [true, true, true, true, true, false, true, true, false] (by kernel_rfl) ?_); simp only [↓List.toList_toArray, ↓rgd, ↓rgf, ↓reduceIte, Nat.reduceEqDiff, rg, ow_117, ptr_eq, rc4]
  refine do_call fn_147 (by simp only [evt, evc, upd_eq, Nat.reduceEqDiff, ↓reduceIte, maT, maC, maN, isnN, isnS] <;> rfl) (newIso_any c w4 (x4.wok wc3) (x4.rd c3 (by simp only [rng]; omega))) ?_
  rintro _ w5 ⟨rfl, x5, s5⟩
  refine ⟨trivial, ?_⟩
  simp only [↓List.toList_toArray, ↓rgd, ↓rgf, ↓reduceIte, Nat.reduceEqDiff, rg, ow_117]
  have wm5 := x5.wok (x4.wok (n3.ext.wok wm2))
  refine do_store (by simp only [evt, evc, upd_eq, Nat.reduceEqDiff, ↓reduceIte, ntT, ntF] <;> rfl) (by simp only [evt, evc, upd_eq, Nat.reduceEqDiff, ↓reduceIte, ntT, ntF] <;> rfl) sz_133 rfl wm5 (by decide) (oc_one rfl rfl) fun w6 x6 r6 s6 => ⟨trivial, ?_⟩
  simp only [↓List.toList_toArray, ↓rgd, ↓rgf, ↓reduceIte, Nat.reduceEqDiff, rg, ow_117]
  refine hK _ _ ?_; clear hK K
  have X6 : Ext (fun y o => y = m ∧ o ≤ 1 ∨ y = c) w2 w6 := (X34.trans x5 (fun _ _ g => g) fun y o _ g => by simp only [rng] at g; omega).trans x6 (fun _ _ g => g) fun y o _ g => by simp only [rng] at g; omega
  have wm6 := x6.wok wm5
  refine W_sq fun K hK => (W_text [true, true, true, true, false] (by kernel_rfl) ?_); simp only [↓List.toList_toArray, ↓rgd, ↓rgf, ↓reduceIte, Nat.reduceEqDiff, rg, ow_117, e0]
  refine do_store (by simp only [evt, evc, upd_eq, Nat.reduceEqDiff, ↓reduceIte, ntT, ntF] <;> rfl) (by simp only [evt, evc, upd_eq, Nat.reduceEqDiff, ↓reduceIte, ntT, ntF] <;> rfl) sz_92 (by rw [h1c]; rfl) wm6 (by decide) (by rw [h1c]; exact oc_one rfl h1o) fun w7 x7 r7 s7 => ⟨trivial, ?_⟩
  simp only [↓List.toList_toArray, ↓rgd, ↓rgf, ↓reduceIte, Nat.reduceEqDiff, rg, ow_117]
  refine hK _ _ ?_; clear hK K
  have r7 : rd w7 m 6 = some lv := by have := r7; rw [h1c] at this; exact (Row.cons.1 this).1
  have X7 : Ext (fun y o => y = m ∧ (o ≤ 1 ∨ o = 6) ∨ y = c) w2 w7 := X6.trans x7 (fun y o g => by omega) fun y o _ g => by simp only [rng] at g; omega
  have op7 : rd w7 w.heap.size 0 = some (.int .i64 d) := X7.rd (n2.ext.rd op1 fun h => h) fun g => by omega
  refine W_sq fun K hK => (W_text [true, true, true, false] (by kernel_rfl) ?_); simp only [↓List.toList_toArray, ↓rgd, ↓rgf, ↓reduceIte, Nat.reduceEqDiff, rg, ow_117, op7]
  refine do_call fn_148 (by simp only [evt, evc, upd_eq, Nat.reduceEqDiff, ↓reduceIte, maT, maC, maN, isnN, isnS] <;> rfl) (init_any m d hd w7 (x7.wok wm6) (X7.row ((r2.drop 7).of_eq (by omega) rfl) fun j _ g => by omega)) ?_
  rintro _ w8 ⟨x8, g10, g9, g4, g5, s8⟩
  refine ⟨trivial, ?_⟩
  simp only [↓List.toList_toArray, ↓rgd, ↓rgf, ↓reduceIte, Nat.reduceEqDiff, rg, ow_117]
  refine hK _ _ ?_; clear hK K
  refine W_sq fun K hK => (W_text [true, true] (by kernel_rfl) ?_); simp only [↓List.toList_toArray, ↓rgd, ↓rgf, ↓reduceIte, Nat.reduceEqDiff, rg, ow_117]
  refine hK _ _ ?_; clear hK K
  have r2' := r2
  simp only [Row.cons] at r2'
  obtain ⟨h0, h1, h2, h3, h4, h5, h6, h7, h8, h9, -⟩ := r2'
  have X18 : Ext noF w w8 := noF_of (noF_of (n1.ext.tr n2.ext) X7 fun y o hy g => by omega) x8 fun y o hy g => by omega
  have hL8 : LessAt B m w8 lv ord := (hL.ext X18 fun _ _ g => g.elim).mono (by omega)
  have is8 : rd w8 m 0 = some (.int .u64 1) := x8.rd (x7.rd (Row.cons.1 r6).1 (by simp only [rng]; omega)) (by omega)
  have ez8 : Row w8 m 7 [zV] := x8.row (X7.row (((r2.drop 7).take 1).of_eq (by omega) rfl) fun j _ g => by omega) fun j hj g => by simp at hj; omega
  refine W_ret (endQ_1 (by simp only [upd_eq, Nat.reduceEqDiff, ↓reduceIte] <;> rfl) ⟨m, rfl, by omega, X18, ⟨is8, ez8, g10, g9, g4, g5, x8.wok (x7.wok wm6)⟩, ⟨lv, x8.rd r7 (by omega), hL8, by omega⟩, x8.rd (X7.rd h3 (by omega)) (by omega), List.Pairwise.nil, .inl ⟨rfl, x8.rd (X7.rd h2 (by omega)) (by omega)⟩, fun _ g => g, fun _ _ g => g.elim, fun _ _ g => g.elim⟩)
/-- A slice that is handed in, as numbers. -/
def SlInt (w : World) (v : Value) (l : List Int) : Prop := SlV w 1 v l.length (ints l)
set_option maxHeartbeats 400000 in
set_option maxRecDepth 8000 in
theorem clone_any (sv : Value) (ord : List Int) (w : World) (hs : SlInt w sv ord) (hbig : ord.length ≤ 2147483647) :
    CallK Try.prog 144 #[sv] w fun v w' => SlInt w' v ord ∧ Ext noF w w' ∧ since w.heap.size v := by
  obtain ⟨a, cp, rfl⟩ := hs.shape
  refine calls_of_W [.tmp 2] Try.func144 rfl Try.ntmps144 Try.results144 (by simp) fun e he => ?_
  have e0 : e 0 = .slice a ord.length cp := he 0 _ rfl
  clear he
  refine W_sq fun K hK => (W_text [true] (by kernel_rfl) ?_); simp only [↓List.toList_toArray, ↓rgd, ↓rgf, ↓reduceIte, Nat.reduceEqDiff, rg, ow_144]
  refine hK _ _ ?_; clear hK K
  refine W_seq ?_
  cases a with
  | none =>
    refine W_sq fun K hK => (W_text [true, true] (by kernel_rfl) ?_); simp only [↓List.toList_toArray, ↓rgd, ↓rgf, ↓reduceIte, Nat.reduceEqDiff, rg, ow_144, e0, eq_nil]
    refine hK _ _ ?_; clear hK K
    refine W_true (by simp only [evt, evc, upd_eq, Nat.reduceEqDiff, ↓reduceIte, ntT, ntF] <;> rfl) ?_
    refine W_sq fun K hK => (W_text [true] (by kernel_rfl) ?_); simp only [↓List.toList_toArray, ↓rgd, ↓rgf, ↓reduceIte, Nat.reduceEqDiff, rg, ow_144]
    refine hK _ _ ?_; clear hK K
    refine W_ret ?_
    simp only [andThen_ret]
    refine endQ_1 (by simp only [upd_eq, Nat.reduceEqDiff, ↓reduceIte] <;> rfl) ⟨?_, Ext.refl _ _, fun b o n c h => by cases h⟩
    have h0 : ord = [] := by
      rcases hs.2 with ⟨_, h⟩ | ⟨b, o, cap, h, _⟩
      · exact List.length_eq_zero_iff.1 h
      · cases h
    subst h0
    exact ⟨rfl, .inl ⟨rfl, rfl⟩⟩
  | some a =>
    refine W_sq fun K hK => (W_text [true, true] (by kernel_rfl) ?_); simp only [↓List.toList_toArray, ↓rgd, ↓rgf, ↓reduceIte, Nat.reduceEqDiff, rg, ow_144, e0, eq_nil]
    refine hK _ _ ?_; clear hK K
    refine W_false (by simp only [evt, evc, upd_eq, Nat.reduceEqDiff, ↓reduceIte, ntT, ntF] <;> rfl) (W_skip ?_)
    show W _ _ _ _ _ _
    refine W_sq fun K hK => (W_text [false, true, false, true] (by kernel_rfl) ?_); simp only [↓List.toList_toArray, ↓rgd, ↓rgf, ↓reduceIte, Nat.reduceEqDiff, rg, ow_144, e0]
    refine do_bsl rfl bs_int0 fun w1 n1 => ⟨trivial, ?_⟩
    simp only [↓List.toList_toArray, ↓rgd, ↓rgf, ↓reduceIte, Nat.reduceEqDiff, rg, ow_144, e0]
    have hv : SlV w1 1 (.slice (some ⟨w.heap.size, 0, none⟩) 0 0) 0 [] := ⟨rfl, .inr ⟨_, 0, 0, rfl, Nat.le_refl _, Row.nil _ _ _, n1.wok.R (Nat.le_refl _)⟩⟩
    refine do_append (by simp only [evt, evc, upd_eq, Nat.reduceEqDiff, ↓reduceIte, ntT, ntF] <;> rfl) (by simp only [evt, evc, upd_eq, Nat.reduceEqDiff, ↓reduceIte, ntT, ntF] <;> rfl) el_int rfl ni_22 hv (hs.ext0 n1.ext) (by omega) (by decide) (oc_ints _) fun v2 w2 a2 => ⟨trivial, ?_⟩
    simp only [↓List.toList_toArray, ↓rgd, ↓rgf, ↓reduceIte, Nat.reduceEqDiff, rg, ow_144]
    refine hK _ _ ?_; clear hK K
    obtain ⟨h1, h2, h3⟩ := app_since a2 (B := w.heap.size) (fun b o n c h => by cases h; exact Nat.le_refl _) (by have := n1.size; omega)
    rw [Nat.zero_add, List.nil_append] at h1
    refine W_ret (endQ_1 (by simp only [upd_eq, Nat.reduceEqDiff, ↓reduceIte] <;> rfl) ⟨h1, noF_of n1.ext h3 fun y o hy g => by omega, h2⟩)
set_option maxHeartbeats 400000 in
set_option maxRecDepth 8000 in
theorem beforeIn0_any (sv : Value) (ord : List Int) (w : World) (hs : SlInt w sv ord) (hbig : ord.length ≤ 2147483647) :
    CallK Try.prog 114 #[sv] w fun v w' => Ext noF w w' ∧ LessIn w.heap.size w'.heap.size w' v ord := by
  refine calls_of_W [.tmp 2] Try.func114 rfl Try.ntmps114 Try.results114 (by simp) fun e he => ?_
  have e0 : e 0 = sv := he 0 _ rfl
  clear he
  refine W_sq fun K hK => (W_text [true] (by kernel_rfl) ?_); simp only [↓List.toList_toArray, ↓rgd, ↓rgf, ↓reduceIte, Nat.reduceEqDiff, rg, ow_114]
  refine hK _ _ ?_; clear hK K
  refine W_sq fun K hK => (W_text [true, false, false, false] (by kernel_rfl) ?_); simp only [↓List.toList_toArray, ↓rgd, ↓rgf, ↓reduceIte, Nat.reduceEqDiff, rg, ow_114, e0]
  refine do_call fn_144 (by simp only [evt, evc, upd_eq, Nat.reduceEqDiff, ↓reduceIte, maT, maC, maN, isnN, isnS] <;> rfl) (clone_any sv ord w hs hbig) ?_
  rintro v1 w1 ⟨h1, x1, hsi⟩
  refine ⟨trivial, ?_⟩
  simp only [↓List.toList_toArray, ↓rgd, ↓rgf, ↓reduceIte, Nat.reduceEqDiff, rg, ow_114]
  refine do_alloc z_ints fun w2 n2 => ⟨trivial, ?_⟩
  simp only [↓List.toList_toArray, ↓rgd, ↓rgf, ↓reduceIte, Nat.reduceEqDiff, rg, ow_114]
  obtain ⟨a, cp, rfl⟩ := h1.shape
  refine do_store (by simp only [evt, evc, upd_eq, Nat.reduceEqDiff, ↓reduceIte, ntT, ntF] <;> rfl) (by simp only [evt, evc, upd_eq, Nat.reduceEqDiff, ↓reduceIte, ntT, ntF] <;> rfl) sz_22 rfl n2.wok (by decide) (oc_one rfl rfl) fun w3 x3 r3 s3 => ⟨trivial, ?_⟩
  simp only [↓List.toList_toArray, ↓rgd, ↓rgf, ↓reduceIte, Nat.reduceEqDiff, rg, ow_114]
  refine hK _ _ ?_; clear hK K
  refine W_sq fun K hK => (W_text [true, true] (by kernel_rfl) ?_); simp only [↓List.toList_toArray, ↓rgd, ↓rgf, ↓reduceIte, Nat.reduceEqDiff, rg, ow_114]
  refine hK _ _ ?_; clear hK K
  have X3 : Ext noF w1 w3 := noF_of n2.ext x3 fun y o hy g => by simp only [rng] at g; omega
  have s2 := n2.size
  refine W_ret (endQ_1 (by simp only [upd_eq, Nat.reduceEqDiff, ↓reduceIte] <;> rfl) ⟨x1.tr X3, ⟨⟨w1.heap.size, _, rfl, ⟨x1.size, by omega⟩, (Row.cons.1 r3).1, h1.ext0 X3, fun b o n c h => ?_⟩, hbig⟩⟩)
  have := h1.lt h
  have := hsi _ _ _ _ h
  have := X3.size
  omega
set_option maxHeartbeats 400000 in
set_option maxRecDepth 8000 in
theorem before0_any (sv : Value) (ord : List Int) (w : World) (hs : SlInt w sv ord) (hbig : ord.length ≤ 2147483647) :
    CallK Try.prog 83 #[sv] w fun v w' => Ext noF w w' ∧ LessAt w.heap.size w'.heap.size w' v ord := by
  refine calls_of_W [.tmp 2] Try.func83 rfl Try.ntmps83 Try.results83 (by simp) fun e he => ?_
  have e0 : e 0 = sv := he 0 _ rfl
  clear he
  refine W_sq fun K hK => (W_text [true] (by kernel_rfl) ?_); simp only [↓List.toList_toArray, ↓rgd, ↓rgf, ↓reduceIte, Nat.reduceEqDiff, rg, ow_83]
  refine hK _ _ ?_; clear hK K
  refine W_sq fun K hK => (W_text [true, false, false, false] (by kernel_rfl) ?_); simp only [↓List.toList_toArray, ↓rgd, ↓rgf, ↓reduceIte, Nat.reduceEqDiff, rg, ow_83, e0]
  refine do_call fn_114 (by simp only [evt, evc, upd_eq, Nat.reduceEqDiff, ↓reduceIte, maT, maC, maN, isnN, isnS] <;> rfl) (beforeIn0_any sv ord w hs hbig) ?_
  rintro lv w1 ⟨x1, hL1⟩
  refine ⟨trivial, ?_⟩
  simp only [↓List.toList_toArray, ↓rgd, ↓rgf, ↓reduceIte, Nat.reduceEqDiff, rg, ow_83]
  refine do_alloc z_fun fun w2 n2 => ⟨trivial, ?_⟩
  simp only [↓List.toList_toArray, ↓rgd, ↓rgf, ↓reduceIte, Nat.reduceEqDiff, rg, ow_83]
  obtain ⟨cc, sv', hlv, -⟩ := id hL1.ex
  have h1c : lv.cells.toList = [lv] := by rw [hlv]; rfl
  have h1o : lv.oneCell' = true := by rw [hlv]; rfl
  refine do_store (by simp only [evt, evc, upd_eq, Nat.reduceEqDiff, ↓reduceIte, ntT, ntF] <;> rfl) (by simp only [evt, evc, upd_eq, Nat.reduceEqDiff, ↓reduceIte, ntT, ntF] <;> rfl) sz_127 (by rw [h1c]; rfl) n2.wok (by decide) (by rw [h1c]; exact oc_one rfl h1o) fun w3 x3 r3 s3 => ⟨trivial, ?_⟩
  simp only [↓List.toList_toArray, ↓rgd, ↓rgf, ↓reduceIte, Nat.reduceEqDiff, rg, ow_83]
  refine hK _ _ ?_; clear hK K
  refine W_sq fun K hK => (W_text [true, true] (by kernel_rfl) ?_); simp only [↓List.toList_toArray, ↓rgd, ↓rgf, ↓reduceIte, Nat.reduceEqDiff, rg, ow_83]
  refine hK _ _ ?_; clear hK K
  have X3 : Ext noF w1 w3 := noF_of n2.ext x3 fun y o hy g => by simp only [rng] at g; omega
  have s1 := x1.size
  have s2 := n2.size
  rw [h1c] at r3
  exact W_ret (endQ_1 (by simp only [upd_eq, Nat.reduceEqDiff, ↓reduceIte] <;> rfl) ⟨x1.tr X3, ⟨⟨w1.heap.size, lv, rfl, ⟨s1, by omega⟩, (Row.cons.1 r3).1, (hL1.ext X3 fun _ _ g => g.elim).mono (by omega)⟩⟩⟩)
set_option maxHeartbeats 400000 in
set_option maxRecDepth 8000 in
theorem options_any (sv : Value) (d : Int) (nl : Bool) (w : World) (h1 : sv.oneCell' = true) :
    CallK Try.prog 88 #[.agg #[sv, .int .i64 d, .bool nl]] w fun v w' => v = .agg #[.int .i64 d, .bool nl] ∧ Ext noF w w' := by
  refine calls_of_W [.cell 2 97] Try.func88 rfl Try.ntmps88 Try.results88 (by simp) fun e he => ?_
  have e0 : e 0 = .agg #[sv, .int .i64 d, .bool nl] := he 0 _ rfl
  clear he
  refine W_sq fun K hK => (W_text [false, false] (by kernel_rfl) ?_); simp only [↓List.toList_toArray, ↓rgd, ↓rgf, ↓reduceIte, Nat.reduceEqDiff, rg, ow_88]
  refine do_box (by simp only [evt]; exact e0) fun w1 n1 => ⟨trivial, ?_⟩
  simp only [↓List.toList_toArray, ↓rgd, ↓rgf, ↓reduceIte, Nat.reduceEqDiff, rg, ow_88]
  refine do_alloc z_opt fun w2 n2 => ⟨trivial, ?_⟩
  simp only [↓List.toList_toArray, ↓rgd, ↓rgf, ↓reduceIte, Nat.reduceEqDiff, rg, ow_88]
  refine hK _ _ ?_; clear hK K
  have s1 := n1.size
  have r2 : Row w2 w.heap.size 0 [sv, .int .i64 d, .bool nl] := n2.ext.row n1.row fun _ _ h => h
  simp only [Row.cons] at r2
  obtain ⟨-, g1, g2, -⟩ := r2
  refine W_sq fun K hK => (W_text [true, true, true, true, true, false] (by kernel_rfl) ?_); simp only [↓List.toList_toArray, ↓rgd, ↓rgf, ↓reduceIte, Nat.reduceEqDiff, rg, ow_88, g1, g2, bu_opt]
  refine do_store (by simp only [evt, evc, upd_eq, Nat.reduceEqDiff, ↓reduceIte, ntT, ntF] <;> rfl) (by simp only [evt, evc, upd_eq, Nat.reduceEqDiff, ↓reduceIte, ntT, ntF] <;> rfl) sz_97 rfl n2.wok (by decide) (by intro v hv; simp [Value.cells] at hv; rcases hv with rfl | rfl <;> rfl) fun w3 x3 r3 s3 => ⟨trivial, ?_⟩
  simp only [↓List.toList_toArray, ↓rgd, ↓rgf, ↓reduceIte, Nat.reduceEqDiff, rg, ow_88]
  refine hK _ _ ?_; clear hK K
  refine W_ret (endQ_c (by simp only [upd_eq, Nat.reduceEqDiff, ↓reduceIte] <;> rfl) ld_opt (Row.rdA (l := [.int .i64 d, .bool nl]) r3 2 (Nat.le_refl _)) ⟨rfl, noF_of (n1.ext.tr n2.ext) x3 fun y o hy g => by simp only [rng] at g; omega⟩)
theorem set_tree (B m d : Nat) (iso : Int) (ord : List Int) (x : It) (hd : 2 ≤ d) (hd' : d ≤ 128) (xs : List It) (F : Nat → Nat → Prop) (w : World) (hM : TreeAt B ord w m d iso xs F) (hbig : xs.length < 1152921504606846976) :
    CallK Try.prog 120 #[ptr m, itV x, .pointer none] w fun v w' => v = .tuple #[itO (at? O (rkI ord) (rkI ord x) xs), .bool (hit O (rkI ord) (rkI ord x) xs)] ∧ Ext (mapF m F) w w' ∧
      ∃ F', TreeAt B ord w' m d iso (put O (rkI ord) x xs) F' ∧ ∀ y o, F' y o → F y o ∨ w.heap.size ≤ y := by
  rcases hM.root with ⟨rfl, hr⟩ | ⟨h, b, hr, ht⟩
  · refine CallK_mono (set_nil B m d iso ord x hd hd' w hM.cfg hM.less hr) ?_
    rintro v w' ⟨rfl, hX, F', hM', hF'⟩
    exact ⟨rfl, hX.mono fun y o _ g => g.imp (fun g => g.elim) id, F', hM', fun y o g => .inr (hF' y o g)⟩
  · exact set_root B m d iso ord x hd hd' _ h b xs F w rfl hM.cfg hM.less hM.above hM.cnt hM.asc hr ht hM.off hbig
set_option maxHeartbeats 400000 in
set_option maxRecDepth 8000 in
theorem setH_tree (B m d : Nat) (iso : Int) (ord : List Int) (x : It) (hd : 2 ≤ d) (hd' : d ≤ 128) (xs : List It) (F : Nat → Nat → Prop) (w : World) (hM : TreeAt B ord w m d iso xs F) (hbig : xs.length < 1152921504606846976) :
    CallK Try.prog 124 #[ptr m, itV x, .pointer none] w fun v w' => v = .tuple #[itO (at? O (rkI ord) (rkI ord x) xs), .bool (hit O (rkI ord) (rkI ord x) xs)] ∧ Ext (mapF m F) w w' ∧
      ∃ F', TreeAt B ord w' m d iso (put O (rkI ord) x xs) F' ∧ ∀ y o, F' y o → F y o ∨ w.heap.size ≤ y := by
  refine calls_of_W [.tmp 6, .tmp 7] Try.func124 rfl Try.ntmps124 Try.results124 (by simp) fun e he => ?_
  have e0 : e 0 = ptr m := he 0 _ rfl
  have e1 : e 1 = itV x := he 1 _ rfl
  have e2 : e 2 = .pointer none := he 2 _ rfl
  clear he
  refine W_sq fun K hK => (W_text [true, true] (by kernel_rfl) ?_); simp only [↓List.toList_toArray, ↓rgd, ↓rgf, ↓reduceIte, Nat.reduceEqDiff, rg, ow_124]
  refine hK _ _ ?_; clear hK K
  refine W_sq fun K hK => (W_text [true, true, true, false, true, true, true, true, true] (by kernel_rfl) ?_); simp only [↓List.toList_toArray, ↓rgd, ↓rgf, ↓reduceIte, Nat.reduceEqDiff, rg, ow_124, e0, e1, e2]
  refine do_call fn_120 (by simp only [evt, evc, upd_eq, Nat.reduceEqDiff, ↓reduceIte, maT, maC, maN, isnN, isnS] <;> rfl) (set_tree B m d iso ord x hd hd' xs F w hM hbig) ?_
  rintro _ w3 ⟨rfl, x3, F', hM', hF'⟩
  refine ⟨trivial, ?_⟩
  simp only [↓List.toList_toArray, ↓rgd, ↓rgf, ↓reduceIte, Nat.reduceEqDiff, rg, ow_124]
  refine hK _ _ ?_; clear hK K
  refine W_sq fun K hK => (W_text [true, true, true, true] (by kernel_rfl) ?_); simp only [↓List.toList_toArray, ↓rgd, ↓rgf, ↓reduceIte, Nat.reduceEqDiff, rg, ow_124]
  refine hK _ _ ?_; clear hK K
  exact W_ret (endQ_2 (by simp only [upd_eq, Nat.reduceEqDiff, ↓reduceIte] <;> rfl) (by simp only [upd_eq, Nat.reduceEqDiff, ↓reduceIte] <;> rfl) ⟨rfl, x3, F', hM', hF'⟩)
/-- The list that a tree holds behind the settings. -/
def treeG (ord : List Int) (l : List It) : List It := l.foldl (fun xs x => put O (rkI ord) x xs) []
theorem treeG_succ (ord : List Int) (l : List It) (i : Nat) (x : It) (h : l[i]? = some x) : treeG ord (l.take (i + 1)) = put O (rkI ord) x (treeG ord (l.take i)) := by
  rw [List.take_add_one, h]; simp [treeG]
theorem treeG_len (ord : List Int) (l : List It) : (treeG ord l).length ≤ l.length := by
  have : ∀ (l : List It) (xs : List It), (l.foldl (fun xs x => put O (rkI ord) x xs) xs).length ≤ xs.length + l.length := by
    intro l
    induction l with
    | nil => intro xs; simp
    | cons x l ih => intro xs; have h1 := ih (put O (rkI ord) x xs); have h2 := put_length O (rkI ord) x xs; simp only [List.foldl_cons, List.length_cons]; split at h2 <;> omega
  have h := this l []
  simp only [List.length_nil, Nat.zero_add] at h
  exact h
/-- How a tree is made. -/
def mkV (sv : Value) (d : Nat) (nl : Bool) : Value := .agg #[sv, .int .i64 d, .bool nl]
end Go.Proofs.Ytanmjbkbdmeckaa
/-
  The reference's order of items, its place of a key, its put, its list of a tree. No condition.
-/
set_option linter.unusedSimpArgs false
set_option linter.unusedVariables false
namespace Go.Proofs.Ytanmjbkbdmeckaa
open Go Go.Proofs
theorem el_i : elK Try.prog 25 = some (33, 2, 16, [.int .i64 0, .int .i64 0]) := by kernel_rfl
theorem bs_i0 : bsV Try.prog 25 0 [] = some (33, []) := by kernel_rfl
theorem bs_i1 (x : It) : bsV Try.prog 25 1 [(0, iV x)] = some (33, Ei.cel x) := by kernel_rfl
set_option maxHeartbeats 400000 in
set_option maxRecDepth 8000 in
theorem srank_any (sv : Value) (ord : List Int) (k : Int) (w : World) (hs : SlInt w sv ord) (hl : ord.length ≤ 2147483647) :
    CallK Try.prog 87 #[sv, .int .i64 k] w fun v w' => v = .int .i64 (rk ord k) ∧ w = w' := by
  obtain ⟨a, cp, hsv⟩ := SlV.shape hs
  refine calls_of_W [.tmp 4] Try.func87 rfl Try.ntmps87 Try.results87 (by simp) fun e he => ?_
  have e0 : e 0 = .slice a ord.length cp := (he 0 _ rfl).trans hsv
  have e1 : e 1 = .int .i64 k := he 1 _ rfl
  clear he
  refine W_sq fun K hK => (W_text [true] (by kernel_rfl) ?_); simp only [↓List.toList_toArray, ↓rgd, ↓rgf, ↓reduceIte, Nat.reduceEqDiff, rg, ow_87]
  refine hK _ _ ?_; clear hK K
  refine W_sq fun K hK => (W_text [true, true, true] (by kernel_rfl) ?_); simp only [↓List.toList_toArray, ↓rgd, ↓rgf, ↓reduceIte, Nat.reduceEqDiff, rg, ow_87, e0]
  refine hK _ _ ?_; clear hK K
  refine W_seq ?_
  by_cases h0 : ord = []
  · have t1 : ((ord.length : Int) == 0) = true := by rw [h0]; rfl
    refine W_sq fun K hK => (W_text [true, true] (by kernel_rfl) ?_); simp only [↓List.toList_toArray, ↓rgd, ↓rgf, ↓reduceIte, Nat.reduceEqDiff, rg, ow_87, t1]
    refine hK _ _ ?_; clear hK K
    refine W_true (by simp only [evt, evc, upd_eq, Nat.reduceEqDiff, ↓reduceIte, ntT, ntF] <;> rfl) ?_
    refine W_sq fun K hK => (W_text [true, true] (by kernel_rfl) ?_); simp only [↓List.toList_toArray, ↓rgd, ↓rgf, ↓reduceIte, Nat.reduceEqDiff, rg, ow_87, e1]
    refine hK _ _ ?_; clear hK K
    refine W_ret ?_
    simp only [andThen_ret]
    exact endQ_1 (by simp only [upd_eq, Nat.reduceEqDiff, ↓reduceIte] <;> rfl) ⟨by rw [rk, if_pos h0], rfl⟩
  · have hp : 0 < ord.length := List.length_pos_iff.2 h0
    have t1 : ((ord.length : Int) == 0) = false := by simp; omega
    refine W_sq fun K hK => (W_text [true, true] (by kernel_rfl) ?_); simp only [↓List.toList_toArray, ↓rgd, ↓rgf, ↓reduceIte, Nat.reduceEqDiff, rg, ow_87, t1]
    refine hK _ _ ?_; clear hK K
    refine W_false (by simp only [evt, evc, upd_eq, Nat.reduceEqDiff, ↓reduceIte, ntT, ntF] <;> rfl) (W_skip ?_)
    show W _ _ _ _ _ _
    have hz : ((ord.length : Int) = 0) = False := eq_false (by omega)
    have h1 := Int.tmod_lt_of_pos k (b := (ord.length : Int)) (by omega)
    have h2 : -(ord.length : Int) < k.tmod ord.length := by have := Int.lt_tmod_of_pos k (b := (ord.length : Int)) (by omega); omega
    have q1 : IntKind.i64.wrap (k.tmod ord.length + ord.length) = k.tmod ord.length + ord.length := IntWalk.i64_in _ (by omega)
    obtain ⟨j, hj, hjl⟩ := rem_nat k ord.length hp
    obtain ⟨b, o, ha, row⟩ := SlV.at hs hsv hjl
    subst ha
    have hr : rd w b (o + j) = some (.int .i64 (rk ord k)) := by
      refine row _ _ ?_
      rw [ints, List.getElem?_map, List.getElem?_eq_getElem hjl]
      simp only [Option.map_some, Option.some.injEq, Value.int.injEq, true_and]
      rw [rk, if_neg h0, hj, Int.toNat_natCast, List.getElem?_eq_getElem hjl]
      rfl
    refine W_sq fun K hK => (W_text [true, true, true, true, true, true, true, true, true, true, true] (by kernel_rfl) ?_); simp only [↓List.toList_toArray, ↓rgd, ↓rgf, ↓reduceIte, Nat.reduceEqDiff, rg, ow_87, e0, e1, bv_rem _ _ _ _ hz, q1, hj, hjl, hr]
    refine hK _ _ ?_; clear hK K
    exact W_ret (endQ_1 (by simp only [upd_eq, Nat.reduceEqDiff, ↓reduceIte] <;> rfl) ⟨rfl, rfl⟩)
set_option maxHeartbeats 400000 in
set_option maxRecDepth 8000 in
theorem before_ord (os : Value) (ord : List Int) (a b : It) (w : World) (hO : SlInt w os ord) (hOb : ord.length ≤ 2147483647) : CallK Try.prog 52 #[os, iV a, iV b] w fun v w' => v = .bool (O.lt ((rkI ord) a) ((rkI ord) b)) ∧ Ext noF w w' := by
  refine calls_of_W [.tmp 6] Try.func52 rfl Try.ntmps52 Try.results52 (by simp) fun e he => ?_
  have e0 : e 0 = os := he 0 _ rfl
  have e1 : e 1 = iV a := he 1 _ rfl
  have e2 : e 2 = iV b := he 2 _ rfl
  clear he
  refine W_sq fun K hK => (W_text [false, false, true] (by kernel_rfl) ?_); simp only [↓List.toList_toArray, ↓rgd, ↓rgf, ↓reduceIte, Nat.reduceEqDiff, rg, ow_52]
  refine do_box (by simp only [evt]; exact e1) fun w1 n1 => ⟨trivial, ?_⟩
  simp only [↓List.toList_toArray, ↓rgd, ↓rgf, ↓reduceIte, Nat.reduceEqDiff, rg, ow_52]
  refine do_box (by simp only [evt, upd_eq, Nat.reduceEqDiff, ↓reduceIte]; exact e2) fun w2 n2 => ⟨trivial, ?_⟩
  simp only [↓List.toList_toArray, ↓rgd, ↓rgf, ↓reduceIte, Nat.reduceEqDiff, rg, ow_52]
  refine hK _ _ ?_; clear hK K
  have ra : Row w2 w.heap.size 0 [.int .i64 a.1, .int .i64 a.2] := n2.ext.row n1.row fun _ _ h => h
  have rb : Row w2 w1.heap.size 0 [.int .i64 b.1, .int .i64 b.2] := n2.row
  have ka := (Row.cons.1 ra).1
  have kb := (Row.cons.1 rb).1
  have X2 := n1.ext.tr n2.ext
  refine W_sq fun K hK => (W_draw (some none) none [(0, 0, 0), (0, 1, 0), (0, 2, 0), (0, 4, 0), (0, 5, 0), (0, 6, 0), (1, 3, 0), (1, 7, 0), (0, 8, 0), (0, 9, 0)] mixed (by kernel_rfl) ?_); simp only [↓List.toList_toArray, ↓rgd, ↓rgf, ↓reduceIte, Nat.reduceEqDiff, rg, ow_52, e0, ka, kb]
  refine do_call fn_87 (by simp only [evt, evc, upd_eq, Nat.reduceEqDiff, ↓reduceIte, maT, maC, maN, isnN, isnS] <;> rfl) (srank_any os ord a.1 _ (SlV.ext0 hO (X2.tr (Ext.dr noF _ _))) hOb) ?_
  rintro _ _ ⟨rfl, rfl⟩
  refine ⟨.inr (keeps_ro (RO.refl _)), ?_⟩
  simp only [↓List.toList_toArray, ↓rgd, ↓rgf, ↓reduceIte, Nat.reduceEqDiff, rg, ow_52, e0, kb]
  refine do_call fn_87 (by simp only [evt, evc, upd_eq, Nat.reduceEqDiff, ↓reduceIte, maT, maC, maN, isnN, isnS] <;> rfl) (srank_any os ord b.1 _ (SlV.ext0 hO (X2.tr (Ext.dr noF _ _))) hOb) ?_
  rintro _ _ ⟨rfl, rfl⟩
  refine ⟨.inr (keeps_ro (RO.refl _)), ?_⟩
  simp only [↓List.toList_toArray, ↓rgd, ↓rgf, ↓reduceIte, Nat.reduceEqDiff, rg, ow_52]
  refine hK _ _ ?_; clear hK K
  refine W_ret (endQ_1 (by simp only [upd_eq, Nat.reduceEqDiff, ↓reduceIte] <;> rfl) ⟨rfl, X2.tr (Ext.dr _ _ _)⟩)
set_option maxHeartbeats 400000 in
set_option maxRecDepth 8000 in
theorem place_ord (os : Value) (ord : List Int) (l : List It) (lv : Value) (x : It) (w : World) (hO : SlInt w os ord) (hOb : ord.length ≤ 2147483647) (hl : SlI w lv l) (hbig : l.length ≤ 2147483648) :
    CallK Try.prog 79 #[os, lv, iV x] w fun v w' => v = .tuple #[.int .i64 (lb O (rkI ord) (rkI ord x) l : Nat), .bool (hit O (rkI ord) (rkI ord x) l)] ∧ Ext noF w w' := by
  obtain ⟨a, c, hlv⟩ : ∃ a c, lv = .slice a l.length c := by
    rcases hl.2 with ⟨rfl, h⟩ | ⟨b, o, cap, rfl, _⟩
    · exact ⟨none, 0, by rw [h]⟩
    · exact ⟨_, _, rfl⟩
  have hsome : ∀ i, i < l.length → ∃ b o cap, lv = .slice (some ⟨b, o, none⟩) l.length cap ∧ Row w b o (flat Ei l) ∧ b < w.heap.size := fun i hi => by
    rcases hl.2 with ⟨_, h⟩ | ⟨b, o, cap, h1, _, h2, h3⟩
    · omega
    · exact ⟨b, o, cap, h1, h2, wokR_lt h3⟩
  refine calls_of_W [.tmp 6, .tmp 7] Try.func79 rfl Try.ntmps79 Try.results79 (by simp) fun e he => ?_
  have e0 : e 0 = os := he 0 _ rfl
  have e1 : e 1 = lv := he 1 _ rfl
  have e2 : e 2 = iV x := he 2 _ rfl
  clear he
  refine W_sq fun K hK => (W_text [false, true, true] (by kernel_rfl) ?_); simp only [↓List.toList_toArray, ↓rgd, ↓rgf, ↓reduceIte, Nat.reduceEqDiff, rg, ow_79]
  refine do_box (by simp only [evt]; exact e2) fun w1 n1 => ⟨trivial, ?_⟩
  simp only [↓List.toList_toArray, ↓rgd, ↓rgf, ↓reduceIte, Nat.reduceEqDiff, rg, ow_79]
  refine hK _ _ ?_; clear hK K
  refine W_sq fun K hK => (W_text [true] (by kernel_rfl) ?_); simp only [↓List.toList_toArray, ↓rgd, ↓rgf, ↓reduceIte, Nat.reduceEqDiff, rg, ow_79]
  refine hK _ _ ?_; clear hK K
  have s1 := n1.size
  have hlbl := lb_le O (rkI ord) (rkI ord x) l
  have hseg : ∀ i, i < l.length → ∀ y, l[i]? = some y → i ≤ lb O (rkI ord) (rkI ord x) l → (O.lt ((rkI ord) y) (rkI ord x) = true ↔ i < lb O (rkI ord) (rkI ord x) l) := fun i hi y hy hle => by
    constructor
    · intro h
      rcases Nat.lt_or_ge i (lb O (rkI ord) (rkI ord x) l) with g | g
      · exact g
      · have : i = lb O (rkI ord) (rkI ord x) l := by omega
        subst this
        rw [lb_ge O (rkI ord) hy] at h; cases h
    · intro h
      exact lb_take_lt O (rkI ord) y (List.mem_iff_getElem?.2 ⟨i, by rw [List.getElem?_take, if_pos h, hy]⟩)
  refine W_seq ((W_block (Q := fun ex e w' => ex = .normal ∧ e 0 = os ∧ e 1 = lv ∧ e 5 = .pointer (some ⟨w.heap.size, 0, none⟩) ∧ e 8 = .int .i64 (lb O (rkI ord) (rkI ord x) l : Nat) ∧ Ext noF w1 w') (W_loop (fun mm e w' => ∃ i : Nat, mm = l.length - i ∧ i ≤ lb O (rkI ord) (rkI ord x) l ∧ e 0 = os ∧ e 1 = lv ∧ e 5 = .pointer (some ⟨w.heap.size, 0, none⟩) ∧ e 8 = .int .i64 i ∧ Ext noF w1 w')
    l.length ⟨0, by simp, by omega, ?_, ?_, ?_, ?_, Ext.refl _ _⟩ ?_)).mono ?_)
  · simp only [upd_eq, Nat.reduceEqDiff, ↓reduceIte]; exact e0
  · simp only [upd_eq, Nat.reduceEqDiff, ↓reduceIte]; exact e1
  · simp only [upd_eq, Nat.reduceEqDiff, ↓reduceIte]
  · simp only [upd_eq, Nat.reduceEqDiff, ↓reduceIte]; rfl
  · clear e0 e1 e2 e
    rintro mm e w' ⟨i, rfl, hi, e0, e1, e5, e8, X⟩
    have sX := X.size
    refine W_seq ?_
    by_cases hlt : i < l.length
    · have ht := lt_tt i l.length hlt
      obtain ⟨y, hy⟩ : ∃ y, l[i]? = some y := ⟨_, List.getElem?_eq_getElem hlt⟩
      obtain ⟨b, o, cap, hlv2, row, hb⟩ := hsome i hlt
      rw [hlv2] at e1
      have ix := iV_at (X.row (n1.ext.row row fun _ _ h => h) fun _ _ h => h) hy
      have bx : rdA w' w.heap.size 0 2 = some (iV x) := (X.row n1.row fun _ _ h => h).rdA 2 (by show 2 ≤ 2; omega)
      have M1 : readsB (some (some [b, w.heap.size])) b = true := by simp [readsB]
      have M2 : readsB (some (some [b, w.heap.size])) w.heap.size = true := by simp [readsB]
      refine W_sq fun K hK => (W_draw (some (some [b, w.heap.size])) none [(0, 0, 0), (0, 1, 0), (0, 2, 0), (0, 3, 0), (0, 4, 0), (0, 5, 0), (0, 6, 0), (0, 7, 0), (0, 8, 0), (0, 9, 0), (0, 10, 0), (1, 11, 0), (0, 12, 0)] mixed (by kernel_rfl) ?_); simp only [↓List.toList_toArray, ↓rgd, ↓rgf, ↓reduceIte, Nat.reduceEqDiff, rg, ow_79, e0, e1, e5, e8, ht, hlt, ix, bx, M1, M2]
      refine do_call fn_52 (by simp only [evt, evc, upd_eq, Nat.reduceEqDiff, ↓reduceIte, maT, maC, maN, isnN, isnS] <;> rfl) (before_ord os ord y x _ (SlV.ext0 hO ((n1.ext.tr X).tr (Ext.dr noF _ _))) hOb) ?_
      rintro _ w2 ⟨rfl, x2⟩
      refine ⟨.inr (keeps_on x2 fun z hz => ⟨?_, fun _ h => h⟩), ?_⟩
      · rw [sz_dr]
        simp only [List.mem_cons, List.not_mem_nil, or_false] at hz
        omega
      simp only [↓List.toList_toArray, ↓rgd, ↓rgf, ↓reduceIte, Nat.reduceEqDiff, rg, ow_79]
      refine hK _ _ ?_; clear hK K
      have x2 := x2.od
      cases hq : O.lt ((rkI ord) y) (rkI ord x) with
      | true =>
        have hil := (hseg i hlt y hy hi).1 hq
        refine W_true (by simp only [evt, evc, upd_eq, Nat.reduceEqDiff, ↓reduceIte, ntT, ntF] <;> rfl) (W_skip ?_)
        show W _ _ _ _ _ _
        have q1 := wadd1 i (by omega)
        refine W_block ?_
        refine W_rg fun K hK => (W_text [true, true, true] (by kernel_rfl) ?_); simp only [↓List.toList_toArray, ↓rgd, ↓rgf, ↓reduceIte, Nat.reduceEqDiff, rg, ow_79, e8, q1]
        refine hK _ _ ?_; clear hK K
        refine ⟨_, ?_, i + 1, rfl, hil, ?_, ?_, ?_, ?_, X.tr x2⟩
        · omega
        · simp only [upd_eq, Nat.reduceEqDiff, ↓reduceIte]; exact e0
        · simp only [upd_eq, Nat.reduceEqDiff, ↓reduceIte]; rw [e1, hlv2]
        · simp only [upd_eq, Nat.reduceEqDiff, ↓reduceIte]; exact e5
        · simp only [upd_eq, Nat.reduceEqDiff, ↓reduceIte]
      | false =>
        have hil : i = lb O (rkI ord) (rkI ord x) l := by
          rcases Nat.lt_or_ge i (lb O (rkI ord) (rkI ord x) l) with g | g
          · have := (hseg i hlt y hy hi).2 g; rw [hq] at this; cases this
          · omega
        refine W_false (by simp only [evt, evc, upd_eq, Nat.reduceEqDiff, ↓reduceIte, ntT, ntF] <;> rfl) (W_exit ?_)
        simp only [andThen_exit, inBlk_exit, ↓reduceIte]
        refine ⟨trivial, ?_, ?_, ?_, ?_, X.tr x2⟩
        · simp only [upd_eq, Nat.reduceEqDiff, ↓reduceIte]; exact e0
        · simp only [upd_eq, Nat.reduceEqDiff, ↓reduceIte]; rw [e1, hlv2]
        · simp only [upd_eq, Nat.reduceEqDiff, ↓reduceIte]; exact e5
        · simp only [upd_eq, Nat.reduceEqDiff, ↓reduceIte]; rw [e8, hil]
    · have hil : i = lb O (rkI ord) (rkI ord x) l := by omega
      have ht := lt_ff i l.length (by omega)
      rw [hlv] at e1
      refine W_sq fun K hK => (W_draw (some (some [])) none [(0, 0, 0), (0, 1, 0), (0, 2, 0), (0, 3, 0), (0, 4, 0), (0, 5, 0), (0, 6, 0), (0, 7, 0), (0, 8, 0), (0, 9, 0), (0, 10, 0), (1, 11, 0), (0, 12, 0)] mixed (by kernel_rfl) ?_); simp only [↓List.toList_toArray, ↓rgd, ↓rgf, ↓reduceIte, Nat.reduceEqDiff, rg, ow_79, e0, e1, e5, e8, ht]
      refine hK _ _ ?_; clear hK K
      refine W_false (by simp only [evt, evc, upd_eq, Nat.reduceEqDiff, ↓reduceIte, ntT, ntF] <;> rfl) (W_exit ?_)
      simp only [andThen_exit, inBlk_exit, ↓reduceIte]
      refine ⟨trivial, ?_, ?_, ?_, ?_, X.tr (Ext.dr _ _ _)⟩
      · simp only [upd_eq, Nat.reduceEqDiff, ↓reduceIte]; exact e0
      · simp only [upd_eq, Nat.reduceEqDiff, ↓reduceIte]; rw [e1, hlv]
      · simp only [upd_eq, Nat.reduceEqDiff, ↓reduceIte]; exact e5
      · simp only [upd_eq, Nat.reduceEqDiff, ↓reduceIte]; rw [e8, hil]
  · clear e0 e1 e2 e
    rintro ex e w' ⟨rfl, e0, e1, e5, e8, X⟩
    show W _ _ _ _ _ _
    have sX := X.size
    have X1 := n1.ext.tr X
    by_cases hlt : lb O (rkI ord) (rkI ord x) l < l.length
    · have ht := lt_tt _ l.length hlt
      obtain ⟨y, hy⟩ : ∃ y, l[lb O (rkI ord) (rkI ord x) l]? = some y := ⟨_, List.getElem?_eq_getElem hlt⟩
      obtain ⟨b, o, cap, hlv2, row, hb⟩ := hsome _ hlt
      rw [hlv2] at e1
      have ix := iV_at (X.row (n1.ext.row row fun _ _ h => h) fun _ _ h => h) hy
      have bx : rdA w' w.heap.size 0 2 = some (iV x) := (X.row n1.row fun _ _ h => h).rdA 2 (by show 2 ≤ 2; omega)
      have M1 : readsB (some (some [b, w.heap.size])) b = true := by simp [readsB]
      have M2 : readsB (some (some [b, w.heap.size])) w.heap.size = true := by simp [readsB]
      have hhit : hit O (rkI ord) (rkI ord x) l = !O.lt (rkI ord x) ((rkI ord) y) := by unfold hit; rw [hy]
      refine W_sq fun K hK => (W_draw (some (some [b, w.heap.size])) none [(0, 0, 0), (0, 1, 0), (0, 2, 0), (0, 3, 0), (0, 4, 0), (0, 5, 0), (0, 6, 0), (0, 7, 0), (0, 8, 0), (0, 9, 0), (0, 10, 0), (0, 11, 0), (1, 12, 0), (0, 13, 0), (0, 14, 0), (0, 15, 0), (0, 16, 0)] mixed (by kernel_rfl) ?_); simp only [↓List.toList_toArray, ↓rgd, ↓rgf, ↓reduceIte, Nat.reduceEqDiff, rg, ow_79, e0, e1, e5, e8, ht, hlt, ix, bx, M1, M2]
      refine do_call fn_52 (by simp only [evt, evc, upd_eq, Nat.reduceEqDiff, ↓reduceIte, maT, maC, maN, isnN, isnS] <;> rfl) (before_ord os ord x y _ (SlV.ext0 hO ((n1.ext.tr X).tr (Ext.dr noF _ _))) hOb) ?_
      rintro _ w2 ⟨rfl, x2⟩
      refine ⟨.inr (keeps_on x2 fun z hz => ⟨?_, fun _ h => h⟩), ?_⟩
      · rw [sz_dr]
        simp only [List.mem_cons, List.not_mem_nil, or_false] at hz
        omega
      simp only [↓List.toList_toArray, ↓rgd, ↓rgf, ↓reduceIte, Nat.reduceEqDiff, rg, ow_79]
      refine hK _ _ ?_; clear hK K
      refine W_ret (endQ_2 (by simp only [upd_eq, Nat.reduceEqDiff, ↓reduceIte] <;> rfl) (by simp only [upd_eq, Nat.reduceEqDiff, ↓reduceIte] <;> rfl) ⟨by rw [hhit], X1.tr x2.od⟩)
    · have ht := lt_ff (lb O (rkI ord) (rkI ord x) l) l.length (by omega)
      have hhit : hit O (rkI ord) (rkI ord x) l = false := by unfold hit; rw [List.getElem?_eq_none (by omega)]
      rw [hlv] at e1
      refine W_sq fun K hK => (W_draw (some (some [])) none [(0, 0, 0), (0, 1, 0), (0, 2, 0), (0, 3, 0), (0, 4, 0), (0, 5, 0), (0, 6, 0), (0, 7, 0), (0, 8, 0), (0, 9, 0), (0, 10, 0), (0, 11, 0), (1, 12, 0), (0, 13, 0), (0, 14, 0), (0, 15, 0), (0, 16, 0)] mixed (by kernel_rfl) ?_); simp only [↓List.toList_toArray, ↓rgd, ↓rgf, ↓reduceIte, Nat.reduceEqDiff, rg, ow_79, e0, e1, e5, e8, ht]
      refine hK _ _ ?_; clear hK K
      refine W_ret (endQ_2 (by simp only [upd_eq, Nat.reduceEqDiff, ↓reduceIte] <;> rfl) (by simp only [upd_eq, Nat.reduceEqDiff, ↓reduceIte] <;> rfl) ⟨by rw [hhit], X1.tr (Ext.dr _ _ _)⟩)
theorem z_found : zK Try.prog 43 = some [.int .i64 0, .int .i64 0, .bool false] := by kernel_rfl
theorem bu_found0 : buildV Try.prog 43 [] = some (.agg #[.int .i64 0, .int .i64 0, .bool false]) := by kernel_rfl
theorem bu_found1 (x : It) : buildV Try.prog 43 [(0, iV x), (1, .bool true)] = some (.agg #[.int .i64 x.1, .int .i64 x.2, .bool true]) := by kernel_rfl
theorem oc_found0 : oc (Value.agg #[.int .i64 0, .int .i64 0, .bool false]).cells.toList := by
  intro v hv
  have h : v ∈ ([.int .i64 0, .int .i64 0, .bool false] : List Value) := hv
  simp at h
  rcases h with rfl | rfl <;> rfl
theorem oc_found1 (y : It) : oc (Value.agg #[.int .i64 y.1, .int .i64 y.2, .bool true]).cells.toList := by
  intro v hv
  have h : v ∈ ([.int .i64 y.1, .int .i64 y.2, .bool true] : List Value) := hv
  simp at h
  rcases h with rfl | rfl | rfl <;> rfl
/-- What Put hands back beside the list. -/
def fV : Option It → Value
  | some y => .agg #[.int .i64 y.1, .int .i64 y.2, .bool true]
  | none => .agg #[.int .i64 0, .int .i64 0, .bool false]
theorem sl_hi {w : World} {lv : Value} {l : List It} (hl : SlI w lv l) (i : Nat) (hi : i ≤ l.length) : ∃ sv, sliceV Try.prog 25 lv none (some (.int .i64 (i : Nat))) none = some sv ∧ SlV w 2 sv i (flat Ei (l.take i)) := by
  have hlen : (flat Ei (l.take i)).length = i * 2 := by rw [flat_length, List.length_take, Ei_sz]; congr 1; omega
  rcases hl.2 with ⟨rfl, h⟩ | ⟨b, o, cap, rfl, hc, row, hw⟩
  · have h0 : i = 0 := by omega
    exact ⟨.slice none 0 0, by rw [slc_sl, sl_25, slcX_nil _ _ _ h0], hlen, .inl ⟨rfl, h0⟩⟩
  · exact ⟨_, by rw [slc_sl, sl_25, slcX_hi _ _ _ _ _ _ _ (by omega : i ≤ cap)], hlen, .inr ⟨b, o, cap, rfl, by omega, by rw [← flat_take]; exact row.take _, hw⟩⟩
theorem sl_lo {w : World} {lv : Value} {l : List It} (hl : SlI w lv l) (i : Nat) (hi : i ≤ l.length) : ∃ sv, sliceV Try.prog 25 lv (some (.int .i64 (i : Nat))) none none = some sv ∧ SlV w 2 sv (l.length - i) (flat Ei (l.drop i)) := by
  have hlen : (flat Ei (l.drop i)).length = (l.length - i) * 2 := by rw [flat_length, List.length_drop, Ei_sz]
  rcases hl.2 with ⟨rfl, h⟩ | ⟨b, o, cap, rfl, hc, row, hw⟩
  · have h0 : i = 0 := by omega
    exact ⟨.slice none 0 0, by rw [slc_sl, sl_25, slcX_nil_lo _ _ _ h0], hlen, .inl ⟨rfl, by omega⟩⟩
  · have hr : Row w b (o + i * 2) (flat Ei (l.drop i)) := by rw [← flat_drop]; exact row.drop _
    by_cases hci : cap = i
    · refine ⟨_, by rw [slc_sl, sl_25, slcX_lo _ _ _ _ _ _ _ hi], hlen, .inr ⟨b, o, cap - i, by simp [slFrom, hci], by omega, ?_, hw.mono (by omega) (by omega)⟩⟩
      have : l.drop i = [] := List.drop_eq_nil_of_le (by omega)
      rw [this]; exact Row.nil _ _ _
    · exact ⟨_, by rw [slc_sl, sl_25, slcX_lo _ _ _ _ _ _ _ hi], hlen, .inr ⟨b, o + i * 2, cap - i, by simp [slFrom, hci], by omega, hr, hw.mono (by omega) (by omega)⟩⟩
set_option maxHeartbeats 1000000 in
set_option maxRecDepth 8000 in
theorem sput_ord (os : Value) (ord : List Int) (l : List It) (lv : Value) (x : It) (w : World) (hO : SlInt w os ord) (hOb : ord.length ≤ 2147483647) (hl : SlI w lv l) (hbig : l.length ≤ 2147483648) :
    CallK Try.prog 94 #[os, lv, iV x] w fun v w' => ∃ sv, v = .tuple #[sv, fV (at? O (rkI ord) (rkI ord x) l)] ∧ SlI w' sv (put O (rkI ord) x l) ∧ Ext noF w w' ∧ since w.heap.size sv := by
  refine calls_of_W [.tmp 6, .cell 7 43] Try.func94 rfl Try.ntmps94 Try.results94 (by simp) fun e he => ?_
  have e0 : e 0 = os := he 0 _ rfl
  have e1 : e 1 = lv := he 1 _ rfl
  have e2 : e 2 = iV x := he 2 _ rfl
  clear he
  have hlbl := lb_le O (rkI ord) (rkI ord x) l
  refine W_sq fun K hK => (W_text [false, true, false] (by kernel_rfl) ?_); simp only [↓List.toList_toArray, ↓rgd, ↓rgf, ↓reduceIte, Nat.reduceEqDiff, rg, ow_94]
  refine do_box (by simp only [evt]; exact e2) fun w1 n1 => ⟨trivial, ?_⟩
  simp only [↓List.toList_toArray, ↓rgd, ↓rgf, ↓reduceIte, Nat.reduceEqDiff, rg, ow_94]
  refine do_alloc z_found fun w2 n2 => ⟨trivial, ?_⟩
  simp only [↓List.toList_toArray, ↓rgd, ↓rgf, ↓reduceIte, Nat.reduceEqDiff, rg, ow_94]
  refine hK _ _ ?_; clear hK K
  have s1 := n1.size
  have s2 := n2.size
  have X2 := n1.ext.tr n2.ext
  have bx2 : rdA w2 w.heap.size 0 2 = some (iV x) := (n2.ext.row n1.row fun _ _ h => h).rdA 2 (by show 2 ≤ 2; omega)
  refine W_sq fun K hK => (W_text [true, true, true, false, true, true, true, true, true] (by kernel_rfl) ?_); simp only [↓List.toList_toArray, ↓rgd, ↓rgf, ↓reduceIte, Nat.reduceEqDiff, rg, ow_94, e0, e1, bx2]
  refine do_call fn_79 (by simp only [evt, evc, upd_eq, Nat.reduceEqDiff, ↓reduceIte, maT, maC, maN, isnN, isnS] <;> rfl) (place_ord os ord l lv x w2 (SlV.ext0 hO X2) hOb (SlV.ext0 hl X2) hbig) ?_
  rintro _ w3 ⟨rfl, x3⟩
  refine ⟨trivial, ?_⟩
  simp only [↓List.toList_toArray, ↓rgd, ↓rgf, ↓reduceIte, Nat.reduceEqDiff, rg, ow_94]
  refine hK _ _ ?_; clear hK K
  have s3 := x3.size
  have X3 := X2.tr x3
  have bx3 : rdA w3 w.heap.size 0 2 = some (iV x) := (x3.row (n2.ext.row n1.row fun _ _ h => h) fun _ _ h => h).rdA 2 (by show 2 ≤ 2; omega)
  generalize hi : lb O (rkI ord) (rkI ord x) l = i at *
  have hl3 := SlV.ext0 hl X3
  obtain ⟨sv1, hs1, hsv1⟩ := sl_hi hl3 i hlbl
  have hz2 : ∀ v ∈ ([.int .i64 0, .int .i64 0] : List Value), v.oneCell' = true := by intro v hv; simp at hv; subst hv; rfl
  refine W_sq fun K hK => (W_text [false, true, true, true, false, true] (by kernel_rfl) ?_); simp only [↓List.toList_toArray, ↓rgd, ↓rgf, ↓reduceIte, Nat.reduceEqDiff, rg, ow_94, e1]
  refine do_bsl rfl bs_i0 fun w4 n4 => ⟨trivial, ?_⟩
  simp only [↓List.toList_toArray, ↓rgd, ↓rgf, ↓reduceIte, Nat.reduceEqDiff, rg, ow_94, e1, hs1]
  have s4 := n4.size
  have hv4 : SlV w4 2 (.slice (some ⟨w3.heap.size, 0, none⟩) 0 0) 0 [] := ⟨rfl, .inr ⟨_, 0, 0, rfl, Nat.le_refl _, Row.nil _ _ _, n4.wok.R (Nat.le_refl _)⟩⟩
  refine do_append (by simp only [evt, evc, upd_eq, Nat.reduceEqDiff, ↓reduceIte, ntT, ntF] <;> rfl) (by simp only [evt, evc, upd_eq, Nat.reduceEqDiff, ↓reduceIte, ntT, ntF] <;> rfl) el_i rfl ni_25 hv4 (hsv1.ext0 n4.ext) (by omega) (by decide) (flat_oc Ei _) fun v5 w5 a5 => ⟨trivial, ?_⟩
  obtain ⟨hs5, hg5, x5⟩ := app_since (B := w3.heap.size) a5 (fun b o n c h => by simp only [Value.slice.injEq, Option.some.injEq, Addr.mk.injEq] at h; omega) (by omega)
  simp only [↓List.toList_toArray, ↓rgd, ↓rgf, ↓reduceIte, Nat.reduceEqDiff, rg, ow_94]
  refine hK _ _ ?_; clear hK K
  have s5 := x5.size
  have X5 : Ext noF w w5 := noF_of (X3.tr n4.ext) x5 fun y o hy g => by omega
  have bx5 : rdA w5 w.heap.size 0 2 = some (iV x) := (X5.tr (Ext.refl _ _) |> fun _ => x5.row (n4.ext.row (x3.row (n2.ext.row n1.row fun _ _ h => h) fun _ _ h => h) fun _ _ h => h) fun j _ g => by omega).rdA 2 (by show 2 ≤ 2; omega)
  rw [Nat.zero_add, List.nil_append] at hs5
  refine W_sq fun K hK => (W_text [true, true, false, false, true] (by kernel_rfl) ?_); simp only [↓List.toList_toArray, ↓rgd, ↓rgf, ↓reduceIte, Nat.reduceEqDiff, rg, ow_94, bx5]
  refine do_bsl rfl (bs_i1 x) fun w6 n6 => ⟨trivial, ?_⟩
  simp only [↓List.toList_toArray, ↓rgd, ↓rgf, ↓reduceIte, Nat.reduceEqDiff, rg, ow_94]
  have s6 := n6.size
  have hv6 : SlV w6 2 (.slice (some ⟨w5.heap.size, 0, none⟩) 1 1) 1 (Ei.cel x) := ⟨rfl, .inr ⟨_, 0, 1, rfl, Nat.le_refl _, n6.row, n6.wok.R (Nat.le_refl _)⟩⟩
  refine do_append (by simp only [evt, evc, upd_eq, Nat.reduceEqDiff, ↓reduceIte, ntT, ntF] <;> rfl) (by simp only [evt, evc, upd_eq, Nat.reduceEqDiff, ↓reduceIte, ntT, ntF] <;> rfl) el_i rfl ni_25 (hs5.ext0 n6.ext) hv6 (by omega) (by decide) (Ei.one x) fun v7 w7 a7 => ⟨trivial, ?_⟩
  obtain ⟨hs7, hg7, x7⟩ := app_since (B := w3.heap.size) a7 hg5 (by omega)
  simp only [↓List.toList_toArray, ↓rgd, ↓rgf, ↓reduceIte, Nat.reduceEqDiff, rg, ow_94]
  refine hK _ _ ?_; clear hK K
  have s7 := x7.size
  have X7 : Ext noF w w7 := noF_of (X5.tr n6.ext) x7 fun y o hy g => by omega
  refine W_seq ?_
  refine W_sq fun K hK => (W_text [true] (by kernel_rfl) ?_); simp only [↓List.toList_toArray, ↓rgd, ↓rgf, ↓reduceIte, Nat.reduceEqDiff, rg, ow_94]
  refine hK _ _ ?_; clear hK K
  have fr7 : Row w7 w1.heap.size 0 [.int .i64 0, .int .i64 0, .bool false] := x7.row (n6.ext.row (x5.row (n4.ext.row (x3.row n2.row fun _ _ h => h) fun _ _ h => h) fun j _ g => by omega) fun _ _ h => h) fun j _ g => by omega
  have fw7 : wok w7 w1.heap.size 3 := x7.wok (n6.ext.wok (x5.wok (n4.ext.wok (x3.wok n2.wok))))
  cases hh : hit O (rkI ord) (rkI ord x) l with
  | false =>
    refine W_false (by simp only [evt, evc, upd_eq, Nat.reduceEqDiff, ↓reduceIte, ntT, ntF] <;> rfl) (W_skip ?_)
    show W _ _ _ _ _ _
    obtain ⟨sv2, hs2, hsv2⟩ := sl_lo (SlV.ext0 hl X7) i hlbl
    refine W_sq fun K hK => (W_text [true, true, true, true, false, true, true, false] (by kernel_rfl) ?_); simp only [↓List.toList_toArray, ↓rgd, ↓rgf, ↓reduceIte, Nat.reduceEqDiff, rg, ow_94, e1, hs2]
    refine do_append (by simp only [evt, evc, upd_eq, Nat.reduceEqDiff, ↓reduceIte, ntT, ntF] <;> rfl) (by simp only [evt, evc, upd_eq, Nat.reduceEqDiff, ↓reduceIte, ntT, ntF] <;> rfl) el_i rfl ni_25 hs7 hsv2 (by omega) (by decide) (flat_oc Ei _) fun v8 w8 a8 => ⟨trivial, ?_⟩
    obtain ⟨hs8, hg8, x8⟩ := app_since (B := w3.heap.size) a8 hg7 (by omega)
    simp only [↓List.toList_toArray, ↓rgd, ↓rgf, ↓reduceIte, Nat.reduceEqDiff, rg, ow_94, bu_found0]
    have s8 := x8.size
    refine do_store (by simp only [evt, evc, upd_eq, Nat.reduceEqDiff, ↓reduceIte, ntT, ntF] <;> rfl) (by simp only [evt, evc, upd_eq, Nat.reduceEqDiff, ↓reduceIte, ntT, ntF] <;> rfl) sz_43 rfl (x8.wok fw7) (by decide) oc_found0 fun w9 x9 r9 s9 => ⟨trivial, ?_⟩
    simp only [↓List.toList_toArray, ↓rgd, ↓rgf, ↓reduceIte, Nat.reduceEqDiff, rg, ow_94]
    refine hK _ _ ?_; clear hK K
    have hat : at? O (rkI ord) (rkI ord x) l = none := by unfold at?; rw [hh]; rfl
    have hp := put_leaf O (rkI ord) hh
    rw [hi] at hp
    have hs9 := hs8.ext x9 fun b o c hb j _ g => by have := hg8 _ _ _ _ hb; simp only [rng] at g; omega
    have hlen : (put O (rkI ord) x l).length = i + 1 + (l.length - i) := by rw [put_length, hh]; simp; omega
    have X9 : Ext noF w w9 := noF_of (noF_of X7 x8 fun y o hy g => by omega) x9 fun y o hy g => by simp only [rng] at g; omega
    refine W_ret (endQ_tc (by simp only [upd_eq, Nat.reduceEqDiff, ↓reduceIte] <;> rfl) (by simp only [upd_eq, Nat.reduceEqDiff, ↓reduceIte] <;> rfl) ld_43 (r9.rdA 3 (by show 3 ≤ 3; omega)) ⟨_, by rw [hat]; rfl, ?_, X9, fun b o k c hb => by have := hg8 _ _ _ _ hb; omega⟩)
    have he : flat Ei (l.take i) ++ Ei.cel x ++ flat Ei (l.drop i) = flat Ei (put O (rkI ord) x l) := by rw [hp, flat_append, flat_cons, List.append_assoc]
    show SlV w9 2 _ (put O (rkI ord) x l).length _
    rw [hlen, ← he]; exact hs9
  | true =>
    refine W_true (by simp only [evt, evc, upd_eq, Nat.reduceEqDiff, ↓reduceIte, ntT, ntF] <;> rfl) ?_
    obtain ⟨y, hy, hxy⟩ := hit_at O (rkI ord) hh
    rw [hi] at hy
    have hil := (List.getElem?_eq_some_iff.1 hy).1
    obtain ⟨sv2, hs2, hsv2⟩ := sl_lo (SlV.ext0 hl X7) (i + 1) hil
    have q1 := wadd1 i (by omega)
    obtain ⟨b, o, cap, hlv2, row, hb⟩ : ∃ b o cap, lv = .slice (some ⟨b, o, none⟩) l.length cap ∧ Row w b o (flat Ei l) ∧ b < w.heap.size := by
      rcases hl.2 with ⟨_, h⟩ | ⟨b, o, cap, h1, _, h2, h3⟩
      · omega
      · exact ⟨b, o, cap, h1, h2, wokR_lt h3⟩
    rw [hlv2] at hs2 e1
    have ix := iV_at (X7.row row fun _ _ h => h) hy
    have M1 : readsB (some (some [b])) b = true := by simp [readsB]
    rw [slc_sl, sl_25] at hs2
    refine W_sq fun K hK => (W_draw (some (some [b])) (some 12) [(0, 0, 0), (0, 1, 0), (0, 2, 0), (0, 3, 0), (0, 4, 0), (0, 6, 0), (0, 7, 0), (0, 8, 0), (0, 9, 0), (0, 10, 0), (1, 5, 0), (0, 11, 0), (1, 12, 0)] mixed (by kernel_rfl) ?_); simp only [↓List.toList_toArray, ↓rgd, ↓rgf, ↓reduceIte, Nat.reduceEqDiff, rg, ow_94, e1, q1, hs2, hil, ix, M1, bu_found1]
    have s3' := X3.size
    refine do_append (by simp only [evt, evc, upd_eq, Nat.reduceEqDiff, ↓reduceIte, ntT, ntF] <;> rfl) (by simp only [evt, evc, upd_eq, Nat.reduceEqDiff, ↓reduceIte, ntT, ntF] <;> rfl) el_i rfl ni_25 hs7 hsv2 (by omega) (by decide) (flat_oc Ei _) fun v8 w8 a8 => ?_
    obtain ⟨hs8, hg8, x8'⟩ := app_since (B := w3.heap.size) a8 hg7 (by rw [sz_dr]; omega)
    refine ⟨.inr (keeps_on x8' fun z hz => ?_), ?_⟩
    · rw [sz_dr]
      simp only [List.mem_cons, List.not_mem_nil, or_false] at hz
      subst hz
      exact ⟨by omega, fun _ g => by omega⟩
    have x8 := x8'.od
    simp only [↓List.toList_toArray, ↓rgd, ↓rgf, ↓reduceIte, Nat.reduceEqDiff, rg, ow_94, bu_found1]
    have s8 := x8.size
    refine do_store (by simp only [evt, evc, upd_eq, Nat.reduceEqDiff, ↓reduceIte, ntT, ntF] <;> rfl) (by simp only [evt, evc, upd_eq, Nat.reduceEqDiff, ↓reduceIte, ntT, ntF] <;> rfl) sz_43 rfl (x8.wok fw7) (by decide) (oc_found1 y) fun w9 x9 r9 s9 => ⟨.inl trivial, ?_⟩
    simp only [↓List.toList_toArray, ↓rgd, ↓rgf, ↓reduceIte, Nat.reduceEqDiff, rg, ow_94]
    refine hK _ _ ?_; clear hK K
    have hat : at? O (rkI ord) (rkI ord x) l = some y := by unfold at?; rw [hh, hi, hy]; rfl
    have hp := put_set O (rkI ord) hh
    rw [hi, List.set_eq_take_append_cons_drop, if_pos hil] at hp
    have hs9 := hs8.ext x9 fun b o c hb j _ g => by have := hg8 _ _ _ _ hb; simp only [rng] at g; omega
    have hlen : (put O (rkI ord) x l).length = i + 1 + (l.length - (i + 1)) := by rw [put_length, hh]; simp; omega
    have X9 : Ext noF w w9 := noF_of (noF_of X7 x8 fun y o hy g => by omega) x9 fun y o hy g => by simp only [rng] at g; omega
    refine W_ret ?_
    simp only [andThen_ret]
    refine endQ_tc (by simp only [upd_eq, Nat.reduceEqDiff, ↓reduceIte] <;> rfl) (by simp only [upd_eq, Nat.reduceEqDiff, ↓reduceIte] <;> rfl) ld_43 (r9.rdA 3 (by show 3 ≤ 3; omega)) ⟨_, by rw [hat]; rfl, ?_, X9, fun b o k c hb => by have := hg8 _ _ _ _ hb; omega⟩
    have he : flat Ei (l.take i) ++ Ei.cel x ++ flat Ei (l.drop (i + 1)) = flat Ei (put O (rkI ord) x l) := by rw [hp, flat_append, flat_cons, List.append_assoc]
    show SlV w9 2 _ (put O (rkI ord) x l).length _
    rw [hlen, ← he]; exact hs9
set_option maxHeartbeats 400000 in
set_option maxRecDepth 8000 in
theorem stree_ord (os : Value) (ord : List Int) (l : List It) (lv : Value) (w : World) (hO : SlInt w os ord) (hOb : ord.length ≤ 2147483647) (hl : SlI w lv l) (hbig : l.length ≤ 2147483647) :
    CallK Try.prog 60 #[os, lv] w fun v w' => SlI w' v (treeG ord l) ∧ Ext noF w w' := by
  refine calls_of_W [.tmp 4] Try.func60 rfl Try.ntmps60 Try.results60 (by simp) fun e he => ?_
  have e0 : e 0 = os := he 0 _ rfl
  have e1 : e 1 = lv := he 1 _ rfl
  clear he
  obtain ⟨a, c, hlv⟩ : ∃ a c, lv = .slice a l.length c := by
    rcases hl.2 with ⟨rfl, h⟩ | ⟨b, o, cap, rfl, _⟩
    · exact ⟨none, 0, by rw [h]⟩
    · exact ⟨_, _, rfl⟩
  refine W_sq fun K hK => (W_text [true] (by kernel_rfl) ?_); simp only [↓List.toList_toArray, ↓rgd, ↓rgf, ↓reduceIte, Nat.reduceEqDiff, rg, ow_60]
  refine hK _ _ ?_; clear hK K
  refine W_sq fun K hK => (W_text [true] (by kernel_rfl) ?_); simp only [↓List.toList_toArray, ↓rgd, ↓rgf, ↓reduceIte, Nat.reduceEqDiff, rg, ow_60]
  refine hK _ _ ?_; clear hK K
  refine W_seq (W_seq ?_)
  refine W_rg fun K hK => (W_text [true, true, true] (by kernel_rfl) ?_); simp only [↓List.toList_toArray, ↓rgd, ↓rgf, ↓reduceIte, Nat.reduceEqDiff, rg, ow_60, e1, hlv]
  refine hK _ _ ?_; clear hK K
  show W _ _ _ _ _ _
  refine W_block (W_loop (fun mm e w' => ∃ i : Nat, mm = l.length - i ∧ i ≤ l.length ∧ e 8 = lv ∧ e 0 = os ∧ e 9 = .int .i64 l.length ∧ e 10 = .int .i64 i ∧ Ext noF w w' ∧ SlI w' (e 5) (treeG ord (l.take i)))
    l.length ⟨0, by simp, by simp, ?_, ?_, ?_, ?_, Ext.refl _ _, ?_⟩ ?_)
  · simp only [upd_eq, Nat.reduceEqDiff, ↓reduceIte]; rw [hlv]
  · simp only [upd_eq, Nat.reduceEqDiff, ↓reduceIte]; exact e0
  · simp only [upd_eq, Nat.reduceEqDiff, ↓reduceIte]
  · simp only [upd_eq, Nat.reduceEqDiff, ↓reduceIte]; rfl
  · simp only [upd_eq, Nat.reduceEqDiff, ↓reduceIte]; exact ⟨rfl, .inl ⟨rfl, rfl⟩⟩
  · clear e0 e1 e
    rintro mm e w' ⟨i, rfl, hi, e8, e0, e9, e10, X, hS⟩
    by_cases hlt : i < l.length
    · have ht := lt_tt i l.length hlt
      refine W_sq fun K hK => (W_text [true] (by kernel_rfl) ?_); simp only [↓List.toList_toArray, ↓rgd, ↓rgf, ↓reduceIte, Nat.reduceEqDiff, rg, ow_60, e9, e10, ht]
      refine hK _ _ ?_; clear hK K
      refine W_seq (W_true (by simp only [evt, evc, upd_eq, Nat.reduceEqDiff, ↓reduceIte, ntT, ntF] <;> rfl) (W_skip ?_))
      show W _ _ _ _ _ _
      obtain ⟨x, hx⟩ : ∃ x, l[i]? = some x := ⟨_, List.getElem?_eq_getElem hlt⟩
      obtain ⟨lb, lo, cap, rfl, hlc, row, wl⟩ : ∃ b o cap, lv = .slice (some ⟨b, o, none⟩) l.length cap ∧ l.length ≤ cap ∧ Row w b o (flat Ei l) ∧ wokR w b o (cap * 2) := by
        rcases hl.2 with ⟨_, h⟩ | h
        · omega
        · exact h
      have ix := iV_at (X.row row fun _ _ h => h) hx
      refine W_seq (W_block ?_)
      refine W_sq fun K hK => (W_text [true, true, false, false] (by kernel_rfl) ?_); simp only [↓List.toList_toArray, ↓rgd, ↓rgf, ↓reduceIte, Nat.reduceEqDiff, rg, ow_60, e8, e10, hlt, ix]
      refine do_alloc z_item fun w2 n2 => ⟨trivial, ?_⟩
      simp only [↓List.toList_toArray, ↓rgd, ↓rgf, ↓reduceIte, Nat.reduceEqDiff, rg, ow_60]
      refine do_store (v := iV x) (by simp only [evt, evc, upd_eq, Nat.reduceEqDiff, ↓reduceIte, ntT, ntF] <;> rfl) (by simp only [evt, evc, upd_eq, Nat.reduceEqDiff, ↓reduceIte, ntT, ntF] <;> rfl) sz_33 rfl n2.wok (by decide) (Ei.one x) fun w3 x3 r3 s3 => ⟨trivial, ?_⟩
      simp only [↓List.toList_toArray, ↓rgd, ↓rgf, ↓reduceIte, Nat.reduceEqDiff, rg, ow_60]
      refine hK _ _ ?_; clear hK K
      have X3 : Ext noF w' w3 := noF_of n2.ext x3 fun y o hy h => by simp only [rng] at h; omega
      have bx : rdA w3 w'.heap.size 0 2 = some (iV x) := r3.rdA 2 (by show 2 ≤ 2; omega)
      have htl := treeG_len ord (l.take i)
      have htk : (l.take i).length ≤ i := by rw [List.length_take]; omega
      refine W_rg fun K hK => (W_text [true, true, true, false, true, true, true, true] (by kernel_rfl) ?_); simp only [↓List.toList_toArray, ↓rgd, ↓rgf, ↓reduceIte, Nat.reduceEqDiff, rg, ow_60, e0, bx]
      refine do_call fn_94 (by simp only [evt, evc, upd_eq, Nat.reduceEqDiff, ↓reduceIte, maT, maC, maN, isnN, isnS] <;> rfl) (sput_ord os ord (treeG ord (l.take i)) (e 5) x w3 (SlV.ext0 hO (X.tr X3)) hOb (SlV.ext0 hS X3) (by omega)) ?_
      rintro _ w4 ⟨sv, rfl, hS4, x4, -⟩
      refine ⟨trivial, ?_⟩
      simp only [↓List.toList_toArray, ↓rgd, ↓rgf, ↓reduceIte, Nat.reduceEqDiff, rg, ow_60]
      refine hK _ _ ?_; clear hK K
      show W _ _ _ _ _ _
      have q1 := wadd1 i (by omega)
      refine W_rg fun K hK => (W_text [true, true] (by kernel_rfl) ?_); simp only [↓List.toList_toArray, ↓rgd, ↓rgf, ↓reduceIte, Nat.reduceEqDiff, rg, ow_60, e10, q1]
      refine hK _ _ ?_; clear hK K
      refine ⟨_, ?_, i + 1, rfl, hlt, ?_, ?_, ?_, ?_, (X.tr X3).tr x4, ?_⟩
      · omega
      · simp only [upd_eq, Nat.reduceEqDiff, ↓reduceIte]; exact e8
      · simp only [upd_eq, Nat.reduceEqDiff, ↓reduceIte]; exact e0
      · simp only [upd_eq, Nat.reduceEqDiff, ↓reduceIte]; exact e9
      · simp only [upd_eq, Nat.reduceEqDiff, ↓reduceIte]
      · simp only [upd_eq, Nat.reduceEqDiff, ↓reduceIte]; rw [treeG_succ ord l i x hx]; exact hS4
    · obtain rfl : i = l.length := by omega
      have ht := lt_ff l.length l.length (by omega)
      refine W_sq fun K hK => (W_text [true] (by kernel_rfl) ?_); simp only [↓List.toList_toArray, ↓rgd, ↓rgf, ↓reduceIte, Nat.reduceEqDiff, rg, ow_60, e9, e10, ht]
      refine hK _ _ ?_; clear hK K
      refine W_seq (W_false (by simp only [evt, evc, upd_eq, Nat.reduceEqDiff, ↓reduceIte, ntT, ntF] <;> rfl) (W_exit ?_))
      simp only [andThen_exit, inBlk_exit, andThen_normal, ↓reduceIte]
      refine W_sq fun K hK => (W_text [true, true] (by kernel_rfl) ?_); simp only [↓List.toList_toArray, ↓rgd, ↓rgf, ↓reduceIte, Nat.reduceEqDiff, rg, ow_60]
      refine hK _ _ ?_; clear hK K
      rw [List.take_length] at hS
      exact W_ret (endQ_1 (by simp only [upd_eq, Nat.reduceEqDiff, ↓reduceIte] <;> rfl) ⟨hS, X⟩)
end Go.Proofs.Ytanmjbkbdmeckaa
/-
  The laws' sample items; the degrees that fit. No condition.
-/
set_option linter.unusedSimpArgs false
set_option linter.unusedVariables false
namespace Go.Proofs.Ytanmjbkbdmeckaa
open Go Go.Proofs
def exL : List It := [(5, 1), (3, 2), (9, 3), (3, 4), (1, 5), (7, 6), (8, 7)]
theorem bs_ex : bsV Try.prog 25 7 [(0, iV (5, 1)), (1, iV (3, 2)), (2, iV (9, 3)), (3, iV (3, 4)), (4, iV (1, 5)), (5, iV (7, 6)), (6, iV (8, 7))] = some (33, flat Ei exL) := by kernel_rfl
set_option maxHeartbeats 400000 in
set_option maxRecDepth 8000 in
theorem exItems_any (w : World) : CallK Try.prog 16 #[] w fun v w' => SlI w' v exL ∧ Ext noF w w' := by
  refine calls_of_W (args := []) [.tmp 0] Try.func16 rfl Try.ntmps16 Try.results16 (by simp) fun e he => ?_
  clear he
  refine W_sq fun K hK => (W_text [true] (by kernel_rfl) ?_); simp only [↓List.toList_toArray, ↓rgd, ↓rgf, ↓reduceIte, Nat.reduceEqDiff, rg]
  refine hK _ _ ?_; clear hK K
  refine W_sq fun K hK => (W_text [true, true, true, true, true, true, true, false, true] (by kernel_rfl) ?_); simp only [↓List.toList_toArray, ↓rgd, ↓rgf, ↓reduceIte, Nat.reduceEqDiff, rg, bu_item]
  refine do_bsl rfl bs_ex fun w1 n1 => ⟨trivial, ?_⟩
  simp only [↓List.toList_toArray, ↓rgd, ↓rgf, ↓reduceIte, Nat.reduceEqDiff, rg]
  refine hK _ _ ?_; clear hK K
  exact W_ret (endQ_1 (by simp only [upd_eq, Nat.reduceEqDiff, ↓reduceIte] <;> rfl) ⟨⟨rfl, .inr ⟨_, 0, 7, rfl, Nat.le_refl _, n1.row, n1.wok.R (Nat.le_refl _)⟩⟩, n1.ext⟩)
set_option maxHeartbeats 400000 in
set_option maxRecDepth 8000 in
theorem fits_any (d : Int) (w : World) : CallK Try.prog 17 #[.int .i64 d] w fun v w' => v = .bool (decide (d = 0) || (decide (2 ≤ d) && decide (d ≤ 128))) ∧ w = w' := by
  refine calls_of_W [.tmp 2] Try.func17 rfl Try.ntmps17 Try.results17 (by simp) fun e he => ?_
  have e0 : e 0 = .int .i64 d := he 0 _ rfl
  clear he
  refine W_sq fun K hK => (W_text [true] (by kernel_rfl) ?_); simp only [↓List.toList_toArray, ↓rgd, ↓rgf, ↓reduceIte, Nat.reduceEqDiff, rg, ow_17]
  refine hK _ _ ?_; clear hK K
  by_cases h0 : d = 0
  · have t1 : (d == 0) = true := by simp [h0]
    refine W_sq fun K hK => (W_text [true, true, true, true, true, true, true, true, true, true, true] (by kernel_rfl) ?_); simp only [↓List.toList_toArray, ↓rgd, ↓rgf, ↓reduceIte, Nat.reduceEqDiff, rg, ow_17, e0, t1]
    refine hK _ _ ?_; clear hK K
    exact W_ret (endQ_1 (by simp only [upd_eq, Nat.reduceEqDiff, ↓reduceIte] <;> rfl) ⟨by simp [h0], rfl⟩)
  · have t1 : (d == 0) = false := by simp [h0]
    by_cases h2 : 2 ≤ d
    · have t2 : decide (2 ≤ d) = true := by simp [h2]
      refine W_sq fun K hK => (W_text [true, true, true, true, true, true, true, true, true, true, true] (by kernel_rfl) ?_); simp only [↓List.toList_toArray, ↓rgd, ↓rgf, ↓reduceIte, Nat.reduceEqDiff, rg, ow_17, e0, t1, t2]
      refine hK _ _ ?_; clear hK K
      exact W_ret (endQ_1 (by simp only [upd_eq, Nat.reduceEqDiff, ↓reduceIte] <;> rfl) ⟨by simp [h0, h2], rfl⟩)
    · have t2 : decide (2 ≤ d) = false := by simp; omega
      refine W_sq fun K hK => (W_text [true, true, true, true, true, true, true, true, true, true, true] (by kernel_rfl) ?_); simp only [↓List.toList_toArray, ↓rgd, ↓rgf, ↓reduceIte, Nat.reduceEqDiff, rg, ow_17, e0, t1, t2]
      refine hK _ _ ?_; clear hK K
      exact W_ret (endQ_1 (by simp only [upd_eq, Nat.reduceEqDiff, ↓reduceIte] <;> rfl) ⟨by simp [h0, h2], rfl⟩)
end Go.Proofs.Ytanmjbkbdmeckaa
/-
  How a tree is made, in the laws. No condition.
-/
set_option linter.unusedSimpArgs false
set_option linter.unusedVariables false
namespace Go.Proofs.Ytanmjbkbdmeckaa
open Go Go.Proofs
theorem bu_itemK (a : Int) : buildV Try.prog 33 [(0, .int .i64 a)] = some (iV (a, 0)) := by kernel_rfl
def nilS : Value := .slice none 0 0
theorem nil_int (w : World) : SlInt w nilS [] := ⟨rfl, .inl ⟨rfl, rfl⟩⟩
theorem z_make : zK Try.prog 24 = some [.slice none 0 0, .int .i64 0, .bool false] := by kernel_rfl
theorem bu_exMake : buildV Try.prog 24 [(1, .int .i64 2)] = some (mkV nilS 2 false) := by kernel_rfl
theorem ld_make : ldK Try.prog 24 = some (some 3) := by kernel_rfl
theorem oc_mk (a : Option Addr) (n c d : Nat) (nl : Bool) : oc (mkV (.slice a n c) d nl).cells.toList := by
  intro v hv
  have h : v ∈ ([.slice a n c, .int .i64 d, .bool nl] : List Value) := hv
  simp at h
  rcases h with rfl | rfl | rfl <;> rfl
/-- The cells of how a tree is made. -/
def mkL (sv : Value) (d : Nat) (nl : Bool) : List Value := [sv, .int .i64 d, .bool nl]
theorem mk_cells (sv : Value) (d : Nat) (nl : Bool) : (mkV sv d nl).cells.toList = mkL sv d nl := rfl
theorem mk_at {w : World} {b : Nat} {sv : Value} {d : Nat} {nl : Bool} (h : Row w b 0 (mkL sv d nl)) : rdA w b 0 3 = some (mkV sv d nl) := h.rdA 3 (Nat.le_refl _)
theorem mk_at0 {w : World} {b : Nat} {sv : Value} {d : Nat} {nl : Bool} (h : Row w b 0 (mkL sv d nl)) : rd w b 0 = some sv := (Row.cons.1 h).1
theorem mk_at1 {w : World} {b : Nat} {sv : Value} {d : Nat} {nl : Bool} (h : Row w b 0 (mkL sv d nl)) : rd w b 1 = some (.int .i64 d) := (Row.cons.1 (Row.cons.1 h).2).1
set_option maxHeartbeats 400000 in
set_option maxRecDepth 8000 in
theorem exMake_any (w : World) : CallK Try.prog 15 #[] w fun v w' => v = mkV nilS 2 false ∧ Ext noF w w' := by
  refine calls_of_W (args := []) [.cell 0 24] Try.func15 rfl Try.ntmps15 Try.results15 (by simp) fun e he => ?_
  clear he
  refine W_sq fun K hK => (W_text [false] (by kernel_rfl) ?_); simp only [↓List.toList_toArray, ↓rgd, ↓rgf, ↓reduceIte, Nat.reduceEqDiff, rg, ow_15]
  refine do_alloc z_make fun w1 n1 => ⟨trivial, ?_⟩
  simp only [↓List.toList_toArray, ↓rgd, ↓rgf, ↓reduceIte, Nat.reduceEqDiff, rg, ow_15]
  refine hK _ _ ?_; clear hK K
  refine W_sq fun K hK => (W_text [true, false] (by kernel_rfl) ?_); simp only [↓List.toList_toArray, ↓rgd, ↓rgf, ↓reduceIte, Nat.reduceEqDiff, rg, ow_15, bu_exMake]
  refine do_store (by simp only [evt, evc, upd_eq, Nat.reduceEqDiff, ↓reduceIte, ntT, ntF] <;> rfl) (by simp only [evt, evc, upd_eq, Nat.reduceEqDiff, ↓reduceIte, ntT, ntF] <;> rfl) sz_24 rfl n1.wok (by decide) (oc_mk _ _ _ _ _) fun w2 x2 r2 s2 => ⟨trivial, ?_⟩
  simp only [↓List.toList_toArray, ↓rgd, ↓rgf, ↓reduceIte, Nat.reduceEqDiff, rg, ow_15]
  refine hK _ _ ?_; clear hK K
  exact W_ret (endQ_c (by simp only [upd_eq, Nat.reduceEqDiff, ↓reduceIte] <;> rfl) ld_make (mk_at (show Row w2 w.heap.size 0 (mkL nilS 2 false) from r2)) ⟨rfl, noF_of n1.ext x2 fun y o hy g => by simp only [rng] at g; omega⟩)
set_option maxHeartbeats 400000 in
set_option maxRecDepth 8000 in
/-- Whether the order is not too long. -/
theorem fits1_any (sv : Value) (ord : List Int) (dv : Value) (nl : Bool) (w : World) (hs : SlInt w sv ord) :
    CallK Try.prog 13 #[.agg #[sv, dv, .bool nl]] w fun v w' => v = .bool (decide (ord.length ≤ 2147483647)) ∧ Ext noF w w' := by
  obtain ⟨a, c, rfl⟩ := SlV.shape hs
  refine calls_of_W [.tmp 2] Try.func13 rfl Try.ntmps13 Try.results13 (by simp) fun e he => ?_
  have e0 : e 0 = .agg #[.slice a ord.length c, dv, .bool nl] := he 0 _ rfl
  clear he
  refine W_sq fun K hK => (W_text [false, true] (by kernel_rfl) ?_); simp only [↓List.toList_toArray, ↓rgd, ↓rgf, ↓reduceIte, Nat.reduceEqDiff, rg, ow_13]
  refine do_box (by simp only [evt]; exact e0) fun w1 n1 => ⟨trivial, ?_⟩
  simp only [↓List.toList_toArray, ↓rgd, ↓rgf, ↓reduceIte, Nat.reduceEqDiff, rg, ow_13]
  refine hK _ _ ?_; clear hK K
  have g0 : rd w1 w.heap.size 0 = some (.slice a ord.length c) := (Row.cons.1 (show Row w1 w.heap.size 0 [.slice a ord.length c, dv, .bool nl] from n1.row)).1
  refine W_seq ?_
  by_cases h : ord.length ≤ 2147483647
  · have ht : decide ((2147483647 : Int) < (ord.length : Int)) = false := by simp; omega
    refine W_sq fun K hK => (W_text [true, true, true, true] (by kernel_rfl) ?_); simp only [↓List.toList_toArray, ↓rgd, ↓rgf, ↓reduceIte, Nat.reduceEqDiff, rg, ow_13, g0, ht]
    refine hK _ _ ?_; clear hK K
    refine W_false (by simp only [evt, evc, upd_eq, Nat.reduceEqDiff, ↓reduceIte, ntT, ntF] <;> rfl) (W_skip ?_)
    show W _ _ _ _ _ _
    refine W_sq fun K hK => (W_text [true] (by kernel_rfl) ?_); simp only [↓List.toList_toArray, ↓rgd, ↓rgf, ↓reduceIte, Nat.reduceEqDiff, rg, ow_13]
    refine hK _ _ ?_; clear hK K
    exact W_ret (endQ_1 (by simp only [upd_eq, Nat.reduceEqDiff, ↓reduceIte] <;> rfl) ⟨by simp [h], n1.ext⟩)
  · have ht : decide ((2147483647 : Int) < (ord.length : Int)) = true := by simp; omega
    refine W_sq fun K hK => (W_text [true, true, true, true] (by kernel_rfl) ?_); simp only [↓List.toList_toArray, ↓rgd, ↓rgf, ↓reduceIte, Nat.reduceEqDiff, rg, ow_13, g0, ht]
    refine hK _ _ ?_; clear hK K
    refine W_true (by simp only [evt, evc, upd_eq, Nat.reduceEqDiff, ↓reduceIte, ntT, ntF] <;> rfl) ?_
    refine W_sq fun K hK => (W_text [true] (by kernel_rfl) ?_); simp only [↓List.toList_toArray, ↓rgd, ↓rgf, ↓reduceIte, Nat.reduceEqDiff, rg, ow_13]
    refine hK _ _ ?_; clear hK K
    refine W_ret ?_
    simp only [andThen_ret]
    exact endQ_1 (by simp only [upd_eq, Nat.reduceEqDiff, ↓reduceIte] <;> rfl) ⟨by simp [h], n1.ext⟩
end Go.Proofs.Ytanmjbkbdmeckaa
/-
  Lists of numbers, items and replies that are compared. No condition.
-/
set_option linter.unusedSimpArgs false
set_option linter.unusedVariables false
namespace Go.Proofs.Ytanmjbkbdmeckaa
open Go Go.Proofs
/-- Whole numbers as cells. -/
def En : Enc Int where
  cel x := [.int .i64 x]
  sz := 1
  len _ := rfl
  one x v hv := by simp at hv; subst hv; rfl
  pos := by decide
/-- Replies as cells. -/
def Ef : Enc (It × Bool) where
  cel x := [.int .i64 x.1.1, .int .i64 x.1.2, .bool x.2]
  sz := 3
  len _ := rfl
  one x v hv := by simp at hv; rcases hv with rfl | rfl | rfl <;> rfl
  pos := by decide
def foV (x : It × Bool) : Value := .agg #[.int .i64 x.1.1, .int .i64 x.1.2, .bool x.2]
theorem nV_at {w : World} {b o : Nat} {l : List Int} (h : Row w b o (flat En l)) {i : Nat} {x : Int} (hi : l[i]? = some x) : rd w b (o + i) = some (.int .i64 x) := by
  have := row_cell (row_at En h hi) (j := 0) rfl
  rwa [show En.sz = 1 from rfl, Nat.mul_one] at this
theorem foV_at {w : World} {b o : Nat} {l : List (It × Bool)} (h : Row w b o (flat Ef l)) {i : Nat} {x : It × Bool} (hi : l[i]? = some x) : rdA w b (o + i * 3) 3 = some (foV x) := (row_at Ef h hi).rdA 3 (by simp [Ef])
theorem ne_n (x : Int) : binV Try.prog .neq 3 (.int .i64 x) (.int .i64 x) = some (.bool false) := by simp [binV]
theorem ne_i0 (a b : Int) : binV Try.prog .neq 33 (.agg #[.int .i64 a, .int .i64 b]) (.agg #[.int .i64 a, .int .i64 b]) = some (.bool (!(a == a && (b == b && true)))) := by kernel_rfl
theorem ne_f0 (a b : Int) (c : Bool) : binV Try.prog .neq 43 (.agg #[.int .i64 a, .int .i64 b, .bool c]) (.agg #[.int .i64 a, .int .i64 b, .bool c]) = some (.bool (!((a == a && (b == b && true)) && (c == c && true)))) := by kernel_rfl
theorem ne_i (x : It) : binV Try.prog .neq 33 (iV x) (iV x) = some (.bool false) := by rw [iV, ne_i0]; simp
theorem ne_f (x : It × Bool) : binV Try.prog .neq 43 (foV x) (foV x) = some (.bool false) := by rw [foV, ne_f0]; simp
set_option maxHeartbeats 400000 in
set_option maxRecDepth 8000 in
/-- Two slices that hold the same list are equal. -/
theorem eq_i (l : List It) (v1 v2 : Value) (w : World) (h1 : SlV w 2 v1 l.length (flat Ei l)) (h2 : SlV w 2 v2 l.length (flat Ei l)) (hbig : l.length ≤ 4294967296) :
    CallK Try.prog 29 #[v1, v2] w fun v w' => v = .bool true ∧ RO w w' := by
  obtain ⟨a1, c1, hv1⟩ := h1.shape
  obtain ⟨a2, c2, hv2⟩ := h2.shape
  refine calls_of_W [.tmp 4] Try.func29 rfl Try.ntmps29 Try.results29 (by simp) fun e he => ?_
  have e0 : e 0 = .slice a1 l.length c1 := by rw [← hv1]; exact he 0 _ rfl
  have e1 : e 1 = .slice a2 l.length c2 := by rw [← hv2]; exact he 1 _ rfl
  clear he
  refine W_sq fun K hK => (W_text [true] (by kernel_rfl) ?_); simp only [↓List.toList_toArray, ↓rgd, ↓rgf, ↓reduceIte, Nat.reduceEqDiff, rg, ow_29]
  refine hK _ _ ?_; clear hK K
  have t0 : ((l.length : Int) != (l.length : Int)) = false := by simp
  refine W_seq ?_
  refine W_sq fun K hK => (W_text [true, true, true, true, true] (by kernel_rfl) ?_); simp only [↓List.toList_toArray, ↓rgd, ↓rgf, ↓reduceIte, Nat.reduceEqDiff, rg, ow_29, e0, e1, t0]
  refine hK _ _ ?_; clear hK K
  refine W_false (by simp only [evt, evc, upd_eq, Nat.reduceEqDiff, ↓reduceIte, ntT, ntF] <;> rfl) (W_skip ?_)
  show W _ _ _ _ _ _
  refine W_seq (W_seq ?_)
  refine W_rg fun K hK => (W_text [true, true, true] (by kernel_rfl) ?_); simp only [↓List.toList_toArray, ↓rgd, ↓rgf, ↓reduceIte, Nat.reduceEqDiff, rg, ow_29, e0]
  refine hK _ _ ?_; clear hK K
  show W _ _ _ _ _ _
  refine W_block (W_loop (fun mm e w' => ∃ i : Nat, mm = l.length - i ∧ i ≤ l.length ∧ RO w w' ∧ e 0 = .slice a1 l.length c1 ∧ e 1 = .slice a2 l.length c2 ∧ e 12 = .int .i64 l.length ∧ e 13 = .int .i64 i)
    l.length ⟨0, by simp, by simp, RO.refl _, ?_, ?_, ?_, ?_⟩ ?_)
  · simp only [upd_eq, Nat.reduceEqDiff, ↓reduceIte]; exact e0
  · simp only [upd_eq, Nat.reduceEqDiff, ↓reduceIte]; exact e1
  · simp only [upd_eq, Nat.reduceEqDiff, ↓reduceIte]
  · simp only [upd_eq, Nat.reduceEqDiff, ↓reduceIte]; rfl
  · clear e0 e1 e
    rintro mm e w' ⟨i, rfl, hi, hro, e0, e1, e12, e13⟩
    by_cases hlt : i < l.length
    · have ht := lt_tt i l.length hlt
      refine W_sq fun K hK => (W_text [true] (by kernel_rfl) ?_); simp only [↓List.toList_toArray, ↓rgd, ↓rgf, ↓reduceIte, Nat.reduceEqDiff, rg, ow_29, e12, e13, ht]
      refine hK _ _ ?_; clear hK K
      refine W_seq (W_true (by simp only [evt, evc, upd_eq, Nat.reduceEqDiff, ↓reduceIte, ntT, ntF] <;> rfl) (W_skip ?_))
      show W _ _ _ _ _ _
      obtain ⟨x, hx⟩ : ∃ x, l[i]? = some x := ⟨_, List.getElem?_eq_getElem hlt⟩
      obtain ⟨b1, o1, g1, r1⟩ := h1.at hv1 hlt
      obtain ⟨b2, o2, g2, r2⟩ := h2.at hv2 hlt
      subst g1 g2
      have x1 := iV_at ((hro.ext (F := noF)).row r1 fun _ _ h => h) hx
      have x2 := iV_at ((hro.ext (F := noF)).row r2 fun _ _ h => h) hx
      have n1 := ne_i x
      refine W_seq (W_block ?_)
      refine W_sq fun K hK => (W_text [true, true] (by kernel_rfl) ?_); simp only [↓List.toList_toArray, ↓rgd, ↓rgf, ↓reduceIte, Nat.reduceEqDiff, rg, ow_29, e13]
      refine hK _ _ ?_; clear hK K
      refine W_sq fun K hK => (W_draw (some none) none [(0, 0, 0), (0, 1, 0), (0, 2, 0), (0, 3, 0), (0, 4, 0), (0, 5, 0), (0, 6, 0), (0, 7, 0), (0, 8, 0)] mixed (by kernel_rfl) ?_); simp only [↓List.toList_toArray, ↓rgd, ↓rgf, ↓reduceIte, Nat.reduceEqDiff, rg, ow_29, e0, e1, e13, hlt, x1, x2, n1]
      refine hK _ _ ?_; clear hK K
      refine W_false (by simp only [evt, evc, upd_eq, Nat.reduceEqDiff, ↓reduceIte, ntT, ntF] <;> rfl) (W_skip ?_)
      show W _ _ _ _ _ _
      have q1 := wadd1 i (by omega)
      refine W_rg fun K hK => (W_text [true, true] (by kernel_rfl) ?_); simp only [↓List.toList_toArray, ↓rgd, ↓rgf, ↓reduceIte, Nat.reduceEqDiff, rg, ow_29, e13, q1]
      refine hK _ _ ?_; clear hK K
      refine ⟨_, ?_, i + 1, rfl, hlt, hro.tr (RO.dr _ _), ?_, ?_, ?_, ?_⟩
      · omega
      · simp only [upd_eq, Nat.reduceEqDiff, ↓reduceIte]; exact e0
      · simp only [upd_eq, Nat.reduceEqDiff, ↓reduceIte]; exact e1
      · simp only [upd_eq, Nat.reduceEqDiff, ↓reduceIte]; exact e12
      · simp only [upd_eq, Nat.reduceEqDiff, ↓reduceIte]
    · obtain rfl : i = l.length := by omega
      have ht := lt_ff l.length l.length (by omega)
      refine W_sq fun K hK => (W_text [true] (by kernel_rfl) ?_); simp only [↓List.toList_toArray, ↓rgd, ↓rgf, ↓reduceIte, Nat.reduceEqDiff, rg, ow_29, e12, e13, ht]
      refine hK _ _ ?_; clear hK K
      refine W_seq (W_false (by simp only [evt, evc, upd_eq, Nat.reduceEqDiff, ↓reduceIte, ntT, ntF] <;> rfl) (W_exit ?_))
      simp only [andThen_exit, inBlk_exit, andThen_normal, ↓reduceIte]
      refine W_sq fun K hK => (W_text [true] (by kernel_rfl) ?_); simp only [↓List.toList_toArray, ↓rgd, ↓rgf, ↓reduceIte, Nat.reduceEqDiff, rg, ow_29]
      refine hK _ _ ?_; clear hK K
      exact W_ret (endQ_1 (by simp only [upd_eq, Nat.reduceEqDiff, ↓reduceIte] <;> rfl) ⟨rfl, hro⟩)
set_option maxHeartbeats 400000 in
set_option maxRecDepth 8000 in
/-- Two slices that hold the same list are equal. -/
theorem eq_f (l : List (It × Bool)) (v1 v2 : Value) (w : World) (h1 : SlV w 3 v1 l.length (flat Ef l)) (h2 : SlV w 3 v2 l.length (flat Ef l)) (hbig : l.length ≤ 4294967296) :
    CallK Try.prog 28 #[v1, v2] w fun v w' => v = .bool true ∧ RO w w' := by
  obtain ⟨a1, c1, hv1⟩ := h1.shape
  obtain ⟨a2, c2, hv2⟩ := h2.shape
  refine calls_of_W [.tmp 4] Try.func28 rfl Try.ntmps28 Try.results28 (by simp) fun e he => ?_
  have e0 : e 0 = .slice a1 l.length c1 := by rw [← hv1]; exact he 0 _ rfl
  have e1 : e 1 = .slice a2 l.length c2 := by rw [← hv2]; exact he 1 _ rfl
  clear he
  refine W_sq fun K hK => (W_text [true] (by kernel_rfl) ?_); simp only [↓List.toList_toArray, ↓rgd, ↓rgf, ↓reduceIte, Nat.reduceEqDiff, rg, ow_28]
  refine hK _ _ ?_; clear hK K
  have t0 : ((l.length : Int) != (l.length : Int)) = false := by simp
  refine W_seq ?_
  refine W_sq fun K hK => (W_text [true, true, true, true, true] (by kernel_rfl) ?_); simp only [↓List.toList_toArray, ↓rgd, ↓rgf, ↓reduceIte, Nat.reduceEqDiff, rg, ow_28, e0, e1, t0]
  refine hK _ _ ?_; clear hK K
  refine W_false (by simp only [evt, evc, upd_eq, Nat.reduceEqDiff, ↓reduceIte, ntT, ntF] <;> rfl) (W_skip ?_)
  show W _ _ _ _ _ _
  refine W_seq (W_seq ?_)
  refine W_rg fun K hK => (W_text [true, true, true] (by kernel_rfl) ?_); simp only [↓List.toList_toArray, ↓rgd, ↓rgf, ↓reduceIte, Nat.reduceEqDiff, rg, ow_28, e0]
  refine hK _ _ ?_; clear hK K
  show W _ _ _ _ _ _
  refine W_block (W_loop (fun mm e w' => ∃ i : Nat, mm = l.length - i ∧ i ≤ l.length ∧ RO w w' ∧ e 0 = .slice a1 l.length c1 ∧ e 1 = .slice a2 l.length c2 ∧ e 12 = .int .i64 l.length ∧ e 13 = .int .i64 i)
    l.length ⟨0, by simp, by simp, RO.refl _, ?_, ?_, ?_, ?_⟩ ?_)
  · simp only [upd_eq, Nat.reduceEqDiff, ↓reduceIte]; exact e0
  · simp only [upd_eq, Nat.reduceEqDiff, ↓reduceIte]; exact e1
  · simp only [upd_eq, Nat.reduceEqDiff, ↓reduceIte]
  · simp only [upd_eq, Nat.reduceEqDiff, ↓reduceIte]; rfl
  · clear e0 e1 e
    rintro mm e w' ⟨i, rfl, hi, hro, e0, e1, e12, e13⟩
    by_cases hlt : i < l.length
    · have ht := lt_tt i l.length hlt
      refine W_sq fun K hK => (W_text [true] (by kernel_rfl) ?_); simp only [↓List.toList_toArray, ↓rgd, ↓rgf, ↓reduceIte, Nat.reduceEqDiff, rg, ow_28, e12, e13, ht]
      refine hK _ _ ?_; clear hK K
      refine W_seq (W_true (by simp only [evt, evc, upd_eq, Nat.reduceEqDiff, ↓reduceIte, ntT, ntF] <;> rfl) (W_skip ?_))
      show W _ _ _ _ _ _
      obtain ⟨x, hx⟩ : ∃ x, l[i]? = some x := ⟨_, List.getElem?_eq_getElem hlt⟩
      obtain ⟨b1, o1, g1, r1⟩ := h1.at hv1 hlt
      obtain ⟨b2, o2, g2, r2⟩ := h2.at hv2 hlt
      subst g1 g2
      have x1 := foV_at ((hro.ext (F := noF)).row r1 fun _ _ h => h) hx
      have x2 := foV_at ((hro.ext (F := noF)).row r2 fun _ _ h => h) hx
      have n1 := ne_f x
      refine W_seq (W_block ?_)
      refine W_sq fun K hK => (W_text [true, true] (by kernel_rfl) ?_); simp only [↓List.toList_toArray, ↓rgd, ↓rgf, ↓reduceIte, Nat.reduceEqDiff, rg, ow_28, e13]
      refine hK _ _ ?_; clear hK K
      refine W_sq fun K hK => (W_draw (some none) none [(0, 0, 0), (0, 1, 0), (0, 2, 0), (0, 3, 0), (0, 4, 0), (0, 5, 0), (0, 6, 0), (0, 7, 0), (0, 8, 0)] mixed (by kernel_rfl) ?_); simp only [↓List.toList_toArray, ↓rgd, ↓rgf, ↓reduceIte, Nat.reduceEqDiff, rg, ow_28, e0, e1, e13, hlt, x1, x2, n1]
      refine hK _ _ ?_; clear hK K
      refine W_false (by simp only [evt, evc, upd_eq, Nat.reduceEqDiff, ↓reduceIte, ntT, ntF] <;> rfl) (W_skip ?_)
      show W _ _ _ _ _ _
      have q1 := wadd1 i (by omega)
      refine W_rg fun K hK => (W_text [true, true] (by kernel_rfl) ?_); simp only [↓List.toList_toArray, ↓rgd, ↓rgf, ↓reduceIte, Nat.reduceEqDiff, rg, ow_28, e13, q1]
      refine hK _ _ ?_; clear hK K
      refine ⟨_, ?_, i + 1, rfl, hlt, hro.tr (RO.dr _ _), ?_, ?_, ?_, ?_⟩
      · omega
      · simp only [upd_eq, Nat.reduceEqDiff, ↓reduceIte]; exact e0
      · simp only [upd_eq, Nat.reduceEqDiff, ↓reduceIte]; exact e1
      · simp only [upd_eq, Nat.reduceEqDiff, ↓reduceIte]; exact e12
      · simp only [upd_eq, Nat.reduceEqDiff, ↓reduceIte]
    · obtain rfl : i = l.length := by omega
      have ht := lt_ff l.length l.length (by omega)
      refine W_sq fun K hK => (W_text [true] (by kernel_rfl) ?_); simp only [↓List.toList_toArray, ↓rgd, ↓rgf, ↓reduceIte, Nat.reduceEqDiff, rg, ow_28, e12, e13, ht]
      refine hK _ _ ?_; clear hK K
      refine W_seq (W_false (by simp only [evt, evc, upd_eq, Nat.reduceEqDiff, ↓reduceIte, ntT, ntF] <;> rfl) (W_exit ?_))
      simp only [andThen_exit, inBlk_exit, andThen_normal, ↓reduceIte]
      refine W_sq fun K hK => (W_text [true] (by kernel_rfl) ?_); simp only [↓List.toList_toArray, ↓rgd, ↓rgf, ↓reduceIte, Nat.reduceEqDiff, rg, ow_28]
      refine hK _ _ ?_; clear hK K
      exact W_ret (endQ_1 (by simp only [upd_eq, Nat.reduceEqDiff, ↓reduceIte] <;> rfl) ⟨rfl, hro⟩)
end Go.Proofs.Ytanmjbkbdmeckaa
/-
  The tree laws' rows: closed facts of the program, and how the arguments are read. No condition.
-/
set_option linter.unusedSimpArgs false
set_option linter.unusedVariables false
namespace Go.Proofs.Ytanmjbkbdmeckaa
open Go Go.Proofs Go.ChangeShapes Go.WideShapes Go.ChangeAt Go.RowKit
theorem own : ownKnob Try.prog.godebug = none := by kernel_rfl
theorem laidOut : laidOutB Try.prog = true := by kernel_rfl
theorem item_td : ∃ f0 f1 : Field, Try.prog.underlying 33 = some (.struct #[f0, f1]) ∧ f0.offset = 0 ∧ f1.offset = 1 ∧ Try.prog.cellsOf f0.type = 1 ∧ Try.prog.cellsOf f1.type = 1 ∧
    Try.prog.underlying f0.type = some (.int .i64) ∧ Try.prog.underlying f1.type = some (.int .i64) := ⟨_, _, Try.underlying33, by kernel_rfl, by kernel_rfl, by kernel_rfl, by kernel_rfl, by kernel_rfl, by kernel_rfl⟩
theorem make_td : ∃ f0 f1 f2 : Field, Try.prog.underlying 24 = some (.struct #[f0, f1, f2]) ∧ f0.offset = 0 ∧ f1.offset = 1 ∧ f2.offset = 2 ∧ Try.prog.cellsOf f0.type = 1 ∧ Try.prog.cellsOf f1.type = 1 ∧ Try.prog.cellsOf f2.type = 1 ∧
    f0.type = 22 ∧ Try.prog.underlying f1.type = some (.int .i64) ∧ Try.prog.underlying f2.type = some .bool ∧ Try.prog.cellsOf 24 = 3 :=
  ⟨_, _, _, Try.underlying24, by kernel_rfl, by kernel_rfl, by kernel_rfl, by kernel_rfl, by kernel_rfl, by kernel_rfl, by kernel_rfl, by kernel_rfl, by kernel_rfl, by kernel_rfl⟩
theorem make_ts : Try.prog.cellTypes Try.prog.depth 24 = some [22, 3, 4] := by kernel_rfl
set_option maxRecDepth 100000
section
variable {H : Type} {enc : TypeId × Value → H}
theorem open_items {w : World} {base : Nat} {v : Value} {d : DataW H} {ps : List MemPlace} (hok : Value.okWide Try.prog w .any base 25 v)
    (h : DataW.Trod enc Try.prog w 0 (fun _ => true) true 25 v d ps) (hz : ∀ b o, MemPlace.cell b o ∈ ps → w.frozen? ⟨b, o, none⟩ = false) : ∃ l : List It, SlI w v l := by
  obtain ⟨f0, f1, he, o0, o1, c0, c1, u0, u1⟩ := item_td
  have hce : Try.prog.cellsOf 33 = Ei.sz := by kernel_rfl
  have hel : ∀ n cs x, DataW.trod enc Try.prog w 0 (fun _ => true) true n 33 cs = some x → cs.length = Ei.sz → ∃ a : It, cs = Ei.cel a := elem_int2 he o0 o1 c0 c1 u0 u1
  exact open_arg (enc := enc) Ei Try.underlying25 hce hel hok h hz
theorem flat_En (l : List Int) : flat En l = ints l := by
  induction l with
  | nil => rfl
  | cons x l ih => rw [flat_cons, ih]; rfl
theorem open_nums {w : World} {base : Nat} {v : Value} {d : DataW H} {ps : List MemPlace} (hok : Value.okWide Try.prog w .any base 22 v)
    (h : DataW.Trod enc Try.prog w 0 (fun _ => true) true 22 v d ps) (hz : ∀ b o, MemPlace.cell b o ∈ ps → w.frozen? ⟨b, o, none⟩ = false) : ∃ l : List Int, SlV w 1 v l.length (flat En l) := by
  have hce : Try.prog.cellsOf 3 = En.sz := by kernel_rfl
  have hel : ∀ n cs x, DataW.trod enc Try.prog w 0 (fun _ => true) true n 3 cs = some x → cs.length = En.sz → ∃ a : Int, cs = En.cel a := elem_int Try.underlying3
  exact open_arg (enc := enc) En Try.underlying22 hce hel hok h hz
theorem open_item {w : World} {base : Nat} {v : Value} {d : DataW H} {ps : List MemPlace} (hok : Value.okWide Try.prog w .any base 33 v)
    (h : DataW.Trod enc Try.prog w 0 (fun _ => true) true 33 v d ps) : ∃ x : It, v = iV x := by
  obtain ⟨f0, f1, he, o0, o1, c0, c1, u0, u1⟩ := item_td
  have hce : Try.prog.cellsOf 33 = 2 := by kernel_rfl
  unfold Value.okWide at hok
  simp only [he] at hok
  obtain ⟨cs, rfl, hs, -⟩ := hok
  obtain ⟨fuel, h⟩ := h
  obtain ⟨x, hx⟩ := elem_int2 he o0 o1 c0 c1 u0 u1 _ _ _ h (by rw [hce] at hs; simpa [Value.cells] using hs)
  refine ⟨x, ?_⟩
  have : cs.toList = [.int .i64 x.1, .int .i64 x.2] := hx
  rw [iV, ← Array.toArray_toList (xs := cs), this]
theorem open_make {w : World} {base : Nat} {v : Value} {d : DataW H} {ps : List MemPlace} (hok : Value.okWide Try.prog w .any base 24 v)
    (h : DataW.Trod enc Try.prog w 0 (fun _ => true) true 24 v d ps) (hz : ∀ b o, MemPlace.cell b o ∈ ps → w.frozen? ⟨b, o, none⟩ = false) :
    ∃ (sv : Value) (d : Int) (nl : Bool) (ord : List Int), v = .agg #[sv, .int .i64 d, .bool nl] ∧ SlInt w sv ord := by
  obtain ⟨f0, f1, f2, he, o0, o1, o2, c0, c1, c2, u0, u1, u2, hce⟩ := make_td
  unfold Value.okWide at hok
  simp only [he] at hok
  obtain ⟨cs, rfl, hs, ts, hts, -, hrow⟩ := hok
  rw [make_ts] at hts
  obtain rfl := (Option.some.inj hts).symm
  obtain ⟨fuel, h⟩ := h
  have hlen : cs.toList.length = 3 := by rw [hce] at hs; simpa using hs
  obtain ⟨xs, k, _, hx, _, hxl, hf⟩ := DataW.trod_struct he h
  match hc : cs.toList, hlen with
  | [v0, v1, v2], _ =>
    match xs, hxl with
    | [y0, y1, y2], _ =>
      have hcl : (Value.agg cs).cells.toList = [v0, v1, v2] := hc
      have g0 := hf 0 f0 rfl
      have g1 := hf 1 f1 rfl
      have g2 := hf 2 f2 rfl
      rw [hcl] at g0 g1 g2
      simp [o0, o1, o2, c0, c1, c2] at g0 g1 g2
      obtain ⟨a, h1, _, _⟩ := DataW.trod_int u1 g1
      obtain ⟨b, h2, _⟩ := DataW.trod_bool u2 g2
      simp only [List.cons.injEq, and_true] at h1 h2
      subst h1 h2
      obtain ⟨u, hu, hok0⟩ := hrow 0 v0 (by rw [← Array.getElem?_toList, hc]; rfl)
      have hu' : u = 22 := by simpa using hu.symm
      subst hu'
      have hok1 : Cell.ok Try.prog w .any base 22 v0 := by
        unfold Cell.okWide at hok0
        simp only [Try.underlying22] at hok0
        exact hok0
      rw [u0] at g0
      have hcen : Try.prog.cellsOf 3 = En.sz := by kernel_rfl
      have hel : ∀ n cs x, DataW.trod enc Try.prog w 0 (fun _ => true) true n 3 cs = some x → cs.length = En.sz → ∃ a : Int, cs = En.cel a := elem_int Try.underlying3
      simp only [Prod.mk.injEq] at hx
      obtain ⟨l, hl⟩ := open_enc (enc := enc) En Try.underlying22 hcen hel hok1 g0 fun b o hm => hz b o (by rw [hx.2]; simp [hm])
      refine ⟨v0, a, b, l, ?_, by rw [flat_En] at hl; exact hl⟩
      rw [← Array.toArray_toList (xs := cs), hc]
end
end Go.Proofs.Ytanmjbkbdmeckaa
/-
  A place in a tree as the way down to it: nodes with the children's places. The next place, the one before it. For items of whatever make; no program. No condition.
-/
set_option linter.unusedSimpArgs false
set_option linter.unusedVariables false
namespace Go.Proofs.Ytanmjbkbdmeckaa
open Go
section
variable {α : Type}
/-- The way down from the root to a subtree; how many items lie ahead of it. -/
inductive Way (E : Enc α) (iso : Int) (mn mx : Nat) (w : World) (H lo0 root : Nat) (X : List α) (F0 : Nat → Nat → Prop) : List (Nat × Int) → Nat → Nat → Nat → List α → (Nat → Nat → Prop) → Nat → Prop
  | root : Way E iso mn mx w H lo0 root X F0 [] H lo0 root X F0 0
  | down {st : List (Nat × Int)} {h lo b : Nat} {xs : List α} {Fb : Nat → Nat → Prop} {off bi oi cap : Nat} {ks : List α} {bc ba oa capc : Nat} {cs : List (Kid α)} {i : Nat} {c : Kid α} (hw : Way E iso mn mx w H lo0 root X F0 st (h + 1) lo b xs Fb off)
      (ho : Own E w b iso xs.length bi oi cap ks (ptr bc)) (n : Inn E iso mn mx h w b xs Fb bi oi cap ks bc ba oa capc cs) (hc : cs[i]? = some c) :
      Way E iso mn mx w H lo0 root X F0 (st ++ [(b, (i : Int))]) h mn c.b c.xs c.F (off + (fr (cs.map Kid.xs) ks i).length)
variable {E : Enc α} {iso : Int} {mn mx : Nat} {w : World} {H lo0 root : Nat} {X : List α} {F0 : Nat → Nat → Prop}
theorem Kid.at {cs : List (Kid α)} {i : Nat} {c : Kid α} (hc : cs[i]? = some c) : (cs.map Kid.xs)[i]? = some c.xs := by rw [List.getElem?_map, hc]; rfl
theorem Inn.le {h b bi oi cap bc ba oa capc : Nat} {xs ks : List α} {F : Nat → Nat → Prop} {cs : List (Kid α)} (n : Inn E iso mn mx h w b xs F bi oi cap ks bc ba oa capc cs) {i : Nat} {c : Kid α} (hc : cs[i]? = some c) : i ≤ ks.length := by
  have := (List.getElem?_eq_some_iff.1 hc).1
  have := n.len
  omega
theorem Inn.xs {h b bi oi cap bc ba oa capc : Nat} {xs ks : List α} {F : Nat → Nat → Prop} {cs : List (Kid α)} (n : Inn E iso mn mx h w b xs F bi oi cap ks bc ba oa capc cs) {i : Nat} {c : Kid α} (hc : cs[i]? = some c) :
    xs = fr (cs.map Kid.xs) ks i ++ c.xs ++ tl (cs.map Kid.xs) ks i := by
  rw [n.eq]
  exact fr_mid i _ _ _ (by simpa using n.len) (n.le hc) (Kid.at hc)
theorem Inn.kid {h b bi oi cap bc ba oa capc : Nat} {xs ks : List α} {F : Nat → Nat → Prop} {cs : List (Kid α)} (n : Inn E iso mn mx h w b xs F bi oi cap ks bc ba oa capc cs) {i : Nat} (hi : i ≤ ks.length) : ∃ c, cs[i]? = some c :=
  ⟨_, List.getElem?_eq_getElem (by have := n.len; omega)⟩
/-- The subtree at the end of the way. -/
theorem Way.tr (ht : Tr E iso mn mx H w lo0 root X F0) {st : List (Nat × Int)} {h lo b off : Nat} {xs : List α} {Fb : Nat → Nat → Prop} (hw : Way E iso mn mx w H lo0 root X F0 st h lo b xs Fb off) : Tr E iso mn mx h w lo b xs Fb := by
  induction hw with
  | root => exact ht
  | down hw ho n hc ih => exact n.sub _ (List.mem_of_getElem? hc)
theorem Way.sub {st : List (Nat × Int)} {h lo b off : Nat} {xs : List α} {Fb : Nat → Nat → Prop} (hw : Way E iso mn mx w H lo0 root X F0 st h lo b xs Fb off) : ∀ y o, Fb y o → F0 y o := by
  induction hw with
  | root => exact fun _ _ h => h
  | down hw ho n hc ih => exact fun y o g => ih y o ((n.fp y o).2 (.inr (.inr ⟨_, List.mem_of_getElem? hc, g⟩)))
theorem Way.lo (h0 : 1 ≤ lo0) (hm : 1 ≤ mn) {st : List (Nat × Int)} {h lo b off : Nat} {xs : List α} {Fb : Nat → Nat → Prop} (hw : Way E iso mn mx w H lo0 root X F0 st h lo b xs Fb off) : 1 ≤ lo := by
  cases hw with
  | root => exact h0
  | down hw ho n hc => exact hm
theorem Way.len {st : List (Nat × Int)} {h lo b off : Nat} {xs : List α} {Fb : Nat → Nat → Prop} (hw : Way E iso mn mx w H lo0 root X F0 st h lo b xs Fb off) : st.length + h = H := by
  induction hw with
  | root => simp
  | down hw ho n hc ih => rw [List.length_append, List.length_singleton]; omega
/-- The items of the subtree stand in the list. -/
theorem Way.at {st : List (Nat × Int)} {h lo b off : Nat} {xs : List α} {Fb : Nat → Nat → Prop} (hw : Way E iso mn mx w H lo0 root X F0 st h lo b xs Fb off) : ∃ A C, X = A ++ xs ++ C ∧ A.length = off := by
  induction hw with
  | root => exact ⟨[], [], by simp, rfl⟩
  | down hw ho n hc ih =>
    obtain ⟨A, C, hX, hA⟩ := ih
    have hx := n.xs hc
    refine ⟨A ++ fr _ _ _, (tl _ _ _ ++ C : List α), (hX.trans (by rw [congrArg (fun l => A ++ l ++ C) hx]; simp only [List.append_assoc]; rfl)), by rw [List.length_append, hA]⟩
theorem Way.get {st : List (Nat × Int)} {h lo b off : Nat} {xs : List α} {Fb : Nat → Nat → Prop} (hw : Way E iso mn mx w H lo0 root X F0 st h lo b xs Fb off) {j : Nat} (hj : j < xs.length) : X[off + j]? = xs[j]? := by
  obtain ⟨A, C, hX, hA⟩ := hw.at
  rw [hX, List.append_assoc, List.getElem?_append_right (by omega), show off + j - A.length = j by omega, List.getElem?_append_left hj]
theorem Way.le {st : List (Nat × Int)} {h lo b off : Nat} {xs : List α} {Fb : Nat → Nat → Prop} (hw : Way E iso mn mx w H lo0 root X F0 st h lo b xs Fb off) : off + xs.length ≤ X.length := by
  obtain ⟨A, C, hX, hA⟩ := hw.at
  rw [hX]; simp only [List.length_append]; omega
/-- The last step of a way, taken back. -/
theorem Way.up {st : List (Nat × Int)} {h lo b off : Nat} {xs : List α} {Fb : Nat → Nat → Prop} {p : Nat × Int} {L : List (Nat × Int)} (hw : Way E iso mn mx w H lo0 root X F0 L h lo b xs Fb off) (hL : L = st ++ [p]) :
    ∃ lo' b' off' bi oi cap bc ba oa capc i xs' ks Fb' cs c, p = (b', ((i : Nat) : Int)) ∧ Way E iso mn mx w H lo0 root X F0 st (h + 1) lo' b' xs' Fb' off' ∧ Own E w b' iso xs'.length bi oi cap ks (ptr bc) ∧ Inn E iso mn mx h w b' xs' Fb' bi oi cap ks bc ba oa capc cs ∧ cs[i]? = some c ∧
      c.b = b ∧ c.xs = xs ∧ off = off' + (fr (cs.map Kid.xs) ks i).length := by
  cases hw with
  | root => simp at hL
  | down hw ho n hc =>
    have := List.append_inj' hL rfl
    obtain ⟨rfl, hp⟩ := this
    simp only [List.cons.injEq, and_true] at hp
    subst hp
    exact ⟨_, _, _, _, _, _, _, _, _, _, _, _, _, _, _, _, rfl, hw, ho, n, hc, rfl, rfl, rfl⟩
/-- The place of an item: in a leaf, or a node's key. -/
def Cur (E : Enc α) (iso : Int) (mn mx : Nat) (w : World) (H lo0 root : Nat) (X : List α) (F0 : Nat → Nat → Prop) (full : List (Nat × Int)) (p : Nat) : Prop :=
  ∃ st b h lo off xs Fb, ∃ j : Nat, full = st ++ [(b, (j : Int))] ∧ Way E iso mn mx w H lo0 root X F0 st h lo b xs Fb off ∧
    ((h = 0 ∧ j < xs.length ∧ p = off + j) ∨
     ∃ h' bi oi cap ks bc ba oa capc cs c, h = h' + 1 ∧ Own E w b iso xs.length bi oi cap ks (ptr bc) ∧ Inn E iso mn mx h' w b xs Fb bi oi cap ks bc ba oa capc cs ∧ cs[j]? = some c ∧ j < ks.length ∧ p = off + (fr (cs.map Kid.xs) ks j).length + c.xs.length)
/-- The item at a place, in memory and in the list. -/
theorem Cur.item (ht : Tr E iso mn mx H w lo0 root X F0) {full : List (Nat × Int)} {p : Nat} (hc : Cur E iso mn mx w H lo0 root X F0 full p) :
    ∃ st b, ∃ j : Nat, ∃ bi oi cap ks ch x, ∃ cnt : Int, full = st ++ [(b, (j : Int))] ∧ Own E w b iso cnt bi oi cap ks ch ∧ (∀ y o, ownF E b bi oi cap y o → F0 y o) ∧ ks[j]? = some x ∧ X[p]? = some x := by
  obtain ⟨st, b, h, lo, off, xs, Fb, j, rfl, hw, ⟨rfl, hj, rfl⟩ | ⟨h', bi, oi, cap, ks, bc, ba, oa, capc, cs, c, rfl, ho, n, hcs, hj, rfl⟩⟩ := hc
  · obtain ⟨bi, oi, cap, ks, ch, ho, _, _, hF, ⟨_, _, rfl, _⟩ | ⟨h', _, _, _, _, _, h0, _⟩⟩ := (hw.tr ht).open
    · refine ⟨st, b, j, bi, oi, cap, xs, ch, xs[j], _, rfl, ho, fun y o g => hw.sub y o (hF y o g), List.getElem?_eq_getElem hj, ?_⟩
      rw [hw.get hj]; exact List.getElem?_eq_getElem hj
    · cases h0
  · refine ⟨st, b, j, bi, oi, cap, ks, _, ks[j], _, rfl, ho, fun y o g => hw.sub y o ((n.fp y o).2 (.inl g)), List.getElem?_eq_getElem hj, ?_⟩
    obtain ⟨c', hc'⟩ := n.kid (i := j + 1) hj
    have hx := n.xs hc'
    rw [fr_step (Kid.at hcs) (List.getElem?_eq_getElem hj)] at hx
    have hl : (fr (cs.map Kid.xs) ks j).length + c.xs.length < xs.length := by rw [hx]; simp only [List.length_append, List.length_singleton]; omega
    rw [Nat.add_assoc, hw.get hl]
    conv => lhs; rw [hx]
    simp only [List.append_assoc]
    rw [List.getElem?_append_right (by omega), show (fr (cs.map Kid.xs) ks j).length + c.xs.length - (fr (cs.map Kid.xs) ks j).length = c.xs.length by omega, List.getElem?_append_right (Nat.le_refl _), Nat.sub_self]
    rfl
theorem Cur.lt (ht : Tr E iso mn mx H w lo0 root X F0) {full : List (Nat × Int)} {p : Nat} (hc : Cur E iso mn mx w H lo0 root X F0 full p) : p < X.length := by
  obtain ⟨_, _, _, _, _, _, _, _, _, _, _, _, _, _, h⟩ := hc.item ht
  exact (List.getElem?_eq_some_iff.1 h).1
/-- What comes behind a subtree: nothing, or the node's key, or what comes behind the node. -/
theorem Way.next {st : List (Nat × Int)} {h lo b off : Nat} {xs : List α} {Fb : Nat → Nat → Prop} (hw : Way E iso mn mx w H lo0 root X F0 st h lo b xs Fb off) :
    (st = [] ∧ off + xs.length = X.length) ∨ ∃ st' lo' b' off' bi oi cap bc ks, ∃ i : Nat, ∃ xs' Fb', st = st' ++ [(b', (i : Int))] ∧ Way E iso mn mx w H lo0 root X F0 st' (h + 1) lo' b' xs' Fb' off' ∧ Own E w b' iso xs'.length bi oi cap ks (ptr bc) ∧ (∀ y o, ownF E b' bi oi cap y o → Fb' y o) ∧
      ((i < ks.length ∧ Cur E iso mn mx w H lo0 root X F0 st (off + xs.length)) ∨ (i = ks.length ∧ off' + xs'.length = off + xs.length)) := by
  rcases List.eq_nil_or_concat st with hst | ⟨st', p, hst⟩
  · subst hst
    refine .inl ⟨rfl, ?_⟩
    have : ∀ {L : List (Nat × Int)}, Way E iso mn mx w H lo0 root X F0 L h lo b xs Fb off → L = [] → off + xs.length = X.length := fun hw hL => by
      cases hw with
      | root => simp
      | down hw ho n hc => simp at hL
    exact this hw rfl
  · right
    rw [List.concat_eq_append] at hst
    obtain ⟨lo', b', off', bi, oi, cap, bc, ba, oa, capc, i, xs', ks, Fb', cs, c, rfl, hw', ho, n, hc, rfl, rfl, rfl⟩ := hw.up hst
    refine ⟨st', lo', b', off', bi, oi, cap, bc, ks, i, xs', Fb', hst, hw', ho, fun y o g => (n.fp y o).2 (.inl g), ?_⟩
    rcases Nat.lt_or_ge i ks.length with hi | hi
    · exact .inl ⟨hi, st', b', _, lo', off', xs', Fb', i, hst, hw', .inr ⟨h, bi, oi, cap, ks, bc, ba, oa, capc, cs, c, rfl, ho, n, hc, hi, rfl⟩⟩
    · obtain rfl : i = ks.length := by have := n.le hc; omega
      refine .inr ⟨rfl, ?_⟩
      conv => lhs; rw [n.eq, fr_all (by simpa using n.len) (Kid.at hc)]
      rw [List.length_append]; omega
/-- What comes ahead of a subtree: nothing, or a key, or what comes ahead of the node. -/
theorem Way.prev {st : List (Nat × Int)} {h lo b off : Nat} {xs : List α} {Fb : Nat → Nat → Prop} (hw : Way E iso mn mx w H lo0 root X F0 st h lo b xs Fb off) :
    (st = [] ∧ off = 0) ∨ ∃ st' lo' b' off', ∃ i : Nat, ∃ xs' Fb', st = st' ++ [(b', (i : Int))] ∧ Way E iso mn mx w H lo0 root X F0 st' (h + 1) lo' b' xs' Fb' off' ∧
      ((0 < i ∧ 0 < off ∧ Cur E iso mn mx w H lo0 root X F0 (st' ++ [(b', ((i - 1 : Nat) : Int))]) (off - 1)) ∨ (i = 0 ∧ off' = off)) := by
  rcases List.eq_nil_or_concat st with hst | ⟨st', p, hst⟩
  · subst hst
    refine .inl ⟨rfl, ?_⟩
    have : ∀ {L : List (Nat × Int)}, Way E iso mn mx w H lo0 root X F0 L h lo b xs Fb off → L = [] → off = 0 := fun hw hL => by
      cases hw with
      | root => rfl
      | down hw ho n hc => simp at hL
    exact this hw rfl
  · right
    rw [List.concat_eq_append] at hst
    obtain ⟨lo', b', off', bi, oi, cap, bc, ba, oa, capc, i, xs', ks, Fb', cs, c, rfl, hw', ho, n, hc, rfl, rfl, rfl⟩ := hw.up hst
    refine ⟨st', lo', b', off', i, xs', Fb', hst, hw', ?_⟩
    rcases Nat.eq_zero_or_pos i with hi | hi
    · subst hi
      exact .inr ⟨rfl, by rw [fr_zero]; rfl⟩
    · have hle := n.le hc
      obtain ⟨c0, hc0⟩ := n.kid (i := i - 1) (by omega)
      obtain ⟨k, hk⟩ : ∃ k, ks[i - 1]? = some k := ⟨_, List.getElem?_eq_getElem (by omega)⟩
      have hf := fr_step (Kid.at hc0) hk
      rw [show i - 1 + 1 = i by omega] at hf
      have hl := congrArg List.length hf
      simp only [List.length_append, List.length_singleton] at hl
      exact .inl ⟨hi, by omega, st', b', _, lo', off', xs', Fb', i - 1, rfl, hw', .inr ⟨h, bi, oi, cap, ks, bc, ba, oa, capc, cs, c0, rfl, ho, n, hc0, by omega, by omega⟩⟩
theorem Way.ext {w' : World} {G : Nat → Nat → Prop} (x : Ext G w w') (hG : ∀ y o, F0 y o → ¬ G y o) {st : List (Nat × Int)} {h lo b off : Nat} {xs : List α} {Fb : Nat → Nat → Prop} (hw : Way E iso mn mx w H lo0 root X F0 st h lo b xs Fb off) : Way E iso mn mx w' H lo0 root X F0 st h lo b xs Fb off := by
  induction hw with
  | root => exact .root
  | down hw ho n hc ih =>
    exact .down ih (ho.ext x fun y o g => hG y o (hw.sub y o ((n.fp y o).2 (.inl g)))) (n.ext x (fun y o g => hG y o (hw.sub y o ((n.fp y o).2 (.inr (.inl g))))) fun c hc y o g => hG y o (hw.sub y o ((n.fp y o).2 (.inr (.inr ⟨c, hc, g⟩))))) hc
theorem Cur.ext {w' : World} {G : Nat → Nat → Prop} (x : Ext G w w') (hG : ∀ y o, F0 y o → ¬ G y o) {full : List (Nat × Int)} {p : Nat} (hc : Cur E iso mn mx w H lo0 root X F0 full p) : Cur E iso mn mx w' H lo0 root X F0 full p := by
  obtain ⟨st, b, h, lo, off, xs, Fb, j, hf, hw, hh⟩ := hc
  refine ⟨st, b, h, lo, off, xs, Fb, j, hf, hw.ext x hG, hh.imp id ?_⟩
  rintro ⟨h', bi, oi, cap, ks, bc, ba, oa, capc, cs, c, h1, ho, n, h2⟩
  exact ⟨h', bi, oi, cap, ks, bc, ba, oa, capc, cs, c, h1, ho.ext x fun y o g => hG y o (hw.sub y o ((n.fp y o).2 (.inl g))), n.ext x (fun y o g => hG y o (hw.sub y o ((n.fp y o).2 (.inr (.inl g))))) (fun c hc y o g => hG y o (hw.sub y o ((n.fp y o).2 (.inr (.inr ⟨c, hc, g⟩))))), h2⟩
/-- The place ahead of the next item's: its node's place is one less. -/
def NxAt (E : Enc α) (iso : Int) (mn mx : Nat) (w : World) (H lo0 root : Nat) (X : List α) (F0 : Nat → Nat → Prop) (full : List (Nat × Int)) (q : Nat) : Prop :=
  ∃ st b h lo off xs Fb, ∃ j : Nat, full = st ++ [(b, (j : Int) - 1)] ∧ Way E iso mn mx w H lo0 root X F0 st h lo b xs Fb off ∧
    ((h = 0 ∧ j ≤ xs.length ∧ q = off + j) ∨
     ∃ h' bi oi cap ks bc ba oa capc cs c, h = h' + 1 ∧ Own E w b iso xs.length bi oi cap ks (ptr bc) ∧ Inn E iso mn mx h' w b xs Fb bi oi cap ks bc ba oa capc cs ∧ cs[j]? = some c ∧ q = off + (fr (cs.map Kid.xs) ks j).length)
theorem Cur.nx {full : List (Nat × Int)} {p : Nat} (hc : Cur E iso mn mx w H lo0 root X F0 full p) : NxAt E iso mn mx w H lo0 root X F0 full (p + 1) := by
  obtain ⟨st, b, h, lo, off, xs, Fb, j, rfl, hw, ⟨h0, hj, rfl⟩ | ⟨h', bi, oi, cap, ks, bc, ba, oa, capc, cs, c, rfl, ho, n, hcs, hj, rfl⟩⟩ := hc
  · exact ⟨st, b, h, lo, off, xs, Fb, j + 1, by simp, hw, .inl ⟨h0, hj, by omega⟩⟩
  · obtain ⟨c', hc'⟩ := n.kid (i := j + 1) hj
    refine ⟨st, b, _, lo, off, xs, Fb, j + 1, by simp, hw, .inr ⟨h', bi, oi, cap, ks, bc, ba, oa, capc, cs, c', rfl, ho, n, hc', ?_⟩⟩
    rw [fr_step (Kid.at hcs) (List.getElem?_eq_getElem hj)]
    simp only [List.length_append, List.length_singleton]
    omega
theorem Cur.depth {full : List (Nat × Int)} {p : Nat} (hc : Cur E iso mn mx w H lo0 root X F0 full p) : full.length ≤ H + 1 := by
  obtain ⟨st, b, h, lo, off, xs, Fb, j, rfl, hw, _⟩ := hc
  have := hw.len
  rw [List.length_append, List.length_singleton]; omega
theorem NxAt.depth {full : List (Nat × Int)} {p : Nat} (hc : NxAt E iso mn mx w H lo0 root X F0 full p) : full.length ≤ H + 1 := by
  obtain ⟨st, b, h, lo, off, xs, Fb, j, rfl, hw, _⟩ := hc
  have := hw.len
  rw [List.length_append, List.length_singleton]; omega
end
end Go.Proofs.Ytanmjbkbdmeckaa
/-
  Walks down a tree that change the counts on their way, and take the changes back or make a change at the end. For items of whatever make; no program. No condition.
-/
set_option linter.unusedSimpArgs false
set_option linter.unusedVariables false
namespace Go.Proofs.Ytanmjbkbdmeckaa
open Go
variable {α : Type} {E : Enc α} {iso : Int} {mn mx : Nat}
theorem Ext.heal {F : Nat → Nat → Prop} {w w' : World} (h : Ext F w w') {b o : Nat} {v : Value} (h1 : Go.Proofs.Ytanmjbkbdmeckaa.rd w b o = some v) (h2 : Go.Proofs.Ytanmjbkbdmeckaa.rd w' b o = some v) : Ext (fun y p => F y p ∧ ¬ (y = b ∧ p = o)) w w' := by
  refine ⟨h.os, h.output, h.tape, h.size, fun y arr T fr hy => ?_, h.other⟩
  obtain ⟨arr', g1, g2, g3⟩ := h.cells y arr T fr hy
  refine ⟨arr', g1, g2, fun p hp => ?_⟩
  by_cases hb : y = b ∧ p = o
  · obtain ⟨rfl, rfl⟩ := hb
    rw [rd_of hy] at h1
    rw [rd_of g1] at h2
    rw [h1, h2]
  · exact g3 p fun hf => hp ⟨hf, hb⟩
/-- The child that is chosen by the number of children. -/
def selKid (sel : Nat → Nat) (w : World) (b c : Nat) : Prop :=
  ∃ bc ba oa n cap, rd w b 3 = some (ptr bc) ∧ rd w bc 0 = some (.slice (some ⟨ba, oa, none⟩) n cap) ∧ rd w ba (oa + sel n) = some (ptr c)
theorem selKid.uniq {sel : Nat → Nat} {w : World} {b c c' : Nat} (h : selKid sel w b c) (h' : selKid sel w b c') : c = c' := by
  obtain ⟨bc, ba, oa, n, cap, h1, h2, h3⟩ := h
  obtain ⟨bc', ba', oa', n', cap', g1, g2, g3⟩ := h'
  rw [h1] at g1; simp only [ptr, Option.some.injEq, Value.pointer.injEq, Addr.mk.injEq, and_true] at g1; subst g1
  rw [h2] at g2; simp only [Option.some.injEq, Value.slice.injEq, Addr.mk.injEq, and_true] at g2
  obtain ⟨⟨rfl, rfl⟩, rfl, rfl⟩ := g2
  rw [h3] at g3; simp only [ptr, Option.some.injEq, Value.pointer.injEq, Addr.mk.injEq, and_true] at g3
  exact g3
/-- The nodes on the way down. -/
def RS (sel : Nat → Nat) (w : World) : Nat → Nat → Nat → Prop
  | 0, b, y => y = b
  | h + 1, b, y => y = b ∨ ∃ c, selKid sel w b c ∧ RS sel w h c y
theorem Inn.sel {h : Nat} {w : World} {b : Nat} {xs : List α} {F : Nat → Nat → Prop} {bi oi cap : Nat} {ks : List α} {bc ba oa capc : Nat} {cs : List (Kid α)} (n : Inn E iso mn mx h w b xs F bi oi cap ks bc ba oa capc cs)
    (h3 : rd w b 3 = some (ptr bc)) {sel : Nat → Nat} {c : Kid α} (hc : cs[sel cs.length]? = some c) : selKid sel w b c.b := by
  refine ⟨bc, ba, oa, _, capc, h3, n.kids.c0, ?_⟩
  rw [List.length_map]
  exact n.kids.row _ _ (by rw [List.getElem?_map, List.getElem?_map, hc]; rfl)
theorem Inn.rs {h : Nat} {w : World} {b : Nat} {xs : List α} {F : Nat → Nat → Prop} {bi oi cap : Nat} {ks : List α} {bc ba oa capc : Nat} {cs : List (Kid α)} (n : Inn E iso mn mx h w b xs F bi oi cap ks bc ba oa capc cs)
    (h3 : rd w b 3 = some (ptr bc)) {sel : Nat → Nat} {c : Kid α} (hc : cs[sel cs.length]? = some c) (y : Nat) : RS sel w (h + 1) b y ↔ y = b ∨ RS sel w h c.b y := by
  have hs := n.sel h3 hc
  constructor
  · rintro (h | ⟨c', h1, h2⟩)
    · exact .inl h
    · rw [h1.uniq hs] at h2; exact .inr h2
  · rintro (h | h)
    · exact .inl h
    · exact .inr ⟨_, hs, h⟩
theorem RS.sub {sel : Nat → Nat} (hsel : ∀ n, 0 < n → sel n < n) {w : World} : ∀ {h lo b : Nat} {xs : List α} {F : Nat → Nat → Prop}, Tr E iso mn mx h w lo b xs F → ∀ y, RS sel w h b y → ∀ o, F y o
  | 0, _, _, _, _, ht, y, hy, o => by rw [show y = _ from hy]; exact ht.self o
  | h + 1, _, b, _, F, ht, y, hy, o => by
    obtain ⟨bi, oi, cap, ks, ch, ho, _, _, hsub, ⟨h0, _⟩ | ⟨h', bc, ba, oa, capc, cs, hh, rfl, n⟩⟩ := ht.open
    · omega
    · obtain rfl : h = h' := by omega
      obtain ⟨c, hc⟩ : ∃ c, cs[sel cs.length]? = some c := ⟨_, List.getElem?_eq_getElem (hsel _ (by have := n.len; omega))⟩
      rcases (n.rs ho.h3 hc y).1 hy with rfl | hy
      · exact hsub _ _ (.inl rfl)
      · exact (n.fp y o).2 (.inr (.inr ⟨c, List.mem_of_getElem? hc, RS.sub hsel (n.sub c (List.mem_of_getElem? hc)) y hy o⟩))
/-- The counts of some nodes are off. -/
structure Shift (δ : Int) (w0 w' : World) (D : Nat → Prop) : Prop where
  ext : Ext (fun y o => o = 1 ∧ D y) w0 w'
  cnt : ∀ y, D y → ∃ k : Int, rd w0 y 1 = some (.int .i64 k) ∧ rd w' y 1 = some (.int .i64 (k + δ))
theorem Shift.nil (δ : Int) (w : World) : Shift δ w w fun _ => False := ⟨Ext.refl _ _, fun _ h => h.elim⟩
theorem Shift.ro {δ : Int} {w0 w1 w2 : World} {D : Nat → Prop} (h : Shift δ w0 w1 D) (r : RO w1 w2) : Shift δ w0 w2 D :=
  ⟨h.ext.tr r.ext, fun y hy => by obtain ⟨k, h1, h2⟩ := h.cnt y hy; exact ⟨k, h1, (r.ext (F := noF)).rd h2 fun h => h⟩⟩
theorem Shift.congr {δ : Int} {w0 w1 : World} {D D' : Nat → Prop} (h : Shift δ w0 w1 D) (hd : ∀ y, D' y ↔ D y) : Shift δ w0 w1 D' :=
  ⟨h.ext.mono fun y o _ g => ⟨g.1, (hd y).2 g.2⟩, fun y hy => h.cnt y ((hd y).1 hy)⟩
/-- One more count is changed. -/
theorem Shift.add {δ : Int} {w0 w1 w2 : World} {D : Nat → Prop} (h : Shift δ w0 w1 D) {b : Nat} {k : Int} (hD : ¬ D b) (h0 : rd w0 b 1 = some (.int .i64 k)) (x : Ext (rng b 1 1) w1 w2) (h2 : rd w2 b 1 = some (.int .i64 (k + δ))) :
    Shift δ w0 w2 fun y => D y ∨ y = b := by
  refine ⟨(h.ext.mono fun y o _ g => ⟨g.1, .inl g.2⟩).trans x (fun _ _ g => g) fun y o _ g => ?_, fun y hy => ?_⟩
  · simp only [rng] at g; exact ⟨by omega, .inr g.1⟩
  · rcases hy with hy | rfl
    · obtain ⟨k', g1, g2⟩ := h.cnt y hy
      exact ⟨k', g1, x.rd g2 fun g => hD (by simp only [rng] at g; rw [← g.1]; exact hy)⟩
    · exact ⟨k, h0, h2⟩
/-- One count is taken back. -/
theorem Shift.undo {δ : Int} {w0 w1 w2 : World} {D : Nat → Prop} (h : Shift δ w0 w1 D) {b : Nat} {v : Value} (hD : D b) (h0 : rd w0 b 1 = some v) (x : Ext (rng b 1 1) w1 w2) (h2 : rd w2 b 1 = some v) :
    Shift δ w0 w2 fun y => D y ∧ y ≠ b := by
  have X : Ext (fun y o => o = 1 ∧ D y) w0 w2 := h.ext.trans x (fun _ _ g => g) fun y o _ g => by simp only [rng] at g; rw [g.1]; exact ⟨by omega, hD⟩
  refine ⟨(X.heal h0 h2).mono fun y o _ g => ⟨g.1.1, g.1.2, fun e => g.2 ⟨e, g.1.1⟩⟩, fun y hy => ?_⟩
  obtain ⟨k', g1, g2⟩ := h.cnt y hy.1
  exact ⟨k', g1, x.rd g2 fun g => hy.2 (by simp only [rng] at g; exact g.1)⟩
/-- A whole tree, but for the subtree at b: put in another one, whose length is off by δ, and it is a tree again. -/
def Hole (E : Enc α) (iso : Int) (mn mx H lo0 root : Nat) (F : Nat → Nat → Prop) (S : Nat) (w : World) (h lo b : Nat) (ys : List α) (Fb : Nat → Nat → Prop) (A C : List α) (δ : Int) : Prop :=
  ∀ (w2 : World) (ys' : List α) (Fb' : Nat → Nat → Prop), Ext Fb w w2 → Tr E iso mn mx h w2 lo b ys' Fb' → (∀ y o, Fb' y o → Fb y o ∨ w.heap.size ≤ y) → (ys'.length : Int) = ys.length + δ →
    ∃ F', Tr E iso mn mx H w2 lo0 root (A ++ ys' ++ C) F' ∧ ∀ y o, F' y o → F y o ∨ S ≤ y
theorem Hole.root {w : World} {h lo b S : Nat} {ys : List α} {F : Nat → Nat → Prop} {δ : Int} (hS : S ≤ w.heap.size) : Hole E iso mn mx h lo b F S w h lo b ys F [] [] δ :=
  fun w2 ys' Fb' _ ht hF _ => ⟨Fb', by simpa using ht, fun y o g => (hF y o g).imp id fun g => by omega⟩
theorem Hole.ro {H lo0 root S h lo b : Nat} {F Fb : Nat → Nat → Prop} {w w1 : World} {ys A C : List α} {δ : Int} (k : Hole E iso mn mx H lo0 root F S w h lo b ys Fb A C δ) (r : RO w w1) : Hole E iso mn mx H lo0 root F S w1 h lo b ys Fb A C δ := by
  intro w2 ys' Fb' x ht hF hl
  have hs : w1.heap.size = w.heap.size := by obtain ⟨n, rfl⟩ := r; rfl
  exact k w2 ys' Fb' (r.ext.tr x) ht (fun y o g => (hF y o g).imp id fun g => by omega) hl
/-- The hole goes down one level. -/
theorem Hole.down {H lo0 root S h lo b : Nat} {F Fb : Nat → Nat → Prop} {w w1 : World} {ys A C : List α} {δ : Int} (k : Hole E iso mn mx H lo0 root F S w (h + 1) lo b ys Fb A C δ)
    {bi oi cap : Nat} {ks : List α} {bc ba oa capc : Nat} {cs : List (Kid α)} (n : Inn E iso mn mx h w b ys Fb bi oi cap ks bc ba oa capc cs) (ho : Own E w b iso ys.length bi oi cap ks (ptr bc)) (h1 : lo ≤ ks.length) (h2 : ks.length ≤ mx)
    (x : Ext (rng b 1 1) w w1) (hc1 : rd w1 b 1 = some (.int .i64 (ys.length + δ))) {i : Nat} {c : Kid α} (hc : cs[i]? = some c) {A' C' : List α} (hw : WAt (cs.map Kid.xs) ks i A' C') :
    Hole E iso mn mx H lo0 root F S w1 h mn c.b c.xs c.F (A ++ A') (C' ++ C) δ := by
  intro w2 ys' Fb' x2 ht hF hl
  have hcm := List.mem_of_getElem? hc
  have hcx : (cs.map Kid.xs)[i]? = some c.xs := by rw [List.getElem?_map, hc]; rfl
  have hil := (List.getElem?_eq_some_iff.1 hc).1
  have s1 : w.heap.size ≤ w1.heap.size := x.size
  have hbw := wok_lt ho.wb
  have hbiw := wok_lt ho.wi
  have hcb : ∀ o, ¬ c.F b o := fun o g => n.ap.own c hcm _ _ g (.inl rfl)
  have hi1 : ∀ y o, c.F y o → ¬ ownF E b bi oi cap y o := fun y o g => n.ap.own c hcm y o g
  have n1 : Inn E iso mn mx h w1 b ys Fb bi oi cap ks bc ba oa capc cs := n.ext x (fun y o g hr => by
      simp only [rng] at hr
      rcases g with g | g
      · exact n.ap.cb (by omega)
      · exact n.ap.ab (by simp only [rng] at g; omega)) fun d hd y o g hr => by
    simp only [rng] at hr
    exact n.ap.own d hd y o g (.inl hr.1)
  have n2 := n1.child (c' := ⟨c.b, ys', Fb'⟩) hc x2 rfl ht hF (by omega) (by omega)
  have e1 := hw.eq hcx
  have e2 : weave ((cs.map Kid.xs).set i ys') ks = A' ++ ys' ++ C' := by
    exact hw.set ys'
  have hln : (((weave ((cs.map Kid.xs).set i ys') ks).length : Nat) : Int) = ys.length + δ := by
    rw [e2, n.eq, e1]
    simp only [List.length_append, Int.natCast_add]
    omega
  have ho2 : Own E w2 b iso ((weave ((cs.map Kid.xs).set i ys') ks).length : Nat) bi oi cap ks (ptr bc) := by
    have hr : ∀ o, o ≠ 1 → ¬ rng b 1 1 b o := fun o h g => by simp only [rng] at g; omega
    have q0 := x2.rd (x.rd ho.h0 (hr 0 (by decide))) (hcb 0)
    have q1 := x2.rd hc1 (hcb 1)
    have q2 := x2.rd (x.rd ho.h2 (hr 2 (by decide))) (hcb 2)
    have q3 := x2.rd (x.rd ho.h3 (hr 3 (by decide))) (hcb 3)
    rw [← hln] at q1
    exact ⟨q0, q1, q2, q3, x2.wok (x.wok ho.wb), x2.row (x.row ho.row fun j _ g => by simp only [rng] at g; have := ho.ne; omega) fun j hj g => hi1 _ _ g (.inr ⟨rfl, by omega, by rw [flat_length] at hj; have := Nat.mul_le_mul_right E.sz ho.le; omega⟩),
      x2.wok (x.wok ho.wi), ho.le, ho.ne⟩
  have htr := n2.tr (lo := lo) ho2 h1 h2
  have key := k w2 _ _ ?_ htr ?_ hln
  · obtain ⟨F', g1, g2⟩ := key
    refine ⟨F', ?_, g2⟩
    rw [e2] at g1
    simpa [List.append_assoc] using g1
  · refine (x.mono fun y o _ g => ?_).trans x2 (fun _ _ g => g) fun y o _ g => (n.fp y o).2 (.inr (.inr ⟨c, hcm, g⟩))
    simp only [rng] at g; rw [g.1]; exact (n.fp _ _).2 (.inl (.inl rfl))
  · intro y o g
    rcases g with g | g | ⟨d, hd, g⟩
    · exact .inl ((n.fp y o).2 (.inl g))
    · exact .inl ((n.fp y o).2 (.inr (.inl g)))
    · rw [List.set_eq_take_append_cons_drop, if_pos hil] at hd
      rcases List.mem_append.1 hd with hd | hd
      · exact .inl ((n.fp y o).2 (.inr (.inr ⟨d, List.mem_of_mem_take hd, g⟩)))
      · rcases List.mem_cons.1 hd with rfl | hd
        · rcases hF y o g with g | g
          · exact .inl ((n.fp y o).2 (.inr (.inr ⟨c, hcm, g⟩)))
          · exact .inr (by omega)
        · exact .inl ((n.fp y o).2 (.inr (.inr ⟨d, List.mem_of_mem_drop hd, g⟩)))
end Go.Proofs.Ytanmjbkbdmeckaa
/-
  Ways down a tree whose nodes' counts are changed: the way's nodes are different ones, and a tree is a tree again when a subtree is one shorter. For items of whatever make; no program. No condition.
-/
set_option linter.unusedSimpArgs false
set_option linter.unusedVariables false
namespace Go.Proofs.Ytanmjbkbdmeckaa
open Go
section
variable {α : Type} {E : Enc α} {iso : Int} {mn mx : Nat} {w : World} {H lo0 root : Nat} {X : List α} {F0 : Nat → Nat → Prop}
theorem Way.out {st : List (Nat × Int)} {h lo b off : Nat} {xs : List α} {Fb : Nat → Nat → Prop} (hw : Way E iso mn mx w H lo0 root X F0 st h lo b xs Fb off) : ∀ y ∈ st.map Prod.fst, ∀ o, ¬ Fb y o := by
  induction hw with
  | root => intro y hy; simp at hy
  | down hw ho n hc ih =>
    intro y hy o g
    have hcm := List.mem_of_getElem? hc
    rw [List.map_append, List.mem_append] at hy
    rcases hy with hy | hy
    · exact ih y hy o ((n.fp y o).2 (.inr (.inr ⟨_, hcm, g⟩)))
    · simp only [List.map_cons, List.map_nil, List.mem_singleton] at hy
      subst hy
      exact n.ap.own _ hcm _ o g (.inl rfl)
theorem Way.nodup (ht : Tr E iso mn mx H w lo0 root X F0) {st : List (Nat × Int)} {h lo b off : Nat} {xs : List α} {Fb : Nat → Nat → Prop} (hw : Way E iso mn mx w H lo0 root X F0 st h lo b xs Fb off) : (st.map Prod.fst ++ [b]).Nodup := by
  induction hw with
  | root => simp
  | down hw ho n hc ih =>
    have hcm := List.mem_of_getElem? hc
    rw [List.map_append]
    refine List.nodup_append.2 ⟨by simpa using ih, by simp, fun y hy z hz => ?_⟩
    simp only [List.mem_singleton] at hz
    subst hz
    intro e
    rw [← List.map_append] at hy
    exact (Way.down hw ho n hc).out y hy 0 (e ▸ (n.sub _ hcm).self 0)
theorem splice {A B C D : List α} : (A ++ B ++ C).take A.length ++ D ++ (A ++ B ++ C).drop (A.length + B.length) = A ++ D ++ C := by
  rw [List.append_assoc A B C, List.take_left' rfl, List.drop_append, List.drop_eq_nil_of_le (by omega), List.nil_append, Nat.add_sub_cancel_left, List.drop_left' rfl]
theorem kidF_set {cs : List (Kid α)} {i : Nat} {c c' : Kid α} (hc : cs[i]? = some c) (hF : c'.F = c.F) : (cs.set i c').map Kid.F = cs.map Kid.F := by
  rw [List.map_set, hF]
  have : (cs.map Kid.F)[i]? = some c.F := by rw [List.getElem?_map, hc]; rfl
  obtain ⟨g1, g2⟩ := List.getElem?_eq_some_iff.1 this
  rw [← g2]; exact List.set_getElem_self g1
theorem kidb_set {cs : List (Kid α)} {i : Nat} {c c' : Kid α} (hc : cs[i]? = some c) (hF : c'.b = c.b) : (cs.set i c').map Kid.b = cs.map Kid.b := by
  rw [List.map_set, hF]
  have : (cs.map Kid.b)[i]? = some c.b := by rw [List.getElem?_map, hc]; rfl
  obtain ⟨g1, g2⟩ := List.getElem?_eq_some_iff.1 this
  rw [← g2]; exact List.set_getElem_self g1
theorem memF_iff {cs : List (Kid α)} {y o : Nat} : (∃ c ∈ cs, c.F y o) ↔ ∃ F ∈ cs.map Kid.F, F y o :=
  ⟨fun ⟨c, h1, h2⟩ => ⟨c.F, List.mem_map_of_mem h1, h2⟩, fun ⟨F, h1, h2⟩ => by obtain ⟨c, h3, rfl⟩ := List.mem_map.1 h1; exact ⟨c, h3, h2⟩⟩
theorem mem_set_or {cs : List (Kid α)} {i : Nat} {c' d : Kid α} (h : d ∈ cs.set i c') : d = c' ∨ ∃ j, j ≠ i ∧ cs[j]? = some d := by
  obtain ⟨j, hj⟩ := List.getElem?_of_mem h
  rw [List.getElem?_set] at hj
  by_cases hij : i = j
  · rw [if_pos hij] at hj
    split at hj
    · cases hj; exact .inl rfl
    · cases hj
  · rw [if_neg hij] at hj; exact .inr ⟨j, fun h => hij h.symm, hj⟩
theorem Way.fill (ht : Tr E iso mn mx H w lo0 root X F0) {w2 : World} {st : List (Nat × Int)} {h lo b off : Nat} {xs xs' : List α} {Fb : Nat → Nat → Prop} (hw : Way E iso mn mx w H lo0 root X F0 st h lo b xs Fb off) (hl : xs'.length + 1 = xs.length)
    (t2 : Tr E iso mn mx h w2 lo b xs' Fb) (x : Ext (fun y o => Fb y o ∨ (o = 1 ∧ y ∈ st.map Prod.fst)) w w2) (hcn : ∀ y ∈ st.map Prod.fst, ∃ k : Int, rd w y 1 = some (.int .i64 k) ∧ rd w2 y 1 = some (.int .i64 (k - 1))) :
    Tr E iso mn mx H w2 lo0 root (X.take off ++ xs' ++ X.drop (off + xs.length)) F0 := by
  induction hw generalizing xs' with
  | root => simpa using t2
  | @down st h lo b xs Fb off bi oi cap ks bc ba oa capc cs i c hw ho n hc ih =>
    have hcm := List.mem_of_getElem? hc
    have hout := hw.out
    have hself := (hw.tr ht).self
    obtain ⟨bi', oi', cap', ks', ch', ho2, hlo, hmx, hsub, -⟩ := (hw.tr ht).open
    have hkl : ks'.length = ks.length := by
      have e1 := ho.h2
      have e2 := ho2.h2
      rw [e1] at e2
      simp only [Option.some.injEq, Value.slice.injEq, Addr.mk.injEq, and_true] at e2
      omega
    have hFb : ∀ y o, ownF E b bi oi cap y o → Fb y o := fun y o g => (n.fp y o).2 (.inl g)
    have hkF : ∀ y o, kidF bc ba oa capc y o → Fb y o := fun y o g => (n.fp y o).2 (.inr (.inl g))
    have hb1 : b ∈ (st ++ [(b, (i : Int))]).map Prod.fst := by simp
    have hx0 : ∀ y o, Fb y o → (c.F y o ∨ (o = 1 ∧ y ∈ (st ++ [(b, (i : Int))]).map Prod.fst)) → c.F y o ∨ (o = 1 ∧ y = b) := fun y o g k => k.imp id fun k => ⟨k.1, by
      have := k.2
      rw [List.map_append, List.mem_append] at this
      rcases this with h | h
      · exact (hout y h o g).elim
      · simpa using h⟩
    obtain ⟨k, hk1, hk2⟩ := hcn b hb1
    rw [ho.h1, Option.some.injEq, Value.int.injEq] at hk1
    obtain ⟨-, rfl⟩ := hk1
    have hxs := n.xs hc
    have hwv : weave ((cs.map Kid.xs).set i xs') ks = fr (cs.map Kid.xs) ks i ++ xs' ++ tl (cs.map Kid.xs) ks i := by
      have hlen : (cs.map Kid.xs).length = ks.length + 1 := by simpa using n.len
      obtain ⟨A, hA⟩ := weave_tl i (cs.map Kid.xs) ks hlen (n.le hc)
      have hAf := hA.is_fr hlen (n.le hc) (Kid.at hc)
      subst hAf
      exact hA.set xs'
    obtain ⟨ys, hys⟩ : ∃ ys, ys = fr (cs.map Kid.xs) ks i ++ xs' ++ tl (cs.map Kid.xs) ks i := ⟨_, rfl⟩
    have hyl : ys.length + 1 = xs.length := by rw [hys, hxs]; simp only [List.length_append]; omega
    have hob : ∀ y o, ownF E b bi oi cap y o → o ≠ 1 ∨ y ≠ b → ¬ (c.F y o ∨ (o = 1 ∧ y ∈ (st ++ [(b, (i : Int))]).map Prod.fst)) := fun y o g h k => by
      rcases hx0 y o (hFb y o g) k with k | k
      · exact n.ap.own c hcm y o k g
      · rcases h with h | h
        · exact h k.1
        · exact h k.2
    have ho3 : Own E w2 b iso ys.length bi oi cap ks (ptr bc) := by
      refine ⟨x.rd ho.h0 (hob _ _ (.inl rfl) (.inl (by decide))), ?_, x.rd ho.h2 (hob _ _ (.inl rfl) (.inl (by decide))), x.rd ho.h3 (hob _ _ (.inl rfl) (.inl (by decide))), x.wok ho.wb, x.row ho.row fun j hj => hob _ _ (.inr ⟨rfl, by omega, ?_⟩) (.inr ho.ne), x.wok ho.wi, ho.le, ho.ne⟩
      · rw [hk2, show ((xs.length : Nat) : Int) - 1 = (ys.length : Nat) by omega]
      · rw [flat_length] at hj; have := Nat.mul_le_mul_right E.sz ho.le; omega
    have hk3 : Kids w2 bc ba oa capc ((cs.set i ⟨c.b, xs', c.F⟩).map Kid.b) := by
      rw [kidb_set (c' := (⟨c.b, xs', c.F⟩ : Kid α)) hc rfl]
      refine n.kids.ext x fun y o g k => ?_
      rcases hx0 y o (hkF y o g) k with k | k
      · exact n.ap.kid c hcm y o k g
      · rw [k.2] at g
        rcases g with g | g
        · exact n.ap.cb g.symm
        · exact n.ap.ab g.1.symm
    have tr3 : Tr E iso mn mx (h + 1) w2 lo b ys Fb := by
      refine ⟨bi, oi, cap, bc, ba, oa, capc, ks, cs.set i ⟨c.b, xs', c.F⟩, ho3, hk3, by omega, by omega, by rw [List.length_set]; exact n.len, ?_, fun d hd => ?_, ?_, fun y o => ?_⟩
      · rw [hys, ← hwv, List.map_set]
      · rcases mem_set_or hd with rfl | ⟨j, hj, hd⟩
        · exact t2
        · have hdm := List.mem_of_getElem? hd
          refine (n.sub d hdm).ext x fun y o g k => ?_
          rcases hx0 y o ((n.fp y o).2 (.inr (.inr ⟨d, hdm, g⟩))) k with k | k
          · obtain ⟨j1, j2⟩ := List.getElem?_eq_some_iff.1 hd
            obtain ⟨i1, i2⟩ := List.getElem?_eq_some_iff.1 hc
            have hp := List.pairwise_iff_getElem.1 n.ap.two
            rcases Nat.lt_or_gt_of_ne hj with hlt | hlt
            · exact hp j i j1 i1 hlt y o (by rw [j2]; exact g) (by rw [i2]; exact k)
            · exact hp i j i1 j1 hlt y o (by rw [i2]; exact k) (by rw [j2]; exact g)
          · rw [k.2] at g
            exact n.ap.own d hdm b o g (.inl rfl)
      · have hm : ∀ d ∈ cs.set i ⟨c.b, xs', c.F⟩, ∃ d' ∈ cs, d'.F = d.F := fun d hd => by
          rcases mem_set_or hd with rfl | ⟨j, _, hd⟩
          · exact ⟨c, hcm, rfl⟩
          · exact ⟨d, List.mem_of_getElem? hd, rfl⟩
        refine ⟨n.ap.cb, n.ap.ab, n.ap.ic, n.ap.ia, fun d hd => ?_, fun d hd => ?_, ?_⟩
        · obtain ⟨d', h1, h2⟩ := hm d hd
          rw [← h2]; exact n.ap.own d' h1
        · obtain ⟨d', h1, h2⟩ := hm d hd
          rw [← h2]; exact n.ap.kid d' h1
        · have h1 : (cs.map Kid.F).Pairwise fun F G => ∀ x o, F x o → ¬ G x o := List.pairwise_map.2 n.ap.two
          rw [← kidF_set (c' := (⟨c.b, xs', c.F⟩ : Kid α)) hc rfl] at h1
          exact List.pairwise_map.1 h1
      · rw [n.fp y o, memF_iff, memF_iff, kidF_set (c' := (⟨c.b, xs', c.F⟩ : Kid α)) hc rfl]
    have key := ih hyl tr3 (x.mono fun y o _ g => ?_) fun y hy => hcn y (by rw [List.map_append, List.mem_append]; exact .inl hy)
    · obtain ⟨A, C, hX, hA⟩ := hw.at
      subst hA
      have e1 : X = (A ++ fr (cs.map Kid.xs) ks i) ++ c.xs ++ (tl (cs.map Kid.xs) ks i ++ C) := by
        rw [hX]; conv => lhs; rw [hxs]
        simp only [List.append_assoc]
      have e2 : X.take A.length ++ ys ++ X.drop (A.length + xs.length) = A ++ ys ++ C := by rw [hX]; exact splice
      have e3 : X.take (A.length + (fr (cs.map Kid.xs) ks i).length) ++ xs' ++ X.drop (A.length + (fr (cs.map Kid.xs) ks i).length + c.xs.length) = (A ++ fr (cs.map Kid.xs) ks i) ++ xs' ++ (tl (cs.map Kid.xs) ks i ++ C) := by
        have := splice (A := A ++ fr (cs.map Kid.xs) ks i) (B := c.xs) (C := tl (cs.map Kid.xs) ks i ++ C) (D := xs')
        rw [List.length_append, ← e1] at this
        exact this
      rw [e3]
      rw [e2, hys] at key
      simpa only [List.append_assoc] using key
    · rcases g with g | ⟨g1, g2⟩
      · exact .inl ((n.fp y o).2 (.inr (.inr ⟨c, hcm, g⟩)))
      · rw [List.map_append, List.mem_append] at g2
        rcases g2 with g2 | g2
        · exact .inr ⟨g1, g2⟩
        · have : y = b := by simpa using g2
          rw [this]; exact .inl (hself o)
/-- From a node of the way to the next one. -/
theorem Way.step (ht : Tr E iso mn mx H w lo0 root X F0) {st : List (Nat × Int)} {h lo b off : Nat} {xs : List α} {Fb : Nat → Nat → Prop} (hw : Way E iso mn mx w H lo0 root X F0 st h lo b xs Fb off) :
    ∀ (j y : Nat) (i : Int), st[j]? = some (y, i) → ∃ bc ba oa n capc i' z, i = ((i' : Nat) : Int) ∧ i' < n ∧ rd w y 3 = some (ptr bc) ∧ rd w bc 0 = some (.slice (some ⟨ba, oa, none⟩) n capc) ∧ rd w ba (oa + i') = some (ptr z) ∧ (st.map Prod.fst ++ [b])[j + 1]? = some z ∧ (∀ u ∈ st.map Prod.fst, u ≠ ba) ∧ ¬ Fb ba (oa + i') := by
  induction hw with
  | root => intro j y i h; simp at h
  | @down st h lo b xs Fb off bi oi cap ks bc ba oa capc cs i c hw ho n hc ih =>
    intro j y i0 hj
    have hcm := List.mem_of_getElem? hc
    have hil := (List.getElem?_eq_some_iff.1 hc).1
    rcases Nat.lt_or_ge j st.length with hlt | hge
    · rw [List.getElem?_append_left hlt] at hj
      obtain ⟨bc', ba', oa', n', capc', i', z, h1, h2, h3, h4, h5, h6, h7, h8⟩ := ih j y i0 hj
      refine ⟨bc', ba', oa', n', capc', i', z, h1, h2, h3, h4, h5, ?_, fun u hu => ?_, fun g => h8 ((n.fp _ _).2 (.inr (.inr ⟨c, hcm, g⟩)))⟩
      · rw [List.map_append, List.getElem?_append_left (by simp; omega)]
        simpa using h6
      · rw [List.map_append, List.mem_append] at hu
        rcases hu with hu | hu
        · exact h7 u hu
        · have hub : u = b := by simpa using hu
          subst hub
          rintro rfl
          exact h8 ((hw.tr ht).self _)
    · have hj2 : j = st.length := by
        have := (List.getElem?_eq_some_iff.1 hj).1
        simp at this; omega
      subst hj2
      rw [List.getElem?_append_right (Nat.le_refl _), Nat.sub_self] at hj
      simp only [List.getElem?_cons_zero, Option.some.injEq, Prod.mk.injEq] at hj
      obtain ⟨rfl, rfl⟩ := hj
      have hk0 := n.kids.c0
      rw [List.length_map] at hk0
      have hle := n.kids.le
      rw [List.length_map] at hle
      have hkb : kidF bc ba oa capc ba (oa + i) := .inr ⟨rfl, by omega, by omega⟩
      refine ⟨bc, ba, oa, cs.length, capc, i, c.b, rfl, hil, ho.h3, hk0, n.kids.row i _ (by rw [List.getElem?_map, List.getElem?_map, hc]; rfl), ?_, fun u hu => ?_, fun g => n.ap.kid c hcm _ _ g hkb⟩
      · rw [List.getElem?_append_right (by simp)]; simp
      · rw [List.map_append, List.mem_append] at hu
        rcases hu with hu | hu
        · rintro rfl
          exact hw.out _ hu _ ((n.fp _ _).2 (.inr (.inl hkb)))
        · simp only [List.map_cons, List.map_nil, List.mem_singleton] at hu
          subst hu
          exact fun e => n.ap.ab e.symm
theorem Shift.far {δ : Int} {w0 w1 w2 : World} {D : Nat → Prop} (h : Shift δ w0 w1 D) (x : Ext (fun y _ => w0.heap.size ≤ y) w1 w2) : Shift δ w0 w2 D :=
  ⟨h.ext.trans x (fun _ _ g => g) fun y o hy g => by omega, fun y hy => by
    obtain ⟨k, h1, h2⟩ := h.cnt y hy
    refine ⟨k, h1, x.rd h2 fun g => ?_⟩
    obtain ⟨arr, T, fr, hh, _⟩ := rd_some h1
    have := lt_of_some hh
    omega⟩
/-- The way's nodes are the tree's. -/
theorem Way.nodeF (ht : Tr E iso mn mx H w lo0 root X F0) {st : List (Nat × Int)} {h lo b off : Nat} {xs : List α} {Fb : Nat → Nat → Prop} (hw : Way E iso mn mx w H lo0 root X F0 st h lo b xs Fb off) : ∀ (j y : Nat) (i : Int), st[j]? = some (y, i) → ∀ o, F0 y o := by
  induction hw with
  | root => intro j y i h; simp at h
  | @down st h lo b xs Fb off bi oi cap ks bc ba oa capc cs i c hw ho n hc ih =>
    intro j y i0 hj o
    rcases Nat.lt_or_ge j st.length with hlt | hge
    · rw [List.getElem?_append_left hlt] at hj
      exact ih j y i0 hj o
    · have hj2 : j = st.length := by
        have := (List.getElem?_eq_some_iff.1 hj).1
        simp at this; omega
      subst hj2
      rw [List.getElem?_append_right (Nat.le_refl _), Nat.sub_self] at hj
      simp only [List.getElem?_cons_zero, Option.some.injEq, Prod.mk.injEq] at hj
      obtain ⟨rfl, rfl⟩ := hj
      exact hw.sub _ _ ((hw.tr ht).self o)
/-- The first node is the root. -/
theorem Way.first {st : List (Nat × Int)} {h lo b off : Nat} {xs : List α} {Fb : Nat → Nat → Prop} (hw : Way E iso mn mx w H lo0 root X F0 st h lo b xs Fb off) (j : Int) : ∀ y i, (st ++ [(b, j)])[0]? = some (y, i) → y = root := by
  induction hw generalizing j with
  | root => intro y i h; simp at h; exact h.1.symm
  | @down st h lo b xs Fb off bi oi cap ks bc ba oa capc cs i c hw ho n hc ih =>
    intro y i0 h
    refine ih (i : Int) y i0 ?_
    rw [List.getElem?_append_left (by simp)] at h
    exact h
/-- A node of the way: its count, its record. -/
theorem Way.cnt (ht : Tr E iso mn mx H w lo0 root X F0) {st : List (Nat × Int)} {h lo b off : Nat} {xs : List α} {Fb : Nat → Nat → Prop} (hw : Way E iso mn mx w H lo0 root X F0 st h lo b xs Fb off) : ∀ (j y : Nat) (i : Int), st[j]? = some (y, i) → ∃ c : Nat, rd w y 1 = some (.int .i64 (c : Nat)) ∧ c ≤ X.length ∧ wok w y 4 := by
  induction hw with
  | root => intro j y i h; simp at h
  | @down st h lo b xs Fb off bi oi cap ks bc ba oa capc cs i c hw ho n hc ih =>
    intro j y i0 hj
    rcases Nat.lt_or_ge j st.length with hlt | hge
    · rw [List.getElem?_append_left hlt] at hj
      exact ih j y i0 hj
    · have hj2 : j = st.length := by
        have := (List.getElem?_eq_some_iff.1 hj).1
        simp at this; omega
      subst hj2
      rw [List.getElem?_append_right (Nat.le_refl _), Nat.sub_self] at hj
      simp only [List.getElem?_cons_zero, Option.some.injEq, Prod.mk.injEq] at hj
      obtain ⟨rfl, rfl⟩ := hj
      exact ⟨xs.length, ho.h1, by have := hw.le; omega, ho.wb⟩
end
end Go.Proofs.Ytanmjbkbdmeckaa
/-
  Regions by a plan, once more: where all operations that read the heap wait for an operation or it for them, the heap may change at it at will. For whatever program. No condition.
-/
set_option linter.unusedSimpArgs false
set_option linter.unusedVariables false
namespace Go.Proofs.Ytanmjbkbdmeckaa
open Go
/-- What the operation yields does not depend on the heap. -/
def pureOp (P : Program) : Op → Bool
  | .move _ => true
  | .assign _ => true
  | .pick _ _ _ => true
  | .nilCheck _ => true
  | .binOp _ _ _ _ _ => true
  | .unOp .not _ _ => true
  | .slice _ _ _ _ _ => true
  | .fieldAddr T _ f => (fOff P T f).isSome
  | .indexAddr _ _ _ => true
  | .extract _ _ => true
  | _ => false
theorem pure_tk {P : Program} {H H' : Hold} {e : Env} {w w' : World} {op : Op} (h : pureOp P op = true) : tkOp P H e w op = tkOp P H' e w' op := by
  cases op with
  | fieldAddr T x f =>
    obtain ⟨o, ho⟩ := Option.isSome_iff_exists.1 (show (fOff P T f).isSome = true from h)
    simp only [tkOp, foZ, ho]
  | unOp k T x => cases k <;> first | rfl | cases h
  | _ => first | rfl | cases h
/-- What f waits for, of those from f - k on. -/
def ancs (ops : Array Oper) (f : Nat) : Nat → List Nat
  | 0 => [f]
  | k + 1 => let L := ancs ops f k; if L.any (fun j => waitsOn ops j (f - (k + 1))) then (f - (k + 1)) :: L else L
/-- What waits for f, of those up to f + k. -/
def descs (ops : Array Oper) (f : Nat) : Nat → List Nat
  | 0 => [f]
  | k + 1 => let L := descs ops f k; if L.any (fun j => waitsOn ops (f + (k + 1)) j) then (f + (k + 1)) :: L else L
def semiOk (P : Program) (ops : Array Oper) (f : Nat) : Bool :=
  decide (f < ops.size) && (let A := ancs ops f f; let D := descs ops f (ops.size - f); (List.range ops.size).all fun i => i == f || A.contains i || D.contains i || (ops[i]?).any fun o => pureOp P o.op)
inductive Anc (ops : Array Oper) (f : Nat) : Nat → Prop
  | self : Anc ops f f
  | step {j i : Nat} : Anc ops f j → waitsOn ops j i = true → Anc ops f i
inductive Desc (ops : Array Oper) (f : Nat) : Nat → Prop
  | self : Desc ops f f
  | step {j i : Nat} : Desc ops f j → waitsOn ops i j = true → Desc ops f i
theorem ancs_spec {ops : Array Oper} {f : Nat} : ∀ (k i : Nat), i ∈ ancs ops f k → Anc ops f i
  | 0, i, h => by
    simp only [ancs, List.mem_singleton] at h
    subst h; exact .self
  | k + 1, i, h => by
    simp only [ancs] at h
    split at h
    · rename_i hc
      rcases List.mem_cons.1 h with rfl | h
      · obtain ⟨j, hj, hw⟩ := List.any_eq_true.1 hc
        exact .step (ancs_spec k j hj) hw
      · exact ancs_spec k i h
    · exact ancs_spec k i h
theorem descs_spec {ops : Array Oper} {f : Nat} : ∀ (k i : Nat), i ∈ descs ops f k → Desc ops f i
  | 0, i, h => by
    simp only [descs, List.mem_singleton] at h
    subst h; exact .self
  | k + 1, i, h => by
    simp only [descs] at h
    split at h
    · rename_i hc
      rcases List.mem_cons.1 h with rfl | h
      · obtain ⟨j, hj, hw⟩ := List.any_eq_true.1 hc
        exact .step (descs_spec k j hj) hw
      · exact descs_spec k i h
    · exact descs_spec k i h
theorem anc_ahead {ops : Array Oper} {f : Nat} {listed : Array Bool} (hc : ClosedUp ops listed) (hr : f ∈ Region.ready .any ops listed) {i : Nat} (h : Anc ops f i) (hu : listed.getD i false = false) : i = f := by
  induction h with
  | self => rfl
  | @step j i hj hw ih =>
    cases hl : listed.getD j false with
    | true =>
      have := waits_listed hc (.inr hl) hw
      rw [hu] at this; cases this
    | false =>
      obtain rfl := ih hl
      have := waits_listed hc (.inl hr) hw
      rw [hu] at this; cases this
theorem desc_behind {ops : Array Oper} {f : Nat} {listed : Array Bool} (hc : ClosedUp ops listed) (hf : f ∈ Region.ready .any ops listed) {i : Nat} (h : Desc ops f i) (hr : i ∈ Region.ready .any ops listed ∨ listed.getD i false = true) : i = f := by
  have key : i = f ∨ listed.getD f false = true := by
    induction h with
    | self => exact .inl rfl
    | @step j i hj hw ih =>
      have hl := waits_listed hc hr hw
      rcases ih (.inr hl) with rfl | h
      · exact .inr hl
      · exact .inr h
  rcases key with h | h
  · exact h
  · exact (listed_unready h hf).elim
theorem semi_spec {P : Program} {ops : Array Oper} {f i : Nat} {o : Oper} (h : semiOk P ops f = true) (hi : ops[i]? = some o) : i = f ∨ Anc ops f i ∨ Desc ops f i ∨ pureOp P o.op = true := by
  simp only [semiOk, Bool.and_eq_true, decide_eq_true_eq, List.all_eq_true, List.mem_range, Bool.or_eq_true, beq_iff_eq] at h
  rcases h.2 i (Array.getElem?_eq_some_iff.1 hi).1 with ((h | h) | h) | h
  · exact .inl h
  · exact .inr (.inl (ancs_spec _ _ (by simpa using h)))
  · exact .inr (.inr (.inl (descs_spec _ _ (by simpa using h))))
  · rw [hi] at h; exact .inr (.inr (.inr h))
/-- Of those that are marked, f waits for each, or each for f. -/
def linkOk (ops : Array Oper) (sd : List Nat) (f : Nat) : Bool :=
  let A := ancs ops f f; let D := descs ops f (ops.size - f); sd.all fun i => i == f || A.contains i || D.contains i
theorem link_spec {ops : Array Oper} {sd : List Nat} {f i : Nat} (h : linkOk ops sd f = true) (hi : sd.contains i = true) : i = f ∨ Anc ops f i ∨ Desc ops f i := by
  simp only [linkOk, List.all_eq_true, Bool.or_eq_true, beq_iff_eq] at h
  rcases h i (by simpa using hi) with (h | h) | h
  · exact .inl h
  · exact .inr (.inl (ancs_spec _ _ (by simpa using h)))
  · exact .inr (.inr (descs_spec _ _ (by simpa using h)))
section
variable {P : Program} {ops : Array Oper} {Q : Exit → Act → World → Prop} {R : World → World → Prop} {sd : List Nat}
def wpM (P : Program) (ops : Array Oper) (Q : Exit → Act → World → Prop) (R : World → World → Prop) (sd : List Nat) : Nat → Array Bool → World → Act → World → Prop
  | 0, listed, _, a, w => Region.ready .any ops listed = [] ∧ Q .normal a w
  | fuel + 1, listed, w0, a, w =>
    (Region.ready .any ops listed = [] → Q .normal a w) ∧
    ∀ i ∈ Region.ready .any ops listed, wpOp P ops Q i (fun a' w' => (semiOk P ops i = true ∧ wpM P ops Q R sd fuel (listed.setIfInBounds i true) w' a' w') ∨
      ((linkOk ops sd i = true ∨ w'.heap = w.heap) ∧ R w0 w' ∧ wpM P ops Q R sd fuel (listed.setIfInBounds i true) w0 a' w')) a w
theorem wpAny_of_wpM : ∀ (fuel : Nat) (listed : Array Bool) (w0 : World) (a : Act) (w : World), wpM P ops Q R sd fuel listed w0 a w → wpAny P .any ops Q fuel listed a w
  | 0, _, _, _, _, h => h
  | fuel + 1, _, _, _, _, h => ⟨h.1, fun i hi => wpOp_mono (fun a' w' h' => h'.elim (fun h => wpAny_of_wpM fuel _ _ a' w' h.2) fun h => wpAny_of_wpM fuel _ _ a' w' h.2.2) (h.2 i hi)⟩
/-- In which worlds an operation that is pending must yield its value. -/
def Tol (P : Program) (R : World → World → Prop) (sd : List Nat) (o : Oper) (i : Nat) (w0 w u : World) : Prop := pureOp P o.op = true ∨ (sd.contains i = true ∧ u.heap = w.heap) ∨ (sd.contains i = false ∧ R w0 u)
theorem Gives.mono {S S' : World → Prop} {o : Oper} {v : Value} {a : Act} (h : Gives P ops S o v a) (hS : ∀ u, S' u → S u) : Gives P ops S' o v a := h.imp (fun ⟨h1, h2⟩ => ⟨h1, fun w hw => h2 w (hS w hw)⟩) id
theorem wpM_first {i : Nat} {oi : Oper} {v : Value} (hi : ops[i]? = some oi) (hR : ∀ w, R w w)
    (hsel : ∀ (j : Nat) (o : Oper) cs b, ops[j]? = some o → o.op ≠ .select cs b) (hQ : ∀ c a w, ¬ Q (.panic c) a w) :
    ∀ (fuel : Nat) (listed : Array Bool) (w0 : World) (a : Act) (w : World), ClosedUp ops listed →
      (∀ j oj, ops[j]? = some oj → j ≠ i → listed.getD j true = false → (∀ e ∈ oj.after, Region.binds .any e = true → e.on ≠ i) → oi.apart ops oj = true) →
      i ∈ Region.ready .any ops listed → Gives P ops (Tol P R sd oi i w0 w) oi v a → R w0 w →
      wpM P ops Q R sd fuel (listed.setIfInBounds i true) w0 (a.put oi.dst v) w → wpM P ops Q R sd (fuel + 1) listed w0 a w := by
  have here : ∀ {w0 w : World}, R w0 w → Tol P R sd oi i w0 w w := fun h => by
    cases hs : sd.contains i with
    | true => exact .inr (.inl ⟨hs, rfl⟩)
    | false => exact .inr (.inr ⟨hs, h⟩)
  intro fuel
  induction fuel with
  | zero =>
    intro listed w0 a w _ _ hr hy hS H
    refine ⟨fun h => (by rw [h] at hr; cases hr), fun j hj => ?_⟩
    by_cases hji : j = i
    · subst hji; exact hy.wpOp hi (here hS) (.inr ⟨.inr rfl, hS, H⟩)
    · have := ready_mono hj hji
      rw [H.1] at this
      cases this
  | succ fuel ih =>
    intro listed w0 a w hc hfree hr hy hS H
    refine ⟨fun h => (by rw [h] at hr; cases hr), fun j hj => ?_⟩
    by_cases hji : j = i
    · subst hji; exact hy.wpOp hi (here hS) (.inr ⟨.inr rfl, hS, H⟩)
    · have h1 := H.2 j (ready_mono hj hji)
      obtain ⟨hjun, oj, hoj, hall⟩ := mem_ready.1 hj
      have hiun := (mem_ready.1 hr).1
      have his : i < ops.size := (Array.getElem?_eq_some_iff.1 hi).1
      have hnot : ∀ e ∈ oj.after, Region.binds .any e = true → e.on ≠ i := fun e he hb heq => by
        have h1 := hall e he hb
        rw [heq, getD_tf hiun] at h1
        cases h1
      have h2 := wpOp_before hoj (hfree j oj hoj hji hjun hnot) (fun cs b => hsel i oi cs b hi) (fun cs b => hsel j oj cs b hoj) hQ hy h1
      have hfree' : ∀ k ok, ops[k]? = some ok → k ≠ i → (listed.setIfInBounds j true).getD k true = false → (∀ e ∈ ok.after, Region.binds .any e = true → e.on ≠ i) → oi.apart ops ok = true := fun k ok hk hki hun hno => by
        refine hfree k ok hk hki ?_ hno
        by_cases hjk : j = k
        · subst hjk; exact hjun
        · rw [getD_set_ne true hjk] at hun; exact hun
      have apartL : ¬ (i = j ∨ Anc ops j i ∨ Desc ops j i) := fun h => by
        rcases h with h | h | h
        · exact hji h.symm
        · exact hji (anc_ahead hc hj h (getD_tf hiun)).symm
        · exact hji (desc_behind hc hj h (.inl hr)).symm
      refine wpOp_mono (fun a' w' h3 => ?_) h2
      rcases h3.2 with ⟨hb, hrest⟩ | ⟨hl, hS', hrest⟩
      · refine .inl ⟨hb, ih (listed.setIfInBounds j true) w' a' w' (hc.set hj) hfree' (ready_mono hr (Ne.symm hji)) (h3.1.mono fun u _ => .inl ?_) (hR _) ?_⟩
        · rcases semi_spec hb hi with h | h | h | h
          · exact (apartL (.inl h)).elim
          · exact (apartL (.inr (.inl h))).elim
          · exact (apartL (.inr (.inr h))).elim
          · exact h
        · rw [Array.setIfInBounds_comm _ _ hji]
          exact hrest
      · refine .inr ⟨hl, hS', ih (listed.setIfInBounds j true) w0 a' w' (hc.set hj) hfree' (ready_mono hr (Ne.symm hji)) (h3.1.mono fun u hu => ?_) hS' ?_⟩
        · rcases hu with hu | ⟨hu, hh⟩ | hu
          · exact .inl hu
          · rcases hl with hl | hl
            · exact (apartL (link_spec hl hu)).elim
            · exact .inr (.inl ⟨hu, hh.trans hl⟩)
          · exact .inr (.inr hu)
        · rw [Array.setIfInBounds_comm _ _ hji]
          exact hrest
end
/-- A plan: an operation is taken (true: all that write wait for it or it for them); is carried out; is carried out, and all that read wait for it or it for them; two may come up. -/
inductive PM where
  | nil
  | take (s : Bool) (i : Nat) (r : PM)
  | act (i : Nat) (r : PM)
  | bar (i : Nat) (r : PM)
  | split (i : Nat) (r : PM) (j : Nat) (s : PM)
def sdOf : PM → List Nat
  | .nil => []
  | .take true i r => i :: sdOf r
  | .take false _ r => sdOf r
  | .act _ r => sdOf r
  | .bar _ r => sdOf r
  | .split _ r _ s => sdOf r ++ sdOf s
def ptOkM (P : Program) (ops : Array Oper) (sd : List Nat) : PM → Array Bool → Bool
  | .nil, listed => (Region.ready .any ops listed).isEmpty
  | .take s i r, listed => (s == sd.contains i) && (Region.ready .any ops listed).contains i && Region.free .any ops listed i && ptOkM P ops sd r (listed.setIfInBounds i true)
  | .act i r, listed => decide (Region.ready .any ops listed = [i]) && linkOk ops sd i && ptOkM P ops sd r (listed.setIfInBounds i true)
  | .bar i r, listed => decide (Region.ready .any ops listed = [i]) && semiOk P ops i && ptOkM P ops sd r (listed.setIfInBounds i true)
  | .split i r j s, listed => decide (Region.ready .any ops listed = [i, j]) && linkOk ops sd i && linkOk ops sd j && ptOkM P ops sd r (listed.setIfInBounds i true) && ptOkM P ops sd s (listed.setIfInBounds j true)
def ptM : PM → Nat → Bool
  | .nil, n => n == 0
  | .take _ _ r, n => n != 0 && ptM r (n - 1)
  | .act _ r, n => n != 0 && ptM r (n - 1)
  | .bar _ r, n => n != 0 && ptM r (n - 1)
  | .split _ r _ s, n => n != 0 && ptM r (n - 1) && ptM s (n - 1)
def regOkM (P : Program) (n : Nat) (ops : Array Oper) (pl : PM) : Bool :=
  Region.noSelect ops && dstsOk n ops && ptM pl ops.size && (let sd := sdOf pl; ptOkM P ops sd pl (Array.replicate ops.size false))
def WPM (P : Program) (ops : Array Oper) (H : Hold) (Q : Post) : PM → Env → World → Prop
  | .nil, e, w => Q .normal e w
  | .take true i r, e, w => withOp ops i (TakeO P ops (some none) (WPM P ops H Q r) e w)
  | .take false i r, e, w => withOp ops i (TakeO P ops H (WPM P ops H Q r) e w)
  | .act i r, e, w => DoAt P ops H none i (WPM P ops H Q r) e w
  | .bar i r, e, w => DoB P ops i (WPM P ops H Q r) e w
  | .split i r j s, e, w => DoAt P ops H none i (WPM P ops H Q r) e w ∧ DoAt P ops H none j (WPM P ops H Q s) e w
section
variable {P : Program} {ops : Array Oper} {n : Nat} {Q : Post} {sd : List Nat}
theorem wpM_of_plan {H : Hold} (hsel : Region.noSelect ops = true) (hd : dstsOk n ops = true) (hH : ∀ a b c, keeps H a b → keeps H b c → keeps H a c) :
    ∀ (pl : PM) (k : Nat) (listed : Array Bool) (w0 : World) (e : Env) (a : Act) (w : World), ptM pl k = true → Fr n e a → ClosedUp ops listed → ptOkM P ops sd pl listed = true → keeps H w0 w →
      WPM P ops H Q pl e w → wpM P ops (lift n Q) (keeps H) sd k listed w0 a w
  | .nil, k, listed, w0, e, a, w, hn, ha, _, hok, _, h => by
    obtain rfl : k = 0 := by simpa [ptM] using hn
    exact ⟨by simpa [ptOkM] using hok, e, ha, trivial, h⟩
  | .take s i r, 0, listed, w0, e, a, w, hn, ha, hc, hok, hk, h => by simp [ptM] at hn
  | .act i r, 0, listed, w0, e, a, w, hn, ha, hc, hok, hk, h => by simp [ptM] at hn
  | .bar i r, 0, listed, w0, e, a, w, hn, ha, hc, hok, hk, h => by simp [ptM] at hn
  | .split i r j s, 0, listed, w0, e, a, w, hn, ha, hc, hok, hk, h => by simp [ptM] at hn
  | .take s i r, k + 1, listed, w0, e, a, w, hn, ha, hc, hok, hk, h => by
    obtain ⟨o, ho, h⟩ : withOp ops i (TakeO P ops (if s = true then some none else H) (WPM P ops H Q r) e w) := by cases s <;> exact h
    have hn' : ptM r k = true := by simpa [ptM] using hn
    simp only [ptOkM, Bool.and_eq_true, beq_iff_eq] at hok
    obtain ⟨⟨⟨hs, hr⟩, hf⟩, hok⟩ := hok
    have hr' : i ∈ Region.ready .any ops listed := by simpa using hr
    have go : ∀ v, Gives P ops (Tol P (keeps H) sd o i w0 w) o v a → WPM P ops H Q r (updO e o.dst v) w →
        wpM P ops (lift n Q) (keeps H) sd (k + 1) listed w0 a w := fun v hg hw =>
      wpM_first ho (keeps_refl H) (Region.noSelect_spec hsel) lift_panic k listed w0 a w hc (Region.free_spec ho hf) hr' hg hk
        (wpM_of_plan hsel hd hH r k _ _ _ _ _ hn' (ha.put (dst_lt hd ho) v) (hc.set hr') hok hk hw)
    rcases guardE_cases h with ⟨hw, v, hv, hrest⟩ | ⟨hw, hrest⟩
    · refine go v (.inl ⟨wanted_of ha hd hw, fun w' hk2 => ?_⟩) hrest
      rw [ha.eval]
      rcases hk2 with hp | ⟨h1, h2⟩ | ⟨h1, h2⟩
      · rw [pure_tk (H' := some (some [])) (w' := w) hp] at hv
        exact tk_sound hv fun b hb => by simp [readsB] at hb
      · exact tk_sound hv fun b _ => by rw [h2]
      · rw [h1] at hs
        subst hs
        exact tk_sound hv fun b hb => (keeps_reads h2 hb).trans (keeps_reads hk hb).symm
    · exact go undef (.inr ⟨unwanted_of ha hd hw, rfl⟩) hrest
  | .act i r, k + 1, listed, w0, e, a, w, hn, ha, hc, hok, hk, h => by
    have hn' : ptM r k = true := by simpa [ptM] using hn
    simp only [ptOkM, Bool.and_eq_true, decide_eq_true_eq] at hok
    obtain ⟨⟨hr, hl⟩, hok⟩ := hok
    have hr' : i ∈ Region.ready .any ops listed := by rw [hr]; simp
    refine ⟨fun h0 => (by rw [h0] at hr; cases hr), fun j hj => ?_⟩
    obtain rfl : j = i := by rw [hr] at hj; simpa using hj
    refine wpOp_of_doAt ha hd h fun e' a' w' ha' hkk hrest => ?_
    have hk1 := hH _ _ _ hk (hkk.resolve_left (by simp))
    exact .inr ⟨.inl hl, hk1, wpM_of_plan hsel hd hH r k _ _ _ _ _ hn' ha' (hc.set hr') hok hk1 hrest⟩
  | .bar i r, k + 1, listed, w0, e, a, w, hn, ha, hc, hok, hk, h => by
    have hn' : ptM r k = true := by simpa [ptM] using hn
    simp only [ptOkM, Bool.and_eq_true, decide_eq_true_eq] at hok
    obtain ⟨⟨hr, hb⟩, hok⟩ := hok
    have hr' : i ∈ Region.ready .any ops listed := by rw [hr]; simp
    refine ⟨fun h0 => (by rw [h0] at hr; cases hr), fun j hj => ?_⟩
    obtain rfl : j = i := by rw [hr] at hj; simpa using hj
    refine wpOp_of_doB ha hd h fun e' a' w' ha' hrest => .inl ⟨hb, ?_⟩
    exact wpM_of_plan hsel hd hH r k _ _ _ _ _ hn' ha' (hc.set hr') hok (keeps_refl _ _) hrest
  | .split i r j s, k + 1, listed, w0, e, a, w, hn, ha, hc, hok, hk, h => by
    have hn' : ptM r k = true ∧ ptM s k = true := by simpa [ptM] using hn
    simp only [ptOkM, Bool.and_eq_true, decide_eq_true_eq] at hok
    obtain ⟨⟨⟨⟨hr, hl1⟩, hl2⟩, hok1⟩, hok2⟩ := hok
    have hi' : i ∈ Region.ready .any ops listed := by rw [hr]; simp
    have hj' : j ∈ Region.ready .any ops listed := by rw [hr]; simp
    refine ⟨fun h0 => (by rw [h0] at hr; cases hr), fun m hm => ?_⟩
    rw [hr] at hm
    rcases List.mem_cons.1 hm with rfl | hm
    · refine wpOp_of_doAt ha hd h.1 fun e' a' w' ha' hkk hrest => ?_
      have hk1 := hH _ _ _ hk (hkk.resolve_left (by simp))
      exact .inr ⟨.inl hl1, hk1, wpM_of_plan hsel hd hH r k _ _ _ _ _ hn'.1 ha' (hc.set hi') hok1 hk1 hrest⟩
    · obtain rfl : m = j := by simpa using hm
      refine wpOp_of_doAt ha hd h.2 fun e' a' w' ha' hkk hrest => ?_
      have hk1 := hH _ _ _ hk (hkk.resolve_left (by simp))
      exact .inr ⟨.inl hl2, hk1, wpM_of_plan hsel hd hH s k _ _ _ _ _ hn'.2 ha' (hc.set hj') hok2 hk1 hrest⟩
/-- A region that draws its order, by a plan with branches; barriers concern the heap alone, and what is linked with all that write needs no hold. -/
theorem W_semi (H : Hold) (pl : PM) {id : Nat} {e : Env} {w : World} (hm : P.follows .mixedOrders = true)
    (hok : regOkM P n ops pl = true) (h : WPM P ops H Q pl e w.drew) : W P n (.region id ops true) Q e w := by
  intro a ha
  simp only [regOkM, Bool.and_eq_true] at hok
  obtain ⟨⟨⟨hsel, hd⟩, hlen⟩, hok⟩ := hok
  refine wp_region_any hm ?_
  have hc : ClosedUp ops (Array.replicate ops.size false) := ⟨by simp, fun j oj _ hl => by
    rcases Nat.lt_or_ge j ops.size with h | h
    · simp [h] at hl
    · simp [h] at hl⟩
  exact wpAny_of_wpM _ _ _ _ _ (wpM_of_plan hsel hd (keeps_trans H) pl _ _ w.drew e a w.drew hlen ha hc hok (keeps_refl _ _) h)
end
theorem rgm :
    (∀ {P : Program} {ops : Array Oper} {H : Hold} {Q : Post} {e : Env} {w : World}, WPM P ops H Q .nil e w = Q Exit.normal e w) ∧
    (∀ {P : Program} {ops : Array Oper} {H : Hold} {Q : Post} {e : Env} {w : World} (i : Nat) (r : PM), WPM P ops H Q (.take true i r) e w = withOp ops i (TakeO P ops (some none) (WPM P ops H Q r) e w)) ∧
    (∀ {P : Program} {ops : Array Oper} {H : Hold} {Q : Post} {e : Env} {w : World} (i : Nat) (r : PM), WPM P ops H Q (.take false i r) e w = withOp ops i (TakeO P ops H (WPM P ops H Q r) e w)) ∧
    (∀ {P : Program} {ops : Array Oper} {H : Hold} {Q : Post} {e : Env} {w : World} (i : Nat) (r : PM), WPM P ops H Q (.act i r) e w = DoAt P ops H none i (WPM P ops H Q r) e w) ∧
    (∀ {P : Program} {ops : Array Oper} {H : Hold} {Q : Post} {e : Env} {w : World} (i : Nat) (r : PM), WPM P ops H Q (.bar i r) e w = DoB P ops i (WPM P ops H Q r) e w) ∧
    (∀ {P : Program} {ops : Array Oper} {H : Hold} {Q : Post} {e : Env} {w : World} (i j : Nat) (r s : PM), WPM P ops H Q (.split i r j s) e w = (DoAt P ops H none i (WPM P ops H Q r) e w ∧ DoAt P ops H none j (WPM P ops H Q s) e w)) :=
  ⟨id (Eq.trans rfl rfl), fun _ _ => id (Eq.trans rfl rfl), fun _ _ => id (Eq.trans rfl rfl), fun _ _ => id (Eq.trans rfl rfl), fun _ _ => id (Eq.trans rfl rfl), fun _ _ _ _ => id (Eq.trans rfl rfl)⟩
end Go.Proofs.Ytanmjbkbdmeckaa
/-
  A slice that a cell holds: what appends, insertions, removals and settings leave of it. For whatever program. No condition.
-/
set_option linter.unusedSimpArgs false
set_option linter.unusedVariables false
namespace Go.Proofs.Ytanmjbkbdmeckaa
open Go
/-- Pointers to blocks as elements. -/
def Ep : Enc Nat where
  cel b := [ptr b]
  sz := 1
  len _ := rfl
  one b v hv := by simp at hv; subst hv; rfl
  pos := by decide
theorem flat_Ep (l : List Nat) : flat Ep l = l.map ptr := by
  induction l with
  | nil => rfl
  | cons x l ih => rw [flat_cons, ih]; rfl
section
variable {α : Type} {E : Enc α}
structure SE (E : Enc α) (w : World) (hb ho : Nat) (ks : List α) (bi oi cap : Nat) : Prop where
  hd : rd w hb ho = some (.slice (some ⟨bi, oi, none⟩) ks.length cap)
  row : Row w bi oi (flat E ks)
  wi : wok w bi (oi + cap * E.sz)
  le : ks.length ≤ cap
  hok : wok w hb (ho + 1)
  ne : bi ≠ hb
/-- The slice's own cells: the one that holds it, and its room. -/
def seF (E : Enc α) (hb ho bi oi cap : Nat) : Nat → Nat → Prop := fun y o => (y = hb ∧ o = ho) ∨ rng bi oi (cap * E.sz) y o
theorem SE.ext {w w' : World} {G : Nat → Nat → Prop} {hb ho bi oi cap : Nat} {ks : List α} (h : SE E w hb ho ks bi oi cap) (x : Ext G w w') (hG : ∀ y o, seF E hb ho bi oi cap y o → ¬ G y o) : SE E w' hb ho ks bi oi cap :=
  ⟨x.rd h.hd (hG _ _ (.inl ⟨rfl, rfl⟩)), x.row h.row fun i hi => hG _ _ (.inr ⟨rfl, by omega, by rw [flat_length] at hi; have := Nat.mul_le_mul_right E.sz h.le; omega⟩), x.wok h.wi, h.le, x.wok h.hok, h.ne⟩
theorem SE.ext0 {w w' : World} {hb ho bi oi cap : Nat} {ks : List α} (h : SE E w hb ho ks bi oi cap) (x : Ext noF w w') : SE E w' hb ho ks bi oi cap := h.ext x fun _ _ _ g => g
theorem SE.lt {w : World} {hb ho bi oi cap : Nat} {ks : List α} (h : SE E w hb ho ks bi oi cap) : hb < w.heap.size ∧ bi < w.heap.size := ⟨wok_lt h.hok, wok_lt h.wi⟩
theorem SE.slV {w : World} {hb ho bi oi cap : Nat} {ks : List α} (h : SE E w hb ho ks bi oi cap) : SlV w E.sz (.slice (some ⟨bi, oi, none⟩) ks.length cap) ks.length (flat E ks) :=
  ⟨flat_length _ _, .inr ⟨bi, oi, cap, rfl, h.le, h.row, h.wi.R (Nat.le_refl _)⟩⟩
/-- An append, whose slice is stored again. -/
theorem SE.app {w w1 w2 : World} {hb ho bi oi cap m : Nat} {ks ls : List α} {v' : Value} (h : SE E w hb ho ks bi oi cap) (hm : ls.length = m) (a : AppRes w E.sz (.slice (some ⟨bi, oi, none⟩) ks.length cap) ks.length m (flat E ks) (flat E ls) v' w1)
    (x : Ext (rng hb ho 1) w1 w2) (r : rd w2 hb ho = some v') :
    ∃ bi' oi' cap', v' = .slice (some ⟨bi', oi', none⟩) (ks.length + m) cap' ∧ SE E w2 hb ho (ks ++ ls) bi' oi' cap' ∧ Ext (seF E hb ho bi oi cap) w w2 ∧ ((bi' = bi ∧ oi' = oi ∧ cap' = cap) ∨ (bi' = w.heap.size ∧ w.heap.size < w2.heap.size)) := by
  subst hm
  obtain ⟨hs, hc⟩ := a
  have hbl := wok_lt h.hok
  have hbil := wok_lt h.wi
  have hne := h.ne
  have hlen : (ks ++ ls).length = ks.length + ls.length := List.length_append
  rcases hc with ⟨_, _, h3⟩ | ⟨b0, o0, cap0, h1, h2, h3, h4, h5⟩ | ⟨cap', h1, h2, h3, h4⟩
  · cases h3
  · simp only [Value.slice.injEq, Option.some.injEq, Addr.mk.injEq, true_and, and_true] at h1
    obtain ⟨⟨rfl, rfl⟩, rfl⟩ := h1
    subst h2
    have hw1 := h3.wok h.wi
    have hr : Row w1 bi oi (flat E (ks ++ ls)) := by
      rw [flat_append]
      rcases hs.2 with ⟨h, _⟩ | ⟨b1, o1, c1, h1, hle, hr, hw⟩
      · cases h
      · simp only [Value.slice.injEq, Option.some.injEq, Addr.mk.injEq, true_and, and_true] at h1
        obtain ⟨⟨rfl, rfl⟩, rfl⟩ := h1
        exact hr
    refine ⟨bi, oi, cap, rfl, ⟨by rw [r, hlen], x.row hr fun i _ g => by simp only [rng] at g; omega, x.wok hw1, by omega, x.wok (h3.wok h.hok), hne⟩, h3.trans x (fun y o g => .inr ?_) fun y o _ g => .inl ?_, .inl ⟨rfl, rfl, rfl⟩⟩
    · have e1 : (ks.length + ls.length) * E.sz = ks.length * E.sz + ls.length * E.sz := Nat.add_mul _ _ _
      have e2 := Nat.mul_le_mul_right E.sz h5
      simp only [rng] at g ⊢
      omega
    · simp only [rng] at g; omega
  · subst h1
    have hr : Row w1 w.heap.size 0 (flat E (ks ++ ls)) ∧ ks.length + ls.length ≤ cap' := by
      rw [flat_append]
      rcases hs.2 with ⟨h, _⟩ | ⟨b1, o1, c1, h1, hle, hr, hw⟩
      · cases h
      · simp only [Value.slice.injEq, Option.some.injEq, Addr.mk.injEq, true_and, and_true] at h1
        obtain ⟨⟨rfl, rfl⟩, rfl⟩ := h1
        exact ⟨hr, hle⟩
    have s2 := x.size
    refine ⟨_, 0, cap', rfl, ⟨by rw [r, hlen], x.row hr.1 fun i _ g => by simp only [rng] at g; omega, by rw [Nat.zero_add]; exact x.wok h4, by omega, x.wok (h2.wok h.hok), by omega⟩, h2.trans x (fun y o g => g.elim) fun y o _ g => .inl ?_, .inr ⟨rfl, by omega⟩⟩
    simp only [rng] at g; omega
/-- One element, put ahead of all others: an append of something, a copy one place on, a store. -/
theorem SE.ins0 {w w1 w2 : World} {hb ho bi oi cap o1 : Nat} {ks : List α} {z x : α} (h : SE E w hb ho (ks ++ [z]) bi oi cap)
    (x1 : Ext (rng bi o1 (ks.length * E.sz)) w w1) (r1 : Row w1 bi o1 (flat E ks)) (ho1 : 0 < ks.length → o1 = oi + E.sz) (x2 : Ext (rng bi oi E.sz) w1 w2) (r2 : Row w2 bi oi (E.cel x)) :
    SE E w2 hb ho (x :: ks) bi oi cap ∧ Ext (seF E hb ho bi oi cap) w w2 := by
  have hne := h.ne
  have hle := h.le
  rw [List.length_append, List.length_singleton] at hle
  have hcap := Nat.mul_le_mul_right E.sz hle
  have e1 : (ks.length + 1) * E.sz = ks.length * E.sz + E.sz := by rw [Nat.add_mul, Nat.one_mul]
  have hk0 : ks.length = 0 → ks.length * E.sz = 0 := fun e => by rw [e, Nat.zero_mul]
  have X1 : Ext (seF E hb ho bi oi cap) w w1 := x1.mono fun y o _ g => .inr (by
    simp only [rng] at g ⊢
    by_cases hk : 0 < ks.length
    · have := ho1 hk; omega
    · have := hk0 (by omega); omega)
  have X : Ext (seF E hb ho bi oi cap) w w2 := X1.tr (x2.mono fun y o _ g => .inr (by simp only [rng] at g ⊢; omega))
  refine ⟨⟨?_, ?_, X.wok h.wi, ?_, X.wok h.hok, hne⟩, X⟩
  · have := h.hd
    rw [List.length_append, List.length_singleton] at this
    rw [List.length_cons]
    refine x2.rd (x1.rd this ?_) ?_
    · simp only [rng]; omega
    · simp only [rng]; omega
  · rw [flat_cons]
    refine Row.append.2 ⟨r2, ?_⟩
    rw [E.len]
    by_cases hk : 0 < ks.length
    · rw [← ho1 hk]
      exact x2.row r1 fun i hi g => by have := ho1 hk; simp only [rng] at g; omega
    · have : ks = [] := List.eq_nil_of_length_eq_zero (by omega)
      rw [this]; exact Row.nil _ _ _
  · rw [List.length_cons]; exact hle
/-- One element is taken out: a copy one place back, something in the last place, the slice shortened. -/
theorem SE.erase {w w1 w2 w3 : World} {hb ho bi oi cap i : Nat} {ks : List α} (h : SE E w hb ho ks bi oi cap) (hi : i < ks.length)
    (x1 : Ext (rng bi (oi + i * E.sz) ((ks.length - 1 - i) * E.sz)) w w1) (r1 : Row w1 bi (oi + i * E.sz) (flat E (ks.drop (i + 1)))) (x2 : Ext (rng bi (oi + (ks.length - 1) * E.sz) E.sz) w1 w2)
    (x3 : Ext (rng hb ho 1) w2 w3) (r3 : rd w3 hb ho = some (.slice (some ⟨bi, oi, none⟩) (ks.length - 1 : Nat) cap)) :
    SE E w3 hb ho (ks.eraseIdx i) bi oi cap ∧ Ext (seF E hb ho bi oi cap) w w3 := by
  have hne := h.ne
  have hle := h.le
  have hcap := Nat.mul_le_mul_right E.sz hle
  have e1 : (ks.length - 1) * E.sz = ks.length * E.sz - E.sz := by rw [Nat.sub_mul, Nat.one_mul]
  have e2 : (ks.length - 1 - i) * E.sz = (ks.length - 1) * E.sz - i * E.sz := Nat.sub_mul _ _ _
  have e3 : (i + 1) * E.sz ≤ ks.length * E.sz := Nat.mul_le_mul_right _ hi
  have e4 : (i + 1) * E.sz = i * E.sz + E.sz := by rw [Nat.add_mul, Nat.one_mul]
  have hl : (ks.eraseIdx i).length = ks.length - 1 := by rw [List.length_eraseIdx, if_pos hi]
  have X : Ext (seF E hb ho bi oi cap) w w3 := ((x1.mono fun y o _ g => .inr (by simp only [rng] at g ⊢; omega)).tr (x2.mono fun y o _ g => .inr (by simp only [rng] at g ⊢; omega))).tr (x3.mono fun y o _ g => .inl (by simp only [rng] at g; omega))
  refine ⟨⟨by rw [hl]; exact r3, ?_, X.wok h.wi, by omega, X.wok h.hok, hne⟩, X⟩
  rw [List.eraseIdx_eq_take_drop_succ, flat_append]
  have hlt : (flat E (ks.take i)).length = i * E.sz := by rw [flat_length, List.length_take]; congr 1; omega
  have hld : (flat E (ks.drop (i + 1))).length = ks.length * E.sz - (i + 1) * E.sz := by rw [flat_length, List.length_drop, Nat.sub_mul]
  refine Row.append.2 ⟨?_, ?_⟩
  · have h0 := h.row.take (i * E.sz)
    rw [flat_take] at h0
    refine x3.row (x2.row (x1.row h0 fun j hj g => ?_) fun j hj g => ?_) fun j hj g => ?_
    · rw [hlt] at hj; simp only [rng] at g; omega
    · rw [hlt] at hj; simp only [rng] at g; omega
    · simp only [rng] at g; omega
  · rw [hlt]
    refine x3.row (x2.row r1 fun j hj g => ?_) fun j hj g => ?_
    · rw [hld] at hj; simp only [rng] at g; omega
    · simp only [rng] at g; omega
/-- The last element is taken away. -/
theorem SE.pop {w w2 w3 : World} {hb ho bi oi cap : Nat} {ks : List α} (h : SE E w hb ho ks bi oi cap) (hi : 0 < ks.length)
    (x2 : Ext (rng bi (oi + (ks.length - 1) * E.sz) E.sz) w w2) (x3 : Ext (rng hb ho 1) w2 w3) (r3 : rd w3 hb ho = some (.slice (some ⟨bi, oi, none⟩) (ks.length - 1 : Nat) cap)) :
    SE E w3 hb ho ks.dropLast bi oi cap ∧ Ext (seF E hb ho bi oi cap) w w3 := by
  have hd : ks.drop (ks.length - 1 + 1) = [] := List.drop_eq_nil_of_le (by omega)
  have := h.erase (i := ks.length - 1) (w1 := w) (by omega) (Ext.refl _ _) (by rw [hd]; exact Row.nil _ _ _) x2 x3 r3
  have he : ks.eraseIdx (ks.length - 1) = ks.dropLast := by rw [List.eraseIdx_eq_take_drop_succ, hd, List.append_nil, List.dropLast_eq_take]
  rw [he] at this
  exact this
/-- One element is set. -/
theorem SE.set {w w' : World} {hb ho bi oi cap i : Nat} {ks : List α} {x : α} (h : SE E w hb ho ks bi oi cap) (hi : i < ks.length) (X : Ext (rng bi (oi + i * E.sz) E.sz) w w') (r : Row w' bi (oi + i * E.sz) (E.cel x)) :
    SE E w' hb ho (ks.set i x) bi oi cap ∧ Ext (seF E hb ho bi oi cap) w w' := by
  have hne := h.ne
  have hle := h.le
  have hcap := Nat.mul_le_mul_right E.sz hle
  have e3 : (i + 1) * E.sz ≤ ks.length * E.sz := Nat.mul_le_mul_right _ hi
  have e4 : (i + 1) * E.sz = i * E.sz + E.sz := by rw [Nat.add_mul, Nat.one_mul]
  have hrow : Row w' bi oi (flat E (ks.set i x)) := by
    rw [List.set_eq_take_append_cons_drop, if_pos hi, flat_append, flat_cons]
    have hl : (flat E (ks.take i)).length = i * E.sz := by rw [flat_length, List.length_take]; congr 1; omega
    refine Row.append.2 ⟨?_, Row.append.2 ⟨by rw [hl]; exact r, ?_⟩⟩
    · rw [← flat_take]
      exact X.row (h.row.take _) fun j hj g => by rw [flat_take, hl] at hj; simp only [rng] at g; omega
    · rw [hl, E.len, ← flat_drop]
      have h1 := h.row.drop ((i + 1) * E.sz)
      rw [e4, ← Nat.add_assoc] at h1
      rw [e4]
      exact X.row h1 fun j hj g => by simp only [rng] at g; omega
  refine ⟨⟨by rw [List.length_set]; exact X.rd h.hd (by simp only [rng]; omega), hrow, X.wok h.wi, by rw [List.length_set]; exact hle, X.wok h.hok, hne⟩, X.mono fun y o _ g => .inr (by simp only [rng] at g ⊢; omega)⟩
end
end Go.Proofs.Ytanmjbkbdmeckaa
