/-
  FnBLoads: the whole statement: it returns true whatever the input is, and the arguments read as before. No condition.
-/
import Derived.Test.YtanmjbkbdmeckaaZ246d2325
import Derived.Test.YtanmjbkbdmeckaaZ152d7459
/-
  Handing on the items of a tree of whatever values, wrapped. No condition.
-/
set_option linter.unusedSimpArgs false
set_option linter.unusedVariables false
namespace Go.Proofs.Ytanmjbkbdmeckaa
open Go Go.Proofs
theorem hSh_none {S : List It → World → Prop} (h : ∀ done w w', S done w → Ext noF w w' → S done w') : ∀ done w w', S done w → Ext (Go.Proofs.Ytanmjbkbdmeckaa.hF none) w w' → S done w' :=
  fun done w w' hs x => h done w w' hs (x.mono fun y o _ g => by cases g)
/-- What a function of a tree hands on to a function value, in order. -/
def Scans (fn : Nat) (args : Value → Array Value) (hp : Option Nat) (B m : Nat) (ys : List It) (F : Nat → Nat → Prop) (w : World) : Prop :=
  ∀ (f : Value) (G : Nat → Nat → Prop) (S : List It → World → Prop) (go : List It → Bool), Cb f G S go → (∀ o, ¬ G m o) → (∀ hb, hp = some hb → (m ≤ hb ∨ hb < B) ∧ ∀ o, G hb o) → (∀ done w w', S done w → Ext (Go.Proofs.Ytanmjbkbdmeckaa.hF hp) w w' → S done w') →
    (∀ y o o', F y o → ¬ G y o') → S [] w → CallK Try.prog fn (args f) w fun _ w' => S (hand go [] ys).1 w' ∧ Ext G w w'
/-- A pivot or none. -/
def upO (ord : List Int) (p : Option It) (xs : List It) : List It := match p with
  | some q => xs.drop (lb O (rkI ord) (rkI ord q) xs)
  | none => xs
def downO (ord : List Int) (p : Option It) (xs : List It) : List It := match p with
  | some q => (xs.take (ub O (rkI ord) (rkI ord q) xs)).reverse
  | none => xs.reverse
set_option maxHeartbeats 400000 in
set_option maxRecDepth 8000 in
theorem M_Scan_s (B m d : Nat) (ord : List Int) (hd : 2 ≤ d) (iso : Int) (xs : List It) (F : Nat → Nat → Prop) (w : World) (hM : TreeAt B ord w m d iso xs F) (hbig : xs.length ≤ 4294967295) :
    Scans 97 (fun f => #[ptr m, f]) none B m (xs) F w := by
  intro f G S go C hm hB hSh hG hS
  refine calls_of_W [] Try.func97 rfl Try.ntmps97 Try.results97 (by simp) fun e he => ?_
  have e0 : e 0 = ptr m := he 0 _ rfl
  have e1 : e 1 = f := he 1 _ rfl
  clear he
  refine W_rg fun K hK => (W_text [true, true, false] (by kernel_rfl) ?_); simp only [↓List.toList_toArray, ↓rgd, ↓rgf, ↓reduceIte, Nat.reduceEqDiff, rg, ow_97, e0, e1]
  refine do_call fn_135 (by simp only [evt, evc, upd_eq, Nat.reduceEqDiff, ↓reduceIte, maT, maC, maN, isnN, isnS] <;> rfl) (scan_any B m d ord iso xs F f G S go C hm false w hM hG hS hbig) ?_
  rintro _ w1 ⟨hS1, X1⟩
  refine ⟨trivial, ?_⟩
  simp only [↓List.toList_toArray, ↓rgd, ↓rgf, ↓reduceIte, Nat.reduceEqDiff, rg, ow_97]
  refine hK _ _ ?_; clear hK K
  exact endQ_0n ⟨hS1, X1⟩
set_option maxHeartbeats 400000 in
set_option maxRecDepth 8000 in
theorem M_ScanMut_s (B m d : Nat) (ord : List Int) (hd : 2 ≤ d) (iso : Int) (xs : List It) (F : Nat → Nat → Prop) (w : World) (hM : TreeAt B ord w m d iso xs F) (hbig : xs.length ≤ 4294967295) :
    Scans 105 (fun f => #[ptr m, f]) none B m (xs) F w := by
  intro f G S go C hm hB hSh hG hS
  refine calls_of_W [] Try.func105 rfl Try.ntmps105 Try.results105 (by simp) fun e he => ?_
  have e0 : e 0 = ptr m := he 0 _ rfl
  have e1 : e 1 = f := he 1 _ rfl
  clear he
  refine W_rg fun K hK => (W_text [true, true, false] (by kernel_rfl) ?_); simp only [↓List.toList_toArray, ↓rgd, ↓rgf, ↓reduceIte, Nat.reduceEqDiff, rg, ow_105, e0, e1]
  refine do_call fn_135 (by simp only [evt, evc, upd_eq, Nat.reduceEqDiff, ↓reduceIte, maT, maC, maN, isnN, isnS] <;> rfl) (scan_any B m d ord iso xs F f G S go C hm true w hM hG hS hbig) ?_
  rintro _ w1 ⟨hS1, X1⟩
  refine ⟨trivial, ?_⟩
  simp only [↓List.toList_toArray, ↓rgd, ↓rgf, ↓reduceIte, Nat.reduceEqDiff, rg, ow_105]
  refine hK _ _ ?_; clear hK K
  exact endQ_0n ⟨hS1, X1⟩
set_option maxHeartbeats 400000 in
set_option maxRecDepth 8000 in
theorem M_Reverse_s (B m d : Nat) (ord : List Int) (hd : 2 ≤ d) (iso : Int) (xs : List It) (F : Nat → Nat → Prop) (w : World) (hM : TreeAt B ord w m d iso xs F) (hbig : xs.length ≤ 4294967295) :
    Scans 101 (fun f => #[ptr m, f]) none B m (xs.reverse) F w := by
  intro f G S go C hm hB hSh hG hS
  refine calls_of_W [] Try.func101 rfl Try.ntmps101 Try.results101 (by simp) fun e he => ?_
  have e0 : e 0 = ptr m := he 0 _ rfl
  have e1 : e 1 = f := he 1 _ rfl
  clear he
  refine W_rg fun K hK => (W_text [true, true, false] (by kernel_rfl) ?_); simp only [↓List.toList_toArray, ↓rgd, ↓rgf, ↓reduceIte, Nat.reduceEqDiff, rg, ow_101, e0, e1]
  refine do_call fn_138 (by simp only [evt, evc, upd_eq, Nat.reduceEqDiff, ↓reduceIte, maT, maC, maN, isnN, isnS] <;> rfl) (reverse_any B m d ord iso xs F f G S go C hm false w hM hG hS hbig) ?_
  rintro _ w1 ⟨hS1, X1⟩
  refine ⟨trivial, ?_⟩
  simp only [↓List.toList_toArray, ↓rgd, ↓rgf, ↓reduceIte, Nat.reduceEqDiff, rg, ow_101]
  refine hK _ _ ?_; clear hK K
  exact endQ_0n ⟨hS1, X1⟩
set_option maxHeartbeats 400000 in
set_option maxRecDepth 8000 in
theorem M_ReverseMut_s (B m d : Nat) (ord : List Int) (hd : 2 ≤ d) (iso : Int) (xs : List It) (F : Nat → Nat → Prop) (w : World) (hM : TreeAt B ord w m d iso xs F) (hbig : xs.length ≤ 4294967295) :
    Scans 107 (fun f => #[ptr m, f]) none B m (xs.reverse) F w := by
  intro f G S go C hm hB hSh hG hS
  refine calls_of_W [] Try.func107 rfl Try.ntmps107 Try.results107 (by simp) fun e he => ?_
  have e0 : e 0 = ptr m := he 0 _ rfl
  have e1 : e 1 = f := he 1 _ rfl
  clear he
  refine W_rg fun K hK => (W_text [true, true, false] (by kernel_rfl) ?_); simp only [↓List.toList_toArray, ↓rgd, ↓rgf, ↓reduceIte, Nat.reduceEqDiff, rg, ow_107, e0, e1]
  refine do_call fn_138 (by simp only [evt, evc, upd_eq, Nat.reduceEqDiff, ↓reduceIte, maT, maC, maN, isnN, isnS] <;> rfl) (reverse_any B m d ord iso xs F f G S go C hm true w hM hG hS hbig) ?_
  rintro _ w1 ⟨hS1, X1⟩
  refine ⟨trivial, ?_⟩
  simp only [↓List.toList_toArray, ↓rgd, ↓rgf, ↓reduceIte, Nat.reduceEqDiff, rg, ow_107]
  refine hK _ _ ?_; clear hK K
  exact endQ_0n ⟨hS1, X1⟩
set_option maxHeartbeats 400000 in
set_option maxRecDepth 8000 in
theorem M_Ascend_s (B m d : Nat) (ord : List Int) (hd : 2 ≤ d) (iso : Int) (xs : List It) (F : Nat → Nat → Prop) (q : It) (w : World) (hM : TreeAt B ord w m d iso xs F) (hbig : xs.length ≤ 4294967295) :
    Scans 98 (fun f => #[ptr m, itV q, f]) none B m (xs.drop (lb O (rkI ord) (rkI ord q) xs)) F w := by
  intro f G S go C hm hB hSh hG hS
  refine calls_of_W [] Try.func98 rfl Try.ntmps98 Try.results98 (by simp) fun e he => ?_
  have e0 : e 0 = ptr m := he 0 _ rfl
  have e1 : e 1 = itV q := he 1 _ rfl
  have e2 : e 2 = f := he 2 _ rfl
  clear he
  refine W_rg fun K hK => (W_text [true, true, true, false] (by kernel_rfl) ?_); simp only [↓List.toList_toArray, ↓rgd, ↓rgf, ↓reduceIte, Nat.reduceEqDiff, rg, ow_98, e0, e1, e2]
  refine do_call fn_136 (by simp only [evt, evc, upd_eq, Nat.reduceEqDiff, ↓reduceIte, maT, maC, maN, isnN, isnS] <;> rfl) (ascend_any B m d ord hd iso xs F q none f G S go C hm hB hSh false w hM hG hS (HOk.none _) hbig) ?_
  rintro _ w1 ⟨hS1, X1⟩
  refine ⟨trivial, ?_⟩
  simp only [↓List.toList_toArray, ↓rgd, ↓rgf, ↓reduceIte, Nat.reduceEqDiff, rg, ow_98]
  refine hK _ _ ?_; clear hK K
  exact endQ_0n ⟨hS1, X1⟩
set_option maxHeartbeats 400000 in
set_option maxRecDepth 8000 in
theorem M_AscendMut_s (B m d : Nat) (ord : List Int) (hd : 2 ≤ d) (iso : Int) (xs : List It) (F : Nat → Nat → Prop) (q : It) (w : World) (hM : TreeAt B ord w m d iso xs F) (hbig : xs.length ≤ 4294967295) :
    Scans 106 (fun f => #[ptr m, itV q, f]) none B m (xs.drop (lb O (rkI ord) (rkI ord q) xs)) F w := by
  intro f G S go C hm hB hSh hG hS
  refine calls_of_W [] Try.func106 rfl Try.ntmps106 Try.results106 (by simp) fun e he => ?_
  have e0 : e 0 = ptr m := he 0 _ rfl
  have e1 : e 1 = itV q := he 1 _ rfl
  have e2 : e 2 = f := he 2 _ rfl
  clear he
  refine W_rg fun K hK => (W_text [true, true, true, false] (by kernel_rfl) ?_); simp only [↓List.toList_toArray, ↓rgd, ↓rgf, ↓reduceIte, Nat.reduceEqDiff, rg, ow_106, e0, e1, e2]
  refine do_call fn_136 (by simp only [evt, evc, upd_eq, Nat.reduceEqDiff, ↓reduceIte, maT, maC, maN, isnN, isnS] <;> rfl) (ascend_any B m d ord hd iso xs F q none f G S go C hm hB hSh true w hM hG hS (HOk.none _) hbig) ?_
  rintro _ w1 ⟨hS1, X1⟩
  refine ⟨trivial, ?_⟩
  simp only [↓List.toList_toArray, ↓rgd, ↓rgf, ↓reduceIte, Nat.reduceEqDiff, rg, ow_106]
  refine hK _ _ ?_; clear hK K
  exact endQ_0n ⟨hS1, X1⟩
set_option maxHeartbeats 400000 in
set_option maxRecDepth 8000 in
theorem M_AscendHint_s (B m d : Nat) (ord : List Int) (hd : 2 ≤ d) (iso : Int) (xs : List It) (F : Nat → Nat → Prop) (q : It) (hp : Option Nat) (w : World) (hM : TreeAt B ord w m d iso xs F) (hH : HOk hp w) (hbig : xs.length ≤ 4294967295) :
    Scans 103 (fun f => #[ptr m, itV q, f, hV hp]) hp B m (xs.drop (lb O (rkI ord) (rkI ord q) xs)) F w := by
  intro f G S go C hm hB hSh hG hS
  refine calls_of_W [] Try.func103 rfl Try.ntmps103 Try.results103 (by simp) fun e he => ?_
  have e0 : e 0 = ptr m := he 0 _ rfl
  have e1 : e 1 = itV q := he 1 _ rfl
  have e2 : e 2 = f := he 2 _ rfl
  have e3 : e 3 = hV hp := he 3 _ rfl
  clear he
  refine W_rg fun K hK => (W_text [true, true, true, true, false] (by kernel_rfl) ?_); simp only [↓List.toList_toArray, ↓rgd, ↓rgf, ↓reduceIte, Nat.reduceEqDiff, rg, ow_103, e0, e1, e2, e3]
  refine do_call fn_136 (by simp only [evt, evc, upd_eq, Nat.reduceEqDiff, ↓reduceIte, maT, maC, maN, isnN, isnS] <;> rfl) (ascend_any B m d ord hd iso xs F q hp f G S go C hm hB hSh false w hM hG hS hH hbig) ?_
  rintro _ w1 ⟨hS1, X1⟩
  refine ⟨trivial, ?_⟩
  simp only [↓List.toList_toArray, ↓rgd, ↓rgf, ↓reduceIte, Nat.reduceEqDiff, rg, ow_103]
  refine hK _ _ ?_; clear hK K
  exact endQ_0n ⟨hS1, X1⟩
set_option maxHeartbeats 400000 in
set_option maxRecDepth 8000 in
theorem M_Descend_s (B m d : Nat) (ord : List Int) (hd : 2 ≤ d) (iso : Int) (xs : List It) (F : Nat → Nat → Prop) (q : It) (w : World) (hM : TreeAt B ord w m d iso xs F) (hbig : xs.length ≤ 4294967295) :
    Scans 102 (fun f => #[ptr m, itV q, f]) none B m ((xs.take (ub O (rkI ord) (rkI ord q) xs)).reverse) F w := by
  intro f G S go C hm hB hSh hG hS
  refine calls_of_W [] Try.func102 rfl Try.ntmps102 Try.results102 (by simp) fun e he => ?_
  have e0 : e 0 = ptr m := he 0 _ rfl
  have e1 : e 1 = itV q := he 1 _ rfl
  have e2 : e 2 = f := he 2 _ rfl
  clear he
  refine W_rg fun K hK => (W_text [true, true, true, false] (by kernel_rfl) ?_); simp only [↓List.toList_toArray, ↓rgd, ↓rgf, ↓reduceIte, Nat.reduceEqDiff, rg, ow_102, e0, e1, e2]
  refine do_call fn_139 (by simp only [evt, evc, upd_eq, Nat.reduceEqDiff, ↓reduceIte, maT, maC, maN, isnN, isnS] <;> rfl) (descend_any B m d ord hd iso xs F q none f G S go C hm hB hSh false w hM hG hS (HOk.none _) hbig) ?_
  rintro _ w1 ⟨hS1, X1⟩
  refine ⟨trivial, ?_⟩
  simp only [↓List.toList_toArray, ↓rgd, ↓rgf, ↓reduceIte, Nat.reduceEqDiff, rg, ow_102]
  refine hK _ _ ?_; clear hK K
  exact endQ_0n ⟨hS1, X1⟩
set_option maxHeartbeats 400000 in
set_option maxRecDepth 8000 in
theorem M_DescendMut_s (B m d : Nat) (ord : List Int) (hd : 2 ≤ d) (iso : Int) (xs : List It) (F : Nat → Nat → Prop) (q : It) (w : World) (hM : TreeAt B ord w m d iso xs F) (hbig : xs.length ≤ 4294967295) :
    Scans 108 (fun f => #[ptr m, itV q, f]) none B m ((xs.take (ub O (rkI ord) (rkI ord q) xs)).reverse) F w := by
  intro f G S go C hm hB hSh hG hS
  refine calls_of_W [] Try.func108 rfl Try.ntmps108 Try.results108 (by simp) fun e he => ?_
  have e0 : e 0 = ptr m := he 0 _ rfl
  have e1 : e 1 = itV q := he 1 _ rfl
  have e2 : e 2 = f := he 2 _ rfl
  clear he
  refine W_rg fun K hK => (W_text [true, true, true, false] (by kernel_rfl) ?_); simp only [↓List.toList_toArray, ↓rgd, ↓rgf, ↓reduceIte, Nat.reduceEqDiff, rg, ow_108, e0, e1, e2]
  refine do_call fn_139 (by simp only [evt, evc, upd_eq, Nat.reduceEqDiff, ↓reduceIte, maT, maC, maN, isnN, isnS] <;> rfl) (descend_any B m d ord hd iso xs F q none f G S go C hm hB hSh true w hM hG hS (HOk.none _) hbig) ?_
  rintro _ w1 ⟨hS1, X1⟩
  refine ⟨trivial, ?_⟩
  simp only [↓List.toList_toArray, ↓rgd, ↓rgf, ↓reduceIte, Nat.reduceEqDiff, rg, ow_108]
  refine hK _ _ ?_; clear hK K
  exact endQ_0n ⟨hS1, X1⟩
set_option maxHeartbeats 400000 in
set_option maxRecDepth 8000 in
theorem M_DescendHint_s (B m d : Nat) (ord : List Int) (hd : 2 ≤ d) (iso : Int) (xs : List It) (F : Nat → Nat → Prop) (q : It) (hp : Option Nat) (w : World) (hM : TreeAt B ord w m d iso xs F) (hH : HOk hp w) (hbig : xs.length ≤ 4294967295) :
    Scans 104 (fun f => #[ptr m, itV q, f, hV hp]) hp B m ((xs.take (ub O (rkI ord) (rkI ord q) xs)).reverse) F w := by
  intro f G S go C hm hB hSh hG hS
  refine calls_of_W [] Try.func104 rfl Try.ntmps104 Try.results104 (by simp) fun e he => ?_
  have e0 : e 0 = ptr m := he 0 _ rfl
  have e1 : e 1 = itV q := he 1 _ rfl
  have e2 : e 2 = f := he 2 _ rfl
  have e3 : e 3 = hV hp := he 3 _ rfl
  clear he
  refine W_rg fun K hK => (W_text [true, true, true, true, false] (by kernel_rfl) ?_); simp only [↓List.toList_toArray, ↓rgd, ↓rgf, ↓reduceIte, Nat.reduceEqDiff, rg, ow_104, e0, e1, e2, e3]
  refine do_call fn_139 (by simp only [evt, evc, upd_eq, Nat.reduceEqDiff, ↓reduceIte, maT, maC, maN, isnN, isnS] <;> rfl) (descend_any B m d ord hd iso xs F q hp f G S go C hm hB hSh false w hM hG hS hH hbig) ?_
  rintro _ w1 ⟨hS1, X1⟩
  refine ⟨trivial, ?_⟩
  simp only [↓List.toList_toArray, ↓rgd, ↓rgf, ↓reduceIte, Nat.reduceEqDiff, rg, ow_104]
  refine hK _ _ ?_; clear hK K
  exact endQ_0n ⟨hS1, X1⟩
set_option maxHeartbeats 400000 in
set_option maxRecDepth 8000 in
theorem M_DescendHintMut_s (B m d : Nat) (ord : List Int) (hd : 2 ≤ d) (iso : Int) (xs : List It) (F : Nat → Nat → Prop) (q : It) (hp : Option Nat) (w : World) (hM : TreeAt B ord w m d iso xs F) (hH : HOk hp w) (hbig : xs.length ≤ 4294967295) :
    Scans 113 (fun f => #[ptr m, itV q, f, hV hp]) hp B m ((xs.take (ub O (rkI ord) (rkI ord q) xs)).reverse) F w := by
  intro f G S go C hm hB hSh hG hS
  refine calls_of_W [] Try.func113 rfl Try.ntmps113 Try.results113 (by simp) fun e he => ?_
  have e0 : e 0 = ptr m := he 0 _ rfl
  have e1 : e 1 = itV q := he 1 _ rfl
  have e2 : e 2 = f := he 2 _ rfl
  have e3 : e 3 = hV hp := he 3 _ rfl
  clear he
  refine W_rg fun K hK => (W_text [true, true, true, true, false] (by kernel_rfl) ?_); simp only [↓List.toList_toArray, ↓rgd, ↓rgf, ↓reduceIte, Nat.reduceEqDiff, rg, ow_113, e0, e1, e2, e3]
  refine do_call fn_139 (by simp only [evt, evc, upd_eq, Nat.reduceEqDiff, ↓reduceIte, maT, maC, maN, isnN, isnS] <;> rfl) (descend_any B m d ord hd iso xs F q hp f G S go C hm hB hSh true w hM hG hS hH hbig) ?_
  rintro _ w1 ⟨hS1, X1⟩
  refine ⟨trivial, ?_⟩
  simp only [↓List.toList_toArray, ↓rgd, ↓rgf, ↓reduceIte, Nat.reduceEqDiff, rg, ow_113]
  refine hK _ _ ?_; clear hK K
  exact endQ_0n ⟨hS1, X1⟩
set_option maxHeartbeats 400000 in
set_option maxRecDepth 8000 in
theorem T_Ascend_s (t : Nat) (B m d : Nat) (ord : List Int) (hd : 2 ≤ d) (iso : Int) (xs : List It) (F : Nat → Nat → Prop) (p : Option It) (w : World) (hM : TreeAt B ord w m d iso xs F) (hbig : xs.length ≤ 4294967295) (ht : BAt w t m) :
    Scans 64 (fun f => #[ptr t, itO p, f]) none B m (upO ord p xs) F w := by
  intro f G S go C hm hB hSh hG hS
  refine calls_of_W [] Try.func64 rfl Try.ntmps64 Try.results64 (by simp) fun e he => ?_
  have e0 : e 0 = ptr t := he 0 _ rfl
  have e1 : e 1 = itO p := he 1 _ rfl
  have e2 : e 2 = f := he 2 _ rfl
  clear he
  have ht : rd w t 0 = some (ptr m) := ht
  cases p with
  | none =>
    replace e1 : e 1 = zV := e1
    refine W_sq fun K hK => (W_text [true, true] (by kernel_rfl) ?_); simp only [↓List.toList_toArray, ↓rgd, ↓rgf, ↓reduceIte, Nat.reduceEqDiff, rg, ow_64, e1, eq_anyN]
    refine hK _ _ ?_; clear hK K
    refine W_true (by simp only [evt, evc, upd_eq, Nat.reduceEqDiff, ↓reduceIte, ntT, ntF] <;> rfl) ?_
    refine W_rg fun K hK => (W_text [true, true, true, true, true, false] (by kernel_rfl) ?_); simp only [↓List.toList_toArray, ↓rgd, ↓rgf, ↓reduceIte, Nat.reduceEqDiff, rg, ow_64, e0, e2, ptr_eq, ht]
    refine do_call fn_97 (by simp only [evt, evc, upd_eq, Nat.reduceEqDiff, ↓reduceIte, maT, maC, maN, isnN, isnS] <;> rfl) (M_Scan_s B m d ord hd iso xs F w hM hbig f G S go C hm (fun _ h => by cases h) (hSh_none C.2) hG hS) ?_
    rintro _ w1 ⟨hS1, X1⟩
    refine ⟨trivial, ?_⟩
    simp only [↓List.toList_toArray, ↓rgd, ↓rgf, ↓reduceIte, Nat.reduceEqDiff, rg, ow_64]
    refine hK _ _ ?_; clear hK K
    exact endQ_0n ⟨hS1, X1⟩
  | some q =>
    replace e1 : e 1 = itV q := e1
    refine W_sq fun K hK => (W_text [true, true] (by kernel_rfl) ?_); simp only [↓List.toList_toArray, ↓rgd, ↓rgf, ↓reduceIte, Nat.reduceEqDiff, rg, ow_64, e1, eq_any]
    refine hK _ _ ?_; clear hK K
    refine W_false (by simp only [evt, evc, upd_eq, Nat.reduceEqDiff, ↓reduceIte, ntT, ntF] <;> rfl) ?_
    refine W_rg fun K hK => (W_text [true, true, true, true, true, true, false] (by kernel_rfl) ?_); simp only [↓List.toList_toArray, ↓rgd, ↓rgf, ↓reduceIte, Nat.reduceEqDiff, rg, ow_64, e0, e1, e2, ptr_eq, ht]
    refine do_call fn_98 (by simp only [evt, evc, upd_eq, Nat.reduceEqDiff, ↓reduceIte, maT, maC, maN, isnN, isnS] <;> rfl) (M_Ascend_s B m d ord hd iso xs F q w hM hbig f G S go C hm hB hSh hG hS) ?_
    rintro _ w1 ⟨hS1, X1⟩
    refine ⟨trivial, ?_⟩
    simp only [↓List.toList_toArray, ↓rgd, ↓rgf, ↓reduceIte, Nat.reduceEqDiff, rg, ow_64]
    refine hK _ _ ?_; clear hK K
    exact endQ_0n ⟨hS1, X1⟩
set_option maxHeartbeats 400000 in
set_option maxRecDepth 8000 in
theorem T_AscendMut_s (t : Nat) (B m d : Nat) (ord : List Int) (hd : 2 ≤ d) (iso : Int) (xs : List It) (F : Nat → Nat → Prop) (p : Option It) (w : World) (hM : TreeAt B ord w m d iso xs F) (hbig : xs.length ≤ 4294967295) (ht : BAt w t m) :
    Scans 72 (fun f => #[ptr t, itO p, f]) none B m (upO ord p xs) F w := by
  intro f G S go C hm hB hSh hG hS
  refine calls_of_W [] Try.func72 rfl Try.ntmps72 Try.results72 (by simp) fun e he => ?_
  have e0 : e 0 = ptr t := he 0 _ rfl
  have e1 : e 1 = itO p := he 1 _ rfl
  have e2 : e 2 = f := he 2 _ rfl
  clear he
  have ht : rd w t 0 = some (ptr m) := ht
  cases p with
  | none =>
    replace e1 : e 1 = zV := e1
    refine W_sq fun K hK => (W_text [true, true] (by kernel_rfl) ?_); simp only [↓List.toList_toArray, ↓rgd, ↓rgf, ↓reduceIte, Nat.reduceEqDiff, rg, ow_72, e1, eq_anyN]
    refine hK _ _ ?_; clear hK K
    refine W_true (by simp only [evt, evc, upd_eq, Nat.reduceEqDiff, ↓reduceIte, ntT, ntF] <;> rfl) ?_
    refine W_rg fun K hK => (W_text [true, true, true, true, true, false] (by kernel_rfl) ?_); simp only [↓List.toList_toArray, ↓rgd, ↓rgf, ↓reduceIte, Nat.reduceEqDiff, rg, ow_72, e0, e2, ptr_eq, ht]
    refine do_call fn_105 (by simp only [evt, evc, upd_eq, Nat.reduceEqDiff, ↓reduceIte, maT, maC, maN, isnN, isnS] <;> rfl) (M_ScanMut_s B m d ord hd iso xs F w hM hbig f G S go C hm (fun _ h => by cases h) (hSh_none C.2) hG hS) ?_
    rintro _ w1 ⟨hS1, X1⟩
    refine ⟨trivial, ?_⟩
    simp only [↓List.toList_toArray, ↓rgd, ↓rgf, ↓reduceIte, Nat.reduceEqDiff, rg, ow_72]
    refine hK _ _ ?_; clear hK K
    exact endQ_0n ⟨hS1, X1⟩
  | some q =>
    replace e1 : e 1 = itV q := e1
    refine W_sq fun K hK => (W_text [true, true] (by kernel_rfl) ?_); simp only [↓List.toList_toArray, ↓rgd, ↓rgf, ↓reduceIte, Nat.reduceEqDiff, rg, ow_72, e1, eq_any]
    refine hK _ _ ?_; clear hK K
    refine W_false (by simp only [evt, evc, upd_eq, Nat.reduceEqDiff, ↓reduceIte, ntT, ntF] <;> rfl) ?_
    refine W_rg fun K hK => (W_text [true, true, true, true, true, true, false] (by kernel_rfl) ?_); simp only [↓List.toList_toArray, ↓rgd, ↓rgf, ↓reduceIte, Nat.reduceEqDiff, rg, ow_72, e0, e1, e2, ptr_eq, ht]
    refine do_call fn_106 (by simp only [evt, evc, upd_eq, Nat.reduceEqDiff, ↓reduceIte, maT, maC, maN, isnN, isnS] <;> rfl) (M_AscendMut_s B m d ord hd iso xs F q w hM hbig f G S go C hm hB hSh hG hS) ?_
    rintro _ w1 ⟨hS1, X1⟩
    refine ⟨trivial, ?_⟩
    simp only [↓List.toList_toArray, ↓rgd, ↓rgf, ↓reduceIte, Nat.reduceEqDiff, rg, ow_72]
    refine hK _ _ ?_; clear hK K
    exact endQ_0n ⟨hS1, X1⟩
set_option maxHeartbeats 400000 in
set_option maxRecDepth 8000 in
theorem T_AscendHint_s (t : Nat) (B m d : Nat) (ord : List Int) (hd : 2 ≤ d) (iso : Int) (xs : List It) (F : Nat → Nat → Prop) (p : Option It) (hp : Option Nat) (w : World) (hM : TreeAt B ord w m d iso xs F) (hH : HOk hp w) (hbig : xs.length ≤ 4294967295) (ht : BAt w t m) :
    Scans 70 (fun f => #[ptr t, itO p, f, hV hp]) hp B m (upO ord p xs) F w := by
  intro f G S go C hm hB hSh hG hS
  refine calls_of_W [] Try.func70 rfl Try.ntmps70 Try.results70 (by simp) fun e he => ?_
  have e0 : e 0 = ptr t := he 0 _ rfl
  have e1 : e 1 = itO p := he 1 _ rfl
  have e2 : e 2 = f := he 2 _ rfl
  have e3 : e 3 = hV hp := he 3 _ rfl
  clear he
  have ht : rd w t 0 = some (ptr m) := ht
  cases p with
  | none =>
    replace e1 : e 1 = zV := e1
    refine W_sq fun K hK => (W_text [true, true] (by kernel_rfl) ?_); simp only [↓List.toList_toArray, ↓rgd, ↓rgf, ↓reduceIte, Nat.reduceEqDiff, rg, ow_70, e1, eq_anyN]
    refine hK _ _ ?_; clear hK K
    refine W_true (by simp only [evt, evc, upd_eq, Nat.reduceEqDiff, ↓reduceIte, ntT, ntF] <;> rfl) ?_
    refine W_rg fun K hK => (W_text [true, true, true, true, true, false] (by kernel_rfl) ?_); simp only [↓List.toList_toArray, ↓rgd, ↓rgf, ↓reduceIte, Nat.reduceEqDiff, rg, ow_70, e0, e2, ptr_eq, ht]
    refine do_call fn_97 (by simp only [evt, evc, upd_eq, Nat.reduceEqDiff, ↓reduceIte, maT, maC, maN, isnN, isnS] <;> rfl) (M_Scan_s B m d ord hd iso xs F w hM hbig f G S go C hm (fun _ h => by cases h) (hSh_none C.2) hG hS) ?_
    rintro _ w1 ⟨hS1, X1⟩
    refine ⟨trivial, ?_⟩
    simp only [↓List.toList_toArray, ↓rgd, ↓rgf, ↓reduceIte, Nat.reduceEqDiff, rg, ow_70]
    refine hK _ _ ?_; clear hK K
    exact endQ_0n ⟨hS1, X1⟩
  | some q =>
    replace e1 : e 1 = itV q := e1
    refine W_sq fun K hK => (W_text [true, true] (by kernel_rfl) ?_); simp only [↓List.toList_toArray, ↓rgd, ↓rgf, ↓reduceIte, Nat.reduceEqDiff, rg, ow_70, e1, eq_any]
    refine hK _ _ ?_; clear hK K
    refine W_false (by simp only [evt, evc, upd_eq, Nat.reduceEqDiff, ↓reduceIte, ntT, ntF] <;> rfl) ?_
    refine W_rg fun K hK => (W_text [true, true, true, true, true, true, true, false] (by kernel_rfl) ?_); simp only [↓List.toList_toArray, ↓rgd, ↓rgf, ↓reduceIte, Nat.reduceEqDiff, rg, ow_70, e0, e1, e2, e3, ptr_eq, ht]
    refine do_call fn_103 (by simp only [evt, evc, upd_eq, Nat.reduceEqDiff, ↓reduceIte, maT, maC, maN, isnN, isnS] <;> rfl) (M_AscendHint_s B m d ord hd iso xs F q hp w hM hH hbig f G S go C hm hB hSh hG hS) ?_
    rintro _ w1 ⟨hS1, X1⟩
    refine ⟨trivial, ?_⟩
    simp only [↓List.toList_toArray, ↓rgd, ↓rgf, ↓reduceIte, Nat.reduceEqDiff, rg, ow_70]
    refine hK _ _ ?_; clear hK K
    exact endQ_0n ⟨hS1, X1⟩
set_option maxHeartbeats 400000 in
set_option maxRecDepth 8000 in
theorem T_Descend_s (t : Nat) (B m d : Nat) (ord : List Int) (hd : 2 ≤ d) (iso : Int) (xs : List It) (F : Nat → Nat → Prop) (p : Option It) (w : World) (hM : TreeAt B ord w m d iso xs F) (hbig : xs.length ≤ 4294967295) (ht : BAt w t m) :
    Scans 67 (fun f => #[ptr t, itO p, f]) none B m (downO ord p xs) F w := by
  intro f G S go C hm hB hSh hG hS
  refine calls_of_W [] Try.func67 rfl Try.ntmps67 Try.results67 (by simp) fun e he => ?_
  have e0 : e 0 = ptr t := he 0 _ rfl
  have e1 : e 1 = itO p := he 1 _ rfl
  have e2 : e 2 = f := he 2 _ rfl
  clear he
  have ht : rd w t 0 = some (ptr m) := ht
  cases p with
  | none =>
    replace e1 : e 1 = zV := e1
    refine W_sq fun K hK => (W_text [true, true] (by kernel_rfl) ?_); simp only [↓List.toList_toArray, ↓rgd, ↓rgf, ↓reduceIte, Nat.reduceEqDiff, rg, ow_67, e1, eq_anyN]
    refine hK _ _ ?_; clear hK K
    refine W_true (by simp only [evt, evc, upd_eq, Nat.reduceEqDiff, ↓reduceIte, ntT, ntF] <;> rfl) ?_
    refine W_rg fun K hK => (W_text [true, true, true, true, true, false] (by kernel_rfl) ?_); simp only [↓List.toList_toArray, ↓rgd, ↓rgf, ↓reduceIte, Nat.reduceEqDiff, rg, ow_67, e0, e2, ptr_eq, ht]
    refine do_call fn_101 (by simp only [evt, evc, upd_eq, Nat.reduceEqDiff, ↓reduceIte, maT, maC, maN, isnN, isnS] <;> rfl) (M_Reverse_s B m d ord hd iso xs F w hM hbig f G S go C hm (fun _ h => by cases h) (hSh_none C.2) hG hS) ?_
    rintro _ w1 ⟨hS1, X1⟩
    refine ⟨trivial, ?_⟩
    simp only [↓List.toList_toArray, ↓rgd, ↓rgf, ↓reduceIte, Nat.reduceEqDiff, rg, ow_67]
    refine hK _ _ ?_; clear hK K
    exact endQ_0n ⟨hS1, X1⟩
  | some q =>
    replace e1 : e 1 = itV q := e1
    refine W_sq fun K hK => (W_text [true, true] (by kernel_rfl) ?_); simp only [↓List.toList_toArray, ↓rgd, ↓rgf, ↓reduceIte, Nat.reduceEqDiff, rg, ow_67, e1, eq_any]
    refine hK _ _ ?_; clear hK K
    refine W_false (by simp only [evt, evc, upd_eq, Nat.reduceEqDiff, ↓reduceIte, ntT, ntF] <;> rfl) ?_
    refine W_rg fun K hK => (W_text [true, true, true, true, true, true, false] (by kernel_rfl) ?_); simp only [↓List.toList_toArray, ↓rgd, ↓rgf, ↓reduceIte, Nat.reduceEqDiff, rg, ow_67, e0, e1, e2, ptr_eq, ht]
    refine do_call fn_102 (by simp only [evt, evc, upd_eq, Nat.reduceEqDiff, ↓reduceIte, maT, maC, maN, isnN, isnS] <;> rfl) (M_Descend_s B m d ord hd iso xs F q w hM hbig f G S go C hm hB hSh hG hS) ?_
    rintro _ w1 ⟨hS1, X1⟩
    refine ⟨trivial, ?_⟩
    simp only [↓List.toList_toArray, ↓rgd, ↓rgf, ↓reduceIte, Nat.reduceEqDiff, rg, ow_67]
    refine hK _ _ ?_; clear hK K
    exact endQ_0n ⟨hS1, X1⟩
set_option maxHeartbeats 400000 in
set_option maxRecDepth 8000 in
theorem T_DescendMut_s (t : Nat) (B m d : Nat) (ord : List Int) (hd : 2 ≤ d) (iso : Int) (xs : List It) (F : Nat → Nat → Prop) (p : Option It) (w : World) (hM : TreeAt B ord w m d iso xs F) (hbig : xs.length ≤ 4294967295) (ht : BAt w t m) :
    Scans 73 (fun f => #[ptr t, itO p, f]) none B m (downO ord p xs) F w := by
  intro f G S go C hm hB hSh hG hS
  refine calls_of_W [] Try.func73 rfl Try.ntmps73 Try.results73 (by simp) fun e he => ?_
  have e0 : e 0 = ptr t := he 0 _ rfl
  have e1 : e 1 = itO p := he 1 _ rfl
  have e2 : e 2 = f := he 2 _ rfl
  clear he
  have ht : rd w t 0 = some (ptr m) := ht
  cases p with
  | none =>
    replace e1 : e 1 = zV := e1
    refine W_sq fun K hK => (W_text [true, true] (by kernel_rfl) ?_); simp only [↓List.toList_toArray, ↓rgd, ↓rgf, ↓reduceIte, Nat.reduceEqDiff, rg, ow_73, e1, eq_anyN]
    refine hK _ _ ?_; clear hK K
    refine W_true (by simp only [evt, evc, upd_eq, Nat.reduceEqDiff, ↓reduceIte, ntT, ntF] <;> rfl) ?_
    refine W_rg fun K hK => (W_text [true, true, true, true, true, false] (by kernel_rfl) ?_); simp only [↓List.toList_toArray, ↓rgd, ↓rgf, ↓reduceIte, Nat.reduceEqDiff, rg, ow_73, e0, e2, ptr_eq, ht]
    refine do_call fn_107 (by simp only [evt, evc, upd_eq, Nat.reduceEqDiff, ↓reduceIte, maT, maC, maN, isnN, isnS] <;> rfl) (M_ReverseMut_s B m d ord hd iso xs F w hM hbig f G S go C hm (fun _ h => by cases h) (hSh_none C.2) hG hS) ?_
    rintro _ w1 ⟨hS1, X1⟩
    refine ⟨trivial, ?_⟩
    simp only [↓List.toList_toArray, ↓rgd, ↓rgf, ↓reduceIte, Nat.reduceEqDiff, rg, ow_73]
    refine hK _ _ ?_; clear hK K
    exact endQ_0n ⟨hS1, X1⟩
  | some q =>
    replace e1 : e 1 = itV q := e1
    refine W_sq fun K hK => (W_text [true, true] (by kernel_rfl) ?_); simp only [↓List.toList_toArray, ↓rgd, ↓rgf, ↓reduceIte, Nat.reduceEqDiff, rg, ow_73, e1, eq_any]
    refine hK _ _ ?_; clear hK K
    refine W_false (by simp only [evt, evc, upd_eq, Nat.reduceEqDiff, ↓reduceIte, ntT, ntF] <;> rfl) ?_
    refine W_rg fun K hK => (W_text [true, true, true, true, true, true, false] (by kernel_rfl) ?_); simp only [↓List.toList_toArray, ↓rgd, ↓rgf, ↓reduceIte, Nat.reduceEqDiff, rg, ow_73, e0, e1, e2, ptr_eq, ht]
    refine do_call fn_108 (by simp only [evt, evc, upd_eq, Nat.reduceEqDiff, ↓reduceIte, maT, maC, maN, isnN, isnS] <;> rfl) (M_DescendMut_s B m d ord hd iso xs F q w hM hbig f G S go C hm hB hSh hG hS) ?_
    rintro _ w1 ⟨hS1, X1⟩
    refine ⟨trivial, ?_⟩
    simp only [↓List.toList_toArray, ↓rgd, ↓rgf, ↓reduceIte, Nat.reduceEqDiff, rg, ow_73]
    refine hK _ _ ?_; clear hK K
    exact endQ_0n ⟨hS1, X1⟩
set_option maxHeartbeats 400000 in
set_option maxRecDepth 8000 in
theorem T_DescendHint_s (t : Nat) (B m d : Nat) (ord : List Int) (hd : 2 ≤ d) (iso : Int) (xs : List It) (F : Nat → Nat → Prop) (p : Option It) (hp : Option Nat) (w : World) (hM : TreeAt B ord w m d iso xs F) (hH : HOk hp w) (hbig : xs.length ≤ 4294967295) (ht : BAt w t m) :
    Scans 71 (fun f => #[ptr t, itO p, f, hV hp]) hp B m (downO ord p xs) F w := by
  intro f G S go C hm hB hSh hG hS
  refine calls_of_W [] Try.func71 rfl Try.ntmps71 Try.results71 (by simp) fun e he => ?_
  have e0 : e 0 = ptr t := he 0 _ rfl
  have e1 : e 1 = itO p := he 1 _ rfl
  have e2 : e 2 = f := he 2 _ rfl
  have e3 : e 3 = hV hp := he 3 _ rfl
  clear he
  have ht : rd w t 0 = some (ptr m) := ht
  cases p with
  | none =>
    replace e1 : e 1 = zV := e1
    refine W_sq fun K hK => (W_text [true, true] (by kernel_rfl) ?_); simp only [↓List.toList_toArray, ↓rgd, ↓rgf, ↓reduceIte, Nat.reduceEqDiff, rg, ow_71, e1, eq_anyN]
    refine hK _ _ ?_; clear hK K
    refine W_true (by simp only [evt, evc, upd_eq, Nat.reduceEqDiff, ↓reduceIte, ntT, ntF] <;> rfl) ?_
    refine W_rg fun K hK => (W_text [true, true, true, true, true, false] (by kernel_rfl) ?_); simp only [↓List.toList_toArray, ↓rgd, ↓rgf, ↓reduceIte, Nat.reduceEqDiff, rg, ow_71, e0, e2, ptr_eq, ht]
    refine do_call fn_101 (by simp only [evt, evc, upd_eq, Nat.reduceEqDiff, ↓reduceIte, maT, maC, maN, isnN, isnS] <;> rfl) (M_Reverse_s B m d ord hd iso xs F w hM hbig f G S go C hm (fun _ h => by cases h) (hSh_none C.2) hG hS) ?_
    rintro _ w1 ⟨hS1, X1⟩
    refine ⟨trivial, ?_⟩
    simp only [↓List.toList_toArray, ↓rgd, ↓rgf, ↓reduceIte, Nat.reduceEqDiff, rg, ow_71]
    refine hK _ _ ?_; clear hK K
    exact endQ_0n ⟨hS1, X1⟩
  | some q =>
    replace e1 : e 1 = itV q := e1
    refine W_sq fun K hK => (W_text [true, true] (by kernel_rfl) ?_); simp only [↓List.toList_toArray, ↓rgd, ↓rgf, ↓reduceIte, Nat.reduceEqDiff, rg, ow_71, e1, eq_any]
    refine hK _ _ ?_; clear hK K
    refine W_false (by simp only [evt, evc, upd_eq, Nat.reduceEqDiff, ↓reduceIte, ntT, ntF] <;> rfl) ?_
    refine W_rg fun K hK => (W_text [true, true, true, true, true, true, true, false] (by kernel_rfl) ?_); simp only [↓List.toList_toArray, ↓rgd, ↓rgf, ↓reduceIte, Nat.reduceEqDiff, rg, ow_71, e0, e1, e2, e3, ptr_eq, ht]
    refine do_call fn_104 (by simp only [evt, evc, upd_eq, Nat.reduceEqDiff, ↓reduceIte, maT, maC, maN, isnN, isnS] <;> rfl) (M_DescendHint_s B m d ord hd iso xs F q hp w hM hH hbig f G S go C hm hB hSh hG hS) ?_
    rintro _ w1 ⟨hS1, X1⟩
    refine ⟨trivial, ?_⟩
    simp only [↓List.toList_toArray, ↓rgd, ↓rgf, ↓reduceIte, Nat.reduceEqDiff, rg, ow_71]
    refine hK _ _ ?_; clear hK K
    exact endQ_0n ⟨hS1, X1⟩
set_option maxHeartbeats 400000 in
set_option maxRecDepth 8000 in
theorem T_DescendHintMut_s (t : Nat) (B m d : Nat) (ord : List Int) (hd : 2 ≤ d) (iso : Int) (xs : List It) (F : Nat → Nat → Prop) (p : Option It) (hp : Option Nat) (w : World) (hM : TreeAt B ord w m d iso xs F) (hH : HOk hp w) (hbig : xs.length ≤ 4294967295) (ht : BAt w t m) :
    Scans 82 (fun f => #[ptr t, itO p, f, hV hp]) hp B m (downO ord p xs) F w := by
  intro f G S go C hm hB hSh hG hS
  refine calls_of_W [] Try.func82 rfl Try.ntmps82 Try.results82 (by simp) fun e he => ?_
  have e0 : e 0 = ptr t := he 0 _ rfl
  have e1 : e 1 = itO p := he 1 _ rfl
  have e2 : e 2 = f := he 2 _ rfl
  have e3 : e 3 = hV hp := he 3 _ rfl
  clear he
  have ht : rd w t 0 = some (ptr m) := ht
  cases p with
  | none =>
    replace e1 : e 1 = zV := e1
    refine W_sq fun K hK => (W_text [true, true] (by kernel_rfl) ?_); simp only [↓List.toList_toArray, ↓rgd, ↓rgf, ↓reduceIte, Nat.reduceEqDiff, rg, ow_82, e1, eq_anyN]
    refine hK _ _ ?_; clear hK K
    refine W_true (by simp only [evt, evc, upd_eq, Nat.reduceEqDiff, ↓reduceIte, ntT, ntF] <;> rfl) ?_
    refine W_rg fun K hK => (W_text [true, true, true, true, true, false] (by kernel_rfl) ?_); simp only [↓List.toList_toArray, ↓rgd, ↓rgf, ↓reduceIte, Nat.reduceEqDiff, rg, ow_82, e0, e2, ptr_eq, ht]
    refine do_call fn_107 (by simp only [evt, evc, upd_eq, Nat.reduceEqDiff, ↓reduceIte, maT, maC, maN, isnN, isnS] <;> rfl) (M_ReverseMut_s B m d ord hd iso xs F w hM hbig f G S go C hm (fun _ h => by cases h) (hSh_none C.2) hG hS) ?_
    rintro _ w1 ⟨hS1, X1⟩
    refine ⟨trivial, ?_⟩
    simp only [↓List.toList_toArray, ↓rgd, ↓rgf, ↓reduceIte, Nat.reduceEqDiff, rg, ow_82]
    refine hK _ _ ?_; clear hK K
    exact endQ_0n ⟨hS1, X1⟩
  | some q =>
    replace e1 : e 1 = itV q := e1
    refine W_sq fun K hK => (W_text [true, true] (by kernel_rfl) ?_); simp only [↓List.toList_toArray, ↓rgd, ↓rgf, ↓reduceIte, Nat.reduceEqDiff, rg, ow_82, e1, eq_any]
    refine hK _ _ ?_; clear hK K
    refine W_false (by simp only [evt, evc, upd_eq, Nat.reduceEqDiff, ↓reduceIte, ntT, ntF] <;> rfl) ?_
    refine W_rg fun K hK => (W_text [true, true, true, true, true, true, true, false] (by kernel_rfl) ?_); simp only [↓List.toList_toArray, ↓rgd, ↓rgf, ↓reduceIte, Nat.reduceEqDiff, rg, ow_82, e0, e1, e2, e3, ptr_eq, ht]
    refine do_call fn_113 (by simp only [evt, evc, upd_eq, Nat.reduceEqDiff, ↓reduceIte, maT, maC, maN, isnN, isnS] <;> rfl) (M_DescendHintMut_s B m d ord hd iso xs F q hp w hM hH hbig f G S go C hm hB hSh hG hS) ?_
    rintro _ w1 ⟨hS1, X1⟩
    refine ⟨trivial, ?_⟩
    simp only [↓List.toList_toArray, ↓rgd, ↓rgf, ↓reduceIte, Nat.reduceEqDiff, rg, ow_82]
    refine hK _ _ ?_; clear hK K
    exact endQ_0n ⟨hS1, X1⟩
end Go.Proofs.Ytanmjbkbdmeckaa
/-
  The function that keeps the items that are handed to it. No condition.
-/
set_option linter.unusedSimpArgs false
set_option linter.unusedVariables false
namespace Go.Proofs.Ytanmjbkbdmeckaa
open Go Go.Proofs
/-- What is kept: the variable's block, the list, that the list is not older than B. -/
structure Kept (B ob : Nat) (done : List It) (w : World) : Prop where
  var : ∃ sv, rd w ob 0 = some sv ∧ SlI w sv done ∧ since B sv
  wok : wok w ob 1
  lt : ob < B
  le : B ≤ w.heap.size
def outF (B ob : Nat) : Nat → Nat → Prop := fun y _ => y = ob ∨ B ≤ y
theorem Kept.ext {B ob : Nat} {done : List It} {w w' : World} (h : Kept B ob done w) (x : Ext noF w w') : Kept B ob done w' := by
  obtain ⟨sv, h1, h2, h3⟩ := h.var
  exact ⟨⟨sv, x.rd h1 (fun h => h), h2.ext0 x, h3⟩, x.wok h.wok, h.lt, Nat.le_trans h.le x.size⟩
set_option maxHeartbeats 400000 in
set_option maxRecDepth 8000 in
theorem take_any (B ob pb nb : Nat) (n : Int) (done : List It) (x : It) (w : World) (h : Kept B ob done w) (hp : rd w pb 0 = some (ptr ob)) (hn : rd w nb 0 = some (.int .i64 n)) (h1 : pb ≠ ob) (h2 : nb ≠ ob) (h3 : pb < B) (h4 : nb < B)
    (hbig : done.length < 4294967295) :
    CallK Try.prog 137 #[iV x, ptr pb, ptr nb] w fun v w' => v = .bool (upTo n (done ++ [x])) ∧ Kept B ob (done ++ [x]) w' ∧ Ext (outF B ob) w w' := by
  obtain ⟨sv, hv, hS, hsi⟩ := h.var
  have hlt := h.lt
  have hle := h.le
  refine calls_of_W [.tmp 4] Try.func137 rfl Try.ntmps137 Try.results137 (by simp) fun e he => ?_
  have e0 : e 0 = iV x := he 0 _ rfl
  have e1 : e 1 = ptr pb := he 1 _ rfl
  have e2 : e 2 = ptr nb := he 2 _ rfl
  clear he
  refine W_sq fun K hK => (W_text [false, true] (by kernel_rfl) ?_); simp only [↓List.toList_toArray, ↓rgd, ↓rgf, ↓reduceIte, Nat.reduceEqDiff, rg, ow_137]
  refine do_box (by simp only [evt]; exact e0) fun w1 n1 => ⟨trivial, ?_⟩
  simp only [↓List.toList_toArray, ↓rgd, ↓rgf, ↓reduceIte, Nat.reduceEqDiff, rg, ow_137]
  refine hK _ _ ?_; clear hK K
  have s1 := n1.size
  have hp1 := n1.ext.rd hp (fun h => h)
  have hn1 := n1.ext.rd hn (fun h => h)
  have hv1 := n1.ext.rd hv (fun h => h)
  have bx : rdA w1 w.heap.size 0 2 = some (iV x) := n1.row.rdA 2 (by show 2 ≤ 2; omega)
  have M1 : readsB (some (some [pb, ob, w.heap.size])) pb = true := by simp [readsB]
  have M2 : readsB (some (some [pb, ob, w.heap.size])) ob = true := by simp [readsB]
  have M3 : readsB (some (some [pb, ob, w.heap.size])) w.heap.size = true := by simp [readsB]
  refine W_sq fun K hK => (W_draw (some (some [pb, ob, w.heap.size])) (some 8) [(0, 0, 0), (0, 1, 0), (0, 2, 0), (0, 3, 0), (0, 4, 0), (1, 5, 0), (1, 6, 0), (0, 7, 0), (1, 8, 0)] mixed (by kernel_rfl) ?_); simp only [↓List.toList_toArray, ↓rgd, ↓rgf, ↓reduceIte, Nat.reduceEqDiff, rg, ow_137, e1, ptr_eq, hp1, hv1, bx, M1, M2, M3]
  refine do_bsl rfl (bs_i1 x) fun w2 n2 => ⟨.inr (keeps_on n2.ext fun y hy => ⟨?_, fun _ h => h⟩), ?_⟩
  · rw [sz_dr]
    simp only [List.mem_cons, List.not_mem_nil, or_false] at hy
    omega
  simp only [↓List.toList_toArray, ↓rgd, ↓rgf, ↓reduceIte, Nat.reduceEqDiff, rg, ow_137]
  have n2 := n2.od
  have s2 := n2.size
  have X2 := n1.ext.tr n2.ext
  have hS2 := hS.ext0 X2
  have hx2 : SlV w2 2 (.slice (some ⟨w1.heap.size, 0, none⟩) 1 1) 1 (Ei.cel x) := ⟨rfl, .inr ⟨_, 0, 1, rfl, Nat.le_refl _, n2.row, n2.wok.R (Nat.le_refl _)⟩⟩
  refine do_append (by simp only [evt, evc, upd_eq, Nat.reduceEqDiff, ↓reduceIte, ntT, ntF] <;> rfl) (by simp only [evt, evc, upd_eq, Nat.reduceEqDiff, ↓reduceIte, ntT, ntF] <;> rfl) el_i rfl ni_i hS2 hx2 (by omega) (by decide) (Ei.one x) fun v3 w3 a3 => ?_
  obtain ⟨hS3, hs3, x3⟩ := app_since (B := B) a3 hsi (by omega)
  refine ⟨.inr fun y hy => app_block a3 ?_ fun o c k hh => ?_, ?_⟩
  · simp only [List.mem_cons, List.not_mem_nil, or_false] at hy
    omega
  · have g1 := hsi _ _ _ _ hh
    have g2 := hS.lt hh
    simp only [List.mem_cons, List.not_mem_nil, or_false] at hy
    omega
  simp only [↓List.toList_toArray, ↓rgd, ↓rgf, ↓reduceIte, Nat.reduceEqDiff, rg, ow_137]
  have s3 := x3.size
  obtain ⟨a3', c3', hv3⟩ := hS3.shape
  refine do_store (by simp only [evt, evc, upd_eq, Nat.reduceEqDiff, ↓reduceIte, ntT, ntF] <;> rfl) (by simp only [evt, evc, upd_eq, Nat.reduceEqDiff, ↓reduceIte, ntT, ntF] <;> rfl) sz_25 (by rw [hv3]; rfl) (x3.wok (X2.wok h.wok)) (by decide) (by rw [hv3]; exact oc_one rfl rfl) fun w4 x4 r4 s4 => ⟨.inl trivial, ?_⟩
  simp only [↓List.toList_toArray, ↓rgd, ↓rgf, ↓reduceIte, Nat.reduceEqDiff, rg, ow_137]
  refine hK _ _ ?_; clear hK K
  have hrow : rd w4 ob 0 = some v3 := by
    rw [hv3] at r4 ⊢
    exact (Row.cons.1 r4).1
  have X4 : Ext (outF B ob) w w4 := by
    refine (X2.trans (H := outF B ob) x3 (fun _ _ g => g.elim) fun y o _ g => .inr g).trans x4 (fun _ _ g => g) fun y o _ g => ?_
    simp only [rng] at g
    exact .inl g.1
  have x34 : Ext (fun y o => y = ob ∧ True) w3 w4 := x4.mono fun y o _ g => ⟨g.1, trivial⟩
  have hS4 : SlI w4 v3 (done ++ [x]) := by
    have : SlV w4 2 v3 (done.length + 1) (flat Ei done ++ Ei.cel x) := hS3.ext x4 fun b o c hh k _ g => by
      have := hs3 _ _ _ _ hh
      simp only [rng] at g
      omega
    rw [SlI, List.length_append, List.length_singleton, flat_append, flat_one]
    exact this
  have hn4 := x4.rd (x3.rd (X2.rd hn fun h => h) (by omega)) (by simp only [rng]; omega)
  have hp4 := x4.rd (x3.rd (X2.rd hp fun h => h) (by omega)) (by simp only [rng]; omega)
  have hl4 : ((done ++ [x]).length : Int) = ((done.length + 1 : Nat) : Int) := by simp
  have K4 : Kept B ob (done ++ [x]) w4 := ⟨⟨v3, hrow, hS4, hs3⟩, x4.wok (x3.wok (X2.wok h.wok)), hlt, by have := X4.size; omega⟩
  have X5 : ∀ k, Ext (outF B ob) w (dr w4 k) := fun k => X4.tr (Ext.dr _ _ _)
  have K5 : ∀ k, Kept B ob (done ++ [x]) (dr w4 k) := fun k => K4.ext (Ext.dr _ _ _)
  rw [hv3] at hrow
  by_cases hn1' : n < 1
  · have t1 : decide (n < 1) = true := by simp [hn1']
    refine W_sq fun K hK => (W_draw (some none) none [(0, 0, 0), (0, 1, 0), (0, 2, 0), (0, 3, 0), (0, 4, 0), (0, 5, 0), (0, 6, 0), (0, 7, 0), (0, 8, 0), (0, 9, 0), (0, 10, 0)] mixed (by kernel_rfl) ?_); simp only [↓List.toList_toArray, ↓rgd, ↓rgf, ↓reduceIte, Nat.reduceEqDiff, rg, ow_137, e1, e2, ptr_eq, hp4, hn4, hrow, t1]
    refine hK _ _ ?_; clear hK K
    refine W_ret (endQ_1 (by simp only [upd_eq, Nat.reduceEqDiff, ↓reduceIte] <;> rfl) ⟨?_, K5 _, X5 _⟩)
    simp [upTo, hn1']
  · have t1 : decide (n < 1) = false := by simp; omega
    refine W_sq fun K hK => (W_draw (some none) none [(0, 0, 0), (0, 1, 0), (0, 2, 0), (0, 3, 0), (0, 4, 0), (0, 5, 0), (0, 6, 0), (0, 7, 0), (0, 8, 0), (0, 9, 0), (0, 10, 0)] mixed (by kernel_rfl) ?_); simp only [↓List.toList_toArray, ↓rgd, ↓rgf, ↓reduceIte, Nat.reduceEqDiff, rg, ow_137, e1, e2, ptr_eq, hp4, hn4, hrow, t1]
    refine hK _ _ ?_; clear hK K
    refine W_ret (endQ_1 (by simp only [upd_eq, Nat.reduceEqDiff, ↓reduceIte] <;> rfl) ⟨?_, K5 _, X5 _⟩)
    simp [upTo, hn1']
def takeV (pb nb : Nat) : Value := .func (.func 137) #[] #[ptr pb, ptr nb]
theorem takeV_eq (pb nb : Nat) : takeV pb nb = .func (.func 137) #[] #[ptr pb, ptr nb] := rfl
theorem fn_take : isFn Try.prog 137 = true := by kernel_rfl
set_option maxHeartbeats 400000 in
set_option maxRecDepth 8000 in
theorem taker_mk (ob : Nat) (n : Int) (w : World) :
    CallK Try.prog 99 #[ptr ob, .int .i64 n] w fun v w' => v = takeV w.heap.size (w.heap.size + 1) ∧ Ext noF w w' ∧ rd w' w.heap.size 0 = some (ptr ob) ∧ rd w' (w.heap.size + 1) 0 = some (.int .i64 n) ∧ w'.heap.size = w.heap.size + 2 := by
  refine calls_of_W [.tmp 4] Try.func99 rfl Try.ntmps99 Try.results99 (by simp) fun e he => ?_
  have e0 : e 0 = ptr ob := he 0 _ rfl
  have e1 : e 1 = .int .i64 n := he 1 _ rfl
  clear he
  refine W_sq fun K hK => (W_text [false, false, true] (by kernel_rfl) ?_); simp only [↓List.toList_toArray, ↓rgd, ↓rgf, ↓reduceIte, Nat.reduceEqDiff, rg]
  refine do_box (v := ptr ob) (by simp only [evt]; exact e0) fun w1 n1 => ⟨trivial, ?_⟩
  simp only [↓List.toList_toArray, ↓rgd, ↓rgf, ↓reduceIte, Nat.reduceEqDiff, rg]
  refine do_box (v := .int .i64 n) (by simp only [evt, upd_eq, Nat.reduceEqDiff, ↓reduceIte]; exact e1) fun w2 n2 => ⟨trivial, ?_⟩
  simp only [↓List.toList_toArray, ↓rgd, ↓rgf, ↓reduceIte, Nat.reduceEqDiff, rg]
  refine hK _ _ ?_; clear hK K
  have s1 := n1.size
  have s2 := n2.size
  have r1 : rd w2 w.heap.size 0 = some (ptr ob) := n2.ext.rd (Row.cons.1 (show Row w1 w.heap.size 0 [ptr ob] from n1.row)).1 fun h => h
  have r2 : rd w2 (w.heap.size + 1) 0 = some (.int .i64 n) := by rw [← s1]; exact (Row.cons.1 (show Row w2 w1.heap.size 0 [.int .i64 n] from n2.row)).1
  refine W_sq fun K hK => (W_text [true, true] (by kernel_rfl) ?_); simp only [↓List.toList_toArray, ↓rgd, ↓rgf, ↓reduceIte, Nat.reduceEqDiff, rg]
  refine hK _ _ ?_; clear hK K
  refine W_ret (endQ_1 (by simp only [upd_eq, Nat.reduceEqDiff, ↓reduceIte] <;> rfl) ⟨?_, n1.ext.tr n2.ext, r1, r2, by omega⟩)
  rw [takeV, s1, ptr_eq, ptr_eq]
/-- The same for items in interfaces: a function value that holds the other. -/
def takeA (c : Nat) : Value := .func (.func 100) #[] #[ptr c]
theorem z_fnA : zK Try.prog 121 = some [.nilFunc] := by kernel_rfl
theorem fn_takeA : isFn Try.prog 100 = true := by kernel_rfl
/-- What holds while items are kept. -/
def TS (c ob pb nb B : Nat) (n : Int) (done : List It) (w : World) : Prop := Kept B ob done w ∧ rd w pb 0 = some (ptr ob) ∧ rd w nb 0 = some (.int .i64 n) ∧ rd w c 0 = some (takeV pb nb)
set_option maxHeartbeats 400000 in
set_option maxRecDepth 8000 in
theorem takeA_any (c B ob pb nb : Nat) (n : Int) (done : List It) (x : It) (w : World) (h : TS c ob pb nb B n done w) (h1 : pb ≠ ob) (h2 : nb ≠ ob) (h3 : pb < B) (h4 : nb < B) (h5 : c ≠ ob) (h6 : c < B)
    (hbig : done.length < 4294967295) :
    CallK Try.prog 100 #[itV x, ptr c] w fun v w' => v = .bool (upTo n (done ++ [x])) ∧ TS c ob pb nb B n (done ++ [x]) w' ∧ Ext (outF B ob) w w' := by
  obtain ⟨hK0, hp, hn, hc⟩ := h
  refine calls_of_W [.tmp 3] Try.func100 rfl Try.ntmps100 Try.results100 (by simp) fun e he => ?_
  have e0 : e 0 = itV x := he 0 _ rfl
  have e1 : e 1 = ptr c := he 1 _ rfl
  clear he
  refine W_sq fun K hK => (W_text [true] (by kernel_rfl) ?_); simp only [↓List.toList_toArray, ↓rgd, ↓rgf, ↓reduceIte, Nat.reduceEqDiff, rg, ow_100]
  refine hK _ _ ?_; clear hK K
  have M1 : readsB (some (some [c])) c = true := by simp [readsB]
  have hle := hK0.le
  have hob := hK0.lt
  refine W_sq fun K hK => (W_draw (some (some [c])) none [(0, 0, 0), (0, 1, 0), (0, 2, 0), (1, 3, 0), (0, 4, 0)] mixed (by kernel_rfl) ?_); simp only [↓List.toList_toArray, ↓rgd, ↓rgf, ↓reduceIte, Nat.reduceEqDiff, rg, ow_100, e0, e1, ptr_eq, hc, tas_any, M1]
  rw [takeV_eq]
  refine do_callv (by simp only [evt, evc, upd_eq, Nat.reduceEqDiff, ↓reduceIte, ntT, ntF] <;> rfl) fn_take rfl (by simp only [evt, upd_eq, Nat.reduceEqDiff, ↓reduceIte, maT, maC, maN]; exact take_any B ob pb nb n done x _ (hK0.ext (Ext.dr noF w (w.drawn + 1))) ((Ext.dr noF w (w.drawn + 1)).rd hp fun h => h) ((Ext.dr noF w (w.drawn + 1)).rd hn fun h => h) h1 h2 h3 h4 hbig) ?_
  rintro _ w2 ⟨rfl, hK2, x2⟩
  refine ⟨.inr (keeps_on x2 fun y hy => ?_), ?_⟩
  · simp only [List.mem_cons, List.not_mem_nil, or_false] at hy
    subst hy
    exact ⟨by rw [sz_dr]; omega, fun _ g => by rcases g with g | g <;> omega⟩
  have x2 := x2.od
  simp only [↓List.toList_toArray, ↓rgd, ↓rgf, ↓reduceIte, Nat.reduceEqDiff, rg, ow_100]
  refine hK _ _ ?_; clear hK K
  have nF : ∀ y, y ≠ ob → y < B → ¬ outF B ob y 0 := fun y g1 g2 g => by rcases g with g | g <;> omega
  exact W_ret (endQ_1 (by simp only [upd_eq, Nat.reduceEqDiff, ↓reduceIte] <;> rfl) ⟨rfl, ⟨hK2, x2.rd hp (nF _ h1 h3), x2.rd hn (nF _ h2 h4), x2.rd hc (nF _ h5 h6)⟩, x2⟩)
set_option maxHeartbeats 400000 in
set_option maxRecDepth 8000 in
theorem takerA_mk (ob : Nat) (n : Int) (w : World) :
    CallK Try.prog 66 #[ptr ob, .int .i64 n] w fun v w' => ∃ c pb nb, v = takeA c ∧ Ext noF w w' ∧ rd w' pb 0 = some (ptr ob) ∧ rd w' nb 0 = some (.int .i64 n) ∧ rd w' c 0 = some (takeV pb nb) ∧ w.heap.size ≤ c ∧ w.heap.size ≤ pb ∧ w.heap.size ≤ nb ∧ c < w'.heap.size ∧ pb < w'.heap.size ∧ nb < w'.heap.size := by
  refine calls_of_W [.tmp 4] Try.func66 rfl Try.ntmps66 Try.results66 (by simp) fun e he => ?_
  have e0 : e 0 = ptr ob := he 0 _ rfl
  have e1 : e 1 = .int .i64 n := he 1 _ rfl
  clear he
  refine W_sq fun K hK => (W_text [true] (by kernel_rfl) ?_); simp only [↓List.toList_toArray, ↓rgd, ↓rgf, ↓reduceIte, Nat.reduceEqDiff, rg, ow_66]
  refine hK _ _ ?_; clear hK K
  refine W_sq fun K hK => (W_text [true, true, false, false, false] (by kernel_rfl) ?_); simp only [↓List.toList_toArray, ↓rgd, ↓rgf, ↓reduceIte, Nat.reduceEqDiff, rg, ow_66, e0, e1]
  refine do_call fn_99 (vs := #[ptr ob, .int .i64 n]) (by simp only [evt, evc, upd_eq, Nat.reduceEqDiff, ↓reduceIte, maT, maC, maN, isnN, isnS] <;> rfl) (taker_mk ob n w) ?_
  rintro _ w3 ⟨rfl, X3, p3, q3, s3⟩
  refine ⟨trivial, ?_⟩
  simp only [↓List.toList_toArray, ↓rgd, ↓rgf, ↓reduceIte, Nat.reduceEqDiff, rg, ow_66]
  refine do_alloc z_fnA fun w4 n4 => ⟨trivial, ?_⟩
  simp only [↓List.toList_toArray, ↓rgd, ↓rgf, ↓reduceIte, Nat.reduceEqDiff, rg, ow_66]
  refine do_store (v := takeV w.heap.size (w.heap.size + 1)) (by simp only [evt, evc, upd_eq, Nat.reduceEqDiff, ↓reduceIte, ntT, ntF] <;> rfl) (by simp only [evt, evc, upd_eq, Nat.reduceEqDiff, ↓reduceIte, ntT, ntF] <;> rfl) sz_121 rfl n4.wok (by decide) (oc_one rfl rfl) fun w5 x5 r5 s5 => ⟨trivial, ?_⟩
  simp only [↓List.toList_toArray, ↓rgd, ↓rgf, ↓reduceIte, Nat.reduceEqDiff, rg, ow_66]
  refine hK _ _ ?_; clear hK K
  have s4 := n4.size
  have X5 : Ext noF w w5 := noF_of (X3.tr n4.ext) x5 fun y o hy h => by simp only [rng] at h; omega
  have nr : ∀ y, y < w3.heap.size → ¬ rng w3.heap.size 0 1 y 0 := fun y hy h => by simp only [rng] at h; omega
  refine W_sq fun K hK => (W_text [true, true] (by kernel_rfl) ?_); simp only [↓List.toList_toArray, ↓rgd, ↓rgf, ↓reduceIte, Nat.reduceEqDiff, rg, ow_66]
  refine hK _ _ ?_; clear hK K
  refine W_ret (endQ_1 (by simp only [upd_eq, Nat.reduceEqDiff, ↓reduceIte] <;> rfl) ⟨w3.heap.size, w.heap.size, w.heap.size + 1, ?_, X5, x5.rd (n4.ext.rd p3 fun h => h) (nr _ (by omega)), x5.rd (n4.ext.rd q3 fun h => h) (nr _ (by omega)), (Row.cons.1 (show Row w5 w3.heap.size 0 [takeV w.heap.size (w.heap.size + 1)] from r5)).1, by omega, by omega, by omega, by omega, by omega, by omega⟩)
  rw [takeA, ptr_eq]
theorem TS.ext {c ob pb nb B : Nat} {n : Int} {done : List It} {w w' : World} (h : TS c ob pb nb B n done w) (x : Ext noF w w') : TS c ob pb nb B n done w' :=
  ⟨h.1.ext x, x.rd h.2.1 fun h => h, x.rd h.2.2.1 fun h => h, x.rd h.2.2.2 fun h => h⟩
theorem cb_take (c ob pb nb B : Nat) (n : Int) (h1 : pb ≠ ob) (h2 : nb ≠ ob) (h3 : pb < B) (h4 : nb < B) (h5 : c ≠ ob) (h6 : c < B) : Cb (takeA c) (outF B ob) (TS c ob pb nb B n) (upTo n) :=
  ⟨⟨_, #[], #[ptr c], rfl, fn_takeA, fun done x w hS hlen => takeA_any c B ob pb nb n done x w hS h1 h2 h3 h4 h5 h6 hlen⟩, fun _ _ _ hS x => hS.ext x⟩
end Go.Proofs.Ytanmjbkbdmeckaa
/-
  What a tree hands on, kept; all items of a tree. No condition.
-/
set_option linter.unusedSimpArgs false
set_option linter.unusedVariables false
namespace Go.Proofs.Ytanmjbkbdmeckaa
open Go Go.Proofs
theorem z_hint : zK Try.prog 85 = some [.bool false, .bool false, .bool false, .bool false, .bool false, .bool false, .bool false, .bool false, .int .u8 0, .int .u8 0, .int .u8 0, .int .u8 0, .int .u8 0, .int .u8 0, .int .u8 0, .int .u8 0] := by kernel_rfl
theorem hint_new {w w' : World} (h : New w w' [.bool false, .bool false, .bool false, .bool false, .bool false, .bool false, .bool false, .bool false, .int .u8 0, .int .u8 0, .int .u8 0, .int .u8 0, .int .u8 0, .int .u8 0, .int .u8 0, .int .u8 0]) : HintAt w' w.heap.size := by
  refine ⟨h.wok, fun i hi => ⟨false, ?_⟩, fun i hi => ⟨0, by omega, ?_⟩⟩
  · have : i = 0 ∨ i = 1 ∨ i = 2 ∨ i = 3 ∨ i = 4 ∨ i = 5 ∨ i = 6 ∨ i = 7 := by omega
    have := h.row i (.bool false) (by rcases this with rfl | rfl | rfl | rfl | rfl | rfl | rfl | rfl <;> rfl)
    rwa [Nat.zero_add] at this
  · have : i = 0 ∨ i = 1 ∨ i = 2 ∨ i = 3 ∨ i = 4 ∨ i = 5 ∨ i = 6 ∨ i = 7 := by omega
    have := h.row (8 + i) (.int .u8 0) (by rcases this with rfl | rfl | rfl | rfl | rfl | rfl | rfl | rfl <;> rfl)
    rwa [Nat.zero_add] at this
theorem Cb.mono {f : Value} {G G' : Nat → Nat → Prop} {S : List It → World → Prop} {go : List It → Bool} (h : Cb f G S go) (hG : ∀ y o, G y o → G' y o) : Cb f G' S go := by
  obtain ⟨⟨g, first, cap, h1, h2, h3⟩, h4⟩ := h
  exact ⟨⟨g, first, cap, h1, h2, fun done x w hS hl => CallK_mono (h3 done x w hS hl) fun v w' ⟨a, b, c⟩ => ⟨a, b, c.mono fun y o _ g => hG y o g⟩⟩, h4⟩
theorem Kept.extH {B ob : Nat} {done : List It} {w w' : World} {G : Nat → Nat → Prop} (h : Kept B ob done w) (x : Ext G w w') (hG : ∀ y o, G y o → y ≠ ob ∧ y < B) : Kept B ob done w' := by
  obtain ⟨sv, h1, h2, h3⟩ := h.var
  exact ⟨⟨sv, x.rd h1 (fun g => (hG _ _ g).1 rfl), h2.ext x fun b o c hv i _ g => by have := h3 _ _ _ _ hv; have := (hG _ _ g).2; omega, h3⟩, x.wok h.wok, h.lt, Nat.le_trans h.le x.size⟩
theorem z_sl : zK Try.prog 25 = some [.slice none 0 0] := by kernel_rfl
theorem firstN_0 {α : Type} (l : List α) : firstN 0 l = l := by unfold firstN; rw [if_pos (.inl (by decide))]
/-- What is there when a tree, a function that keeps items and a hint (or none) have been made, in whatever order. -/
structure Ready (B0 ob c pb nb : Nat) (hp : Option Nat) (B m : Nat) (F : Nat → Nat → Prop) (n : Int) (w : World) : Prop where
  out : rd w ob 0 = some (.slice none 0 0)
  wout : wok w ob 1
  rpb : rd w pb 0 = some (ptr ob)
  rnb : rd w nb 0 = some (.int .i64 n)
  rc : rd w c 0 = some (takeV pb nb)
  lt : B0 ≤ ob ∧ c ≠ ob ∧ pb ≠ ob ∧ nb ≠ ob ∧ m ≠ ob ∧ c < w.heap.size ∧ pb < w.heap.size ∧ nb < w.heap.size ∧ m < w.heap.size
  hlt : ∀ hb, hp = some hb → B0 ≤ hb ∧ hb < w.heap.size ∧ hb ≠ ob ∧ c ≠ hb ∧ pb ≠ hb ∧ nb ≠ hb ∧ m ≠ hb ∧ (m ≤ hb ∨ hb < B)
  off : ∀ y o, F y o → y ≠ ob ∧ y < w.heap.size ∧ ∀ hb, hp = some hb → y ≠ hb
set_option maxHeartbeats 400000 in
set_option maxRecDepth 8000 in
theorem ready_go {B0 ob c pb nb : Nat} {hp : Option Nat} {B m : Nat} {ys : List It} {F : Nat → Nat → Prop} {n : Int} {w0 w : World} {fn : Nat} {args : Value → Array Value} (hR : Ready B0 ob c pb nb hp B m F n w) (X : Ext noF w0 w) (h0 : B0 = w0.heap.size)
    (hs : Scans fn args hp B m ys F w) :
    CallK Try.prog fn (args (takeA c)) w fun _ w' => Ext noF w0 w' ∧ ∃ sv, rd w' ob 0 = some sv ∧ SlI w' sv (firstN n ys) := by
  obtain ⟨l0, l1, l2, l3, l4, l5, l6, l7, l8⟩ := hR.lt
  have hob := wok_lt hR.wout
  have hKp : Kept w.heap.size ob [] w := ⟨⟨_, hR.out, ⟨rfl, .inl ⟨rfl, rfl⟩⟩, fun b o n c h => by cases h⟩, hR.wout, by omega, Nat.le_refl _⟩
  have C := (cb_take c ob pb nb w.heap.size n (by omega) (by omega) (by omega) (by omega) (by omega) (by omega)).mono (G' := fun y o => outF w.heap.size ob y o ∨ hp = some y) fun _ _ g => .inl g
  refine CallK_mono (hs _ _ _ _ C (fun o g => ?_) (fun y h => ⟨(hR.hlt y h).2.2.2.2.2.2.2, fun o => .inr h⟩) (fun done w1 w2 hS x => ?_) (fun y o o' hy g => ?_) ⟨hKp, hR.rpb, hR.rnb, hR.rc⟩) ?_
  · rcases g with (g | g) | g
    · omega
    · omega
    · exact (hR.hlt _ g).2.2.2.2.2.2.1 rfl
  · have q : ∀ y, Go.Proofs.Ytanmjbkbdmeckaa.hF hp y 0 → y ≠ ob ∧ y < w.heap.size ∧ c ≠ y ∧ pb ≠ y ∧ nb ≠ y := fun y g => by
      have := hR.hlt y g; omega
    refine ⟨hS.1.extH x fun y o g => ⟨(q y g).1, (q y g).2.1⟩, x.rd hS.2.1 fun g => (q _ g).2.2.2.1 rfl, x.rd hS.2.2.1 fun g => (q _ g).2.2.2.2 rfl, x.rd hS.2.2.2 fun g => (q _ g).2.2.1 rfl⟩
  · have h1 := hR.off y o hy
    rcases g with (g | g) | g
    · omega
    · omega
    · exact h1.2.2 _ g rfl
  rintro _ w' ⟨⟨hK4, _⟩, X4⟩
  obtain ⟨sv, h1, h2, _⟩ := hK4.var
  rw [hand_upTo_nil] at h2
  refine ⟨noF_of X X4 fun y o hy g => ?_, sv, h1, h2⟩
  have := X.size
  rcases g with (g | g) | g
  · omega
  · omega
  · have := hR.hlt y g; omega
set_option maxHeartbeats 800000 in
set_option maxRecDepth 8000 in
theorem allOf_any (t B m d : Nat) (ord : List Int) (hd : 2 ≤ d) (iso : Int) (xs : List It) (F : Nat → Nat → Prop) (w : World) (ht : BAt w t m) (hM : TreeAt B ord w m d iso xs F) (hbig : xs.length ≤ 4294967295) :
    CallK Try.prog 56 #[ptr t] w fun v w' => SlI w' v xs ∧ Ext noF w w' := by
  refine calls_of_W [.tmp 2] Try.func56 rfl Try.ntmps56 Try.results56 (by simp) fun e he => ?_
  have e0 : e 0 = ptr t := he 0 _ rfl
  clear he
  refine W_sq fun K hK => (W_text [true] (by kernel_rfl) ?_); simp only [↓List.toList_toArray, ↓rgd, ↓rgf, ↓reduceIte, Nat.reduceEqDiff, rg, ow_56]
  refine hK _ _ ?_; clear hK K
  refine W_sq fun K hK => (W_text [false] (by kernel_rfl) ?_); simp only [↓List.toList_toArray, ↓rgd, ↓rgf, ↓reduceIte, Nat.reduceEqDiff, rg, ow_56]
  refine do_alloc z_sl fun w1 n1 => ⟨trivial, ?_⟩
  simp only [↓List.toList_toArray, ↓rgd, ↓rgf, ↓reduceIte, Nat.reduceEqDiff, rg, ow_56]
  refine hK _ _ ?_; clear hK K
  have s1 := n1.size
  have hml := hM.mlt
  have hlt := hM.lt
  refine W_sq fun K hK => (W_text [true, false, false] (by kernel_rfl) ?_); simp only [↓List.toList_toArray, ↓rgd, ↓rgf, ↓reduceIte, Nat.reduceEqDiff, rg, ow_56, e0]
  refine do_call fn_66 (vs := #[ptr w.heap.size, .int .i64 0]) (by simp only [evt, evc, upd_eq, Nat.reduceEqDiff, ↓reduceIte, maT, maC, maN, isnN, isnS] <;> rfl) (takerA_mk w.heap.size 0 w1) ?_
  rintro _ w2 ⟨c, pb, nb, rfl, X2, h1, h2, h3, h4, h5, h6, h7, h8, h9⟩
  refine ⟨trivial, ?_⟩
  simp only [↓List.toList_toArray, ↓rgd, ↓rgf, ↓reduceIte, Nat.reduceEqDiff, rg, ow_56]
  have X12 := n1.ext.tr X2
  refine do_call fn_64 (vs := #[ptr t, itO none, takeA c]) (by simp only [evt, evc, upd_eq, Nat.reduceEqDiff, ↓reduceIte, maT, maC, maN, isnN, isnS] <;> rfl) (ready_go (fn := 64) (args := fun f => #[ptr t, itO none, f]) (n := 0) ⟨X2.rd (Row.cons.1 n1.row).1 fun h => h, X2.wok n1.wok, h1, h2, h3, by have := X2.size; omega, (fun _ h => by cases h), fun y o hy => ⟨by have := hlt y o hy; omega, by have := hlt y o hy; have := X2.size; omega, fun _ h => by cases h⟩⟩ X12 rfl
    (T_Ascend_s t B m d ord hd iso xs F none w2 (hM.ext X12) hbig (X12.rd ht fun h => h))) ?_
  rintro _ w3 ⟨X3, sv, hv, hS⟩
  refine ⟨trivial, ?_⟩
  simp only [↓List.toList_toArray, ↓rgd, ↓rgf, ↓reduceIte, Nat.reduceEqDiff, rg, ow_56]
  refine hK _ _ ?_; clear hK K
  refine W_sq fun K hK => (W_text [true, true] (by kernel_rfl) ?_); simp only [↓List.toList_toArray, ↓rgd, ↓rgf, ↓reduceIte, Nat.reduceEqDiff, rg, ow_56, hv]
  refine hK _ _ ?_; clear hK K
  refine W_ret (endQ_1 (by simp only [upd_eq, Nat.reduceEqDiff, ↓reduceIte] <;> rfl) ⟨?_, X3⟩)
  rw [firstN_0] at hS
  exact hS
/-- A pivot, none for all. -/
def pvO (all : Bool) (q : It) : Option It := if all = true then none else some q
set_option maxHeartbeats 800000 in
set_option maxRecDepth 8000 in
theorem from_any (all : Bool) (q : It) (w : World) :
    CallK Try.prog 65 #[.bool all, iV q] w fun v w' => v = itO (pvO all q) ∧ Ext noF w w' := by
  refine calls_of_W [.tmp 4] Try.func65 rfl Try.ntmps65 Try.results65 (by simp) fun e he => ?_
  have e0 : e 0 = .bool all := he 0 _ rfl
  have e1 : e 1 = iV q := he 1 _ rfl
  clear he
  refine W_sq fun K hK => (W_text [false, true] (by kernel_rfl) ?_); simp only [↓List.toList_toArray, ↓rgd, ↓rgf, ↓reduceIte, Nat.reduceEqDiff, rg, ow_65]
  refine do_box (by simp only [evt]; exact e1) fun w1 n1 => ⟨trivial, ?_⟩
  simp only [↓List.toList_toArray, ↓rgd, ↓rgf, ↓reduceIte, Nat.reduceEqDiff, rg, ow_65]
  refine hK _ _ ?_; clear hK K
  have bx : rdA w1 w.heap.size 0 2 = some (iV q) := n1.row.rdA 2 (by show 2 ≤ 2; omega)
  refine W_seq ?_
  cases all with
  | true =>
    refine W_sq fun K hK => (W_text [true] (by kernel_rfl) ?_); simp only [↓List.toList_toArray, ↓rgd, ↓rgf, ↓reduceIte, Nat.reduceEqDiff, rg, ow_65, e0]
    refine hK _ _ ?_; clear hK K
    refine W_true (by simp only [evt, evc, upd_eq, Nat.reduceEqDiff, ↓reduceIte, ntT, ntF] <;> rfl) ?_
    refine W_sq fun K hK => (W_text [true] (by kernel_rfl) ?_); simp only [↓List.toList_toArray, ↓rgd, ↓rgf, ↓reduceIte, Nat.reduceEqDiff, rg, ow_65]
    refine hK _ _ ?_; clear hK K
    refine W_ret ?_
    simp only [andThen_ret]
    exact endQ_1 (by simp only [upd_eq, Nat.reduceEqDiff, ↓reduceIte] <;> rfl) ⟨rfl, n1.ext⟩
  | false =>
    refine W_sq fun K hK => (W_text [true] (by kernel_rfl) ?_); simp only [↓List.toList_toArray, ↓rgd, ↓rgf, ↓reduceIte, Nat.reduceEqDiff, rg, ow_65, e0]
    refine hK _ _ ?_; clear hK K
    refine W_false (by simp only [evt, evc, upd_eq, Nat.reduceEqDiff, ↓reduceIte, ntT, ntF] <;> rfl) (W_skip ?_)
    show W _ _ _ _ _ _
    refine W_sq fun K hK => (W_text [true, true, true] (by kernel_rfl) ?_); simp only [↓List.toList_toArray, ↓rgd, ↓rgf, ↓reduceIte, Nat.reduceEqDiff, rg, ow_65, bx]
    refine hK _ _ ?_; clear hK K
    exact W_ret (endQ_1 (by simp only [upd_eq, Nat.reduceEqDiff, ↓reduceIte] <;> rfl) ⟨rfl, n1.ext⟩)
end Go.Proofs.Ytanmjbkbdmeckaa
/-
  The reference: lists from a key, down to a key, turned, cut off. No condition.
-/
set_option linter.unusedSimpArgs false
set_option linter.unusedVariables false
namespace Go.Proofs.Ytanmjbkbdmeckaa
open Go Go.Proofs
theorem treeG_asc (ord : List Int) (l : List It) : Asc O (rkI ord) (treeG ord l) := by
  have : ∀ (l : List It) (xs : List It), Asc O (rkI ord) xs → Asc O (rkI ord) (l.foldl (fun xs x => put O (rkI ord) x xs) xs) := by
    intro l
    induction l with
    | nil => intro xs h; exact h
    | cons x l ih => intro xs h; exact ih _ (put_asc O (rkI ord) h)
  exact this l [] List.Pairwise.nil
theorem iXi_at {w : World} {b o : Nat} {x : It} (h : Row w b o (Ei.cel x)) : rdA w b o 2 = some (iV x) := h.rdA 2 (Nat.le_refl _)

set_option maxHeartbeats 400000 in
set_option maxRecDepth 8000 in
theorem first_any (l : List It) (lv : Value) (n : Int) (w : World) (hl : SlI w lv l) :
    CallK Try.prog 35 #[lv, .int .i64 n] w fun v w' => SlI w' v (firstN n l) ∧ w' = w := by
  obtain ⟨a, c, hlv⟩ := hl.shape
  refine calls_of_W [.tmp 4] Try.func35 rfl Try.ntmps35 Try.results35 (by simp) fun e he => ?_
  have e0 : e 0 = .slice a l.length c := by rw [← hlv]; exact he 0 _ rfl
  have e1 : e 1 = .int .i64 n := he 1 _ rfl
  clear he
  refine W_sq fun K hK => (W_text [true] (by kernel_rfl) ?_); simp only [↓List.toList_toArray, ↓rgd, ↓rgf, ↓reduceIte, Nat.reduceEqDiff, rg, ow_35]
  refine hK _ _ ?_; clear hK K
  refine W_seq ?_
  by_cases h1 : n < 1
  · have t1 : decide (n < 1) = true := by simp [h1]
    refine W_sq fun K hK => (W_text [true, true, true, true, true, true, true, true] (by kernel_rfl) ?_); simp only [↓List.toList_toArray, ↓rgd, ↓rgf, ↓reduceIte, Nat.reduceEqDiff, rg, ow_35, e0, e1, t1]
    refine hK _ _ ?_; clear hK K
    refine W_true (by simp only [evt, evc, upd_eq, Nat.reduceEqDiff, ↓reduceIte, ntT, ntF] <;> rfl) ?_
    refine W_sq fun K hK => (W_text [true, true] (by kernel_rfl) ?_); simp only [↓List.toList_toArray, ↓rgd, ↓rgf, ↓reduceIte, Nat.reduceEqDiff, rg, ow_35, e0]
    refine hK _ _ ?_; clear hK K
    refine W_ret ?_
    simp only [andThen_ret]
    refine endQ_1 (by simp only [upd_eq, Nat.reduceEqDiff, ↓reduceIte] <;> rfl) ⟨?_, rfl⟩
    rw [firstN, if_pos (.inl h1), ← hlv]; exact hl
  · have t1 : decide (n < 1) = false := by simp; omega
    by_cases h2 : (l.length : Int) < n
    · have t2 : decide ((l.length : Int) < n) = true := by simp [h2]
      refine W_sq fun K hK => (W_text [true, true, true, true, true, true, true, true] (by kernel_rfl) ?_); simp only [↓List.toList_toArray, ↓rgd, ↓rgf, ↓reduceIte, Nat.reduceEqDiff, rg, ow_35, e0, e1, t1, t2]
      refine hK _ _ ?_; clear hK K
      refine W_true (by simp only [evt, evc, upd_eq, Nat.reduceEqDiff, ↓reduceIte, ntT, ntF] <;> rfl) ?_
      refine W_sq fun K hK => (W_text [true, true] (by kernel_rfl) ?_); simp only [↓List.toList_toArray, ↓rgd, ↓rgf, ↓reduceIte, Nat.reduceEqDiff, rg, ow_35, e0]
      refine hK _ _ ?_; clear hK K
      refine W_ret ?_
      simp only [andThen_ret]
      refine endQ_1 (by simp only [upd_eq, Nat.reduceEqDiff, ↓reduceIte] <;> rfl) ⟨?_, rfl⟩
      rw [firstN, if_pos (.inr h2), ← hlv]; exact hl
    · have t2 : decide ((l.length : Int) < n) = false := by simp; omega
      refine W_sq fun K hK => (W_text [true, true, true, true, true, true, true, true] (by kernel_rfl) ?_); simp only [↓List.toList_toArray, ↓rgd, ↓rgf, ↓reduceIte, Nat.reduceEqDiff, rg, ow_35, e0, e1, t1, t2]
      refine hK _ _ ?_; clear hK K
      refine W_false (by simp only [evt, evc, upd_eq, Nat.reduceEqDiff, ↓reduceIte, ntT, ntF] <;> rfl) (W_skip ?_)
      show W _ _ _ _ _ _
      obtain ⟨k, rfl⟩ : ∃ k : Nat, n = k := ⟨n.toNat, by omega⟩
      obtain ⟨sv, hs, hsl⟩ := sl_hi hl k (by omega)
      rw [hlv] at hs
      refine W_sq fun K hK => (W_text [true, true, true, true] (by kernel_rfl) ?_); simp only [↓List.toList_toArray, ↓rgd, ↓rgf, ↓reduceIte, Nat.reduceEqDiff, rg, ow_35, e0, e1, hs]
      refine hK _ _ ?_; clear hK K
      refine W_ret (endQ_1 (by simp only [upd_eq, Nat.reduceEqDiff, ↓reduceIte] <;> rfl) ⟨?_, rfl⟩)
      rw [firstN, if_neg (by omega), SlI, List.length_take]
      have : min (k : Int).toNat l.length = k := by omega
      rw [this]
      simpa using hsl
set_option maxHeartbeats 400000 in
set_option maxRecDepth 8000 in
theorem sgscan (d : Nat) (ord : List Int) (sv : Value) (nl : Bool) (l : List It) (lv : Value) (n : Int) (w : World) (hs : SlInt w sv ord) (hsb : ord.length ≤ 2147483647) (hl : SlI w lv l) (hbig : l.length ≤ 2147483647) :
    CallK Try.prog 51 #[mkV sv d nl, lv, .int .i64 n] w fun v w' => SlI w' v (firstN n (treeG ord l)) ∧ Ext noF w w' := by
  refine calls_of_W [.tmp 6] Try.func51 rfl Try.ntmps51 Try.results51 (by simp) fun e he => ?_
  have e0 : e 0 = mkV sv d nl := he 0 _ rfl
  have e1 : e 1 = lv := he 1 _ rfl
  have e2 : e 2 = .int .i64 n := he 2 _ rfl
  clear he
  refine W_sq fun K hK => (W_text [false, true] (by kernel_rfl) ?_); simp only [↓List.toList_toArray, ↓rgd, ↓rgf, ↓reduceIte, Nat.reduceEqDiff, rg, ow_51]
  refine do_box (by simp only [evt]; exact e0) fun w1 n1 => ⟨trivial, ?_⟩
  simp only [↓List.toList_toArray, ↓rgd, ↓rgf, ↓reduceIte, Nat.reduceEqDiff, rg, ow_51]
  refine hK _ _ ?_; clear hK K
  have r1 := mk_at0 (show Row w1 w.heap.size 0 (mkL sv d nl) from n1.row)
  refine W_sq fun K hK => (W_text [true, true, true, false, true, false, true] (by kernel_rfl) ?_); simp only [↓List.toList_toArray, ↓rgd, ↓rgf, ↓reduceIte, Nat.reduceEqDiff, rg, ow_51, e1, e2, r1]
  refine do_call fn_60 (by simp only [evt, evc, upd_eq, Nat.reduceEqDiff, ↓reduceIte, maT, maC, maN, isnN, isnS] <;> rfl) (stree_ord sv ord l lv w1 (SlV.ext0 hs n1.ext) hsb (SlV.ext0 hl n1.ext) hbig) ?_
  rintro v2 w2 ⟨hS2, X2⟩
  refine ⟨trivial, ?_⟩
  simp only [↓List.toList_toArray, ↓rgd, ↓rgf, ↓reduceIte, Nat.reduceEqDiff, rg, ow_51, e2]
  refine do_call fn_35 (by simp only [evt, evc, upd_eq, Nat.reduceEqDiff, ↓reduceIte, maT, maC, maN, isnN, isnS] <;> rfl) (first_any (treeG ord l) v2 n w2 hS2) ?_
  rintro v3 w3 ⟨hS3, hw3⟩
  obtain rfl : w2 = w3 := hw3.symm
  refine ⟨trivial, ?_⟩
  simp only [↓List.toList_toArray, ↓rgd, ↓rgf, ↓reduceIte, Nat.reduceEqDiff, rg, ow_51]
  refine hK _ _ ?_; clear hK K
  exact W_ret (endQ_1 (by simp only [upd_eq, Nat.reduceEqDiff, ↓reduceIte] <;> rfl) ⟨hS3, n1.ext.tr X2⟩)
set_option maxHeartbeats 800000 in
set_option maxRecDepth 8000 in
theorem sturned_any (l : List It) (lv : Value) (w : World) (hl : SlI w lv l) (hbig : l.length ≤ 2147483647) :
    CallK Try.prog 80 #[lv] w fun v w' => SlI w' v l.reverse ∧ Ext noF w w' := by
  refine calls_of_W [.tmp 2] Try.func80 rfl Try.ntmps80 Try.results80 (by simp) fun e he => ?_
  have e0 : e 0 = lv := he 0 _ rfl
  clear he
  obtain ⟨ka, kc, hkv⟩ := SlV.shape hl
  rw [hkv] at e0
  refine W_sq fun K hK => (W_text [true] (by kernel_rfl) ?_); simp only [↓List.toList_toArray, ↓rgd, ↓rgf, ↓reduceIte, Nat.reduceEqDiff, rg, ow_80]
  refine hK _ _ ?_; clear hK K
  refine W_sq fun K hK => (W_text [true] (by kernel_rfl) ?_); simp only [↓List.toList_toArray, ↓rgd, ↓rgf, ↓reduceIte, Nat.reduceEqDiff, rg, ow_80]
  refine hK _ _ ?_; clear hK K
  have q0 := pred_wrap l.length (by omega)
  refine W_seq (W_seq ?_)
  refine W_rg fun K hK => (W_text [true, true, true, true] (by kernel_rfl) ?_); simp only [↓List.toList_toArray, ↓rgd, ↓rgf, ↓reduceIte, Nat.reduceEqDiff, rg, ow_80, e0, q0]
  refine hK _ _ ?_; clear hK K
  show W _ _ _ _ _ _
  refine W_block (W_loop (fun mm e w' => mm ≤ l.length ∧ OutE Ei w.heap.size (e 3) (l.drop mm).reverse w' ∧ Ext (fun y _ => w.heap.size ≤ y) w w' ∧ e 0 = .slice ka l.length kc ∧ e 4 = .int .i64 ((mm : Int) - 1))
    l.length ⟨Nat.le_refl _, by simp only [upd_eq, Nat.reduceEqDiff, ↓reduceIte]; rw [List.drop_length]; exact OutE.nil _ _ _, Ext.refl _ _, by simp only [upd_eq, Nat.reduceEqDiff, ↓reduceIte]; exact e0, by simp only [upd_eq, Nat.reduceEqDiff, ↓reduceIte]⟩ ?_)
  clear e0 e
  rintro mm e w' ⟨hi, hO, X, e0, e4⟩
  have sX := X.size
  refine W_seq ?_
  by_cases hlt : 0 < mm
  · have ht := ge_tt mm hlt
    refine W_sq fun K hK => (W_text [true, true] (by kernel_rfl) ?_); simp only [↓List.toList_toArray, ↓rgd, ↓rgf, ↓reduceIte, Nat.reduceEqDiff, rg, ow_80, e4, ht]
    refine hK _ _ ?_; clear hK K
    refine W_true (by simp only [evt, evc, upd_eq, Nat.reduceEqDiff, ↓reduceIte, ntT, ntF] <;> rfl) (W_skip ?_)
    show W _ _ _ _ _ _
    refine W_seq (W_block ?_)
    have hil : mm - 1 < l.length := by omega
    obtain ⟨x, hx⟩ : ∃ x, l[mm - 1]? = some x := ⟨_, List.getElem?_eq_getElem hil⟩
    obtain ⟨ib, io, hka, row⟩ := SlV.at hl hkv hil
    have hibl := SlV.lt hl (hkv.trans (by rw [hka]))
    have hk := iV_at (X.row row fun _ _ h => by omega) hx
    rw [int_pred mm hlt] at e4
    rw [hka] at e0
    refine W_rg fun K hK => (W_text [true, true, true, true, true, false, false, true] (by kernel_rfl) ?_); simp only [↓List.toList_toArray, ↓rgd, ↓rgf, ↓reduceIte, Nat.reduceEqDiff, rg, ow_80, e0, e4, hil, hk]
    refine do_bsl rfl (bs_i1 x) fun w3 n3 => ⟨trivial, ?_⟩
    simp only [↓List.toList_toArray, ↓rgd, ↓rgf, ↓reduceIte, Nat.reduceEqDiff, rg, ow_80]
    have H3 := hO.ext n3.ext
    have s3 := n3.size
    have z3 : SlV w3 2 (.slice (some ⟨w'.heap.size, 0, none⟩) 1 1) 1 (Ei.cel x) := ⟨rfl, .inr ⟨_, 0, 1, rfl, Nat.le_refl _, n3.row, n3.wok.R (Nat.le_refl _)⟩⟩
    refine do_append (by simp only [evt, evc, upd_eq, Nat.reduceEqDiff, ↓reduceIte, ntT, ntF] <;> rfl) (by simp only [evt, evc, upd_eq, Nat.reduceEqDiff, ↓reduceIte, ntT, ntF] <;> rfl) el_i rfl ni_i H3.sl z3 (by simp; omega) (by decide) (Ei.one _) fun v4 w4 a4 => ⟨trivial, ?_⟩
    obtain ⟨H4, X4⟩ := H3.app a4 (by omega)
    simp only [↓List.toList_toArray, ↓rgd, ↓rgf, ↓reduceIte, Nat.reduceEqDiff, rg, ow_80]
    refine hK _ _ ?_; clear hK K
    show W _ _ _ _ _ _
    have q1 := pred_wrap (mm - 1) (by omega)
    refine W_rg fun K hK => (W_text [true, true, true] (by kernel_rfl) ?_); simp only [↓List.toList_toArray, ↓rgd, ↓rgf, ↓reduceIte, Nat.reduceEqDiff, rg, ow_80, e4, q1]
    refine hK _ _ ?_; clear hK K
    have hd : (l.drop (mm - 1)).reverse = (l.drop mm).reverse ++ [x] := by
      rw [List.drop_eq_getElem_cons hil, List.reverse_cons, show mm - 1 + 1 = mm by omega]
      congr 2
      exact (List.getElem?_eq_some_iff.1 hx).2
    refine ⟨mm - 1, by omega, by omega, by simp only [upd_eq, Nat.reduceEqDiff, ↓reduceIte]; rw [hd]; exact H4, (X.tr (n3.ext.mono fun _ _ _ h => h.elim)).tr X4, by simp only [upd_eq, Nat.reduceEqDiff, ↓reduceIte]; rw [hka]; exact e0, by simp only [upd_eq, Nat.reduceEqDiff, ↓reduceIte]⟩
  · obtain rfl : mm = 0 := by omega
    refine W_sq fun K hK => (W_text [true, true] (by kernel_rfl) ?_); simp only [↓List.toList_toArray, ↓rgd, ↓rgf, ↓reduceIte, Nat.reduceEqDiff, rg, ow_80, e4, ge_ff]
    refine hK _ _ ?_; clear hK K
    refine W_false (by simp only [evt, evc, upd_eq, Nat.reduceEqDiff, ↓reduceIte, ntT, ntF] <;> rfl) (W_exit ?_)
    simp only [andThen_exit, inBlk_exit, andThen_normal, ↓reduceIte]
    refine W_sq fun K hK => (W_text [true, true] (by kernel_rfl) ?_); simp only [↓List.toList_toArray, ↓rgd, ↓rgf, ↓reduceIte, Nat.reduceEqDiff, rg, ow_80]
    refine hK _ _ ?_; clear hK K
    exact W_ret (endQ_1 (by simp only [upd_eq, Nat.reduceEqDiff, ↓reduceIte] <;> rfl) ⟨hO.sl, noF_of (Ext.refl _ _) X fun y o hy h => by omega⟩)
set_option maxHeartbeats 800000 in
set_option maxRecDepth 8000 in
theorem sdown_any (os : Value) (ord : List Int) (l : List It) (lv : Value) (x : It) (w : World) (hO : SlInt w os ord) (hOb : ord.length ≤ 2147483647) (hl : SlI w lv l) (hbig : l.length ≤ 2147483647) (ha : Asc O (rkI ord) l) :
    CallK Try.prog 81 #[os, lv, iV x] w fun v w' => SlI w' v (l.take (ub O (rkI ord) (rkI ord x) l)).reverse ∧ Ext noF w w' := by
  obtain ⟨a, c, hlv⟩ : ∃ a c, lv = .slice a l.length c := by
    rcases hl.2 with ⟨rfl, h⟩ | ⟨b, o, cap, rfl, _⟩
    · exact ⟨none, 0, by rw [h]⟩
    · exact ⟨_, _, rfl⟩
  have hsome : ∀ i, i < l.length → ∃ b o cap, lv = .slice (some ⟨b, o, none⟩) l.length cap ∧ Row w b o (flat Ei l) ∧ b < w.heap.size := fun i hi => by
    rcases hl.2 with ⟨_, h⟩ | ⟨b, o, cap, h1, _, h2, h3⟩
    · omega
    · exact ⟨b, o, cap, h1, h2, wokR_lt h3⟩
  have hub := ub_le O (rkI ord) (rkI ord x) l
  refine calls_of_W [.tmp 6] Try.func81 rfl Try.ntmps81 Try.results81 (by simp) fun e he => ?_
  have e0 : e 0 = os := he 0 _ rfl
  have e1 : e 1 = lv := he 1 _ rfl
  have e2 : e 2 = iV x := he 2 _ rfl
  clear he
  refine W_sq fun K hK => (W_text [false, true] (by kernel_rfl) ?_); simp only [↓List.toList_toArray, ↓rgd, ↓rgf, ↓reduceIte, Nat.reduceEqDiff, rg, ow_81]
  refine do_box (by simp only [evt]; exact e2) fun w1 n1 => ⟨trivial, ?_⟩
  simp only [↓List.toList_toArray, ↓rgd, ↓rgf, ↓reduceIte, Nat.reduceEqDiff, rg, ow_81]
  refine hK _ _ ?_; clear hK K
  refine W_sq fun K hK => (W_text [true] (by kernel_rfl) ?_); simp only [↓List.toList_toArray, ↓rgd, ↓rgf, ↓reduceIte, Nat.reduceEqDiff, rg, ow_81]
  refine hK _ _ ?_; clear hK K
  have s1 := n1.size
  refine W_seq ((W_block (Q := fun ex e w' => ex = .normal ∧ e 1 = lv ∧ e 7 = .int .i64 (ub O (rkI ord) (rkI ord x) l : Nat) ∧ Ext noF w1 w') (W_loop (fun mm e w' => ∃ i : Nat, mm = l.length - i ∧ i ≤ l.length ∧ (∀ j y, j < i → l[j]? = some y → O.lt (rkI ord x) (rkI ord y) = false) ∧ e 0 = os ∧ e 1 = lv ∧ e 5 = .pointer (some ⟨w.heap.size, 0, none⟩) ∧ e 7 = .int .i64 i ∧ Ext noF w1 w')
    l.length ⟨0, by simp, by simp, fun j y h => by omega, ?_, ?_, ?_, ?_, Ext.refl _ _⟩ ?_)).mono ?_)
  · simp only [upd_eq, Nat.reduceEqDiff, ↓reduceIte]; exact e0
  · simp only [upd_eq, Nat.reduceEqDiff, ↓reduceIte]; exact e1
  · simp only [upd_eq, Nat.reduceEqDiff, ↓reduceIte]
  · simp only [upd_eq, Nat.reduceEqDiff, ↓reduceIte]; rfl
  · clear e0 e1 e2 e
    rintro mm e w' ⟨i, rfl, hi, hlow, e0, e1, e5, e7, X⟩
    have sX := X.size
    refine W_seq ?_
    by_cases hlt : i < l.length
    · have ht := lt_tt i l.length hlt
      obtain ⟨y, hy⟩ : ∃ y, l[i]? = some y := ⟨_, List.getElem?_eq_getElem hlt⟩
      obtain ⟨b, o, cap, hlv2, row, hb⟩ := hsome i hlt
      rw [hlv2] at e1
      have ix := iV_at (X.row (n1.ext.row row fun _ _ h => h) fun _ _ h => h) hy
      have bx : rdA w' w.heap.size 0 2 = some (iV x) := (X.row n1.row fun _ _ h => h).rdA 2 (by show 2 ≤ 2; omega)
      have M1 : readsB (some (some [b, w.heap.size])) b = true := by simp [readsB]
      have M2 : readsB (some (some [b, w.heap.size])) w.heap.size = true := by simp [readsB]
      refine W_sq fun K hK => (W_draw (some (some [b, w.heap.size])) none [(0, 0, 0), (0, 1, 0), (0, 2, 0), (0, 3, 0), (0, 4, 0), (0, 5, 0), (0, 6, 0), (0, 7, 0), (0, 8, 0), (0, 9, 0), (0, 10, 0), (1, 11, 0), (0, 12, 0), (0, 13, 0)] mixed (by kernel_rfl) ?_); simp only [↓List.toList_toArray, ↓rgd, ↓rgf, ↓reduceIte, Nat.reduceEqDiff, rg, ow_81, e0, e1, e5, e7, ht, hlt, ix, bx, M1, M2]
      refine do_call fn_52 (by simp only [evt, evc, upd_eq, Nat.reduceEqDiff, ↓reduceIte, maT, maC, maN, isnN, isnS] <;> rfl) (before_ord os ord x y _ (SlV.ext0 hO ((n1.ext.tr X).tr (Ext.dr noF _ _))) hOb) ?_
      rintro _ w2 ⟨rfl, x2⟩
      refine ⟨.inr (keeps_on x2 fun z hz => ⟨?_, fun _ h => h⟩), ?_⟩
      · rw [sz_dr]
        simp only [List.mem_cons, List.not_mem_nil, or_false] at hz
        omega
      simp only [↓List.toList_toArray, ↓rgd, ↓rgf, ↓reduceIte, Nat.reduceEqDiff, rg, ow_81]
      refine hK _ _ ?_; clear hK K
      have x2 := x2.od
      cases hq : O.lt (rkI ord x) (rkI ord y) with
      | false =>
        refine W_true (by simp only [evt, evc, upd_eq, Nat.reduceEqDiff, ↓reduceIte, ntT, ntF] <;> rfl) (W_skip ?_)
        show W _ _ _ _ _ _
        have q1 := wadd1 i (by omega)
        refine W_block ?_
        refine W_rg fun K hK => (W_text [true, true, true] (by kernel_rfl) ?_); simp only [↓List.toList_toArray, ↓rgd, ↓rgf, ↓reduceIte, Nat.reduceEqDiff, rg, ow_81, e7, q1]
        refine hK _ _ ?_; clear hK K
        refine ⟨_, ?_, i + 1, rfl, hlt, fun j z hj hz => ?_, ?_, ?_, ?_, ?_, X.tr x2⟩
        · omega
        · rcases Nat.lt_or_ge j i with g | g
          · exact hlow j z g hz
          · obtain rfl : j = i := by omega
            rw [hy] at hz; cases hz; exact hq
        · simp only [upd_eq, Nat.reduceEqDiff, ↓reduceIte]; exact e0
        · simp only [upd_eq, Nat.reduceEqDiff, ↓reduceIte]; rw [e1, hlv2]
        · simp only [upd_eq, Nat.reduceEqDiff, ↓reduceIte]; exact e5
        · simp only [upd_eq, Nat.reduceEqDiff, ↓reduceIte]
      | true =>
        have hu := ub_at O (rkI ord) ha hi hlow (fun z hz => by rw [hy] at hz; cases hz; exact hq)
        refine W_false (by simp only [evt, evc, upd_eq, Nat.reduceEqDiff, ↓reduceIte, ntT, ntF] <;> rfl) (W_exit ?_)
        simp only [andThen_exit, inBlk_exit, ↓reduceIte]
        refine ⟨trivial, ?_, ?_, X.tr x2⟩
        · simp only [upd_eq, Nat.reduceEqDiff, ↓reduceIte]; rw [e1, hlv2]
        · simp only [upd_eq, Nat.reduceEqDiff, ↓reduceIte]; rw [e7, hu]
    · obtain rfl : i = l.length := by omega
      have ht := lt_ff l.length l.length (by omega)
      have hu := ub_at O (rkI ord) ha (Nat.le_refl _) hlow (fun z hz => by have := (List.getElem?_eq_some_iff.1 hz).1; omega)
      rw [hlv] at e1
      refine W_sq fun K hK => (W_draw (some (some [])) none [(0, 0, 0), (0, 1, 0), (0, 2, 0), (0, 3, 0), (0, 4, 0), (0, 5, 0), (0, 6, 0), (0, 7, 0), (0, 8, 0), (0, 9, 0), (0, 10, 0), (1, 11, 0), (0, 12, 0), (0, 13, 0)] mixed (by kernel_rfl) ?_); simp only [↓List.toList_toArray, ↓rgd, ↓rgf, ↓reduceIte, Nat.reduceEqDiff, rg, ow_81, e0, e1, e5, e7, ht]
      refine hK _ _ ?_; clear hK K
      refine W_false (by simp only [evt, evc, upd_eq, Nat.reduceEqDiff, ↓reduceIte, ntT, ntF] <;> rfl) (W_exit ?_)
      simp only [andThen_exit, inBlk_exit, ↓reduceIte]
      refine ⟨trivial, ?_, ?_, X.tr (Ext.dr _ _ _)⟩
      · simp only [upd_eq, Nat.reduceEqDiff, ↓reduceIte]; rw [e1, hlv]
      · simp only [upd_eq, Nat.reduceEqDiff, ↓reduceIte]; rw [e7, hu]
  · clear e0 e1 e2 e
    rintro ex e w' ⟨rfl, e1, e7, X⟩
    show W _ _ _ _ _ _
    have X1 := n1.ext.tr X
    obtain ⟨sv, hs, hsl⟩ := sl_hi (SlV.ext0 hl X1) (ub O (rkI ord) (rkI ord x) l) hub
    have hS : SlI w' sv (l.take (ub O (rkI ord) (rkI ord x) l)) := by
      rw [SlI, List.length_take, Nat.min_eq_left hub]; exact hsl
    refine W_sq fun K hK => (W_text [true, true, true, false, true] (by kernel_rfl) ?_); simp only [↓List.toList_toArray, ↓rgd, ↓rgf, ↓reduceIte, Nat.reduceEqDiff, rg, ow_81, e1, e7, hs]
    refine do_call fn_80 (by simp only [evt, evc, upd_eq, Nat.reduceEqDiff, ↓reduceIte, maT, maC, maN, isnN, isnS] <;> rfl) (sturned_any _ sv w' hS (by rw [List.length_take]; omega)) ?_
    rintro v2 w2 ⟨hS2, X2⟩
    refine ⟨trivial, ?_⟩
    simp only [↓List.toList_toArray, ↓rgd, ↓rgf, ↓reduceIte, Nat.reduceEqDiff, rg, ow_81]
    refine hK _ _ ?_; clear hK K
    exact W_ret (endQ_1 (by simp only [upd_eq, Nat.reduceEqDiff, ↓reduceIte] <;> rfl) ⟨hS2, X1.tr X2⟩)
set_option maxHeartbeats 800000 in
set_option maxRecDepth 8000 in
theorem sgreverse (d : Nat) (ord : List Int) (sv : Value) (nl : Bool) (l : List It) (lv : Value) (n : Int) (w : World) (hs : SlInt w sv ord) (hsb : ord.length ≤ 2147483647) (hl : SlI w lv l) (hbig : l.length ≤ 2147483647) :
    CallK Try.prog 47 #[mkV sv d nl, lv, .int .i64 n] w fun v w' => SlI w' v (firstN n (treeG ord l).reverse) ∧ Ext noF w w' := by
  have htl := treeG_len ord l
  refine calls_of_W [.tmp 6] Try.func47 rfl Try.ntmps47 Try.results47 (by simp) fun e he => ?_
  have e0 : e 0 = mkV sv d nl := he 0 _ rfl
  have e1 : e 1 = lv := he 1 _ rfl
  have e2 : e 2 = .int .i64 n := he 2 _ rfl
  clear he
  refine W_sq fun K hK => (W_text [false, true] (by kernel_rfl) ?_); simp only [↓List.toList_toArray, ↓rgd, ↓rgf, ↓reduceIte, Nat.reduceEqDiff, rg, ow_47]
  refine do_box (by simp only [evt]; exact e0) fun w1 n1 => ⟨trivial, ?_⟩
  simp only [↓List.toList_toArray, ↓rgd, ↓rgf, ↓reduceIte, Nat.reduceEqDiff, rg, ow_47]
  refine hK _ _ ?_; clear hK K
  have r1 := mk_at0 (show Row w1 w.heap.size 0 (mkL sv d nl) from n1.row)
  refine W_sq fun K hK => (W_text [true, true, true, false, false, true, false, true] (by kernel_rfl) ?_); simp only [↓List.toList_toArray, ↓rgd, ↓rgf, ↓reduceIte, Nat.reduceEqDiff, rg, ow_47, e1, e2, r1]
  refine do_call fn_60 (by simp only [evt, evc, upd_eq, Nat.reduceEqDiff, ↓reduceIte, maT, maC, maN, isnN, isnS] <;> rfl) (stree_ord sv ord l lv w1 (SlV.ext0 hs n1.ext) hsb (SlV.ext0 hl n1.ext) hbig) ?_
  rintro v2 w2 ⟨hS2, X2⟩
  refine ⟨trivial, ?_⟩
  simp only [↓List.toList_toArray, ↓rgd, ↓rgf, ↓reduceIte, Nat.reduceEqDiff, rg, ow_47]
  refine do_call fn_80 (by simp only [evt, evc, upd_eq, Nat.reduceEqDiff, ↓reduceIte, maT, maC, maN, isnN, isnS] <;> rfl) (sturned_any (treeG ord l) v2 w2 hS2 (by omega)) ?_
  rintro v3 w3 ⟨hS3, X3⟩
  refine ⟨trivial, ?_⟩
  simp only [↓List.toList_toArray, ↓rgd, ↓rgf, ↓reduceIte, Nat.reduceEqDiff, rg, ow_47, e2]
  refine do_call fn_35 (by simp only [evt, evc, upd_eq, Nat.reduceEqDiff, ↓reduceIte, maT, maC, maN, isnN, isnS] <;> rfl) (first_any _ v3 n w3 hS3) ?_
  rintro v4 w4 ⟨hS4, hw4⟩
  obtain rfl : w3 = w4 := hw4.symm
  refine ⟨trivial, ?_⟩
  simp only [↓List.toList_toArray, ↓rgd, ↓rgf, ↓reduceIte, Nat.reduceEqDiff, rg, ow_47]
  refine hK _ _ ?_; clear hK K
  exact W_ret (endQ_1 (by simp only [upd_eq, Nat.reduceEqDiff, ↓reduceIte] <;> rfl) ⟨hS4, (n1.ext.tr X2).tr X3⟩)
set_option maxHeartbeats 400000 in
set_option maxRecDepth 8000 in
theorem sgdescend (d : Nat) (ord : List Int) (sv : Value) (nl : Bool) (l : List It) (lv : Value) (q : It) (n : Int) (w : World) (hs : SlInt w sv ord) (hsb : ord.length ≤ 2147483647) (hl : SlI w lv l) (hbig : l.length ≤ 2147483647) :
    CallK Try.prog 48 #[mkV sv d nl, lv, iV q, .int .i64 n] w fun v w' => SlI w' v (firstN n (((treeG ord l).take (ub O (rkI ord) (rkI ord q) (treeG ord l))).reverse)) ∧ Ext noF w w' := by
  refine calls_of_W [.tmp 8] Try.func48 rfl Try.ntmps48 Try.results48 (by simp) fun e he => ?_
  have e0 : e 0 = mkV sv d nl := he 0 _ rfl
  have e1 : e 1 = lv := he 1 _ rfl
  have e2 : e 2 = iV q := he 2 _ rfl
  have e3 : e 3 = .int .i64 n := he 3 _ rfl
  clear he
  have htl := treeG_len ord l
  refine W_sq fun K hK => (W_text [false, false, true] (by kernel_rfl) ?_); simp only [↓List.toList_toArray, ↓rgd, ↓rgf, ↓reduceIte, Nat.reduceEqDiff, rg, ow_48]
  refine do_box (by simp only [evt]; exact e0) fun w0 n0 => ⟨trivial, ?_⟩
  simp only [↓List.toList_toArray, ↓rgd, ↓rgf, ↓reduceIte, Nat.reduceEqDiff, rg, ow_48]
  refine do_box (by simp only [evt, upd_eq, Nat.reduceEqDiff, ↓reduceIte]; exact e2) fun wq nq => ⟨trivial, ?_⟩
  simp only [↓List.toList_toArray, ↓rgd, ↓rgf, ↓reduceIte, Nat.reduceEqDiff, rg, ow_48]
  refine hK _ _ ?_; clear hK K
  have s0 := n0.size
  have sq := nq.size
  have X0 := n0.ext.tr nq.ext
  have r1 := mk_at0 (nq.ext.row (show Row w0 w.heap.size 0 (mkL sv d nl) from n0.row) fun _ _ h => h)
  have iq := iXi_at (show Row wq w0.heap.size 0 (Ei.cel q) from nq.row)
  have M1 : readsB (some (some [w.heap.size, w0.heap.size])) w.heap.size = true := by simp [readsB]
  have M2 : readsB (some (some [w.heap.size, w0.heap.size])) w0.heap.size = true := by simp [readsB]
  refine W_sq fun K hK => (W_free (some (some [w.heap.size, w0.heap.size])) (.take 0 (.take 1 (.take 2 (.take 3 (.take 4 (.take 6 (.take 8 (.act 5 (.act 7 (.bar 9 (.take 10 .nil))))))))))) mixed (by kernel_rfl) ?_); simp only [↓List.toList_toArray, ↓rgd, ↓rgf, ↓reduceIte, Nat.reduceEqDiff, rg, ow_48, e1, e3, r1, iq, M1, M2]
  refine do_call fn_60 (by simp only [evt, evc, upd_eq, Nat.reduceEqDiff, ↓reduceIte, maT, maC, maN, isnN, isnS] <;> rfl) (stree_ord sv ord l lv _ (SlV.ext0 hs (X0.tr (Ext.dr _ _ _))) hsb (SlV.ext0 hl (X0.tr (Ext.dr _ _ _))) hbig) ?_
  rintro v2 w2 ⟨hS2, X2⟩
  refine ⟨.inr (keeps_on X2 fun y hy => ⟨?_, fun _ g => g⟩), ?_⟩
  · rw [sz_dr]
    simp only [List.mem_cons, List.not_mem_nil, or_false] at hy
    omega
  have X2 := X2.od
  have s2 := X2.size
  have X02 := X0.tr X2
  simp only [↓List.toList_toArray, ↓rgd, ↓rgf, ↓reduceIte, Nat.reduceEqDiff, rg, ow_48]
  refine do_call fn_81 (by simp only [evt, evc, upd_eq, Nat.reduceEqDiff, ↓reduceIte, maT, maC, maN, isnN, isnS] <;> rfl) (sdown_any sv ord (treeG ord l) v2 q w2 (SlV.ext0 hs X02) hsb hS2 (by omega) (treeG_asc ord l)) ?_
  rintro v3 w3 ⟨hS3, X3⟩
  refine ⟨.inr (keeps_on X3 fun y hy => ⟨?_, fun _ g => g⟩), ?_⟩
  · simp only [List.mem_cons, List.not_mem_nil, or_false] at hy
    omega
  simp only [↓List.toList_toArray, ↓rgd, ↓rgf, ↓reduceIte, Nat.reduceEqDiff, rg, ow_48, e3]
  refine do_call fn_35 (by simp only [evt, evc, upd_eq, Nat.reduceEqDiff, ↓reduceIte, maT, maC, maN, isnN, isnS] <;> rfl) (first_any _ v3 n w3 hS3) ?_
  rintro v4 w4 ⟨hS4, hw4⟩
  obtain rfl : w3 = w4 := hw4.symm
  refine ⟨trivial, ?_⟩
  simp only [↓List.toList_toArray, ↓rgd, ↓rgf, ↓reduceIte, Nat.reduceEqDiff, rg, ow_48]
  refine hK _ _ ?_; clear hK K
  exact W_ret (endQ_1 (by simp only [upd_eq, Nat.reduceEqDiff, ↓reduceIte] <;> rfl) ⟨hS4, X02.tr X3⟩)
end Go.Proofs.Ytanmjbkbdmeckaa
/-
  Trees that are set, or loaded, item by item; whether trees hold items at all. No condition.
-/
set_option linter.unusedSimpArgs false
set_option linter.unusedVariables false
namespace Go.Proofs.Ytanmjbkbdmeckaa
open Go Go.Proofs
set_option maxHeartbeats 1600000 in
set_option maxRecDepth 8000 in
theorem impl_bset (d : Nat) (hd : DOk d) (ord : List Int) (sv : Value) (nl : Bool) (ks : List It) (kv : Value) (w : World) (hs : SlInt w sv ord) (hsb : ord.length ≤ 2147483647) (hks : SlI w kv ks) (hkb : ks.length ≤ 2147483647) :
    CallK Try.prog 27 #[mkV sv d nl, kv] w fun v w' => ∃ v1 v2, v = .tuple #[v1, v2] ∧ SlV w' 3 v1 (reps ord ks).length (flat Ef (reps ord ks)) ∧ SlI w' v2 (treeG ord ks) ∧ Ext noF w w' := by
  refine calls_of_W [.tmp 4, .tmp 5] Try.func27 rfl Try.ntmps27 Try.results27 (by simp) fun e he => ?_
  have e0 : e 0 = mkV sv d nl := he 0 _ rfl
  have e1 : e 1 = kv := he 1 _ rfl
  clear he
  obtain ⟨ka, kc, hkv⟩ := hks.shape
  rw [hkv] at e1
  obtain ⟨hd2, hd3⟩ := hd.of
  refine W_sq fun K hK => (W_text [false, true, true] (by kernel_rfl) ?_); simp only [↓List.toList_toArray, ↓rgd, ↓rgf, ↓reduceIte, Nat.reduceEqDiff, rg, ow_27]
  refine do_box (by simp only [evt]; exact e0) fun w1 n1 => ⟨trivial, ?_⟩
  simp only [↓List.toList_toArray, ↓rgd, ↓rgf, ↓reduceIte, Nat.reduceEqDiff, rg, ow_27]
  refine hK _ _ ?_; clear hK K
  have rm := mk_at (show Row w1 w.heap.size 0 (mkL sv d nl) from n1.row)
  refine W_sq fun K hK => (W_text [true, false, true] (by kernel_rfl) ?_); simp only [↓List.toList_toArray, ↓rgd, ↓rgf, ↓reduceIte, Nat.reduceEqDiff, rg, ow_27, rm]
  refine do_call fn_53 (vs := #[mkV sv d nl, .slice none 0 0]) (by simp only [evt, evc, upd_eq, Nat.reduceEqDiff, ↓reduceIte, maT, maC, maN, isnN, isnS] <;> rfl) (growB_any d hd ord sv nl [] (.slice none 0 0) w1 (SlV.ext0 hs n1.ext) hsb ⟨rfl, .inl ⟨rfl, rfl⟩⟩ (by simp)) ?_
  rintro _ w0 ⟨X2, t, A, m, F, rfl, hbt, htw, hFt, htl2, hM0, hmw, hmt, hFw, hBw⟩
  have X02 := n1.ext.tr X2
  have s1 := n1.size
  have s02 := X02.size
  refine ⟨trivial, ?_⟩
  simp only [↓List.toList_toArray, ↓rgd, ↓rgf, ↓reduceIte, Nat.reduceEqDiff, rg, ow_27]
  refine hK _ _ ?_; clear hK K
  refine W_sq fun K hK => (W_text [true] (by kernel_rfl) ?_); simp only [↓List.toList_toArray, ↓rgd, ↓rgf, ↓reduceIte, Nat.reduceEqDiff, rg, ow_27]
  refine hK _ _ ?_; clear hK K
  have hk0 : SlI w0 kv ks := SlV.ext0 hks X02
  have hfill : Fil A t m (degOf d) ord (.slice none 0 0) (treeG ord (ks.take 0)) (reps ord (ks.take 0)) w0 := ⟨hbt, ⟨F, hM0, hFt, offB_nil _⟩, OutE.nil _ _ _, hmt, htl2⟩
  have hkl : ∀ b o n c, kv = .slice (some ⟨b, o, none⟩) n c → b < w.heap.size := fun b o n c h => SlV.lt hks h
  clear hM0 X2 n1

  refine W_seq (W_seq ?_)
  refine W_rg fun K hK => (W_text [true, true, true] (by kernel_rfl) ?_); simp only [↓List.toList_toArray, ↓rgd, ↓rgf, ↓reduceIte, Nat.reduceEqDiff, rg, ow_27, e1]
  refine hK _ _ ?_; clear hK K
  show W _ _ _ _ _ _
  refine W_block (W_loop (fun mm e w' => ∃ k : Nat, mm = ks.length - k ∧ k ≤ ks.length ∧ e 12 = .slice ka ks.length kc ∧ e 13 = .int .i64 ks.length ∧ e 14 = .int .i64 k ∧ e 6 = ptr t ∧ Fil A t m (degOf d) ord (e 7) (treeG ord (ks.take k)) (reps ord (ks.take k)) w' ∧ Ext (filF m) w0 w')
    ks.length ⟨0, by simp, by simp, by simp only [upd_eq, Nat.reduceEqDiff, ↓reduceIte], by simp only [upd_eq, Nat.reduceEqDiff, ↓reduceIte], by simp only [upd_eq, Nat.reduceEqDiff, ↓reduceIte]; rfl, by simp only [upd_eq, Nat.reduceEqDiff, ↓reduceIte], by simp only [upd_eq, Nat.reduceEqDiff, ↓reduceIte]; exact hfill, Ext.refl _ _⟩ ?_)
  clear hfill e0 e1 e
  rintro mm e w' ⟨k, rfl, hk, eS, eL, eI, eM, hfl, X⟩
  by_cases hlt : k < ks.length
  · have ht := lt_tt k ks.length hlt
    refine W_sq fun K hK => (W_text [true] (by kernel_rfl) ?_); simp only [↓List.toList_toArray, ↓rgd, ↓rgf, ↓reduceIte, Nat.reduceEqDiff, rg, ow_27, eL, eI, ht]
    refine hK _ _ ?_; clear hK K
    refine W_seq (W_true (by simp only [evt, evc, upd_eq, Nat.reduceEqDiff, ↓reduceIte, ntT, ntF] <;> rfl) (W_skip ?_))
    show W _ _ _ _ _ _
    obtain ⟨x, hx⟩ : ∃ x, ks[k]? = some x := ⟨_, List.getElem?_eq_getElem hlt⟩
    obtain ⟨ib, io, hka, row⟩ := hk0.at hkv hlt
    have hibl := hk0.lt (hkv.trans (by rw [hka]))
    have ixx := iV_at (X.row row (fun _ _ h => by have := hkl _ _ _ _ (hkv.trans (by rw [hka])); have : m ≤ _ := h; omega)) hx
    rw [hka] at eS
    refine W_seq (W_block ?_)
    refine W_sq fun K hK => (W_text [true, true, false, false] (by kernel_rfl) ?_); simp only [↓List.toList_toArray, ↓rgd, ↓rgf, ↓reduceIte, Nat.reduceEqDiff, rg, ow_27, eS, eI, hlt, ixx]
    refine do_alloc z_item fun w2 n2 => ⟨trivial, ?_⟩
    simp only [↓List.toList_toArray, ↓rgd, ↓rgf, ↓reduceIte, Nat.reduceEqDiff, rg, ow_27]
    refine do_store (v := iV x) (by simp only [evt, evc, upd_eq, Nat.reduceEqDiff, ↓reduceIte, ntT, ntF] <;> rfl) (by simp only [evt, evc, upd_eq, Nat.reduceEqDiff, ↓reduceIte, ntT, ntF] <;> rfl) sz_33 rfl n2.wok (by decide) (Ei.one x) fun w3 x3 r3 s3 => ⟨trivial, ?_⟩
    simp only [↓List.toList_toArray, ↓rgd, ↓rgf, ↓reduceIte, Nat.reduceEqDiff, rg, ow_27]
    refine hK _ _ ?_; clear hK K
    have s2 := n2.size
    have X3 : Ext noF w' w3 := noF_of n2.ext x3 fun y o hy h => by simp only [rng] at h; omega
    have s3 := X3.size
    have ix3 := iXi_at (show Row w3 w'.heap.size 0 (Ei.cel x) from r3)
    rw [← hka] at eS
    have sX := X.size
    obtain ⟨l1, l2⟩ := hfl.lt
    have hfl3 := hfl.ext X3
    obtain ⟨F0, hM0, hF0, ho0⟩ := hfl.tr
    have htl := treeG_len ord (ks.take k)
    have htk : (ks.take k).length ≤ k := by rw [List.length_take]; omega
    refine W_rg fun K hK => (W_text [true, true, true, true, false, false, false, false, true] (by kernel_rfl) ?_); simp only [↓List.toList_toArray, ↓rgd, ↓rgf, ↓reduceIte, Nat.reduceEqDiff, rg, ow_27, eM, ix3]
    refine do_call fn_57 (vs := #[ptr t, itV x]) (by simp only [evt, evc, upd_eq, Nat.reduceEqDiff, ↓reduceIte, maT, maC, maN, isnN, isnS] <;> rfl) (bset_any t A m (degOf d) 1 ord x hd2 hd3 _ F0 w3 (hfl3.bat) (hM0.ext X3) (by omega)) ?_
    rintro _ w4 ⟨rfl, x4, F', hM4, hF'⟩
    refine ⟨trivial, ?_⟩
    simp only [↓List.toList_toArray, ↓rgd, ↓rgf, ↓reduceIte, Nat.reduceEqDiff, rg, ow_27]
    obtain ⟨hfl4, X4⟩ := hfl3.step (hM0.ext X3) hF0 ho0 x4 hM4 hF'
    refine do_call fn_54 (by simp only [evt, evc, upd_eq, Nat.reduceEqDiff, ↓reduceIte, maT, maC, maN, isnN, isnS] <;> rfl) (found_any _ w4) ?_
    rintro _ w5 ⟨rfl, X5⟩
    refine ⟨trivial, ?_⟩
    simp only [↓List.toList_toArray, ↓rgd, ↓rgf, ↓reduceIte, Nat.reduceEqDiff, rg, ow_27]
    refine do_bsl rfl (bs_fo1 _) fun w6 n6 => ⟨trivial, ?_⟩
    simp only [↓List.toList_toArray, ↓rgd, ↓rgf, ↓reduceIte, Nat.reduceEqDiff, rg, ow_27]
    have X6 := X5.tr n6.ext
    have s6 := X6.size
    have hrl : (reps ord (ks.take k)).length = k := by rw [reps_length, List.length_take]; omega
    have hx6 : SlV w6 3 (.slice (some ⟨w5.heap.size, 0, none⟩) 1 1) 1 (Ef.cel (foO (at? O (rkI ord) (rkI ord x) (treeG ord (ks.take k))))) := ⟨rfl, .inr ⟨_, 0, 1, rfl, Nat.le_refl _, n6.row, n6.wok.R (Nat.le_refl _)⟩⟩
    have hfl6 := hfl4.ext X6
    refine do_append (by simp only [evt, evc, upd_eq, Nat.reduceEqDiff, ↓reduceIte, ntT, ntF] <;> rfl) (by simp only [evt, evc, upd_eq, Nat.reduceEqDiff, ↓reduceIte, ntT, ntF] <;> rfl) el_fo rfl ni_fo hfl6.out.sl hx6 (by omega) (by decide) (Ef.one _) fun v7 w7 a7 => ?_
    obtain ⟨hfl7, X7⟩ := hfl6.app a7
    refine ⟨trivial, ?_⟩
    simp only [↓List.toList_toArray, ↓rgd, ↓rgf, ↓reduceIte, Nat.reduceEqDiff, rg, ow_27]
    refine hK _ _ ?_; clear hK K
    show W _ _ _ _ _ _
    have q1 := wadd1 k (by omega)
    refine W_rg fun K hK => (W_text [true, true] (by kernel_rfl) ?_); simp only [↓List.toList_toArray, ↓rgd, ↓rgf, ↓reduceIte, Nat.reduceEqDiff, rg, ow_27, eI, q1]
    refine hK _ _ ?_; clear hK K
    refine ⟨_, ?_, k + 1, rfl, hlt, by simp only [upd_eq, Nat.reduceEqDiff, ↓reduceIte]; exact eS, by simp only [upd_eq, Nat.reduceEqDiff, ↓reduceIte]; exact eL, by simp only [upd_eq, Nat.reduceEqDiff, ↓reduceIte], by simp only [upd_eq, Nat.reduceEqDiff, ↓reduceIte]; exact eM, by simp only [upd_eq, Nat.reduceEqDiff, ↓reduceIte]; rw [reps_succ hx, treeG_succ ord ks k x hx]; exact hfl7, (((X.tr (X3.mono fun _ _ _ h => h.elim)).tr X4).tr (X6.mono fun _ _ _ h => h.elim)).tr X7⟩
    omega
  · obtain rfl : k = ks.length := by omega
    have ht := lt_ff ks.length ks.length (by omega)
    refine W_sq fun K hK => (W_text [true] (by kernel_rfl) ?_); simp only [↓List.toList_toArray, ↓rgd, ↓rgf, ↓reduceIte, Nat.reduceEqDiff, rg, ow_27, eL, eI, ht]
    refine hK _ _ ?_; clear hK K
    refine W_seq (W_false (by simp only [evt, evc, upd_eq, Nat.reduceEqDiff, ↓reduceIte, ntT, ntF] <;> rfl) (W_exit ?_))
    simp only [andThen_exit, inBlk_exit, andThen_normal, ↓reduceIte]
    rw [List.take_length] at hfl
    obtain ⟨F, hM, hFB, ho⟩ := hfl.tr
    obtain ⟨l1, l2⟩ := hfl.lt
    have htl := treeG_len ord ks
    refine W_sq fun K hK => (W_text [true, true, false, true, true] (by kernel_rfl) ?_); simp only [↓List.toList_toArray, ↓rgd, ↓rgf, ↓reduceIte, Nat.reduceEqDiff, rg, ow_27, eM]
    refine do_call fn_56 (vs := #[ptr t]) (by simp only [evt, evc, upd_eq, Nat.reduceEqDiff, ↓reduceIte, maT, maC, maN, isnN, isnS] <;> rfl) (allOf_any t A m (degOf d) ord hd2 1 (treeG ord ks) F w' hfl.bat hM (by omega)) ?_
    rintro v8 w8 ⟨hO, X8⟩
    refine ⟨trivial, ?_⟩
    simp only [↓List.toList_toArray, ↓rgd, ↓rgf, ↓reduceIte, Nat.reduceEqDiff, rg, ow_27]
    refine hK _ _ ?_; clear hK K
    refine W_ret (endQ_2 (by simp only [upd_eq, Nat.reduceEqDiff, ↓reduceIte] <;> rfl) (by simp only [upd_eq, Nat.reduceEqDiff, ↓reduceIte] <;> rfl) ⟨_, _, rfl, (hfl.out.ext X8).sl, hO, ?_⟩)
    refine (noF_of X02 X fun y o hy h => ?_).tr X8
    have : m ≤ y := h
    omega
set_option maxHeartbeats 1600000 in
set_option maxRecDepth 8000 in
theorem impl_bload (d : Nat) (hd : DOk d) (ord : List Int) (sv : Value) (nl : Bool) (ks : List It) (kv : Value) (w : World) (hs : SlInt w sv ord) (hsb : ord.length ≤ 2147483647) (hks : SlI w kv ks) (hkb : ks.length ≤ 2147483647) :
    CallK Try.prog 26 #[mkV sv d nl, kv] w fun v w' => ∃ v1 v2, v = .tuple #[v1, v2] ∧ SlV w' 3 v1 (reps ord ks).length (flat Ef (reps ord ks)) ∧ SlI w' v2 (treeG ord ks) ∧ Ext noF w w' := by
  refine calls_of_W [.tmp 4, .tmp 5] Try.func26 rfl Try.ntmps26 Try.results26 (by simp) fun e he => ?_
  have e0 : e 0 = mkV sv d nl := he 0 _ rfl
  have e1 : e 1 = kv := he 1 _ rfl
  clear he
  obtain ⟨ka, kc, hkv⟩ := hks.shape
  rw [hkv] at e1
  obtain ⟨hd2, hd3⟩ := hd.of
  refine W_sq fun K hK => (W_text [false, true, true] (by kernel_rfl) ?_); simp only [↓List.toList_toArray, ↓rgd, ↓rgf, ↓reduceIte, Nat.reduceEqDiff, rg, ow_26]
  refine do_box (by simp only [evt]; exact e0) fun w1 n1 => ⟨trivial, ?_⟩
  simp only [↓List.toList_toArray, ↓rgd, ↓rgf, ↓reduceIte, Nat.reduceEqDiff, rg, ow_26]
  refine hK _ _ ?_; clear hK K
  have rm := mk_at (show Row w1 w.heap.size 0 (mkL sv d nl) from n1.row)
  refine W_sq fun K hK => (W_text [true, false, true] (by kernel_rfl) ?_); simp only [↓List.toList_toArray, ↓rgd, ↓rgf, ↓reduceIte, Nat.reduceEqDiff, rg, ow_26, rm]
  refine do_call fn_53 (vs := #[mkV sv d nl, .slice none 0 0]) (by simp only [evt, evc, upd_eq, Nat.reduceEqDiff, ↓reduceIte, maT, maC, maN, isnN, isnS] <;> rfl) (growB_any d hd ord sv nl [] (.slice none 0 0) w1 (SlV.ext0 hs n1.ext) hsb ⟨rfl, .inl ⟨rfl, rfl⟩⟩ (by simp)) ?_
  rintro _ w0 ⟨X2, t, A, m, F, rfl, hbt, htw, hFt, htl2, hM0, hmw, hmt, hFw, hBw⟩
  have X02 := n1.ext.tr X2
  have s1 := n1.size
  have s02 := X02.size
  refine ⟨trivial, ?_⟩
  simp only [↓List.toList_toArray, ↓rgd, ↓rgf, ↓reduceIte, Nat.reduceEqDiff, rg, ow_26]
  refine hK _ _ ?_; clear hK K
  refine W_sq fun K hK => (W_text [true] (by kernel_rfl) ?_); simp only [↓List.toList_toArray, ↓rgd, ↓rgf, ↓reduceIte, Nat.reduceEqDiff, rg, ow_26]
  refine hK _ _ ?_; clear hK K
  have hk0 : SlI w0 kv ks := SlV.ext0 hks X02
  have hfill : Fil A t m (degOf d) ord (.slice none 0 0) (treeG ord (ks.take 0)) (reps ord (ks.take 0)) w0 := ⟨hbt, ⟨F, hM0, hFt, offB_nil _⟩, OutE.nil _ _ _, hmt, htl2⟩
  have hkl : ∀ b o n c, kv = .slice (some ⟨b, o, none⟩) n c → b < w.heap.size := fun b o n c h => SlV.lt hks h
  clear hM0 X2 n1

  refine W_seq (W_seq ?_)
  refine W_rg fun K hK => (W_text [true, true, true] (by kernel_rfl) ?_); simp only [↓List.toList_toArray, ↓rgd, ↓rgf, ↓reduceIte, Nat.reduceEqDiff, rg, ow_26, e1]
  refine hK _ _ ?_; clear hK K
  show W _ _ _ _ _ _
  refine W_block (W_loop (fun mm e w' => ∃ k : Nat, mm = ks.length - k ∧ k ≤ ks.length ∧ e 12 = .slice ka ks.length kc ∧ e 13 = .int .i64 ks.length ∧ e 14 = .int .i64 k ∧ e 6 = ptr t ∧ Fil A t m (degOf d) ord (e 7) (treeG ord (ks.take k)) (reps ord (ks.take k)) w' ∧ Ext (filF m) w0 w')
    ks.length ⟨0, by simp, by simp, by simp only [upd_eq, Nat.reduceEqDiff, ↓reduceIte], by simp only [upd_eq, Nat.reduceEqDiff, ↓reduceIte], by simp only [upd_eq, Nat.reduceEqDiff, ↓reduceIte]; rfl, by simp only [upd_eq, Nat.reduceEqDiff, ↓reduceIte], by simp only [upd_eq, Nat.reduceEqDiff, ↓reduceIte]; exact hfill, Ext.refl _ _⟩ ?_)
  clear hfill e0 e1 e
  rintro mm e w' ⟨k, rfl, hk, eS, eL, eI, eM, hfl, X⟩
  by_cases hlt : k < ks.length
  · have ht := lt_tt k ks.length hlt
    refine W_sq fun K hK => (W_text [true] (by kernel_rfl) ?_); simp only [↓List.toList_toArray, ↓rgd, ↓rgf, ↓reduceIte, Nat.reduceEqDiff, rg, ow_26, eL, eI, ht]
    refine hK _ _ ?_; clear hK K
    refine W_seq (W_true (by simp only [evt, evc, upd_eq, Nat.reduceEqDiff, ↓reduceIte, ntT, ntF] <;> rfl) (W_skip ?_))
    show W _ _ _ _ _ _
    obtain ⟨x, hx⟩ : ∃ x, ks[k]? = some x := ⟨_, List.getElem?_eq_getElem hlt⟩
    obtain ⟨ib, io, hka, row⟩ := hk0.at hkv hlt
    have hibl := hk0.lt (hkv.trans (by rw [hka]))
    have ixx := iV_at (X.row row (fun _ _ h => by have := hkl _ _ _ _ (hkv.trans (by rw [hka])); have : m ≤ _ := h; omega)) hx
    rw [hka] at eS
    refine W_seq (W_block ?_)
    refine W_sq fun K hK => (W_text [true, true, false, false] (by kernel_rfl) ?_); simp only [↓List.toList_toArray, ↓rgd, ↓rgf, ↓reduceIte, Nat.reduceEqDiff, rg, ow_26, eS, eI, hlt, ixx]
    refine do_alloc z_item fun w2 n2 => ⟨trivial, ?_⟩
    simp only [↓List.toList_toArray, ↓rgd, ↓rgf, ↓reduceIte, Nat.reduceEqDiff, rg, ow_26]
    refine do_store (v := iV x) (by simp only [evt, evc, upd_eq, Nat.reduceEqDiff, ↓reduceIte, ntT, ntF] <;> rfl) (by simp only [evt, evc, upd_eq, Nat.reduceEqDiff, ↓reduceIte, ntT, ntF] <;> rfl) sz_33 rfl n2.wok (by decide) (Ei.one x) fun w3 x3 r3 s3 => ⟨trivial, ?_⟩
    simp only [↓List.toList_toArray, ↓rgd, ↓rgf, ↓reduceIte, Nat.reduceEqDiff, rg, ow_26]
    refine hK _ _ ?_; clear hK K
    have s2 := n2.size
    have X3 : Ext noF w' w3 := noF_of n2.ext x3 fun y o hy h => by simp only [rng] at h; omega
    have s3 := X3.size
    have ix3 := iXi_at (show Row w3 w'.heap.size 0 (Ei.cel x) from r3)
    rw [← hka] at eS
    have sX := X.size
    obtain ⟨l1, l2⟩ := hfl.lt
    have hfl3 := hfl.ext X3
    obtain ⟨F0, hM0, hF0, ho0⟩ := hfl.tr
    have htl := treeG_len ord (ks.take k)
    have htk : (ks.take k).length ≤ k := by rw [List.length_take]; omega
    refine W_rg fun K hK => (W_text [true, true, true, true, false, false, false, false, true] (by kernel_rfl) ?_); simp only [↓List.toList_toArray, ↓rgd, ↓rgf, ↓reduceIte, Nat.reduceEqDiff, rg, ow_26, eM, ix3]
    refine do_call fn_55 (vs := #[ptr t, itV x]) (by simp only [evt, evc, upd_eq, Nat.reduceEqDiff, ↓reduceIte, maT, maC, maN, isnN, isnS] <;> rfl) (bload_any t A m (degOf d) 1 ord x hd2 hd3 _ F0 w3 (hfl3.bat) (hM0.ext X3) (by omega)) ?_
    rintro _ w4 ⟨rfl, x4, F', hM4, hF'⟩
    refine ⟨trivial, ?_⟩
    simp only [↓List.toList_toArray, ↓rgd, ↓rgf, ↓reduceIte, Nat.reduceEqDiff, rg, ow_26]
    obtain ⟨hfl4, X4⟩ := hfl3.step (hM0.ext X3) hF0 ho0 x4 hM4 hF'
    refine do_call fn_54 (by simp only [evt, evc, upd_eq, Nat.reduceEqDiff, ↓reduceIte, maT, maC, maN, isnN, isnS] <;> rfl) (found_any _ w4) ?_
    rintro _ w5 ⟨rfl, X5⟩
    refine ⟨trivial, ?_⟩
    simp only [↓List.toList_toArray, ↓rgd, ↓rgf, ↓reduceIte, Nat.reduceEqDiff, rg, ow_26]
    refine do_bsl rfl (bs_fo1 _) fun w6 n6 => ⟨trivial, ?_⟩
    simp only [↓List.toList_toArray, ↓rgd, ↓rgf, ↓reduceIte, Nat.reduceEqDiff, rg, ow_26]
    have X6 := X5.tr n6.ext
    have s6 := X6.size
    have hrl : (reps ord (ks.take k)).length = k := by rw [reps_length, List.length_take]; omega
    have hx6 : SlV w6 3 (.slice (some ⟨w5.heap.size, 0, none⟩) 1 1) 1 (Ef.cel (foO (at? O (rkI ord) (rkI ord x) (treeG ord (ks.take k))))) := ⟨rfl, .inr ⟨_, 0, 1, rfl, Nat.le_refl _, n6.row, n6.wok.R (Nat.le_refl _)⟩⟩
    have hfl6 := hfl4.ext X6
    refine do_append (by simp only [evt, evc, upd_eq, Nat.reduceEqDiff, ↓reduceIte, ntT, ntF] <;> rfl) (by simp only [evt, evc, upd_eq, Nat.reduceEqDiff, ↓reduceIte, ntT, ntF] <;> rfl) el_fo rfl ni_fo hfl6.out.sl hx6 (by omega) (by decide) (Ef.one _) fun v7 w7 a7 => ?_
    obtain ⟨hfl7, X7⟩ := hfl6.app a7
    refine ⟨trivial, ?_⟩
    simp only [↓List.toList_toArray, ↓rgd, ↓rgf, ↓reduceIte, Nat.reduceEqDiff, rg, ow_26]
    refine hK _ _ ?_; clear hK K
    show W _ _ _ _ _ _
    have q1 := wadd1 k (by omega)
    refine W_rg fun K hK => (W_text [true, true] (by kernel_rfl) ?_); simp only [↓List.toList_toArray, ↓rgd, ↓rgf, ↓reduceIte, Nat.reduceEqDiff, rg, ow_26, eI, q1]
    refine hK _ _ ?_; clear hK K
    refine ⟨_, ?_, k + 1, rfl, hlt, by simp only [upd_eq, Nat.reduceEqDiff, ↓reduceIte]; exact eS, by simp only [upd_eq, Nat.reduceEqDiff, ↓reduceIte]; exact eL, by simp only [upd_eq, Nat.reduceEqDiff, ↓reduceIte], by simp only [upd_eq, Nat.reduceEqDiff, ↓reduceIte]; exact eM, by simp only [upd_eq, Nat.reduceEqDiff, ↓reduceIte]; rw [reps_succ hx, treeG_succ ord ks k x hx]; exact hfl7, (((X.tr (X3.mono fun _ _ _ h => h.elim)).tr X4).tr (X6.mono fun _ _ _ h => h.elim)).tr X7⟩
    omega
  · obtain rfl : k = ks.length := by omega
    have ht := lt_ff ks.length ks.length (by omega)
    refine W_sq fun K hK => (W_text [true] (by kernel_rfl) ?_); simp only [↓List.toList_toArray, ↓rgd, ↓rgf, ↓reduceIte, Nat.reduceEqDiff, rg, ow_26, eL, eI, ht]
    refine hK _ _ ?_; clear hK K
    refine W_seq (W_false (by simp only [evt, evc, upd_eq, Nat.reduceEqDiff, ↓reduceIte, ntT, ntF] <;> rfl) (W_exit ?_))
    simp only [andThen_exit, inBlk_exit, andThen_normal, ↓reduceIte]
    rw [List.take_length] at hfl
    obtain ⟨F, hM, hFB, ho⟩ := hfl.tr
    obtain ⟨l1, l2⟩ := hfl.lt
    have htl := treeG_len ord ks
    refine W_sq fun K hK => (W_text [true, true, false, true, true] (by kernel_rfl) ?_); simp only [↓List.toList_toArray, ↓rgd, ↓rgf, ↓reduceIte, Nat.reduceEqDiff, rg, ow_26, eM]
    refine do_call fn_56 (vs := #[ptr t]) (by simp only [evt, evc, upd_eq, Nat.reduceEqDiff, ↓reduceIte, maT, maC, maN, isnN, isnS] <;> rfl) (allOf_any t A m (degOf d) ord hd2 1 (treeG ord ks) F w' hfl.bat hM (by omega)) ?_
    rintro v8 w8 ⟨hO, X8⟩
    refine ⟨trivial, ?_⟩
    simp only [↓List.toList_toArray, ↓rgd, ↓rgf, ↓reduceIte, Nat.reduceEqDiff, rg, ow_26]
    refine hK _ _ ?_; clear hK K
    refine W_ret (endQ_2 (by simp only [upd_eq, Nat.reduceEqDiff, ↓reduceIte] <;> rfl) (by simp only [upd_eq, Nat.reduceEqDiff, ↓reduceIte] <;> rfl) ⟨_, _, rfl, (hfl.out.ext X8).sl, hO, ?_⟩)
    refine (noF_of X02 X fun y o hy h => ?_).tr X8
    have : m ≤ y := h
    omega
theorem SlV.one {w : World} {sz n : Nat} {v : Value} {l : List Value} (h : SlV w sz v n l) : v.oneCell' = true := by obtain ⟨a, c, rfl⟩ := h.shape; rfl
set_option maxHeartbeats 400000 in
set_option maxRecDepth 8000 in
theorem fitsL_any (sv : Value) (d : Int) (nl : Bool) (w : World) (h1 : sv.oneCell' = true) :
    CallK Try.prog 23 #[.agg #[sv, .int .i64 d, .bool nl]] w fun v w' => v = .bool (decide (d = 0) || (decide (2 ≤ d) && decide (d ≤ 128))) ∧ Ext noF w w' := by
  refine calls_of_W [.tmp 2] Try.func23 rfl Try.ntmps23 Try.results23 (by simp) fun e he => ?_
  have e0 : e 0 = .agg #[sv, .int .i64 d, .bool nl] := he 0 _ rfl
  clear he
  refine W_sq fun K hK => (W_text [false, true] (by kernel_rfl) ?_); simp only [↓List.toList_toArray, ↓rgd, ↓rgf, ↓reduceIte, Nat.reduceEqDiff, rg, ow_23]
  refine do_box (by simp only [evt]; exact e0) fun w1 n1 => ⟨trivial, ?_⟩
  simp only [↓List.toList_toArray, ↓rgd, ↓rgf, ↓reduceIte, Nat.reduceEqDiff, rg, ow_23]
  refine hK _ _ ?_; clear hK K
  have g1 := (Row.cons.1 (Row.cons.1 (show Row w1 w.heap.size 0 [sv, .int .i64 d, .bool nl] from n1.row)).2).1
  rw [Nat.zero_add] at g1
  refine W_sq fun K hK => (W_text [true, true, false, true] (by kernel_rfl) ?_); simp only [↓List.toList_toArray, ↓rgd, ↓rgf, ↓reduceIte, Nat.reduceEqDiff, rg, ow_23, g1]
  refine do_call fn_17 (by simp only [evt, evc, upd_eq, Nat.reduceEqDiff, ↓reduceIte, maT, maC, maN, isnN, isnS] <;> rfl) (fits_any d w1) ?_
  rintro _ w2 ⟨rfl, hw2⟩
  obtain rfl : w1 = w2 := hw2
  refine ⟨trivial, ?_⟩
  simp only [↓List.toList_toArray, ↓rgd, ↓rgf, ↓reduceIte, Nat.reduceEqDiff, rg, ow_23]
  refine hK _ _ ?_; clear hK K
  exact W_ret (endQ_1 (by simp only [upd_eq, Nat.reduceEqDiff, ↓reduceIte] <;> rfl) ⟨rfl, n1.ext⟩)
set_option maxHeartbeats 400000 in
set_option maxRecDepth 8000 in
theorem alive_any (w : World) : CallK Try.prog 25 #[] w fun v w' => v = .bool true ∧ Ext noF w w' := by
  refine calls_of_W (args := []) [.tmp 0] Try.func25 rfl Try.ntmps25 Try.results25 (by simp) fun e he => ?_
  clear he
  refine W_sq fun K hK => (W_text [true] (by kernel_rfl) ?_); simp only [↓List.toList_toArray, ↓rgd, ↓rgf, ↓reduceIte, Nat.reduceEqDiff, rg, ow_25]
  refine hK _ _ ?_; clear hK K
  refine W_sq fun K hK => (W_text [false, false, true, false, true, true, true, true, true] (by kernel_rfl) ?_); simp only [↓List.toList_toArray, ↓rgd, ↓rgf, ↓reduceIte, Nat.reduceEqDiff, rg, ow_25]
  refine do_call fn_15 (by simp only [evt, evc, upd_eq, Nat.reduceEqDiff, ↓reduceIte, maT, maC, maN, isnN, isnS] <;> rfl) (exMake_any w) ?_
  rintro _ w1 ⟨rfl, X1⟩
  refine ⟨trivial, ?_⟩
  simp only [↓List.toList_toArray, ↓rgd, ↓rgf, ↓reduceIte, Nat.reduceEqDiff, rg, ow_25]
  refine do_call fn_16 (by simp only [evt, evc, upd_eq, Nat.reduceEqDiff, ↓reduceIte, maT, maC, maN, isnN, isnS] <;> rfl) (exItems_any w1) ?_
  rintro x0 w2 ⟨h2, X2⟩
  refine ⟨trivial, ?_⟩
  obtain ⟨s3, hs30, hS3⟩ := sl_hi h2 3 (by decide)
  have hs3 : sliceV Try.prog 25 x0 none (some (.int .i64 3)) none = some s3 := hs30
  simp only [↓List.toList_toArray, ↓rgd, ↓rgf, ↓reduceIte, Nat.reduceEqDiff, rg, ow_25, hs3]
  refine do_call fn_27 (by simp only [evt, evc, upd_eq, Nat.reduceEqDiff, ↓reduceIte, maT, maC, maN, isnN, isnS] <;> rfl) (impl_bset 2 (.inr (by decide)) [] nilS false (exL.take 3) s3 w2 (nil_int _) (by decide) hS3 (by decide)) ?_
  rintro _ w4 ⟨v1, v2, rfl, -, h4, X4⟩
  refine ⟨trivial, ?_⟩
  simp only [↓List.toList_toArray, ↓rgd, ↓rgf, ↓reduceIte, Nat.reduceEqDiff, rg, ow_25]
  refine hK _ _ ?_; clear hK K
  obtain ⟨a4, c4, rfl⟩ := SlV.shape h4
  have hl : (treeG [] (exL.take 3)).length = 3 := by decide
  have ht : (((3 : Nat) : Int) == 3) = true := by decide
  rw [hl]
  refine W_sq fun K hK => (W_text [true, true, true, true] (by kernel_rfl) ?_); simp only [↓List.toList_toArray, ↓rgd, ↓rgf, ↓reduceIte, Nat.reduceEqDiff, rg, ow_25, ht]
  refine hK _ _ ?_; clear hK K
  exact W_ret (endQ_1 (by simp only [upd_eq, Nat.reduceEqDiff, ↓reduceIte] <;> rfl) ⟨rfl, (X1.tr X2).tr X4⟩)
end Go.Proofs.Ytanmjbkbdmeckaa
/-
  FnBLoads returns true, whatever the arguments. No condition.
-/
set_option linter.unusedSimpArgs false
set_option linter.unusedVariables false
namespace Go.Proofs.Ytanmjbkbdmeckaa
open Go Go.Proofs
set_option maxHeartbeats 800000 in
set_option maxRecDepth 8000 in
theorem ascends_any (sv : Value) (ord : List Int) (l : List It) (lv : Value) (w : World) (hs : SlInt w sv ord) (hsb : ord.length ≤ 2147483647) (hl : SlI w lv l) (hbig : l.length ≤ 2147483647) :
    CallK Try.prog 24 #[sv, lv] w fun v w' => (∃ b, v = .bool b) ∧ Ext noF w w' := by
  refine calls_of_W [.tmp 4] Try.func24 rfl Try.ntmps24 Try.results24 (by simp) fun e he => ?_
  have e0 : e 0 = sv := he 0 _ rfl
  have e1 : e 1 = lv := he 1 _ rfl
  clear he
  obtain ⟨a, c, hlv⟩ := SlV.shape hl
  rw [hlv] at e1
  refine W_sq fun K hK => (W_text [true] (by kernel_rfl) ?_); simp only [↓List.toList_toArray, ↓rgd, ↓rgf, ↓reduceIte, Nat.reduceEqDiff, rg, ow_24]
  refine hK _ _ ?_; clear hK K
  refine W_seq (W_seq ?_)
  refine W_rg fun K hK => (W_text [true] (by kernel_rfl) ?_); simp only [↓List.toList_toArray, ↓rgd, ↓rgf, ↓reduceIte, Nat.reduceEqDiff, rg, ow_24]
  refine hK _ _ ?_; clear hK K
  show W _ _ _ _ _ _
  refine W_block (W_loop (fun mm e w' => ∃ k : Nat, mm = l.length - k ∧ 1 ≤ k ∧ e 0 = sv ∧ e 1 = .slice a l.length c ∧ e 5 = .int .i64 k ∧ Ext noF w w')
    (l.length - 1) ⟨1, rfl, Nat.le_refl _, by simp only [upd_eq, Nat.reduceEqDiff, ↓reduceIte]; exact e0, by simp only [upd_eq, Nat.reduceEqDiff, ↓reduceIte]; exact e1, by simp only [upd_eq, Nat.reduceEqDiff, ↓reduceIte]; rfl, Ext.refl _ _⟩ ?_)
  clear e0 e1 e
  rintro mm e w' ⟨k, rfl, hk, e0, e1, e5, X⟩
  refine W_seq ?_
  by_cases hlt : k < l.length
  · have ht := lt_tt k l.length hlt
    refine W_sq fun K hK => (W_text [true, true, true, true] (by kernel_rfl) ?_); simp only [↓List.toList_toArray, ↓rgd, ↓rgf, ↓reduceIte, Nat.reduceEqDiff, rg, ow_24, e1, e5, ht]
    refine hK _ _ ?_; clear hK K
    refine W_true (by simp only [evt, evc, upd_eq, Nat.reduceEqDiff, ↓reduceIte, ntT, ntF] <;> rfl) (W_skip ?_)
    show W _ _ _ _ _ _
    obtain ⟨x, hx⟩ : ∃ x, l[k]? = some x := ⟨_, List.getElem?_eq_getElem hlt⟩
    obtain ⟨y, hy⟩ : ∃ y, l[k - 1]? = some y := ⟨_, List.getElem?_eq_getElem (by omega)⟩
    obtain ⟨ib, io, rfl, row⟩ := SlV.at hl hlv hlt
    have row' := X.row row fun _ _ h => h
    have ix := iV_at row' hx
    have iy := iV_at row' hy
    have hk1 : k - 1 < l.length := by omega
    have q1 := wsub1 k hk (by omega)
    refine W_seq (W_block ?_)
    refine W_sq fun K hK => (W_free (some none) (.take 0 (.take 1 (.take 2 (.take 3 (.take 4 (.take 5 (.take 6 (.take 7 (.take 8 (.take 9 (.bar 10 .nil))))))))))) mixed (by kernel_rfl) ?_); simp only [↓List.toList_toArray, ↓rgd, ↓rgf, ↓reduceIte, Nat.reduceEqDiff, rg, ow_24, e0, e1, e5, hlt, hk1, ix, iy, q1]
    refine do_call fn_52 (by simp only [evt, evc, upd_eq, Nat.reduceEqDiff, ↓reduceIte, maT, maC, maN, isnN, isnS] <;> rfl) (before_ord sv ord x y _ (SlV.ext0 hs (X.tr (Ext.dr noF _ _))) hsb) ?_
    rintro _ w2 ⟨rfl, X2⟩
    have X2 := X2.od
    refine ⟨trivial, ?_⟩
    simp only [↓List.toList_toArray, ↓rgd, ↓rgf, ↓reduceIte, Nat.reduceEqDiff, rg, ow_24]
    refine hK _ _ ?_; clear hK K
    cases O.lt (rkI ord x) (rkI ord y) with
    | true =>
      refine W_true (by simp only [evt, evc, upd_eq, Nat.reduceEqDiff, ↓reduceIte, ntT, ntF] <;> rfl) ?_
      refine W_sq fun K hK => (W_text [true] (by kernel_rfl) ?_); simp only [↓List.toList_toArray, ↓rgd, ↓rgf, ↓reduceIte, Nat.reduceEqDiff, rg, ow_24]
      refine hK _ _ ?_; clear hK K
      refine W_ret ?_
      simp only [andThen_ret, inBlk_ret]
      exact endQ_1 (by simp only [upd_eq, Nat.reduceEqDiff, ↓reduceIte] <;> rfl) ⟨⟨_, rfl⟩, X.tr X2⟩
    | false =>
      refine W_false (by simp only [evt, evc, upd_eq, Nat.reduceEqDiff, ↓reduceIte, ntT, ntF] <;> rfl) (W_skip ?_)
      show W _ _ _ _ _ _
      have q2 := wadd1 k (by omega)
      refine W_rg fun K hK => (W_text [true, true, true] (by kernel_rfl) ?_); simp only [↓List.toList_toArray, ↓rgd, ↓rgf, ↓reduceIte, Nat.reduceEqDiff, rg, ow_24, e5, q2]
      refine hK _ _ ?_; clear hK K
      refine ⟨_, ?_, k + 1, rfl, by omega, by simp only [upd_eq, Nat.reduceEqDiff, ↓reduceIte]; exact e0, by simp only [upd_eq, Nat.reduceEqDiff, ↓reduceIte]; exact e1, by simp only [upd_eq, Nat.reduceEqDiff, ↓reduceIte], X.tr X2⟩
      omega
  · have ht := lt_ff k l.length (by omega)
    refine W_sq fun K hK => (W_text [true, true, true, true] (by kernel_rfl) ?_); simp only [↓List.toList_toArray, ↓rgd, ↓rgf, ↓reduceIte, Nat.reduceEqDiff, rg, ow_24, e1, e5, ht]
    refine hK _ _ ?_; clear hK K
    refine W_false (by simp only [evt, evc, upd_eq, Nat.reduceEqDiff, ↓reduceIte, ntT, ntF] <;> rfl) (W_exit ?_)
    simp only [andThen_exit, inBlk_exit, andThen_normal, ↓reduceIte]
    refine W_sq fun K hK => (W_text [true] (by kernel_rfl) ?_); simp only [↓List.toList_toArray, ↓rgd, ↓rgf, ↓reduceIte, Nat.reduceEqDiff, rg, ow_24]
    refine hK _ _ ?_; clear hK K
    exact W_ret (endQ_1 (by simp only [upd_eq, Nat.reduceEqDiff, ↓reduceIte] <;> rfl) ⟨⟨_, rfl⟩, X⟩)
set_option maxHeartbeats 1600000 in
set_option maxRecDepth 8000 in
theorem top_FnBLoads (ord : List Int) (sv : Value) (d : Int) (nl : Bool) (a0 : List It) (v0 : Value) (w : World) (gs : SlInt w sv ord) (g0 : SlI w v0 a0) :
    CallK Try.prog 8 #[.agg #[sv, .int .i64 d, .bool nl], v0] w fun v w' => v = .bool true ∧ Ext noF w w' := by
  obtain ⟨p0, c0, hv0⟩ := SlV.shape g0
  refine calls_of_W [.tmp 4] Try.func8 rfl Try.ntmps8 Try.results8 (by simp) fun e he => ?_
  have e0 : e 0 = .agg #[sv, .int .i64 d, .bool nl] := he 0 _ rfl
  have e1 : e 1 = v0 := he 1 _ rfl
  clear he
  refine W_sq fun K hK => (W_text [false, true] (by kernel_rfl) ?_); simp only [↓List.toList_toArray, ↓rgd, ↓rgf, ↓reduceIte, Nat.reduceEqDiff, rg, ow_8]
  refine do_box (by simp only [evt]; exact e0) fun w1 n1 => ⟨trivial, ?_⟩
  simp only [↓List.toList_toArray, ↓rgd, ↓rgf, ↓reduceIte, Nat.reduceEqDiff, rg, ow_8]
  refine hK _ _ ?_; clear hK K
  have rm1 : Row w1 w.heap.size 0 [sv, .int .i64 d, .bool nl] := n1.row
  have XB : Ext noF w w1 := n1.ext
  have sB := n1.size
  have rm13 : rdA w1 w.heap.size 0 3 = some (.agg #[sv, .int .i64 d, .bool nl]) := rm1.rdA 3 (Nat.le_refl _)
  refine W_seq ?_
  refine W_sq fun K hK => (W_text [true, false, true, true, true, true, true, true] (by kernel_rfl) ?_); simp only [↓List.toList_toArray, ↓rgd, ↓rgf, ↓reduceIte, Nat.reduceEqDiff, rg, ow_8, e1, hv0, rm13]
  refine do_call fn_13 (by simp only [evt, evc, upd_eq, Nat.reduceEqDiff, ↓reduceIte, maT, maC, maN, isnN, isnS] <;> rfl) (fits1_any sv ord (.int .i64 d) nl w1 (SlV.ext0 gs XB)) ?_
  rintro _ wf ⟨rfl, xf⟩
  refine ⟨trivial, ?_⟩
  have XF := XB.tr xf
  by_cases hbo : ord.length ≤ 2147483647
  case neg =>
    have to : decide (ord.length ≤ 2147483647) = false := by simp; omega
    simp only [↓List.toList_toArray, ↓rgd, ↓rgf, ↓reduceIte, Nat.reduceEqDiff, rg, ow_8, e1, hv0, to]
    refine hK _ _ ?_; clear hK K
    refine W_true (by simp only [evt, evc, upd_eq, Nat.reduceEqDiff, ↓reduceIte, ntT, ntF] <;> rfl) ?_
    refine W_sq fun K hK => (W_text [true] (by kernel_rfl) ?_); simp only [↓List.toList_toArray, ↓rgd, ↓rgf, ↓reduceIte, Nat.reduceEqDiff, rg, ow_8]
    refine hK _ _ ?_; clear hK K
    refine W_ret ?_
    simp only [andThen_ret]
    exact endQ_1 (by simp only [upd_eq, Nat.reduceEqDiff, ↓reduceIte] <;> rfl) ⟨rfl, XF⟩
  have to : decide (ord.length ≤ 2147483647) = true := by simp; omega
  by_cases hb0 : a0.length ≤ 2147483647
  case neg =>
    have t0 : decide ((2147483647 : Int) < (a0.length : Int)) = true := by simp; omega
    simp only [↓List.toList_toArray, ↓rgd, ↓rgf, ↓reduceIte, Nat.reduceEqDiff, rg, ow_8, e1, hv0, to, t0]
    refine hK _ _ ?_; clear hK K
    refine W_true (by simp only [evt, evc, upd_eq, Nat.reduceEqDiff, ↓reduceIte, ntT, ntF] <;> rfl) ?_
    refine W_sq fun K hK => (W_text [true] (by kernel_rfl) ?_); simp only [↓List.toList_toArray, ↓rgd, ↓rgf, ↓reduceIte, Nat.reduceEqDiff, rg, ow_8]
    refine hK _ _ ?_; clear hK K
    refine W_ret ?_
    simp only [andThen_ret]
    exact endQ_1 (by simp only [upd_eq, Nat.reduceEqDiff, ↓reduceIte] <;> rfl) ⟨rfl, XF⟩
  have t0 : decide ((2147483647 : Int) < (a0.length : Int)) = false := by simp; omega
  simp only [↓List.toList_toArray, ↓rgd, ↓rgf, ↓reduceIte, Nat.reduceEqDiff, rg, ow_8, e1, hv0, to, t0]
  refine hK _ _ ?_; clear hK K
  refine W_false (by simp only [evt, evc, upd_eq, Nat.reduceEqDiff, ↓reduceIte, ntT, ntF] <;> rfl) (W_skip ?_)
  show W _ _ _ _ _ _
  have rmf := xf.row rm1 fun _ _ h => h
  have rmf3 : rdA wf w.heap.size 0 3 = some (.agg #[sv, .int .i64 d, .bool nl]) := rmf.rdA 3 (Nat.le_refl _)
  refine W_seq ?_
  refine W_sq fun K hK => (W_text [true, false, true, true, true, true, true, false, true, true] (by kernel_rfl) ?_); simp only [↓List.toList_toArray, ↓rgd, ↓rgf, ↓reduceIte, Nat.reduceEqDiff, rg, ow_8, rmf3]
  refine do_call fn_23 (by simp only [evt, evc, upd_eq, Nat.reduceEqDiff, ↓reduceIte, maT, maC, maN, isnN, isnS] <;> rfl) (fitsL_any sv d nl wf (SlV.one gs)) ?_
  rintro _ wc ⟨rfl, xc⟩
  refine ⟨trivial, ?_⟩
  have XC := XF.tr xc
  cases hf : (decide (d = 0) || (decide (2 ≤ d) && decide (d ≤ 128))) with
  | false =>
    simp only [↓List.toList_toArray, ↓rgd, ↓rgf, ↓reduceIte, Nat.reduceEqDiff, rg, ow_8]
    refine hK _ _ ?_; clear hK K
    refine W_true (by simp only [evt, evc, upd_eq, Nat.reduceEqDiff, ↓reduceIte, ntT, ntF] <;> rfl) ?_
    refine W_sq fun K hK => (W_text [false, true] (by kernel_rfl) ?_); simp only [↓List.toList_toArray, ↓rgd, ↓rgf, ↓reduceIte, Nat.reduceEqDiff, rg, ow_8]
    refine do_call fn_25 (by simp only [evt, evc, upd_eq, Nat.reduceEqDiff, ↓reduceIte, maT, maC, maN, isnN, isnS] <;> rfl) (alive_any wc) ?_
    rintro _ u1 ⟨rfl, z1⟩
    refine ⟨trivial, ?_⟩
    simp only [↓List.toList_toArray, ↓rgd, ↓rgf, ↓reduceIte, Nat.reduceEqDiff, rg, ow_8]
    refine hK _ _ ?_; clear hK K
    refine W_ret ?_
    simp only [andThen_ret]
    exact endQ_1 (by simp only [upd_eq, Nat.reduceEqDiff, ↓reduceIte] <;> rfl) ⟨rfl, XC.tr z1⟩
  | true =>
    have h2 : d = 0 ∨ 2 ≤ d ∧ d ≤ 128 := by simp at hf; omega
    obtain ⟨n, rfl⟩ : ∃ n : Nat, d = n := ⟨d.toNat, by omega⟩
    have hd : DOk n := by unfold DOk; omega
    have rc0 : Row wc w.heap.size 0 (mkL sv n nl) := xc.row rmf fun _ _ h => h
    have rcv := mk_at0 rc0
    simp only [↓List.toList_toArray, ↓rgd, ↓rgf, ↓reduceIte, Nat.reduceEqDiff, rg, ow_8, e1, rcv]
    refine do_call fn_24 (by simp only [evt, evc, upd_eq, Nat.reduceEqDiff, ↓reduceIte, maT, maC, maN, isnN, isnS] <;> rfl) (ascends_any sv ord a0 v0 wc (SlV.ext0 gs XC) hbo (SlV.ext0 g0 XC) hb0) ?_
    rintro _ wd ⟨⟨bb, rfl⟩, ya⟩
    refine ⟨trivial, ?_⟩
    have XC := XC.tr ya
    have xc := xc.tr ya
    cases bb with
    | false =>
      simp only [↓List.toList_toArray, ↓rgd, ↓rgf, ↓reduceIte, Nat.reduceEqDiff, rg, ow_8]
      refine hK _ _ ?_; clear hK K
      refine W_true (by simp only [evt, evc, upd_eq, Nat.reduceEqDiff, ↓reduceIte, ntT, ntF] <;> rfl) ?_
      refine W_sq fun K hK => (W_text [false, true] (by kernel_rfl) ?_); simp only [↓List.toList_toArray, ↓rgd, ↓rgf, ↓reduceIte, Nat.reduceEqDiff, rg, ow_8]
      refine do_call fn_25 (by simp only [evt, evc, upd_eq, Nat.reduceEqDiff, ↓reduceIte, maT, maC, maN, isnN, isnS] <;> rfl) (alive_any wd) ?_
      rintro _ u1 ⟨rfl, z1⟩
      refine ⟨trivial, ?_⟩
      simp only [↓List.toList_toArray, ↓rgd, ↓rgf, ↓reduceIte, Nat.reduceEqDiff, rg, ow_8]
      refine hK _ _ ?_; clear hK K
      refine W_ret ?_
      simp only [andThen_ret]
      exact endQ_1 (by simp only [upd_eq, Nat.reduceEqDiff, ↓reduceIte] <;> rfl) ⟨rfl, XC.tr z1⟩
    | true =>
    simp only [↓List.toList_toArray, ↓rgd, ↓rgf, ↓reduceIte, Nat.reduceEqDiff, rg, ow_8]
    refine hK _ _ ?_; clear hK K
    refine W_false (by simp only [evt, evc, upd_eq, Nat.reduceEqDiff, ↓reduceIte, ntT, ntF] <;> rfl) (W_skip ?_)
    show W _ _ _ _ _ _
    have rm : Row wd w.heap.size 0 (mkL sv n nl) := xc.row rmf fun _ _ h => h
    have rm3 := mk_at rm
    have sC : w.heap.size < wd.heap.size := by have := xf.size; have := xc.size; omega
    have htl := treeG_len ord a0
    have hrl := reps_length ord a0
    refine W_sq fun K hK => (W_text [true, true, false, true, true, true, true, true] (by kernel_rfl) ?_); simp only [↓List.toList_toArray, ↓rgd, ↓rgf, ↓reduceIte, Nat.reduceEqDiff, rg, ow_8, e1, rm3]
    refine do_call fn_26 (by simp only [evt, evc, upd_eq, Nat.reduceEqDiff, ↓reduceIte, maT, maC, maN, isnN, isnS] <;> rfl) (impl_bload n hd ord sv nl a0 v0 wd (SlV.ext0 gs XC) hbo (SlV.ext0 g0 XC) hb0) ?_
    rintro _ u1 ⟨f1, i1, rfl, hf1, hi1, X1⟩
    refine ⟨trivial, ?_⟩
    simp only [↓List.toList_toArray, ↓rgd, ↓rgf, ↓reduceIte, Nat.reduceEqDiff, rg, ow_8]
    refine hK _ _ ?_; clear hK K
    have rmx := mk_at (X1.row rm fun _ _ h => h)
    have Y1 := XC.tr X1
    refine W_sq fun K hK => (W_text [true, true, false, true, true, true, true, true] (by kernel_rfl) ?_); simp only [↓List.toList_toArray, ↓rgd, ↓rgf, ↓reduceIte, Nat.reduceEqDiff, rg, ow_8, e1, rmx]
    refine do_call fn_27 (by simp only [evt, evc, upd_eq, Nat.reduceEqDiff, ↓reduceIte, maT, maC, maN, isnN, isnS] <;> rfl) (impl_bset n hd ord sv nl a0 v0 u1 (SlV.ext0 gs Y1) hbo (SlV.ext0 g0 Y1) hb0) ?_
    rintro _ u2 ⟨f2, i2, rfl, hf2, hi2, X2⟩
    refine ⟨trivial, ?_⟩
    simp only [↓List.toList_toArray, ↓rgd, ↓rgf, ↓reduceIte, Nat.reduceEqDiff, rg, ow_8]
    refine hK _ _ ?_; clear hK K
    refine W_sq fun K hK => (W_text [true, true, false, true, true, true, false, true, true, false, true, true] (by kernel_rfl) ?_); simp only [↓List.toList_toArray, ↓rgd, ↓rgf, ↓reduceIte, Nat.reduceEqDiff, rg, ow_8]
    refine do_call fn_28 (by simp only [evt, evc, upd_eq, Nat.reduceEqDiff, ↓reduceIte, maT, maC, maN, isnN, isnS] <;> rfl) (eq_f (reps ord a0) f1 f2 u2 (hf1.ext0 X2) hf2 (by omega)) ?_
    rintro _ u3 ⟨rfl, r3⟩
    refine ⟨trivial, ?_⟩
    simp only [↓List.toList_toArray, ↓rgd, ↓rgf, ↓reduceIte, Nat.reduceEqDiff, rg, ow_8]
    refine do_call fn_29 (by simp only [evt, evc, upd_eq, Nat.reduceEqDiff, ↓reduceIte, maT, maC, maN, isnN, isnS] <;> rfl) (eq_i (treeG ord a0) i1 i2 u3 (SlV.ext0 hi1 (X2.tr r3.ext)) (SlV.ext0 hi2 r3.ext) (by omega)) ?_
    rintro _ u4 ⟨rfl, r4⟩
    refine ⟨trivial, ?_⟩
    simp only [↓List.toList_toArray, ↓rgd, ↓rgf, ↓reduceIte, Nat.reduceEqDiff, rg, ow_8]
    refine do_call fn_25 (by simp only [evt, evc, upd_eq, Nat.reduceEqDiff, ↓reduceIte, maT, maC, maN, isnN, isnS] <;> rfl) (alive_any u4) ?_
    rintro _ u5 ⟨rfl, X5⟩
    refine ⟨trivial, ?_⟩
    simp only [↓List.toList_toArray, ↓rgd, ↓rgf, ↓reduceIte, Nat.reduceEqDiff, rg, ow_8]
    refine hK _ _ ?_; clear hK K
    exact W_ret (endQ_1 (by simp only [upd_eq, Nat.reduceEqDiff, ↓reduceIte] <;> rfl) ⟨rfl, (((Y1.tr X2).tr r3.ext).tr r4.ext).tr X5⟩)
end Go.Proofs.Ytanmjbkbdmeckaa
/-
  FnBLoads: the whole statement: it returns true whatever the input is, and the arguments read as before. No condition.
-/
set_option linter.unusedSimpArgs false
set_option linter.unusedVariables false
namespace Go.Proofs.Ytanmjbkbdmeckaa
open Go Go.Proofs Go.ChangeShapes Go.WideShapes Go.ChangeAt Go.RowKit
set_option maxRecDepth 100000 in
theorem c_FnBLoads (H : Type) (enc : TypeId × Value → H) (W : World) (base : Nat) (args : Array Value) (ds gs : List (DataW H)) (before : List MemPlace)
    (hval : ∀ (j : Nat) t v, Try.f8.params[j]? = some t → args[j]? = some v → Value.okWide Try.prog W .any base t v)
    (hW : DataW.Whole enc Try.prog Try.f8.params.toList Rows.fnBLoadsSpec.vars false W args.toList ds gs before) :
    Calls Try.prog 8 args W fun e W' => ∃ v, e = .returned v ∧ Rows.fnBLoadsSpec.post enc Try.prog Try.f8 false true false false W args v W' := by
  have hW' := hW
  obtain ⟨p, q, hA0, hV, rfl, hfz, hnd⟩ := hW
  have hA : DataW.TrodAll enc Try.prog W 0 (fun _ => true) true Try.f8.params.toList args.toList ds p := hA0
  rw [Try.params8] at hA hval
  obtain ⟨v0, v1, d0, d1, p0, p1, rfl, rfl, rfl, h0, h1⟩ := trodAll_two hA
  obtain ⟨rfl, rfl⟩ := trodVars_none hV
  obtain ⟨s0, a0, n0, r0, rfl, g0⟩ := open_make (hval 0 24 v0 rfl rfl) h0 fun b o h => hfz b o (by simp [h])
  obtain ⟨a1, g1⟩ := open_items (hval 1 25 v1 rfl rfl) h1 fun b o h => hfz b o (by simp [h])
  exact calls_law laidOut (by rw [Try.params8]; kernel_rfl) rfl hW' rfl rfl rfl (by kernel_rfl) Try.underlying4 (top_FnBLoads r0 s0 a0 n0 a1 v1 W g0 g1)
set_option maxRecDepth 100000 in
theorem l_FnBLoads (os : Os) (started : os.Started) (H : Type) (enc : TypeId × Value → H) :
    ReturnsInHanded {} Try.checked os 8 .any (Rows.fnBLoadsSpec.pre6 enc Try.prog Try.f8 Rows.fnBLoadsRow.domain false) (Rows.fnBLoadsSpec.post enc Try.prog Try.f8 false true false false) := by
  refine returnsInHanded_of_change (C := Try.checked) own started (by kernel_rfl) Try.func8
    (ChangeSpec.witness6 (enc := enc) (C := Try.checked) false ⟨#[], #[.agg #[.slice none 0 0, .int .i64 0, .bool false], .slice none 0 0], []⟩ 8 (by kernel_rfl) (by kernel_rfl) (by kernel_rfl) (by kernel_rfl)) ?_
  intro W base args ds gs before hval hW _ _
  exact c_FnBLoads H enc W base args ds gs before hval hW
theorem h_FnBLoads : Rows.FnBLoadsSaid :=
  OpenClaim.holds_of_wide 8 Try.f8 rfl rfl rfl rfl rfl rfl rfl ⟨rfl, rfl, rfl, rfl, rfl⟩ rfl rfl rfl rfl rfl (by kernel_rfl) Try.func8 (by kernel_rfl)
    (of_decide_eq_true (by kernel_rfl)) (by unfold Func.isWrapper; first | (rw [if_pos (by decide +kernel)]; kernel_rfl) | (rw [if_neg (by decide +kernel)]; exact ⟨rfl, rfl⟩))
    (fun os started H enc _ => l_FnBLoads os started H enc)
#print axioms h_FnBLoads
end Go.Proofs.Ytanmjbkbdmeckaa
