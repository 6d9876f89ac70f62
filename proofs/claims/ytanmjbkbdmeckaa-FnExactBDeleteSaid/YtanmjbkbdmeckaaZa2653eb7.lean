/-
  nodeRebalance: left to right. No condition.
-/
import Derived.Test.YtanmjbkbdmeckaaZ241d692a
import Derived.Test.YtanmjbkbdmeckaaZ152d7459
import Derived.Test.YtanmjbkbdmeckaaZA
import Derived.Test.YtanmjbkbdmeckaaZ0b558072
/-
  Handing on the items of a tree of whatever values, wrapped. No condition.
-/
set_option linter.unusedSimpArgs false
set_option linter.unusedVariables false
namespace Go.Proofs.Ytanmjbkbdmeckaa
open Go Go.Proofs
theorem hSh_none {S : List It → World → Prop} (h : ∀ done w w', S done w → Ext noF w w' → S done w') : ∀ done w w', S done w → Ext (Go.Proofs.Ytanmjbkbdmeckaa.hF none) w w' → S done w' :=
  fun done w w' hs x => h done w w' hs (x.mono fun y o _ g => by cases g)
/-- What a function of a tree hands on to a function value, in order. -/
def Scans (fn : Nat) (args : Value → Array Value) (hp : Option Nat) (B m : Nat) (ys : List It) (F : Nat → Nat → Prop) (w : World) : Prop :=
  ∀ (f : Value) (G : Nat → Nat → Prop) (S : List It → World → Prop) (go : List It → Bool), Cb f G S go → (∀ o, ¬ G m o) → (∀ hb, hp = some hb → (m ≤ hb ∨ hb < B) ∧ ∀ o, G hb o) → (∀ done w w', S done w → Ext (Go.Proofs.Ytanmjbkbdmeckaa.hF hp) w w' → S done w') →
    (∀ y o o', F y o → ¬ G y o') → S [] w → CallK Try.prog fn (args f) w fun _ w' => S (hand go [] ys).1 w' ∧ Ext G w w'
/-- A pivot or none. -/
def upO (ord : List Int) (p : Option It) (xs : List It) : List It := match p with
  | some q => xs.drop (lb O (rkI ord) (rkI ord q) xs)
  | none => xs
def downO (ord : List Int) (p : Option It) (xs : List It) : List It := match p with
  | some q => (xs.take (ub O (rkI ord) (rkI ord q) xs)).reverse
  | none => xs.reverse
set_option maxHeartbeats 400000 in
set_option maxRecDepth 8000 in
theorem M_Scan_s (B m d : Nat) (ord : List Int) (hd : 2 ≤ d) (iso : Int) (xs : List It) (F : Nat → Nat → Prop) (w : World) (hM : TreeAt B ord w m d iso xs F) (hbig : xs.length ≤ 4294967295) :
    Scans 97 (fun f => #[ptr m, f]) none B m (xs) F w := by
  intro f G S go C hm hB hSh hG hS
  refine calls_of_W [] Try.func97 rfl Try.ntmps97 Try.results97 (by simp) fun e he => ?_
  have e0 : e 0 = ptr m := he 0 _ rfl
  have e1 : e 1 = f := he 1 _ rfl
  clear he
  refine W_rg fun K hK => (W_text [true, true, false] (by kernel_rfl) ?_); simp only [↓List.toList_toArray, ↓rgd, ↓rgf, ↓reduceIte, Nat.reduceEqDiff, rg, ow_97, e0, e1]
  refine do_call fn_135 (by simp only [evt, evc, upd_eq, Nat.reduceEqDiff, ↓reduceIte, maT, maC, maN, isnN, isnS] <;> rfl) (scan_any B m d ord iso xs F f G S go C hm false w hM hG hS hbig) ?_
  rintro _ w1 ⟨hS1, X1⟩
  refine ⟨trivial, ?_⟩
  simp only [↓List.toList_toArray, ↓rgd, ↓rgf, ↓reduceIte, Nat.reduceEqDiff, rg, ow_97]
  refine hK _ _ ?_; clear hK K
  exact endQ_0n ⟨hS1, X1⟩
set_option maxHeartbeats 400000 in
set_option maxRecDepth 8000 in
theorem M_ScanMut_s (B m d : Nat) (ord : List Int) (hd : 2 ≤ d) (iso : Int) (xs : List It) (F : Nat → Nat → Prop) (w : World) (hM : TreeAt B ord w m d iso xs F) (hbig : xs.length ≤ 4294967295) :
    Scans 105 (fun f => #[ptr m, f]) none B m (xs) F w := by
  intro f G S go C hm hB hSh hG hS
  refine calls_of_W [] Try.func105 rfl Try.ntmps105 Try.results105 (by simp) fun e he => ?_
  have e0 : e 0 = ptr m := he 0 _ rfl
  have e1 : e 1 = f := he 1 _ rfl
  clear he
  refine W_rg fun K hK => (W_text [true, true, false] (by kernel_rfl) ?_); simp only [↓List.toList_toArray, ↓rgd, ↓rgf, ↓reduceIte, Nat.reduceEqDiff, rg, ow_105, e0, e1]
  refine do_call fn_135 (by simp only [evt, evc, upd_eq, Nat.reduceEqDiff, ↓reduceIte, maT, maC, maN, isnN, isnS] <;> rfl) (scan_any B m d ord iso xs F f G S go C hm true w hM hG hS hbig) ?_
  rintro _ w1 ⟨hS1, X1⟩
  refine ⟨trivial, ?_⟩
  simp only [↓List.toList_toArray, ↓rgd, ↓rgf, ↓reduceIte, Nat.reduceEqDiff, rg, ow_105]
  refine hK _ _ ?_; clear hK K
  exact endQ_0n ⟨hS1, X1⟩
set_option maxHeartbeats 400000 in
set_option maxRecDepth 8000 in
theorem M_Reverse_s (B m d : Nat) (ord : List Int) (hd : 2 ≤ d) (iso : Int) (xs : List It) (F : Nat → Nat → Prop) (w : World) (hM : TreeAt B ord w m d iso xs F) (hbig : xs.length ≤ 4294967295) :
    Scans 101 (fun f => #[ptr m, f]) none B m (xs.reverse) F w := by
  intro f G S go C hm hB hSh hG hS
  refine calls_of_W [] Try.func101 rfl Try.ntmps101 Try.results101 (by simp) fun e he => ?_
  have e0 : e 0 = ptr m := he 0 _ rfl
  have e1 : e 1 = f := he 1 _ rfl
  clear he
  refine W_rg fun K hK => (W_text [true, true, false] (by kernel_rfl) ?_); simp only [↓List.toList_toArray, ↓rgd, ↓rgf, ↓reduceIte, Nat.reduceEqDiff, rg, ow_101, e0, e1]
  refine do_call fn_138 (by simp only [evt, evc, upd_eq, Nat.reduceEqDiff, ↓reduceIte, maT, maC, maN, isnN, isnS] <;> rfl) (reverse_any B m d ord iso xs F f G S go C hm false w hM hG hS hbig) ?_
  rintro _ w1 ⟨hS1, X1⟩
  refine ⟨trivial, ?_⟩
  simp only [↓List.toList_toArray, ↓rgd, ↓rgf, ↓reduceIte, Nat.reduceEqDiff, rg, ow_101]
  refine hK _ _ ?_; clear hK K
  exact endQ_0n ⟨hS1, X1⟩
set_option maxHeartbeats 400000 in
set_option maxRecDepth 8000 in
theorem M_ReverseMut_s (B m d : Nat) (ord : List Int) (hd : 2 ≤ d) (iso : Int) (xs : List It) (F : Nat → Nat → Prop) (w : World) (hM : TreeAt B ord w m d iso xs F) (hbig : xs.length ≤ 4294967295) :
    Scans 107 (fun f => #[ptr m, f]) none B m (xs.reverse) F w := by
  intro f G S go C hm hB hSh hG hS
  refine calls_of_W [] Try.func107 rfl Try.ntmps107 Try.results107 (by simp) fun e he => ?_
  have e0 : e 0 = ptr m := he 0 _ rfl
  have e1 : e 1 = f := he 1 _ rfl
  clear he
  refine W_rg fun K hK => (W_text [true, true, false] (by kernel_rfl) ?_); simp only [↓List.toList_toArray, ↓rgd, ↓rgf, ↓reduceIte, Nat.reduceEqDiff, rg, ow_107, e0, e1]
  refine do_call fn_138 (by simp only [evt, evc, upd_eq, Nat.reduceEqDiff, ↓reduceIte, maT, maC, maN, isnN, isnS] <;> rfl) (reverse_any B m d ord iso xs F f G S go C hm true w hM hG hS hbig) ?_
  rintro _ w1 ⟨hS1, X1⟩
  refine ⟨trivial, ?_⟩
  simp only [↓List.toList_toArray, ↓rgd, ↓rgf, ↓reduceIte, Nat.reduceEqDiff, rg, ow_107]
  refine hK _ _ ?_; clear hK K
  exact endQ_0n ⟨hS1, X1⟩
set_option maxHeartbeats 400000 in
set_option maxRecDepth 8000 in
theorem M_Ascend_s (B m d : Nat) (ord : List Int) (hd : 2 ≤ d) (iso : Int) (xs : List It) (F : Nat → Nat → Prop) (q : It) (w : World) (hM : TreeAt B ord w m d iso xs F) (hbig : xs.length ≤ 4294967295) :
    Scans 98 (fun f => #[ptr m, itV q, f]) none B m (xs.drop (lb O (rkI ord) (rkI ord q) xs)) F w := by
  intro f G S go C hm hB hSh hG hS
  refine calls_of_W [] Try.func98 rfl Try.ntmps98 Try.results98 (by simp) fun e he => ?_
  have e0 : e 0 = ptr m := he 0 _ rfl
  have e1 : e 1 = itV q := he 1 _ rfl
  have e2 : e 2 = f := he 2 _ rfl
  clear he
  refine W_rg fun K hK => (W_text [true, true, true, false] (by kernel_rfl) ?_); simp only [↓List.toList_toArray, ↓rgd, ↓rgf, ↓reduceIte, Nat.reduceEqDiff, rg, ow_98, e0, e1, e2]
  refine do_call fn_136 (by simp only [evt, evc, upd_eq, Nat.reduceEqDiff, ↓reduceIte, maT, maC, maN, isnN, isnS] <;> rfl) (ascend_any B m d ord hd iso xs F q none f G S go C hm hB hSh false w hM hG hS (HOk.none _) hbig) ?_
  rintro _ w1 ⟨hS1, X1⟩
  refine ⟨trivial, ?_⟩
  simp only [↓List.toList_toArray, ↓rgd, ↓rgf, ↓reduceIte, Nat.reduceEqDiff, rg, ow_98]
  refine hK _ _ ?_; clear hK K
  exact endQ_0n ⟨hS1, X1⟩
set_option maxHeartbeats 400000 in
set_option maxRecDepth 8000 in
theorem M_AscendMut_s (B m d : Nat) (ord : List Int) (hd : 2 ≤ d) (iso : Int) (xs : List It) (F : Nat → Nat → Prop) (q : It) (w : World) (hM : TreeAt B ord w m d iso xs F) (hbig : xs.length ≤ 4294967295) :
    Scans 106 (fun f => #[ptr m, itV q, f]) none B m (xs.drop (lb O (rkI ord) (rkI ord q) xs)) F w := by
  intro f G S go C hm hB hSh hG hS
  refine calls_of_W [] Try.func106 rfl Try.ntmps106 Try.results106 (by simp) fun e he => ?_
  have e0 : e 0 = ptr m := he 0 _ rfl
  have e1 : e 1 = itV q := he 1 _ rfl
  have e2 : e 2 = f := he 2 _ rfl
  clear he
  refine W_rg fun K hK => (W_text [true, true, true, false] (by kernel_rfl) ?_); simp only [↓List.toList_toArray, ↓rgd, ↓rgf, ↓reduceIte, Nat.reduceEqDiff, rg, ow_106, e0, e1, e2]
  refine do_call fn_136 (by simp only [evt, evc, upd_eq, Nat.reduceEqDiff, ↓reduceIte, maT, maC, maN, isnN, isnS] <;> rfl) (ascend_any B m d ord hd iso xs F q none f G S go C hm hB hSh true w hM hG hS (HOk.none _) hbig) ?_
  rintro _ w1 ⟨hS1, X1⟩
  refine ⟨trivial, ?_⟩
  simp only [↓List.toList_toArray, ↓rgd, ↓rgf, ↓reduceIte, Nat.reduceEqDiff, rg, ow_106]
  refine hK _ _ ?_; clear hK K
  exact endQ_0n ⟨hS1, X1⟩
set_option maxHeartbeats 400000 in
set_option maxRecDepth 8000 in
theorem M_AscendHint_s (B m d : Nat) (ord : List Int) (hd : 2 ≤ d) (iso : Int) (xs : List It) (F : Nat → Nat → Prop) (q : It) (hp : Option Nat) (w : World) (hM : TreeAt B ord w m d iso xs F) (hH : HOk hp w) (hbig : xs.length ≤ 4294967295) :
    Scans 103 (fun f => #[ptr m, itV q, f, hV hp]) hp B m (xs.drop (lb O (rkI ord) (rkI ord q) xs)) F w := by
  intro f G S go C hm hB hSh hG hS
  refine calls_of_W [] Try.func103 rfl Try.ntmps103 Try.results103 (by simp) fun e he => ?_
  have e0 : e 0 = ptr m := he 0 _ rfl
  have e1 : e 1 = itV q := he 1 _ rfl
  have e2 : e 2 = f := he 2 _ rfl
  have e3 : e 3 = hV hp := he 3 _ rfl
  clear he
  refine W_rg fun K hK => (W_text [true, true, true, true, false] (by kernel_rfl) ?_); simp only [↓List.toList_toArray, ↓rgd, ↓rgf, ↓reduceIte, Nat.reduceEqDiff, rg, ow_103, e0, e1, e2, e3]
  refine do_call fn_136 (by simp only [evt, evc, upd_eq, Nat.reduceEqDiff, ↓reduceIte, maT, maC, maN, isnN, isnS] <;> rfl) (ascend_any B m d ord hd iso xs F q hp f G S go C hm hB hSh false w hM hG hS hH hbig) ?_
  rintro _ w1 ⟨hS1, X1⟩
  refine ⟨trivial, ?_⟩
  simp only [↓List.toList_toArray, ↓rgd, ↓rgf, ↓reduceIte, Nat.reduceEqDiff, rg, ow_103]
  refine hK _ _ ?_; clear hK K
  exact endQ_0n ⟨hS1, X1⟩
set_option maxHeartbeats 400000 in
set_option maxRecDepth 8000 in
theorem M_Descend_s (B m d : Nat) (ord : List Int) (hd : 2 ≤ d) (iso : Int) (xs : List It) (F : Nat → Nat → Prop) (q : It) (w : World) (hM : TreeAt B ord w m d iso xs F) (hbig : xs.length ≤ 4294967295) :
    Scans 102 (fun f => #[ptr m, itV q, f]) none B m ((xs.take (ub O (rkI ord) (rkI ord q) xs)).reverse) F w := by
  intro f G S go C hm hB hSh hG hS
  refine calls_of_W [] Try.func102 rfl Try.ntmps102 Try.results102 (by simp) fun e he => ?_
  have e0 : e 0 = ptr m := he 0 _ rfl
  have e1 : e 1 = itV q := he 1 _ rfl
  have e2 : e 2 = f := he 2 _ rfl
  clear he
  refine W_rg fun K hK => (W_text [true, true, true, false] (by kernel_rfl) ?_); simp only [↓List.toList_toArray, ↓rgd, ↓rgf, ↓reduceIte, Nat.reduceEqDiff, rg, ow_102, e0, e1, e2]
  refine do_call fn_139 (by simp only [evt, evc, upd_eq, Nat.reduceEqDiff, ↓reduceIte, maT, maC, maN, isnN, isnS] <;> rfl) (descend_any B m d ord hd iso xs F q none f G S go C hm hB hSh false w hM hG hS (HOk.none _) hbig) ?_
  rintro _ w1 ⟨hS1, X1⟩
  refine ⟨trivial, ?_⟩
  simp only [↓List.toList_toArray, ↓rgd, ↓rgf, ↓reduceIte, Nat.reduceEqDiff, rg, ow_102]
  refine hK _ _ ?_; clear hK K
  exact endQ_0n ⟨hS1, X1⟩
set_option maxHeartbeats 400000 in
set_option maxRecDepth 8000 in
theorem M_DescendMut_s (B m d : Nat) (ord : List Int) (hd : 2 ≤ d) (iso : Int) (xs : List It) (F : Nat → Nat → Prop) (q : It) (w : World) (hM : TreeAt B ord w m d iso xs F) (hbig : xs.length ≤ 4294967295) :
    Scans 108 (fun f => #[ptr m, itV q, f]) none B m ((xs.take (ub O (rkI ord) (rkI ord q) xs)).reverse) F w := by
  intro f G S go C hm hB hSh hG hS
  refine calls_of_W [] Try.func108 rfl Try.ntmps108 Try.results108 (by simp) fun e he => ?_
  have e0 : e 0 = ptr m := he 0 _ rfl
  have e1 : e 1 = itV q := he 1 _ rfl
  have e2 : e 2 = f := he 2 _ rfl
  clear he
  refine W_rg fun K hK => (W_text [true, true, true, false] (by kernel_rfl) ?_); simp only [↓List.toList_toArray, ↓rgd, ↓rgf, ↓reduceIte, Nat.reduceEqDiff, rg, ow_108, e0, e1, e2]
  refine do_call fn_139 (by simp only [evt, evc, upd_eq, Nat.reduceEqDiff, ↓reduceIte, maT, maC, maN, isnN, isnS] <;> rfl) (descend_any B m d ord hd iso xs F q none f G S go C hm hB hSh true w hM hG hS (HOk.none _) hbig) ?_
  rintro _ w1 ⟨hS1, X1⟩
  refine ⟨trivial, ?_⟩
  simp only [↓List.toList_toArray, ↓rgd, ↓rgf, ↓reduceIte, Nat.reduceEqDiff, rg, ow_108]
  refine hK _ _ ?_; clear hK K
  exact endQ_0n ⟨hS1, X1⟩
set_option maxHeartbeats 400000 in
set_option maxRecDepth 8000 in
theorem M_DescendHint_s (B m d : Nat) (ord : List Int) (hd : 2 ≤ d) (iso : Int) (xs : List It) (F : Nat → Nat → Prop) (q : It) (hp : Option Nat) (w : World) (hM : TreeAt B ord w m d iso xs F) (hH : HOk hp w) (hbig : xs.length ≤ 4294967295) :
    Scans 104 (fun f => #[ptr m, itV q, f, hV hp]) hp B m ((xs.take (ub O (rkI ord) (rkI ord q) xs)).reverse) F w := by
  intro f G S go C hm hB hSh hG hS
  refine calls_of_W [] Try.func104 rfl Try.ntmps104 Try.results104 (by simp) fun e he => ?_
  have e0 : e 0 = ptr m := he 0 _ rfl
  have e1 : e 1 = itV q := he 1 _ rfl
  have e2 : e 2 = f := he 2 _ rfl
  have e3 : e 3 = hV hp := he 3 _ rfl
  clear he
  refine W_rg fun K hK => (W_text [true, true, true, true, false] (by kernel_rfl) ?_); simp only [↓List.toList_toArray, ↓rgd, ↓rgf, ↓reduceIte, Nat.reduceEqDiff, rg, ow_104, e0, e1, e2, e3]
  refine do_call fn_139 (by simp only [evt, evc, upd_eq, Nat.reduceEqDiff, ↓reduceIte, maT, maC, maN, isnN, isnS] <;> rfl) (descend_any B m d ord hd iso xs F q hp f G S go C hm hB hSh false w hM hG hS hH hbig) ?_
  rintro _ w1 ⟨hS1, X1⟩
  refine ⟨trivial, ?_⟩
  simp only [↓List.toList_toArray, ↓rgd, ↓rgf, ↓reduceIte, Nat.reduceEqDiff, rg, ow_104]
  refine hK _ _ ?_; clear hK K
  exact endQ_0n ⟨hS1, X1⟩
set_option maxHeartbeats 400000 in
set_option maxRecDepth 8000 in
theorem M_DescendHintMut_s (B m d : Nat) (ord : List Int) (hd : 2 ≤ d) (iso : Int) (xs : List It) (F : Nat → Nat → Prop) (q : It) (hp : Option Nat) (w : World) (hM : TreeAt B ord w m d iso xs F) (hH : HOk hp w) (hbig : xs.length ≤ 4294967295) :
    Scans 113 (fun f => #[ptr m, itV q, f, hV hp]) hp B m ((xs.take (ub O (rkI ord) (rkI ord q) xs)).reverse) F w := by
  intro f G S go C hm hB hSh hG hS
  refine calls_of_W [] Try.func113 rfl Try.ntmps113 Try.results113 (by simp) fun e he => ?_
  have e0 : e 0 = ptr m := he 0 _ rfl
  have e1 : e 1 = itV q := he 1 _ rfl
  have e2 : e 2 = f := he 2 _ rfl
  have e3 : e 3 = hV hp := he 3 _ rfl
  clear he
  refine W_rg fun K hK => (W_text [true, true, true, true, false] (by kernel_rfl) ?_); simp only [↓List.toList_toArray, ↓rgd, ↓rgf, ↓reduceIte, Nat.reduceEqDiff, rg, ow_113, e0, e1, e2, e3]
  refine do_call fn_139 (by simp only [evt, evc, upd_eq, Nat.reduceEqDiff, ↓reduceIte, maT, maC, maN, isnN, isnS] <;> rfl) (descend_any B m d ord hd iso xs F q hp f G S go C hm hB hSh true w hM hG hS hH hbig) ?_
  rintro _ w1 ⟨hS1, X1⟩
  refine ⟨trivial, ?_⟩
  simp only [↓List.toList_toArray, ↓rgd, ↓rgf, ↓reduceIte, Nat.reduceEqDiff, rg, ow_113]
  refine hK _ _ ?_; clear hK K
  exact endQ_0n ⟨hS1, X1⟩
set_option maxHeartbeats 400000 in
set_option maxRecDepth 8000 in
theorem T_Ascend_s (t : Nat) (B m d : Nat) (ord : List Int) (hd : 2 ≤ d) (iso : Int) (xs : List It) (F : Nat → Nat → Prop) (p : Option It) (w : World) (hM : TreeAt B ord w m d iso xs F) (hbig : xs.length ≤ 4294967295) (ht : BAt w t m) :
    Scans 64 (fun f => #[ptr t, itO p, f]) none B m (upO ord p xs) F w := by
  intro f G S go C hm hB hSh hG hS
  refine calls_of_W [] Try.func64 rfl Try.ntmps64 Try.results64 (by simp) fun e he => ?_
  have e0 : e 0 = ptr t := he 0 _ rfl
  have e1 : e 1 = itO p := he 1 _ rfl
  have e2 : e 2 = f := he 2 _ rfl
  clear he
  have ht : rd w t 0 = some (ptr m) := ht
  cases p with
  | none =>
    replace e1 : e 1 = zV := e1
    refine W_sq fun K hK => (W_text [true, true] (by kernel_rfl) ?_); simp only [↓List.toList_toArray, ↓rgd, ↓rgf, ↓reduceIte, Nat.reduceEqDiff, rg, ow_64, e1, eq_anyN]
    refine hK _ _ ?_; clear hK K
    refine W_true (by simp only [evt, evc, upd_eq, Nat.reduceEqDiff, ↓reduceIte, ntT, ntF] <;> rfl) ?_
    refine W_rg fun K hK => (W_text [true, true, true, true, true, false] (by kernel_rfl) ?_); simp only [↓List.toList_toArray, ↓rgd, ↓rgf, ↓reduceIte, Nat.reduceEqDiff, rg, ow_64, e0, e2, ptr_eq, ht]
    refine do_call fn_97 (by simp only [evt, evc, upd_eq, Nat.reduceEqDiff, ↓reduceIte, maT, maC, maN, isnN, isnS] <;> rfl) (M_Scan_s B m d ord hd iso xs F w hM hbig f G S go C hm (fun _ h => by cases h) (hSh_none C.2) hG hS) ?_
    rintro _ w1 ⟨hS1, X1⟩
    refine ⟨trivial, ?_⟩
    simp only [↓List.toList_toArray, ↓rgd, ↓rgf, ↓reduceIte, Nat.reduceEqDiff, rg, ow_64]
    refine hK _ _ ?_; clear hK K
    exact endQ_0n ⟨hS1, X1⟩
  | some q =>
    replace e1 : e 1 = itV q := e1
    refine W_sq fun K hK => (W_text [true, true] (by kernel_rfl) ?_); simp only [↓List.toList_toArray, ↓rgd, ↓rgf, ↓reduceIte, Nat.reduceEqDiff, rg, ow_64, e1, eq_any]
    refine hK _ _ ?_; clear hK K
    refine W_false (by simp only [evt, evc, upd_eq, Nat.reduceEqDiff, ↓reduceIte, ntT, ntF] <;> rfl) ?_
    refine W_rg fun K hK => (W_text [true, true, true, true, true, true, false] (by kernel_rfl) ?_); simp only [↓List.toList_toArray, ↓rgd, ↓rgf, ↓reduceIte, Nat.reduceEqDiff, rg, ow_64, e0, e1, e2, ptr_eq, ht]
    refine do_call fn_98 (by simp only [evt, evc, upd_eq, Nat.reduceEqDiff, ↓reduceIte, maT, maC, maN, isnN, isnS] <;> rfl) (M_Ascend_s B m d ord hd iso xs F q w hM hbig f G S go C hm hB hSh hG hS) ?_
    rintro _ w1 ⟨hS1, X1⟩
    refine ⟨trivial, ?_⟩
    simp only [↓List.toList_toArray, ↓rgd, ↓rgf, ↓reduceIte, Nat.reduceEqDiff, rg, ow_64]
    refine hK _ _ ?_; clear hK K
    exact endQ_0n ⟨hS1, X1⟩
set_option maxHeartbeats 400000 in
set_option maxRecDepth 8000 in
theorem T_AscendMut_s (t : Nat) (B m d : Nat) (ord : List Int) (hd : 2 ≤ d) (iso : Int) (xs : List It) (F : Nat → Nat → Prop) (p : Option It) (w : World) (hM : TreeAt B ord w m d iso xs F) (hbig : xs.length ≤ 4294967295) (ht : BAt w t m) :
    Scans 72 (fun f => #[ptr t, itO p, f]) none B m (upO ord p xs) F w := by
  intro f G S go C hm hB hSh hG hS
  refine calls_of_W [] Try.func72 rfl Try.ntmps72 Try.results72 (by simp) fun e he => ?_
  have e0 : e 0 = ptr t := he 0 _ rfl
  have e1 : e 1 = itO p := he 1 _ rfl
  have e2 : e 2 = f := he 2 _ rfl
  clear he
  have ht : rd w t 0 = some (ptr m) := ht
  cases p with
  | none =>
    replace e1 : e 1 = zV := e1
    refine W_sq fun K hK => (W_text [true, true] (by kernel_rfl) ?_); simp only [↓List.toList_toArray, ↓rgd, ↓rgf, ↓reduceIte, Nat.reduceEqDiff, rg, ow_72, e1, eq_anyN]
    refine hK _ _ ?_; clear hK K
    refine W_true (by simp only [evt, evc, upd_eq, Nat.reduceEqDiff, ↓reduceIte, ntT, ntF] <;> rfl) ?_
    refine W_rg fun K hK => (W_text [true, true, true, true, true, false] (by kernel_rfl) ?_); simp only [↓List.toList_toArray, ↓rgd, ↓rgf, ↓reduceIte, Nat.reduceEqDiff, rg, ow_72, e0, e2, ptr_eq, ht]
    refine do_call fn_105 (by simp only [evt, evc, upd_eq, Nat.reduceEqDiff, ↓reduceIte, maT, maC, maN, isnN, isnS] <;> rfl) (M_ScanMut_s B m d ord hd iso xs F w hM hbig f G S go C hm (fun _ h => by cases h) (hSh_none C.2) hG hS) ?_
    rintro _ w1 ⟨hS1, X1⟩
    refine ⟨trivial, ?_⟩
    simp only [↓List.toList_toArray, ↓rgd, ↓rgf, ↓reduceIte, Nat.reduceEqDiff, rg, ow_72]
    refine hK _ _ ?_; clear hK K
    exact endQ_0n ⟨hS1, X1⟩
  | some q =>
    replace e1 : e 1 = itV q := e1
    refine W_sq fun K hK => (W_text [true, true] (by kernel_rfl) ?_); simp only [↓List.toList_toArray, ↓rgd, ↓rgf, ↓reduceIte, Nat.reduceEqDiff, rg, ow_72, e1, eq_any]
    refine hK _ _ ?_; clear hK K
    refine W_false (by simp only [evt, evc, upd_eq, Nat.reduceEqDiff, ↓reduceIte, ntT, ntF] <;> rfl) ?_
    refine W_rg fun K hK => (W_text [true, true, true, true, true, true, false] (by kernel_rfl) ?_); simp only [↓List.toList_toArray, ↓rgd, ↓rgf, ↓reduceIte, Nat.reduceEqDiff, rg, ow_72, e0, e1, e2, ptr_eq, ht]
    refine do_call fn_106 (by simp only [evt, evc, upd_eq, Nat.reduceEqDiff, ↓reduceIte, maT, maC, maN, isnN, isnS] <;> rfl) (M_AscendMut_s B m d ord hd iso xs F q w hM hbig f G S go C hm hB hSh hG hS) ?_
    rintro _ w1 ⟨hS1, X1⟩
    refine ⟨trivial, ?_⟩
    simp only [↓List.toList_toArray, ↓rgd, ↓rgf, ↓reduceIte, Nat.reduceEqDiff, rg, ow_72]
    refine hK _ _ ?_; clear hK K
    exact endQ_0n ⟨hS1, X1⟩
set_option maxHeartbeats 400000 in
set_option maxRecDepth 8000 in
theorem T_AscendHint_s (t : Nat) (B m d : Nat) (ord : List Int) (hd : 2 ≤ d) (iso : Int) (xs : List It) (F : Nat → Nat → Prop) (p : Option It) (hp : Option Nat) (w : World) (hM : TreeAt B ord w m d iso xs F) (hH : HOk hp w) (hbig : xs.length ≤ 4294967295) (ht : BAt w t m) :
    Scans 70 (fun f => #[ptr t, itO p, f, hV hp]) hp B m (upO ord p xs) F w := by
  intro f G S go C hm hB hSh hG hS
  refine calls_of_W [] Try.func70 rfl Try.ntmps70 Try.results70 (by simp) fun e he => ?_
  have e0 : e 0 = ptr t := he 0 _ rfl
  have e1 : e 1 = itO p := he 1 _ rfl
  have e2 : e 2 = f := he 2 _ rfl
  have e3 : e 3 = hV hp := he 3 _ rfl
  clear he
  have ht : rd w t 0 = some (ptr m) := ht
  cases p with
  | none =>
    replace e1 : e 1 = zV := e1
    refine W_sq fun K hK => (W_text [true, true] (by kernel_rfl) ?_); simp only [↓List.toList_toArray, ↓rgd, ↓rgf, ↓reduceIte, Nat.reduceEqDiff, rg, ow_70, e1, eq_anyN]
    refine hK _ _ ?_; clear hK K
    refine W_true (by simp only [evt, evc, upd_eq, Nat.reduceEqDiff, ↓reduceIte, ntT, ntF] <;> rfl) ?_
    refine W_rg fun K hK => (W_text [true, true, true, true, true, false] (by kernel_rfl) ?_); simp only [↓List.toList_toArray, ↓rgd, ↓rgf, ↓reduceIte, Nat.reduceEqDiff, rg, ow_70, e0, e2, ptr_eq, ht]
    refine do_call fn_97 (by simp only [evt, evc, upd_eq, Nat.reduceEqDiff, ↓reduceIte, maT, maC, maN, isnN, isnS] <;> rfl) (M_Scan_s B m d ord hd iso xs F w hM hbig f G S go C hm (fun _ h => by cases h) (hSh_none C.2) hG hS) ?_
    rintro _ w1 ⟨hS1, X1⟩
    refine ⟨trivial, ?_⟩
    simp only [↓List.toList_toArray, ↓rgd, ↓rgf, ↓reduceIte, Nat.reduceEqDiff, rg, ow_70]
    refine hK _ _ ?_; clear hK K
    exact endQ_0n ⟨hS1, X1⟩
  | some q =>
    replace e1 : e 1 = itV q := e1
    refine W_sq fun K hK => (W_text [true, true] (by kernel_rfl) ?_); simp only [↓List.toList_toArray, ↓rgd, ↓rgf, ↓reduceIte, Nat.reduceEqDiff, rg, ow_70, e1, eq_any]
    refine hK _ _ ?_; clear hK K
    refine W_false (by simp only [evt, evc, upd_eq, Nat.reduceEqDiff, ↓reduceIte, ntT, ntF] <;> rfl) ?_
    refine W_rg fun K hK => (W_text [true, true, true, true, true, true, true, false] (by kernel_rfl) ?_); simp only [↓List.toList_toArray, ↓rgd, ↓rgf, ↓reduceIte, Nat.reduceEqDiff, rg, ow_70, e0, e1, e2, e3, ptr_eq, ht]
    refine do_call fn_103 (by simp only [evt, evc, upd_eq, Nat.reduceEqDiff, ↓reduceIte, maT, maC, maN, isnN, isnS] <;> rfl) (M_AscendHint_s B m d ord hd iso xs F q hp w hM hH hbig f G S go C hm hB hSh hG hS) ?_
    rintro _ w1 ⟨hS1, X1⟩
    refine ⟨trivial, ?_⟩
    simp only [↓List.toList_toArray, ↓rgd, ↓rgf, ↓reduceIte, Nat.reduceEqDiff, rg, ow_70]
    refine hK _ _ ?_; clear hK K
    exact endQ_0n ⟨hS1, X1⟩
set_option maxHeartbeats 400000 in
set_option maxRecDepth 8000 in
theorem T_Descend_s (t : Nat) (B m d : Nat) (ord : List Int) (hd : 2 ≤ d) (iso : Int) (xs : List It) (F : Nat → Nat → Prop) (p : Option It) (w : World) (hM : TreeAt B ord w m d iso xs F) (hbig : xs.length ≤ 4294967295) (ht : BAt w t m) :
    Scans 67 (fun f => #[ptr t, itO p, f]) none B m (downO ord p xs) F w := by
  intro f G S go C hm hB hSh hG hS
  refine calls_of_W [] Try.func67 rfl Try.ntmps67 Try.results67 (by simp) fun e he => ?_
  have e0 : e 0 = ptr t := he 0 _ rfl
  have e1 : e 1 = itO p := he 1 _ rfl
  have e2 : e 2 = f := he 2 _ rfl
  clear he
  have ht : rd w t 0 = some (ptr m) := ht
  cases p with
  | none =>
    replace e1 : e 1 = zV := e1
    refine W_sq fun K hK => (W_text [true, true] (by kernel_rfl) ?_); simp only [↓List.toList_toArray, ↓rgd, ↓rgf, ↓reduceIte, Nat.reduceEqDiff, rg, ow_67, e1, eq_anyN]
    refine hK _ _ ?_; clear hK K
    refine W_true (by simp only [evt, evc, upd_eq, Nat.reduceEqDiff, ↓reduceIte, ntT, ntF] <;> rfl) ?_
    refine W_rg fun K hK => (W_text [true, true, true, true, true, false] (by kernel_rfl) ?_); simp only [↓List.toList_toArray, ↓rgd, ↓rgf, ↓reduceIte, Nat.reduceEqDiff, rg, ow_67, e0, e2, ptr_eq, ht]
    refine do_call fn_101 (by simp only [evt, evc, upd_eq, Nat.reduceEqDiff, ↓reduceIte, maT, maC, maN, isnN, isnS] <;> rfl) (M_Reverse_s B m d ord hd iso xs F w hM hbig f G S go C hm (fun _ h => by cases h) (hSh_none C.2) hG hS) ?_
    rintro _ w1 ⟨hS1, X1⟩
    refine ⟨trivial, ?_⟩
    simp only [↓List.toList_toArray, ↓rgd, ↓rgf, ↓reduceIte, Nat.reduceEqDiff, rg, ow_67]
    refine hK _ _ ?_; clear hK K
    exact endQ_0n ⟨hS1, X1⟩
  | some q =>
    replace e1 : e 1 = itV q := e1
    refine W_sq fun K hK => (W_text [true, true] (by kernel_rfl) ?_); simp only [↓List.toList_toArray, ↓rgd, ↓rgf, ↓reduceIte, Nat.reduceEqDiff, rg, ow_67, e1, eq_any]
    refine hK _ _ ?_; clear hK K
    refine W_false (by simp only [evt, evc, upd_eq, Nat.reduceEqDiff, ↓reduceIte, ntT, ntF] <;> rfl) ?_
    refine W_rg fun K hK => (W_text [true, true, true, true, true, true, false] (by kernel_rfl) ?_); simp only [↓List.toList_toArray, ↓rgd, ↓rgf, ↓reduceIte, Nat.reduceEqDiff, rg, ow_67, e0, e1, e2, ptr_eq, ht]
    refine do_call fn_102 (by simp only [evt, evc, upd_eq, Nat.reduceEqDiff, ↓reduceIte, maT, maC, maN, isnN, isnS] <;> rfl) (M_Descend_s B m d ord hd iso xs F q w hM hbig f G S go C hm hB hSh hG hS) ?_
    rintro _ w1 ⟨hS1, X1⟩
    refine ⟨trivial, ?_⟩
    simp only [↓List.toList_toArray, ↓rgd, ↓rgf, ↓reduceIte, Nat.reduceEqDiff, rg, ow_67]
    refine hK _ _ ?_; clear hK K
    exact endQ_0n ⟨hS1, X1⟩
set_option maxHeartbeats 400000 in
set_option maxRecDepth 8000 in
theorem T_DescendMut_s (t : Nat) (B m d : Nat) (ord : List Int) (hd : 2 ≤ d) (iso : Int) (xs : List It) (F : Nat → Nat → Prop) (p : Option It) (w : World) (hM : TreeAt B ord w m d iso xs F) (hbig : xs.length ≤ 4294967295) (ht : BAt w t m) :
    Scans 73 (fun f => #[ptr t, itO p, f]) none B m (downO ord p xs) F w := by
  intro f G S go C hm hB hSh hG hS
  refine calls_of_W [] Try.func73 rfl Try.ntmps73 Try.results73 (by simp) fun e he => ?_
  have e0 : e 0 = ptr t := he 0 _ rfl
  have e1 : e 1 = itO p := he 1 _ rfl
  have e2 : e 2 = f := he 2 _ rfl
  clear he
  have ht : rd w t 0 = some (ptr m) := ht
  cases p with
  | none =>
    replace e1 : e 1 = zV := e1
    refine W_sq fun K hK => (W_text [true, true] (by kernel_rfl) ?_); simp only [↓List.toList_toArray, ↓rgd, ↓rgf, ↓reduceIte, Nat.reduceEqDiff, rg, ow_73, e1, eq_anyN]
    refine hK _ _ ?_; clear hK K
    refine W_true (by simp only [evt, evc, upd_eq, Nat.reduceEqDiff, ↓reduceIte, ntT, ntF] <;> rfl) ?_
    refine W_rg fun K hK => (W_text [true, true, true, true, true, false] (by kernel_rfl) ?_); simp only [↓List.toList_toArray, ↓rgd, ↓rgf, ↓reduceIte, Nat.reduceEqDiff, rg, ow_73, e0, e2, ptr_eq, ht]
    refine do_call fn_107 (by simp only [evt, evc, upd_eq, Nat.reduceEqDiff, ↓reduceIte, maT, maC, maN, isnN, isnS] <;> rfl) (M_ReverseMut_s B m d ord hd iso xs F w hM hbig f G S go C hm (fun _ h => by cases h) (hSh_none C.2) hG hS) ?_
    rintro _ w1 ⟨hS1, X1⟩
    refine ⟨trivial, ?_⟩
    simp only [↓List.toList_toArray, ↓rgd, ↓rgf, ↓reduceIte, Nat.reduceEqDiff, rg, ow_73]
    refine hK _ _ ?_; clear hK K
    exact endQ_0n ⟨hS1, X1⟩
  | some q =>
    replace e1 : e 1 = itV q := e1
    refine W_sq fun K hK => (W_text [true, true] (by kernel_rfl) ?_); simp only [↓List.toList_toArray, ↓rgd, ↓rgf, ↓reduceIte, Nat.reduceEqDiff, rg, ow_73, e1, eq_any]
    refine hK _ _ ?_; clear hK K
    refine W_false (by simp only [evt, evc, upd_eq, Nat.reduceEqDiff, ↓reduceIte, ntT, ntF] <;> rfl) ?_
    refine W_rg fun K hK => (W_text [true, true, true, true, true, true, false] (by kernel_rfl) ?_); simp only [↓List.toList_toArray, ↓rgd, ↓rgf, ↓reduceIte, Nat.reduceEqDiff, rg, ow_73, e0, e1, e2, ptr_eq, ht]
    refine do_call fn_108 (by simp only [evt, evc, upd_eq, Nat.reduceEqDiff, ↓reduceIte, maT, maC, maN, isnN, isnS] <;> rfl) (M_DescendMut_s B m d ord hd iso xs F q w hM hbig f G S go C hm hB hSh hG hS) ?_
    rintro _ w1 ⟨hS1, X1⟩
    refine ⟨trivial, ?_⟩
    simp only [↓List.toList_toArray, ↓rgd, ↓rgf, ↓reduceIte, Nat.reduceEqDiff, rg, ow_73]
    refine hK _ _ ?_; clear hK K
    exact endQ_0n ⟨hS1, X1⟩
set_option maxHeartbeats 400000 in
set_option maxRecDepth 8000 in
theorem T_DescendHint_s (t : Nat) (B m d : Nat) (ord : List Int) (hd : 2 ≤ d) (iso : Int) (xs : List It) (F : Nat → Nat → Prop) (p : Option It) (hp : Option Nat) (w : World) (hM : TreeAt B ord w m d iso xs F) (hH : HOk hp w) (hbig : xs.length ≤ 4294967295) (ht : BAt w t m) :
    Scans 71 (fun f => #[ptr t, itO p, f, hV hp]) hp B m (downO ord p xs) F w := by
  intro f G S go C hm hB hSh hG hS
  refine calls_of_W [] Try.func71 rfl Try.ntmps71 Try.results71 (by simp) fun e he => ?_
  have e0 : e 0 = ptr t := he 0 _ rfl
  have e1 : e 1 = itO p := he 1 _ rfl
  have e2 : e 2 = f := he 2 _ rfl
  have e3 : e 3 = hV hp := he 3 _ rfl
  clear he
  have ht : rd w t 0 = some (ptr m) := ht
  cases p with
  | none =>
    replace e1 : e 1 = zV := e1
    refine W_sq fun K hK => (W_text [true, true] (by kernel_rfl) ?_); simp only [↓List.toList_toArray, ↓rgd, ↓rgf, ↓reduceIte, Nat.reduceEqDiff, rg, ow_71, e1, eq_anyN]
    refine hK _ _ ?_; clear hK K
    refine W_true (by simp only [evt, evc, upd_eq, Nat.reduceEqDiff, ↓reduceIte, ntT, ntF] <;> rfl) ?_
    refine W_rg fun K hK => (W_text [true, true, true, true, true, false] (by kernel_rfl) ?_); simp only [↓List.toList_toArray, ↓rgd, ↓rgf, ↓reduceIte, Nat.reduceEqDiff, rg, ow_71, e0, e2, ptr_eq, ht]
    refine do_call fn_101 (by simp only [evt, evc, upd_eq, Nat.reduceEqDiff, ↓reduceIte, maT, maC, maN, isnN, isnS] <;> rfl) (M_Reverse_s B m d ord hd iso xs F w hM hbig f G S go C hm (fun _ h => by cases h) (hSh_none C.2) hG hS) ?_
    rintro _ w1 ⟨hS1, X1⟩
    refine ⟨trivial, ?_⟩
    simp only [↓List.toList_toArray, ↓rgd, ↓rgf, ↓reduceIte, Nat.reduceEqDiff, rg, ow_71]
    refine hK _ _ ?_; clear hK K
    exact endQ_0n ⟨hS1, X1⟩
  | some q =>
    replace e1 : e 1 = itV q := e1
    refine W_sq fun K hK => (W_text [true, true] (by kernel_rfl) ?_); simp only [↓List.toList_toArray, ↓rgd, ↓rgf, ↓reduceIte, Nat.reduceEqDiff, rg, ow_71, e1, eq_any]
    refine hK _ _ ?_; clear hK K
    refine W_false (by simp only [evt, evc, upd_eq, Nat.reduceEqDiff, ↓reduceIte, ntT, ntF] <;> rfl) ?_
    refine W_rg fun K hK => (W_text [true, true, true, true, true, true, true, false] (by kernel_rfl) ?_); simp only [↓List.toList_toArray, ↓rgd, ↓rgf, ↓reduceIte, Nat.reduceEqDiff, rg, ow_71, e0, e1, e2, e3, ptr_eq, ht]
    refine do_call fn_104 (by simp only [evt, evc, upd_eq, Nat.reduceEqDiff, ↓reduceIte, maT, maC, maN, isnN, isnS] <;> rfl) (M_DescendHint_s B m d ord hd iso xs F q hp w hM hH hbig f G S go C hm hB hSh hG hS) ?_
    rintro _ w1 ⟨hS1, X1⟩
    refine ⟨trivial, ?_⟩
    simp only [↓List.toList_toArray, ↓rgd, ↓rgf, ↓reduceIte, Nat.reduceEqDiff, rg, ow_71]
    refine hK _ _ ?_; clear hK K
    exact endQ_0n ⟨hS1, X1⟩
set_option maxHeartbeats 400000 in
set_option maxRecDepth 8000 in
theorem T_DescendHintMut_s (t : Nat) (B m d : Nat) (ord : List Int) (hd : 2 ≤ d) (iso : Int) (xs : List It) (F : Nat → Nat → Prop) (p : Option It) (hp : Option Nat) (w : World) (hM : TreeAt B ord w m d iso xs F) (hH : HOk hp w) (hbig : xs.length ≤ 4294967295) (ht : BAt w t m) :
    Scans 82 (fun f => #[ptr t, itO p, f, hV hp]) hp B m (downO ord p xs) F w := by
  intro f G S go C hm hB hSh hG hS
  refine calls_of_W [] Try.func82 rfl Try.ntmps82 Try.results82 (by simp) fun e he => ?_
  have e0 : e 0 = ptr t := he 0 _ rfl
  have e1 : e 1 = itO p := he 1 _ rfl
  have e2 : e 2 = f := he 2 _ rfl
  have e3 : e 3 = hV hp := he 3 _ rfl
  clear he
  have ht : rd w t 0 = some (ptr m) := ht
  cases p with
  | none =>
    replace e1 : e 1 = zV := e1
    refine W_sq fun K hK => (W_text [true, true] (by kernel_rfl) ?_); simp only [↓List.toList_toArray, ↓rgd, ↓rgf, ↓reduceIte, Nat.reduceEqDiff, rg, ow_82, e1, eq_anyN]
    refine hK _ _ ?_; clear hK K
    refine W_true (by simp only [evt, evc, upd_eq, Nat.reduceEqDiff, ↓reduceIte, ntT, ntF] <;> rfl) ?_
    refine W_rg fun K hK => (W_text [true, true, true, true, true, false] (by kernel_rfl) ?_); simp only [↓List.toList_toArray, ↓rgd, ↓rgf, ↓reduceIte, Nat.reduceEqDiff, rg, ow_82, e0, e2, ptr_eq, ht]
    refine do_call fn_107 (by simp only [evt, evc, upd_eq, Nat.reduceEqDiff, ↓reduceIte, maT, maC, maN, isnN, isnS] <;> rfl) (M_ReverseMut_s B m d ord hd iso xs F w hM hbig f G S go C hm (fun _ h => by cases h) (hSh_none C.2) hG hS) ?_
    rintro _ w1 ⟨hS1, X1⟩
    refine ⟨trivial, ?_⟩
    simp only [↓List.toList_toArray, ↓rgd, ↓rgf, ↓reduceIte, Nat.reduceEqDiff, rg, ow_82]
    refine hK _ _ ?_; clear hK K
    exact endQ_0n ⟨hS1, X1⟩
  | some q =>
    replace e1 : e 1 = itV q := e1
    refine W_sq fun K hK => (W_text [true, true] (by kernel_rfl) ?_); simp only [↓List.toList_toArray, ↓rgd, ↓rgf, ↓reduceIte, Nat.reduceEqDiff, rg, ow_82, e1, eq_any]
    refine hK _ _ ?_; clear hK K
    refine W_false (by simp only [evt, evc, upd_eq, Nat.reduceEqDiff, ↓reduceIte, ntT, ntF] <;> rfl) ?_
    refine W_rg fun K hK => (W_text [true, true, true, true, true, true, true, false] (by kernel_rfl) ?_); simp only [↓List.toList_toArray, ↓rgd, ↓rgf, ↓reduceIte, Nat.reduceEqDiff, rg, ow_82, e0, e1, e2, e3, ptr_eq, ht]
    refine do_call fn_113 (by simp only [evt, evc, upd_eq, Nat.reduceEqDiff, ↓reduceIte, maT, maC, maN, isnN, isnS] <;> rfl) (M_DescendHintMut_s B m d ord hd iso xs F q hp w hM hH hbig f G S go C hm hB hSh hG hS) ?_
    rintro _ w1 ⟨hS1, X1⟩
    refine ⟨trivial, ?_⟩
    simp only [↓List.toList_toArray, ↓rgd, ↓rgf, ↓reduceIte, Nat.reduceEqDiff, rg, ow_82]
    refine hK _ _ ?_; clear hK K
    exact endQ_0n ⟨hS1, X1⟩
end Go.Proofs.Ytanmjbkbdmeckaa
/-
  The function that keeps the items that are handed to it. No condition.
-/
set_option linter.unusedSimpArgs false
set_option linter.unusedVariables false
namespace Go.Proofs.Ytanmjbkbdmeckaa
open Go Go.Proofs
/-- What is kept: the variable's block, the list, that the list is not older than B. -/
structure Kept (B ob : Nat) (done : List It) (w : World) : Prop where
  var : ∃ sv, rd w ob 0 = some sv ∧ SlI w sv done ∧ since B sv
  wok : wok w ob 1
  lt : ob < B
  le : B ≤ w.heap.size
def outF (B ob : Nat) : Nat → Nat → Prop := fun y _ => y = ob ∨ B ≤ y
theorem Kept.ext {B ob : Nat} {done : List It} {w w' : World} (h : Kept B ob done w) (x : Ext noF w w') : Kept B ob done w' := by
  obtain ⟨sv, h1, h2, h3⟩ := h.var
  exact ⟨⟨sv, x.rd h1 (fun h => h), h2.ext0 x, h3⟩, x.wok h.wok, h.lt, Nat.le_trans h.le x.size⟩
set_option maxHeartbeats 400000 in
set_option maxRecDepth 8000 in
theorem take_any (B ob pb nb : Nat) (n : Int) (done : List It) (x : It) (w : World) (h : Kept B ob done w) (hp : rd w pb 0 = some (ptr ob)) (hn : rd w nb 0 = some (.int .i64 n)) (h1 : pb ≠ ob) (h2 : nb ≠ ob) (h3 : pb < B) (h4 : nb < B)
    (hbig : done.length < 4294967295) :
    CallK Try.prog 137 #[iV x, ptr pb, ptr nb] w fun v w' => v = .bool (upTo n (done ++ [x])) ∧ Kept B ob (done ++ [x]) w' ∧ Ext (outF B ob) w w' := by
  obtain ⟨sv, hv, hS, hsi⟩ := h.var
  have hlt := h.lt
  have hle := h.le
  refine calls_of_W [.tmp 4] Try.func137 rfl Try.ntmps137 Try.results137 (by simp) fun e he => ?_
  have e0 : e 0 = iV x := he 0 _ rfl
  have e1 : e 1 = ptr pb := he 1 _ rfl
  have e2 : e 2 = ptr nb := he 2 _ rfl
  clear he
  refine W_sq fun K hK => (W_text [false, true] (by kernel_rfl) ?_); simp only [↓List.toList_toArray, ↓rgd, ↓rgf, ↓reduceIte, Nat.reduceEqDiff, rg, ow_137]
  refine do_box (by simp only [evt]; exact e0) fun w1 n1 => ⟨trivial, ?_⟩
  simp only [↓List.toList_toArray, ↓rgd, ↓rgf, ↓reduceIte, Nat.reduceEqDiff, rg, ow_137]
  refine hK _ _ ?_; clear hK K
  have s1 := n1.size
  have hp1 := n1.ext.rd hp (fun h => h)
  have hn1 := n1.ext.rd hn (fun h => h)
  have hv1 := n1.ext.rd hv (fun h => h)
  have bx : rdA w1 w.heap.size 0 2 = some (iV x) := n1.row.rdA 2 (by show 2 ≤ 2; omega)
  have M1 : readsB (some (some [pb, ob, w.heap.size])) pb = true := by simp [readsB]
  have M2 : readsB (some (some [pb, ob, w.heap.size])) ob = true := by simp [readsB]
  have M3 : readsB (some (some [pb, ob, w.heap.size])) w.heap.size = true := by simp [readsB]
  refine W_sq fun K hK => (W_draw (some (some [pb, ob, w.heap.size])) (some 8) [(0, 0, 0), (0, 1, 0), (0, 2, 0), (0, 3, 0), (0, 4, 0), (1, 5, 0), (1, 6, 0), (0, 7, 0), (1, 8, 0)] mixed (by kernel_rfl) ?_); simp only [↓List.toList_toArray, ↓rgd, ↓rgf, ↓reduceIte, Nat.reduceEqDiff, rg, ow_137, e1, ptr_eq, hp1, hv1, bx, M1, M2, M3]
  refine do_bsl rfl (bs_i1 x) fun w2 n2 => ⟨.inr (keeps_on n2.ext fun y hy => ⟨?_, fun _ h => h⟩), ?_⟩
  · rw [sz_dr]
    simp only [List.mem_cons, List.not_mem_nil, or_false] at hy
    omega
  simp only [↓List.toList_toArray, ↓rgd, ↓rgf, ↓reduceIte, Nat.reduceEqDiff, rg, ow_137]
  have n2 := n2.od
  have s2 := n2.size
  have X2 := n1.ext.tr n2.ext
  have hS2 := hS.ext0 X2
  have hx2 : SlV w2 2 (.slice (some ⟨w1.heap.size, 0, none⟩) 1 1) 1 (Ei.cel x) := ⟨rfl, .inr ⟨_, 0, 1, rfl, Nat.le_refl _, n2.row, n2.wok.R (Nat.le_refl _)⟩⟩
  refine do_append (by simp only [evt, evc, upd_eq, Nat.reduceEqDiff, ↓reduceIte, ntT, ntF] <;> rfl) (by simp only [evt, evc, upd_eq, Nat.reduceEqDiff, ↓reduceIte, ntT, ntF] <;> rfl) el_i rfl ni_i hS2 hx2 (by omega) (by decide) (Ei.one x) fun v3 w3 a3 => ?_
  obtain ⟨hS3, hs3, x3⟩ := app_since (B := B) a3 hsi (by omega)
  refine ⟨.inr fun y hy => app_block a3 ?_ fun o c k hh => ?_, ?_⟩
  · simp only [List.mem_cons, List.not_mem_nil, or_false] at hy
    omega
  · have g1 := hsi _ _ _ _ hh
    have g2 := hS.lt hh
    simp only [List.mem_cons, List.not_mem_nil, or_false] at hy
    omega
  simp only [↓List.toList_toArray, ↓rgd, ↓rgf, ↓reduceIte, Nat.reduceEqDiff, rg, ow_137]
  have s3 := x3.size
  obtain ⟨a3', c3', hv3⟩ := hS3.shape
  refine do_store (by simp only [evt, evc, upd_eq, Nat.reduceEqDiff, ↓reduceIte, ntT, ntF] <;> rfl) (by simp only [evt, evc, upd_eq, Nat.reduceEqDiff, ↓reduceIte, ntT, ntF] <;> rfl) sz_25 (by rw [hv3]; rfl) (x3.wok (X2.wok h.wok)) (by decide) (by rw [hv3]; exact oc_one rfl rfl) fun w4 x4 r4 s4 => ⟨.inl trivial, ?_⟩
  simp only [↓List.toList_toArray, ↓rgd, ↓rgf, ↓reduceIte, Nat.reduceEqDiff, rg, ow_137]
  refine hK _ _ ?_; clear hK K
  have hrow : rd w4 ob 0 = some v3 := by
    rw [hv3] at r4 ⊢
    exact (Row.cons.1 r4).1
  have X4 : Ext (outF B ob) w w4 := by
    refine (X2.trans (H := outF B ob) x3 (fun _ _ g => g.elim) fun y o _ g => .inr g).trans x4 (fun _ _ g => g) fun y o _ g => ?_
    simp only [rng] at g
    exact .inl g.1
  have x34 : Ext (fun y o => y = ob ∧ True) w3 w4 := x4.mono fun y o _ g => ⟨g.1, trivial⟩
  have hS4 : SlI w4 v3 (done ++ [x]) := by
    have : SlV w4 2 v3 (done.length + 1) (flat Ei done ++ Ei.cel x) := hS3.ext x4 fun b o c hh k _ g => by
      have := hs3 _ _ _ _ hh
      simp only [rng] at g
      omega
    rw [SlI, List.length_append, List.length_singleton, flat_append, flat_one]
    exact this
  have hn4 := x4.rd (x3.rd (X2.rd hn fun h => h) (by omega)) (by simp only [rng]; omega)
  have hp4 := x4.rd (x3.rd (X2.rd hp fun h => h) (by omega)) (by simp only [rng]; omega)
  have hl4 : ((done ++ [x]).length : Int) = ((done.length + 1 : Nat) : Int) := by simp
  have K4 : Kept B ob (done ++ [x]) w4 := ⟨⟨v3, hrow, hS4, hs3⟩, x4.wok (x3.wok (X2.wok h.wok)), hlt, by have := X4.size; omega⟩
  have X5 : ∀ k, Ext (outF B ob) w (dr w4 k) := fun k => X4.tr (Ext.dr _ _ _)
  have K5 : ∀ k, Kept B ob (done ++ [x]) (dr w4 k) := fun k => K4.ext (Ext.dr _ _ _)
  rw [hv3] at hrow
  by_cases hn1' : n < 1
  · have t1 : decide (n < 1) = true := by simp [hn1']
    refine W_sq fun K hK => (W_draw (some none) none [(0, 0, 0), (0, 1, 0), (0, 2, 0), (0, 3, 0), (0, 4, 0), (0, 5, 0), (0, 6, 0), (0, 7, 0), (0, 8, 0), (0, 9, 0), (0, 10, 0)] mixed (by kernel_rfl) ?_); simp only [↓List.toList_toArray, ↓rgd, ↓rgf, ↓reduceIte, Nat.reduceEqDiff, rg, ow_137, e1, e2, ptr_eq, hp4, hn4, hrow, t1]
    refine hK _ _ ?_; clear hK K
    refine W_ret (endQ_1 (by simp only [upd_eq, Nat.reduceEqDiff, ↓reduceIte] <;> rfl) ⟨?_, K5 _, X5 _⟩)
    simp [upTo, hn1']
  · have t1 : decide (n < 1) = false := by simp; omega
    refine W_sq fun K hK => (W_draw (some none) none [(0, 0, 0), (0, 1, 0), (0, 2, 0), (0, 3, 0), (0, 4, 0), (0, 5, 0), (0, 6, 0), (0, 7, 0), (0, 8, 0), (0, 9, 0), (0, 10, 0)] mixed (by kernel_rfl) ?_); simp only [↓List.toList_toArray, ↓rgd, ↓rgf, ↓reduceIte, Nat.reduceEqDiff, rg, ow_137, e1, e2, ptr_eq, hp4, hn4, hrow, t1]
    refine hK _ _ ?_; clear hK K
    refine W_ret (endQ_1 (by simp only [upd_eq, Nat.reduceEqDiff, ↓reduceIte] <;> rfl) ⟨?_, K5 _, X5 _⟩)
    simp [upTo, hn1']
def takeV (pb nb : Nat) : Value := .func (.func 137) #[] #[ptr pb, ptr nb]
theorem takeV_eq (pb nb : Nat) : takeV pb nb = .func (.func 137) #[] #[ptr pb, ptr nb] := rfl
theorem fn_take : isFn Try.prog 137 = true := by kernel_rfl
set_option maxHeartbeats 400000 in
set_option maxRecDepth 8000 in
theorem taker_mk (ob : Nat) (n : Int) (w : World) :
    CallK Try.prog 99 #[ptr ob, .int .i64 n] w fun v w' => v = takeV w.heap.size (w.heap.size + 1) ∧ Ext noF w w' ∧ rd w' w.heap.size 0 = some (ptr ob) ∧ rd w' (w.heap.size + 1) 0 = some (.int .i64 n) ∧ w'.heap.size = w.heap.size + 2 := by
  refine calls_of_W [.tmp 4] Try.func99 rfl Try.ntmps99 Try.results99 (by simp) fun e he => ?_
  have e0 : e 0 = ptr ob := he 0 _ rfl
  have e1 : e 1 = .int .i64 n := he 1 _ rfl
  clear he
  refine W_sq fun K hK => (W_text [false, false, true] (by kernel_rfl) ?_); simp only [↓List.toList_toArray, ↓rgd, ↓rgf, ↓reduceIte, Nat.reduceEqDiff, rg]
  refine do_box (v := ptr ob) (by simp only [evt]; exact e0) fun w1 n1 => ⟨trivial, ?_⟩
  simp only [↓List.toList_toArray, ↓rgd, ↓rgf, ↓reduceIte, Nat.reduceEqDiff, rg]
  refine do_box (v := .int .i64 n) (by simp only [evt, upd_eq, Nat.reduceEqDiff, ↓reduceIte]; exact e1) fun w2 n2 => ⟨trivial, ?_⟩
  simp only [↓List.toList_toArray, ↓rgd, ↓rgf, ↓reduceIte, Nat.reduceEqDiff, rg]
  refine hK _ _ ?_; clear hK K
  have s1 := n1.size
  have s2 := n2.size
  have r1 : rd w2 w.heap.size 0 = some (ptr ob) := n2.ext.rd (Row.cons.1 (show Row w1 w.heap.size 0 [ptr ob] from n1.row)).1 fun h => h
  have r2 : rd w2 (w.heap.size + 1) 0 = some (.int .i64 n) := by rw [← s1]; exact (Row.cons.1 (show Row w2 w1.heap.size 0 [.int .i64 n] from n2.row)).1
  refine W_sq fun K hK => (W_text [true, true] (by kernel_rfl) ?_); simp only [↓List.toList_toArray, ↓rgd, ↓rgf, ↓reduceIte, Nat.reduceEqDiff, rg]
  refine hK _ _ ?_; clear hK K
  refine W_ret (endQ_1 (by simp only [upd_eq, Nat.reduceEqDiff, ↓reduceIte] <;> rfl) ⟨?_, n1.ext.tr n2.ext, r1, r2, by omega⟩)
  rw [takeV, s1, ptr_eq, ptr_eq]
/-- The same for items in interfaces: a function value that holds the other. -/
def takeA (c : Nat) : Value := .func (.func 100) #[] #[ptr c]
theorem z_fnA : zK Try.prog 121 = some [.nilFunc] := by kernel_rfl
theorem fn_takeA : isFn Try.prog 100 = true := by kernel_rfl
/-- What holds while items are kept. -/
def TS (c ob pb nb B : Nat) (n : Int) (done : List It) (w : World) : Prop := Kept B ob done w ∧ rd w pb 0 = some (ptr ob) ∧ rd w nb 0 = some (.int .i64 n) ∧ rd w c 0 = some (takeV pb nb)
set_option maxHeartbeats 400000 in
set_option maxRecDepth 8000 in
theorem takeA_any (c B ob pb nb : Nat) (n : Int) (done : List It) (x : It) (w : World) (h : TS c ob pb nb B n done w) (h1 : pb ≠ ob) (h2 : nb ≠ ob) (h3 : pb < B) (h4 : nb < B) (h5 : c ≠ ob) (h6 : c < B)
    (hbig : done.length < 4294967295) :
    CallK Try.prog 100 #[itV x, ptr c] w fun v w' => v = .bool (upTo n (done ++ [x])) ∧ TS c ob pb nb B n (done ++ [x]) w' ∧ Ext (outF B ob) w w' := by
  obtain ⟨hK0, hp, hn, hc⟩ := h
  refine calls_of_W [.tmp 3] Try.func100 rfl Try.ntmps100 Try.results100 (by simp) fun e he => ?_
  have e0 : e 0 = itV x := he 0 _ rfl
  have e1 : e 1 = ptr c := he 1 _ rfl
  clear he
  refine W_sq fun K hK => (W_text [true] (by kernel_rfl) ?_); simp only [↓List.toList_toArray, ↓rgd, ↓rgf, ↓reduceIte, Nat.reduceEqDiff, rg, ow_100]
  refine hK _ _ ?_; clear hK K
  have M1 : readsB (some (some [c])) c = true := by simp [readsB]
  have hle := hK0.le
  have hob := hK0.lt
  refine W_sq fun K hK => (W_draw (some (some [c])) none [(0, 0, 0), (0, 1, 0), (0, 2, 0), (1, 3, 0), (0, 4, 0)] mixed (by kernel_rfl) ?_); simp only [↓List.toList_toArray, ↓rgd, ↓rgf, ↓reduceIte, Nat.reduceEqDiff, rg, ow_100, e0, e1, ptr_eq, hc, tas_any, M1]
  rw [takeV_eq]
  refine do_callv (by simp only [evt, evc, upd_eq, Nat.reduceEqDiff, ↓reduceIte, ntT, ntF] <;> rfl) fn_take rfl (by simp only [evt, upd_eq, Nat.reduceEqDiff, ↓reduceIte, maT, maC, maN]; exact take_any B ob pb nb n done x _ (hK0.ext (Ext.dr noF w (w.drawn + 1))) ((Ext.dr noF w (w.drawn + 1)).rd hp fun h => h) ((Ext.dr noF w (w.drawn + 1)).rd hn fun h => h) h1 h2 h3 h4 hbig) ?_
  rintro _ w2 ⟨rfl, hK2, x2⟩
  refine ⟨.inr (keeps_on x2 fun y hy => ?_), ?_⟩
  · simp only [List.mem_cons, List.not_mem_nil, or_false] at hy
    subst hy
    exact ⟨by rw [sz_dr]; omega, fun _ g => by rcases g with g | g <;> omega⟩
  have x2 := x2.od
  simp only [↓List.toList_toArray, ↓rgd, ↓rgf, ↓reduceIte, Nat.reduceEqDiff, rg, ow_100]
  refine hK _ _ ?_; clear hK K
  have nF : ∀ y, y ≠ ob → y < B → ¬ outF B ob y 0 := fun y g1 g2 g => by rcases g with g | g <;> omega
  exact W_ret (endQ_1 (by simp only [upd_eq, Nat.reduceEqDiff, ↓reduceIte] <;> rfl) ⟨rfl, ⟨hK2, x2.rd hp (nF _ h1 h3), x2.rd hn (nF _ h2 h4), x2.rd hc (nF _ h5 h6)⟩, x2⟩)
set_option maxHeartbeats 400000 in
set_option maxRecDepth 8000 in
theorem takerA_mk (ob : Nat) (n : Int) (w : World) :
    CallK Try.prog 66 #[ptr ob, .int .i64 n] w fun v w' => ∃ c pb nb, v = takeA c ∧ Ext noF w w' ∧ rd w' pb 0 = some (ptr ob) ∧ rd w' nb 0 = some (.int .i64 n) ∧ rd w' c 0 = some (takeV pb nb) ∧ w.heap.size ≤ c ∧ w.heap.size ≤ pb ∧ w.heap.size ≤ nb ∧ c < w'.heap.size ∧ pb < w'.heap.size ∧ nb < w'.heap.size := by
  refine calls_of_W [.tmp 4] Try.func66 rfl Try.ntmps66 Try.results66 (by simp) fun e he => ?_
  have e0 : e 0 = ptr ob := he 0 _ rfl
  have e1 : e 1 = .int .i64 n := he 1 _ rfl
  clear he
  refine W_sq fun K hK => (W_text [true] (by kernel_rfl) ?_); simp only [↓List.toList_toArray, ↓rgd, ↓rgf, ↓reduceIte, Nat.reduceEqDiff, rg, ow_66]
  refine hK _ _ ?_; clear hK K
  refine W_sq fun K hK => (W_text [true, true, false, false, false] (by kernel_rfl) ?_); simp only [↓List.toList_toArray, ↓rgd, ↓rgf, ↓reduceIte, Nat.reduceEqDiff, rg, ow_66, e0, e1]
  refine do_call fn_99 (vs := #[ptr ob, .int .i64 n]) (by simp only [evt, evc, upd_eq, Nat.reduceEqDiff, ↓reduceIte, maT, maC, maN, isnN, isnS] <;> rfl) (taker_mk ob n w) ?_
  rintro _ w3 ⟨rfl, X3, p3, q3, s3⟩
  refine ⟨trivial, ?_⟩
  simp only [↓List.toList_toArray, ↓rgd, ↓rgf, ↓reduceIte, Nat.reduceEqDiff, rg, ow_66]
  refine do_alloc z_fnA fun w4 n4 => ⟨trivial, ?_⟩
  simp only [↓List.toList_toArray, ↓rgd, ↓rgf, ↓reduceIte, Nat.reduceEqDiff, rg, ow_66]
  refine do_store (v := takeV w.heap.size (w.heap.size + 1)) (by simp only [evt, evc, upd_eq, Nat.reduceEqDiff, ↓reduceIte, ntT, ntF] <;> rfl) (by simp only [evt, evc, upd_eq, Nat.reduceEqDiff, ↓reduceIte, ntT, ntF] <;> rfl) sz_121 rfl n4.wok (by decide) (oc_one rfl rfl) fun w5 x5 r5 s5 => ⟨trivial, ?_⟩
  simp only [↓List.toList_toArray, ↓rgd, ↓rgf, ↓reduceIte, Nat.reduceEqDiff, rg, ow_66]
  refine hK _ _ ?_; clear hK K
  have s4 := n4.size
  have X5 : Ext noF w w5 := noF_of (X3.tr n4.ext) x5 fun y o hy h => by simp only [rng] at h; omega
  have nr : ∀ y, y < w3.heap.size → ¬ rng w3.heap.size 0 1 y 0 := fun y hy h => by simp only [rng] at h; omega
  refine W_sq fun K hK => (W_text [true, true] (by kernel_rfl) ?_); simp only [↓List.toList_toArray, ↓rgd, ↓rgf, ↓reduceIte, Nat.reduceEqDiff, rg, ow_66]
  refine hK _ _ ?_; clear hK K
  refine W_ret (endQ_1 (by simp only [upd_eq, Nat.reduceEqDiff, ↓reduceIte] <;> rfl) ⟨w3.heap.size, w.heap.size, w.heap.size + 1, ?_, X5, x5.rd (n4.ext.rd p3 fun h => h) (nr _ (by omega)), x5.rd (n4.ext.rd q3 fun h => h) (nr _ (by omega)), (Row.cons.1 (show Row w5 w3.heap.size 0 [takeV w.heap.size (w.heap.size + 1)] from r5)).1, by omega, by omega, by omega, by omega, by omega, by omega⟩)
  rw [takeA, ptr_eq]
theorem TS.ext {c ob pb nb B : Nat} {n : Int} {done : List It} {w w' : World} (h : TS c ob pb nb B n done w) (x : Ext noF w w') : TS c ob pb nb B n done w' :=
  ⟨h.1.ext x, x.rd h.2.1 fun h => h, x.rd h.2.2.1 fun h => h, x.rd h.2.2.2 fun h => h⟩
theorem cb_take (c ob pb nb B : Nat) (n : Int) (h1 : pb ≠ ob) (h2 : nb ≠ ob) (h3 : pb < B) (h4 : nb < B) (h5 : c ≠ ob) (h6 : c < B) : Cb (takeA c) (outF B ob) (TS c ob pb nb B n) (upTo n) :=
  ⟨⟨_, #[], #[ptr c], rfl, fn_takeA, fun done x w hS hlen => takeA_any c B ob pb nb n done x w hS h1 h2 h3 h4 h5 h6 hlen⟩, fun _ _ _ hS x => hS.ext x⟩
end Go.Proofs.Ytanmjbkbdmeckaa
/-
  What a tree hands on, kept; all items of a tree. No condition.
-/
set_option linter.unusedSimpArgs false
set_option linter.unusedVariables false
namespace Go.Proofs.Ytanmjbkbdmeckaa
open Go Go.Proofs
theorem z_hint : zK Try.prog 85 = some [.bool false, .bool false, .bool false, .bool false, .bool false, .bool false, .bool false, .bool false, .int .u8 0, .int .u8 0, .int .u8 0, .int .u8 0, .int .u8 0, .int .u8 0, .int .u8 0, .int .u8 0] := by kernel_rfl
theorem hint_new {w w' : World} (h : New w w' [.bool false, .bool false, .bool false, .bool false, .bool false, .bool false, .bool false, .bool false, .int .u8 0, .int .u8 0, .int .u8 0, .int .u8 0, .int .u8 0, .int .u8 0, .int .u8 0, .int .u8 0]) : HintAt w' w.heap.size := by
  refine ⟨h.wok, fun i hi => ⟨false, ?_⟩, fun i hi => ⟨0, by omega, ?_⟩⟩
  · have : i = 0 ∨ i = 1 ∨ i = 2 ∨ i = 3 ∨ i = 4 ∨ i = 5 ∨ i = 6 ∨ i = 7 := by omega
    have := h.row i (.bool false) (by rcases this with rfl | rfl | rfl | rfl | rfl | rfl | rfl | rfl <;> rfl)
    rwa [Nat.zero_add] at this
  · have : i = 0 ∨ i = 1 ∨ i = 2 ∨ i = 3 ∨ i = 4 ∨ i = 5 ∨ i = 6 ∨ i = 7 := by omega
    have := h.row (8 + i) (.int .u8 0) (by rcases this with rfl | rfl | rfl | rfl | rfl | rfl | rfl | rfl <;> rfl)
    rwa [Nat.zero_add] at this
theorem Cb.mono {f : Value} {G G' : Nat → Nat → Prop} {S : List It → World → Prop} {go : List It → Bool} (h : Cb f G S go) (hG : ∀ y o, G y o → G' y o) : Cb f G' S go := by
  obtain ⟨⟨g, first, cap, h1, h2, h3⟩, h4⟩ := h
  exact ⟨⟨g, first, cap, h1, h2, fun done x w hS hl => CallK_mono (h3 done x w hS hl) fun v w' ⟨a, b, c⟩ => ⟨a, b, c.mono fun y o _ g => hG y o g⟩⟩, h4⟩
theorem Kept.extH {B ob : Nat} {done : List It} {w w' : World} {G : Nat → Nat → Prop} (h : Kept B ob done w) (x : Ext G w w') (hG : ∀ y o, G y o → y ≠ ob ∧ y < B) : Kept B ob done w' := by
  obtain ⟨sv, h1, h2, h3⟩ := h.var
  exact ⟨⟨sv, x.rd h1 (fun g => (hG _ _ g).1 rfl), h2.ext x fun b o c hv i _ g => by have := h3 _ _ _ _ hv; have := (hG _ _ g).2; omega, h3⟩, x.wok h.wok, h.lt, Nat.le_trans h.le x.size⟩
theorem z_sl : zK Try.prog 25 = some [.slice none 0 0] := by kernel_rfl
theorem firstN_0 {α : Type} (l : List α) : firstN 0 l = l := by unfold firstN; rw [if_pos (.inl (by decide))]
/-- What is there when a tree, a function that keeps items and a hint (or none) have been made, in whatever order. -/
structure Ready (B0 ob c pb nb : Nat) (hp : Option Nat) (B m : Nat) (F : Nat → Nat → Prop) (n : Int) (w : World) : Prop where
  out : rd w ob 0 = some (.slice none 0 0)
  wout : wok w ob 1
  rpb : rd w pb 0 = some (ptr ob)
  rnb : rd w nb 0 = some (.int .i64 n)
  rc : rd w c 0 = some (takeV pb nb)
  lt : B0 ≤ ob ∧ c ≠ ob ∧ pb ≠ ob ∧ nb ≠ ob ∧ m ≠ ob ∧ c < w.heap.size ∧ pb < w.heap.size ∧ nb < w.heap.size ∧ m < w.heap.size
  hlt : ∀ hb, hp = some hb → B0 ≤ hb ∧ hb < w.heap.size ∧ hb ≠ ob ∧ c ≠ hb ∧ pb ≠ hb ∧ nb ≠ hb ∧ m ≠ hb ∧ (m ≤ hb ∨ hb < B)
  off : ∀ y o, F y o → y ≠ ob ∧ y < w.heap.size ∧ ∀ hb, hp = some hb → y ≠ hb
set_option maxHeartbeats 400000 in
set_option maxRecDepth 8000 in
theorem ready_go {B0 ob c pb nb : Nat} {hp : Option Nat} {B m : Nat} {ys : List It} {F : Nat → Nat → Prop} {n : Int} {w0 w : World} {fn : Nat} {args : Value → Array Value} (hR : Ready B0 ob c pb nb hp B m F n w) (X : Ext noF w0 w) (h0 : B0 = w0.heap.size)
    (hs : Scans fn args hp B m ys F w) :
    CallK Try.prog fn (args (takeA c)) w fun _ w' => Ext noF w0 w' ∧ ∃ sv, rd w' ob 0 = some sv ∧ SlI w' sv (firstN n ys) := by
  obtain ⟨l0, l1, l2, l3, l4, l5, l6, l7, l8⟩ := hR.lt
  have hob := wok_lt hR.wout
  have hKp : Kept w.heap.size ob [] w := ⟨⟨_, hR.out, ⟨rfl, .inl ⟨rfl, rfl⟩⟩, fun b o n c h => by cases h⟩, hR.wout, by omega, Nat.le_refl _⟩
  have C := (cb_take c ob pb nb w.heap.size n (by omega) (by omega) (by omega) (by omega) (by omega) (by omega)).mono (G' := fun y o => outF w.heap.size ob y o ∨ hp = some y) fun _ _ g => .inl g
  refine CallK_mono (hs _ _ _ _ C (fun o g => ?_) (fun y h => ⟨(hR.hlt y h).2.2.2.2.2.2.2, fun o => .inr h⟩) (fun done w1 w2 hS x => ?_) (fun y o o' hy g => ?_) ⟨hKp, hR.rpb, hR.rnb, hR.rc⟩) ?_
  · rcases g with (g | g) | g
    · omega
    · omega
    · exact (hR.hlt _ g).2.2.2.2.2.2.1 rfl
  · have q : ∀ y, Go.Proofs.Ytanmjbkbdmeckaa.hF hp y 0 → y ≠ ob ∧ y < w.heap.size ∧ c ≠ y ∧ pb ≠ y ∧ nb ≠ y := fun y g => by
      have := hR.hlt y g; omega
    refine ⟨hS.1.extH x fun y o g => ⟨(q y g).1, (q y g).2.1⟩, x.rd hS.2.1 fun g => (q _ g).2.2.2.1 rfl, x.rd hS.2.2.1 fun g => (q _ g).2.2.2.2 rfl, x.rd hS.2.2.2 fun g => (q _ g).2.2.1 rfl⟩
  · have h1 := hR.off y o hy
    rcases g with (g | g) | g
    · omega
    · omega
    · exact h1.2.2 _ g rfl
  rintro _ w' ⟨⟨hK4, _⟩, X4⟩
  obtain ⟨sv, h1, h2, _⟩ := hK4.var
  rw [hand_upTo_nil] at h2
  refine ⟨noF_of X X4 fun y o hy g => ?_, sv, h1, h2⟩
  have := X.size
  rcases g with (g | g) | g
  · omega
  · omega
  · have := hR.hlt y g; omega
set_option maxHeartbeats 800000 in
set_option maxRecDepth 8000 in
theorem allOf_any (t B m d : Nat) (ord : List Int) (hd : 2 ≤ d) (iso : Int) (xs : List It) (F : Nat → Nat → Prop) (w : World) (ht : BAt w t m) (hM : TreeAt B ord w m d iso xs F) (hbig : xs.length ≤ 4294967295) :
    CallK Try.prog 56 #[ptr t] w fun v w' => SlI w' v xs ∧ Ext noF w w' := by
  refine calls_of_W [.tmp 2] Try.func56 rfl Try.ntmps56 Try.results56 (by simp) fun e he => ?_
  have e0 : e 0 = ptr t := he 0 _ rfl
  clear he
  refine W_sq fun K hK => (W_text [true] (by kernel_rfl) ?_); simp only [↓List.toList_toArray, ↓rgd, ↓rgf, ↓reduceIte, Nat.reduceEqDiff, rg, ow_56]
  refine hK _ _ ?_; clear hK K
  refine W_sq fun K hK => (W_text [false] (by kernel_rfl) ?_); simp only [↓List.toList_toArray, ↓rgd, ↓rgf, ↓reduceIte, Nat.reduceEqDiff, rg, ow_56]
  refine do_alloc z_sl fun w1 n1 => ⟨trivial, ?_⟩
  simp only [↓List.toList_toArray, ↓rgd, ↓rgf, ↓reduceIte, Nat.reduceEqDiff, rg, ow_56]
  refine hK _ _ ?_; clear hK K
  have s1 := n1.size
  have hml := hM.mlt
  have hlt := hM.lt
  refine W_sq fun K hK => (W_text [true, false, false] (by kernel_rfl) ?_); simp only [↓List.toList_toArray, ↓rgd, ↓rgf, ↓reduceIte, Nat.reduceEqDiff, rg, ow_56, e0]
  refine do_call fn_66 (vs := #[ptr w.heap.size, .int .i64 0]) (by simp only [evt, evc, upd_eq, Nat.reduceEqDiff, ↓reduceIte, maT, maC, maN, isnN, isnS] <;> rfl) (takerA_mk w.heap.size 0 w1) ?_
  rintro _ w2 ⟨c, pb, nb, rfl, X2, h1, h2, h3, h4, h5, h6, h7, h8, h9⟩
  refine ⟨trivial, ?_⟩
  simp only [↓List.toList_toArray, ↓rgd, ↓rgf, ↓reduceIte, Nat.reduceEqDiff, rg, ow_56]
  have X12 := n1.ext.tr X2
  refine do_call fn_64 (vs := #[ptr t, itO none, takeA c]) (by simp only [evt, evc, upd_eq, Nat.reduceEqDiff, ↓reduceIte, maT, maC, maN, isnN, isnS] <;> rfl) (ready_go (fn := 64) (args := fun f => #[ptr t, itO none, f]) (n := 0) ⟨X2.rd (Row.cons.1 n1.row).1 fun h => h, X2.wok n1.wok, h1, h2, h3, by have := X2.size; omega, (fun _ h => by cases h), fun y o hy => ⟨by have := hlt y o hy; omega, by have := hlt y o hy; have := X2.size; omega, fun _ h => by cases h⟩⟩ X12 rfl
    (T_Ascend_s t B m d ord hd iso xs F none w2 (hM.ext X12) hbig (X12.rd ht fun h => h))) ?_
  rintro _ w3 ⟨X3, sv, hv, hS⟩
  refine ⟨trivial, ?_⟩
  simp only [↓List.toList_toArray, ↓rgd, ↓rgf, ↓reduceIte, Nat.reduceEqDiff, rg, ow_56]
  refine hK _ _ ?_; clear hK K
  refine W_sq fun K hK => (W_text [true, true] (by kernel_rfl) ?_); simp only [↓List.toList_toArray, ↓rgd, ↓rgf, ↓reduceIte, Nat.reduceEqDiff, rg, ow_56, hv]
  refine hK _ _ ?_; clear hK K
  refine W_ret (endQ_1 (by simp only [upd_eq, Nat.reduceEqDiff, ↓reduceIte] <;> rfl) ⟨?_, X3⟩)
  rw [firstN_0] at hS
  exact hS
/-- A pivot, none for all. -/
def pvO (all : Bool) (q : It) : Option It := if all = true then none else some q
set_option maxHeartbeats 800000 in
set_option maxRecDepth 8000 in
theorem from_any (all : Bool) (q : It) (w : World) :
    CallK Try.prog 65 #[.bool all, iV q] w fun v w' => v = itO (pvO all q) ∧ Ext noF w w' := by
  refine calls_of_W [.tmp 4] Try.func65 rfl Try.ntmps65 Try.results65 (by simp) fun e he => ?_
  have e0 : e 0 = .bool all := he 0 _ rfl
  have e1 : e 1 = iV q := he 1 _ rfl
  clear he
  refine W_sq fun K hK => (W_text [false, true] (by kernel_rfl) ?_); simp only [↓List.toList_toArray, ↓rgd, ↓rgf, ↓reduceIte, Nat.reduceEqDiff, rg, ow_65]
  refine do_box (by simp only [evt]; exact e1) fun w1 n1 => ⟨trivial, ?_⟩
  simp only [↓List.toList_toArray, ↓rgd, ↓rgf, ↓reduceIte, Nat.reduceEqDiff, rg, ow_65]
  refine hK _ _ ?_; clear hK K
  have bx : rdA w1 w.heap.size 0 2 = some (iV q) := n1.row.rdA 2 (by show 2 ≤ 2; omega)
  refine W_seq ?_
  cases all with
  | true =>
    refine W_sq fun K hK => (W_text [true] (by kernel_rfl) ?_); simp only [↓List.toList_toArray, ↓rgd, ↓rgf, ↓reduceIte, Nat.reduceEqDiff, rg, ow_65, e0]
    refine hK _ _ ?_; clear hK K
    refine W_true (by simp only [evt, evc, upd_eq, Nat.reduceEqDiff, ↓reduceIte, ntT, ntF] <;> rfl) ?_
    refine W_sq fun K hK => (W_text [true] (by kernel_rfl) ?_); simp only [↓List.toList_toArray, ↓rgd, ↓rgf, ↓reduceIte, Nat.reduceEqDiff, rg, ow_65]
    refine hK _ _ ?_; clear hK K
    refine W_ret ?_
    simp only [andThen_ret]
    exact endQ_1 (by simp only [upd_eq, Nat.reduceEqDiff, ↓reduceIte] <;> rfl) ⟨rfl, n1.ext⟩
  | false =>
    refine W_sq fun K hK => (W_text [true] (by kernel_rfl) ?_); simp only [↓List.toList_toArray, ↓rgd, ↓rgf, ↓reduceIte, Nat.reduceEqDiff, rg, ow_65, e0]
    refine hK _ _ ?_; clear hK K
    refine W_false (by simp only [evt, evc, upd_eq, Nat.reduceEqDiff, ↓reduceIte, ntT, ntF] <;> rfl) (W_skip ?_)
    show W _ _ _ _ _ _
    refine W_sq fun K hK => (W_text [true, true, true] (by kernel_rfl) ?_); simp only [↓List.toList_toArray, ↓rgd, ↓rgf, ↓reduceIte, Nat.reduceEqDiff, rg, ow_65, bx]
    refine hK _ _ ?_; clear hK K
    exact W_ret (endQ_1 (by simp only [upd_eq, Nat.reduceEqDiff, ↓reduceIte] <;> rfl) ⟨rfl, n1.ext⟩)
end Go.Proofs.Ytanmjbkbdmeckaa
/-
  The reference: lists from a key, down to a key, turned, cut off. No condition.
-/
set_option linter.unusedSimpArgs false
set_option linter.unusedVariables false
namespace Go.Proofs.Ytanmjbkbdmeckaa
open Go Go.Proofs
theorem treeG_asc (ord : List Int) (l : List It) : Asc O (rkI ord) (treeG ord l) := by
  have : ∀ (l : List It) (xs : List It), Asc O (rkI ord) xs → Asc O (rkI ord) (l.foldl (fun xs x => put O (rkI ord) x xs) xs) := by
    intro l
    induction l with
    | nil => intro xs h; exact h
    | cons x l ih => intro xs h; exact ih _ (put_asc O (rkI ord) h)
  exact this l [] List.Pairwise.nil
theorem iXi_at {w : World} {b o : Nat} {x : It} (h : Row w b o (Ei.cel x)) : rdA w b o 2 = some (iV x) := h.rdA 2 (Nat.le_refl _)

set_option maxHeartbeats 400000 in
set_option maxRecDepth 8000 in
theorem first_any (l : List It) (lv : Value) (n : Int) (w : World) (hl : SlI w lv l) :
    CallK Try.prog 35 #[lv, .int .i64 n] w fun v w' => SlI w' v (firstN n l) ∧ w' = w := by
  obtain ⟨a, c, hlv⟩ := hl.shape
  refine calls_of_W [.tmp 4] Try.func35 rfl Try.ntmps35 Try.results35 (by simp) fun e he => ?_
  have e0 : e 0 = .slice a l.length c := by rw [← hlv]; exact he 0 _ rfl
  have e1 : e 1 = .int .i64 n := he 1 _ rfl
  clear he
  refine W_sq fun K hK => (W_text [true] (by kernel_rfl) ?_); simp only [↓List.toList_toArray, ↓rgd, ↓rgf, ↓reduceIte, Nat.reduceEqDiff, rg, ow_35]
  refine hK _ _ ?_; clear hK K
  refine W_seq ?_
  by_cases h1 : n < 1
  · have t1 : decide (n < 1) = true := by simp [h1]
    refine W_sq fun K hK => (W_text [true, true, true, true, true, true, true, true] (by kernel_rfl) ?_); simp only [↓List.toList_toArray, ↓rgd, ↓rgf, ↓reduceIte, Nat.reduceEqDiff, rg, ow_35, e0, e1, t1]
    refine hK _ _ ?_; clear hK K
    refine W_true (by simp only [evt, evc, upd_eq, Nat.reduceEqDiff, ↓reduceIte, ntT, ntF] <;> rfl) ?_
    refine W_sq fun K hK => (W_text [true, true] (by kernel_rfl) ?_); simp only [↓List.toList_toArray, ↓rgd, ↓rgf, ↓reduceIte, Nat.reduceEqDiff, rg, ow_35, e0]
    refine hK _ _ ?_; clear hK K
    refine W_ret ?_
    simp only [andThen_ret]
    refine endQ_1 (by simp only [upd_eq, Nat.reduceEqDiff, ↓reduceIte] <;> rfl) ⟨?_, rfl⟩
    rw [firstN, if_pos (.inl h1), ← hlv]; exact hl
  · have t1 : decide (n < 1) = false := by simp; omega
    by_cases h2 : (l.length : Int) < n
    · have t2 : decide ((l.length : Int) < n) = true := by simp [h2]
      refine W_sq fun K hK => (W_text [true, true, true, true, true, true, true, true] (by kernel_rfl) ?_); simp only [↓List.toList_toArray, ↓rgd, ↓rgf, ↓reduceIte, Nat.reduceEqDiff, rg, ow_35, e0, e1, t1, t2]
      refine hK _ _ ?_; clear hK K
      refine W_true (by simp only [evt, evc, upd_eq, Nat.reduceEqDiff, ↓reduceIte, ntT, ntF] <;> rfl) ?_
      refine W_sq fun K hK => (W_text [true, true] (by kernel_rfl) ?_); simp only [↓List.toList_toArray, ↓rgd, ↓rgf, ↓reduceIte, Nat.reduceEqDiff, rg, ow_35, e0]
      refine hK _ _ ?_; clear hK K
      refine W_ret ?_
      simp only [andThen_ret]
      refine endQ_1 (by simp only [upd_eq, Nat.reduceEqDiff, ↓reduceIte] <;> rfl) ⟨?_, rfl⟩
      rw [firstN, if_pos (.inr h2), ← hlv]; exact hl
    · have t2 : decide ((l.length : Int) < n) = false := by simp; omega
      refine W_sq fun K hK => (W_text [true, true, true, true, true, true, true, true] (by kernel_rfl) ?_); simp only [↓List.toList_toArray, ↓rgd, ↓rgf, ↓reduceIte, Nat.reduceEqDiff, rg, ow_35, e0, e1, t1, t2]
      refine hK _ _ ?_; clear hK K
      refine W_false (by simp only [evt, evc, upd_eq, Nat.reduceEqDiff, ↓reduceIte, ntT, ntF] <;> rfl) (W_skip ?_)
      show W _ _ _ _ _ _
      obtain ⟨k, rfl⟩ : ∃ k : Nat, n = k := ⟨n.toNat, by omega⟩
      obtain ⟨sv, hs, hsl⟩ := sl_hi hl k (by omega)
      rw [hlv] at hs
      refine W_sq fun K hK => (W_text [true, true, true, true] (by kernel_rfl) ?_); simp only [↓List.toList_toArray, ↓rgd, ↓rgf, ↓reduceIte, Nat.reduceEqDiff, rg, ow_35, e0, e1, hs]
      refine hK _ _ ?_; clear hK K
      refine W_ret (endQ_1 (by simp only [upd_eq, Nat.reduceEqDiff, ↓reduceIte] <;> rfl) ⟨?_, rfl⟩)
      rw [firstN, if_neg (by omega), SlI, List.length_take]
      have : min (k : Int).toNat l.length = k := by omega
      rw [this]
      simpa using hsl
set_option maxHeartbeats 400000 in
set_option maxRecDepth 8000 in
theorem sgscan (d : Nat) (ord : List Int) (sv : Value) (nl : Bool) (l : List It) (lv : Value) (n : Int) (w : World) (hs : SlInt w sv ord) (hsb : ord.length ≤ 2147483647) (hl : SlI w lv l) (hbig : l.length ≤ 2147483647) :
    CallK Try.prog 51 #[mkV sv d nl, lv, .int .i64 n] w fun v w' => SlI w' v (firstN n (treeG ord l)) ∧ Ext noF w w' := by
  refine calls_of_W [.tmp 6] Try.func51 rfl Try.ntmps51 Try.results51 (by simp) fun e he => ?_
  have e0 : e 0 = mkV sv d nl := he 0 _ rfl
  have e1 : e 1 = lv := he 1 _ rfl
  have e2 : e 2 = .int .i64 n := he 2 _ rfl
  clear he
  refine W_sq fun K hK => (W_text [false, true] (by kernel_rfl) ?_); simp only [↓List.toList_toArray, ↓rgd, ↓rgf, ↓reduceIte, Nat.reduceEqDiff, rg, ow_51]
  refine do_box (by simp only [evt]; exact e0) fun w1 n1 => ⟨trivial, ?_⟩
  simp only [↓List.toList_toArray, ↓rgd, ↓rgf, ↓reduceIte, Nat.reduceEqDiff, rg, ow_51]
  refine hK _ _ ?_; clear hK K
  have r1 := mk_at0 (show Row w1 w.heap.size 0 (mkL sv d nl) from n1.row)
  refine W_sq fun K hK => (W_text [true, true, true, false, true, false, true] (by kernel_rfl) ?_); simp only [↓List.toList_toArray, ↓rgd, ↓rgf, ↓reduceIte, Nat.reduceEqDiff, rg, ow_51, e1, e2, r1]
  refine do_call fn_60 (by simp only [evt, evc, upd_eq, Nat.reduceEqDiff, ↓reduceIte, maT, maC, maN, isnN, isnS] <;> rfl) (stree_ord sv ord l lv w1 (SlV.ext0 hs n1.ext) hsb (SlV.ext0 hl n1.ext) hbig) ?_
  rintro v2 w2 ⟨hS2, X2⟩
  refine ⟨trivial, ?_⟩
  simp only [↓List.toList_toArray, ↓rgd, ↓rgf, ↓reduceIte, Nat.reduceEqDiff, rg, ow_51, e2]
  refine do_call fn_35 (by simp only [evt, evc, upd_eq, Nat.reduceEqDiff, ↓reduceIte, maT, maC, maN, isnN, isnS] <;> rfl) (first_any (treeG ord l) v2 n w2 hS2) ?_
  rintro v3 w3 ⟨hS3, hw3⟩
  obtain rfl : w2 = w3 := hw3.symm
  refine ⟨trivial, ?_⟩
  simp only [↓List.toList_toArray, ↓rgd, ↓rgf, ↓reduceIte, Nat.reduceEqDiff, rg, ow_51]
  refine hK _ _ ?_; clear hK K
  exact W_ret (endQ_1 (by simp only [upd_eq, Nat.reduceEqDiff, ↓reduceIte] <;> rfl) ⟨hS3, n1.ext.tr X2⟩)
set_option maxHeartbeats 800000 in
set_option maxRecDepth 8000 in
theorem sturned_any (l : List It) (lv : Value) (w : World) (hl : SlI w lv l) (hbig : l.length ≤ 2147483647) :
    CallK Try.prog 80 #[lv] w fun v w' => SlI w' v l.reverse ∧ Ext noF w w' := by
  refine calls_of_W [.tmp 2] Try.func80 rfl Try.ntmps80 Try.results80 (by simp) fun e he => ?_
  have e0 : e 0 = lv := he 0 _ rfl
  clear he
  obtain ⟨ka, kc, hkv⟩ := SlV.shape hl
  rw [hkv] at e0
  refine W_sq fun K hK => (W_text [true] (by kernel_rfl) ?_); simp only [↓List.toList_toArray, ↓rgd, ↓rgf, ↓reduceIte, Nat.reduceEqDiff, rg, ow_80]
  refine hK _ _ ?_; clear hK K
  refine W_sq fun K hK => (W_text [true] (by kernel_rfl) ?_); simp only [↓List.toList_toArray, ↓rgd, ↓rgf, ↓reduceIte, Nat.reduceEqDiff, rg, ow_80]
  refine hK _ _ ?_; clear hK K
  have q0 := pred_wrap l.length (by omega)
  refine W_seq (W_seq ?_)
  refine W_rg fun K hK => (W_text [true, true, true, true] (by kernel_rfl) ?_); simp only [↓List.toList_toArray, ↓rgd, ↓rgf, ↓reduceIte, Nat.reduceEqDiff, rg, ow_80, e0, q0]
  refine hK _ _ ?_; clear hK K
  show W _ _ _ _ _ _
  refine W_block (W_loop (fun mm e w' => mm ≤ l.length ∧ OutE Ei w.heap.size (e 3) (l.drop mm).reverse w' ∧ Ext (fun y _ => w.heap.size ≤ y) w w' ∧ e 0 = .slice ka l.length kc ∧ e 4 = .int .i64 ((mm : Int) - 1))
    l.length ⟨Nat.le_refl _, by simp only [upd_eq, Nat.reduceEqDiff, ↓reduceIte]; rw [List.drop_length]; exact OutE.nil _ _ _, Ext.refl _ _, by simp only [upd_eq, Nat.reduceEqDiff, ↓reduceIte]; exact e0, by simp only [upd_eq, Nat.reduceEqDiff, ↓reduceIte]⟩ ?_)
  clear e0 e
  rintro mm e w' ⟨hi, hO, X, e0, e4⟩
  have sX := X.size
  refine W_seq ?_
  by_cases hlt : 0 < mm
  · have ht := ge_tt mm hlt
    refine W_sq fun K hK => (W_text [true, true] (by kernel_rfl) ?_); simp only [↓List.toList_toArray, ↓rgd, ↓rgf, ↓reduceIte, Nat.reduceEqDiff, rg, ow_80, e4, ht]
    refine hK _ _ ?_; clear hK K
    refine W_true (by simp only [evt, evc, upd_eq, Nat.reduceEqDiff, ↓reduceIte, ntT, ntF] <;> rfl) (W_skip ?_)
    show W _ _ _ _ _ _
    refine W_seq (W_block ?_)
    have hil : mm - 1 < l.length := by omega
    obtain ⟨x, hx⟩ : ∃ x, l[mm - 1]? = some x := ⟨_, List.getElem?_eq_getElem hil⟩
    obtain ⟨ib, io, hka, row⟩ := SlV.at hl hkv hil
    have hibl := SlV.lt hl (hkv.trans (by rw [hka]))
    have hk := iV_at (X.row row fun _ _ h => by omega) hx
    rw [int_pred mm hlt] at e4
    rw [hka] at e0
    refine W_rg fun K hK => (W_text [true, true, true, true, true, false, false, true] (by kernel_rfl) ?_); simp only [↓List.toList_toArray, ↓rgd, ↓rgf, ↓reduceIte, Nat.reduceEqDiff, rg, ow_80, e0, e4, hil, hk]
    refine do_bsl rfl (bs_i1 x) fun w3 n3 => ⟨trivial, ?_⟩
    simp only [↓List.toList_toArray, ↓rgd, ↓rgf, ↓reduceIte, Nat.reduceEqDiff, rg, ow_80]
    have H3 := hO.ext n3.ext
    have s3 := n3.size
    have z3 : SlV w3 2 (.slice (some ⟨w'.heap.size, 0, none⟩) 1 1) 1 (Ei.cel x) := ⟨rfl, .inr ⟨_, 0, 1, rfl, Nat.le_refl _, n3.row, n3.wok.R (Nat.le_refl _)⟩⟩
    refine do_append (by simp only [evt, evc, upd_eq, Nat.reduceEqDiff, ↓reduceIte, ntT, ntF] <;> rfl) (by simp only [evt, evc, upd_eq, Nat.reduceEqDiff, ↓reduceIte, ntT, ntF] <;> rfl) el_i rfl ni_i H3.sl z3 (by simp; omega) (by decide) (Ei.one _) fun v4 w4 a4 => ⟨trivial, ?_⟩
    obtain ⟨H4, X4⟩ := H3.app a4 (by omega)
    simp only [↓List.toList_toArray, ↓rgd, ↓rgf, ↓reduceIte, Nat.reduceEqDiff, rg, ow_80]
    refine hK _ _ ?_; clear hK K
    show W _ _ _ _ _ _
    have q1 := pred_wrap (mm - 1) (by omega)
    refine W_rg fun K hK => (W_text [true, true, true] (by kernel_rfl) ?_); simp only [↓List.toList_toArray, ↓rgd, ↓rgf, ↓reduceIte, Nat.reduceEqDiff, rg, ow_80, e4, q1]
    refine hK _ _ ?_; clear hK K
    have hd : (l.drop (mm - 1)).reverse = (l.drop mm).reverse ++ [x] := by
      rw [List.drop_eq_getElem_cons hil, List.reverse_cons, show mm - 1 + 1 = mm by omega]
      congr 2
      exact (List.getElem?_eq_some_iff.1 hx).2
    refine ⟨mm - 1, by omega, by omega, by simp only [upd_eq, Nat.reduceEqDiff, ↓reduceIte]; rw [hd]; exact H4, (X.tr (n3.ext.mono fun _ _ _ h => h.elim)).tr X4, by simp only [upd_eq, Nat.reduceEqDiff, ↓reduceIte]; rw [hka]; exact e0, by simp only [upd_eq, Nat.reduceEqDiff, ↓reduceIte]⟩
  · obtain rfl : mm = 0 := by omega
    refine W_sq fun K hK => (W_text [true, true] (by kernel_rfl) ?_); simp only [↓List.toList_toArray, ↓rgd, ↓rgf, ↓reduceIte, Nat.reduceEqDiff, rg, ow_80, e4, ge_ff]
    refine hK _ _ ?_; clear hK K
    refine W_false (by simp only [evt, evc, upd_eq, Nat.reduceEqDiff, ↓reduceIte, ntT, ntF] <;> rfl) (W_exit ?_)
    simp only [andThen_exit, inBlk_exit, andThen_normal, ↓reduceIte]
    refine W_sq fun K hK => (W_text [true, true] (by kernel_rfl) ?_); simp only [↓List.toList_toArray, ↓rgd, ↓rgf, ↓reduceIte, Nat.reduceEqDiff, rg, ow_80]
    refine hK _ _ ?_; clear hK K
    exact W_ret (endQ_1 (by simp only [upd_eq, Nat.reduceEqDiff, ↓reduceIte] <;> rfl) ⟨hO.sl, noF_of (Ext.refl _ _) X fun y o hy h => by omega⟩)
set_option maxHeartbeats 800000 in
set_option maxRecDepth 8000 in
theorem sdown_any (os : Value) (ord : List Int) (l : List It) (lv : Value) (x : It) (w : World) (hO : SlInt w os ord) (hOb : ord.length ≤ 2147483647) (hl : SlI w lv l) (hbig : l.length ≤ 2147483647) (ha : Asc O (rkI ord) l) :
    CallK Try.prog 81 #[os, lv, iV x] w fun v w' => SlI w' v (l.take (ub O (rkI ord) (rkI ord x) l)).reverse ∧ Ext noF w w' := by
  obtain ⟨a, c, hlv⟩ : ∃ a c, lv = .slice a l.length c := by
    rcases hl.2 with ⟨rfl, h⟩ | ⟨b, o, cap, rfl, _⟩
    · exact ⟨none, 0, by rw [h]⟩
    · exact ⟨_, _, rfl⟩
  have hsome : ∀ i, i < l.length → ∃ b o cap, lv = .slice (some ⟨b, o, none⟩) l.length cap ∧ Row w b o (flat Ei l) ∧ b < w.heap.size := fun i hi => by
    rcases hl.2 with ⟨_, h⟩ | ⟨b, o, cap, h1, _, h2, h3⟩
    · omega
    · exact ⟨b, o, cap, h1, h2, wokR_lt h3⟩
  have hub := ub_le O (rkI ord) (rkI ord x) l
  refine calls_of_W [.tmp 6] Try.func81 rfl Try.ntmps81 Try.results81 (by simp) fun e he => ?_
  have e0 : e 0 = os := he 0 _ rfl
  have e1 : e 1 = lv := he 1 _ rfl
  have e2 : e 2 = iV x := he 2 _ rfl
  clear he
  refine W_sq fun K hK => (W_text [false, true] (by kernel_rfl) ?_); simp only [↓List.toList_toArray, ↓rgd, ↓rgf, ↓reduceIte, Nat.reduceEqDiff, rg, ow_81]
  refine do_box (by simp only [evt]; exact e2) fun w1 n1 => ⟨trivial, ?_⟩
  simp only [↓List.toList_toArray, ↓rgd, ↓rgf, ↓reduceIte, Nat.reduceEqDiff, rg, ow_81]
  refine hK _ _ ?_; clear hK K
  refine W_sq fun K hK => (W_text [true] (by kernel_rfl) ?_); simp only [↓List.toList_toArray, ↓rgd, ↓rgf, ↓reduceIte, Nat.reduceEqDiff, rg, ow_81]
  refine hK _ _ ?_; clear hK K
  have s1 := n1.size
  refine W_seq ((W_block (Q := fun ex e w' => ex = .normal ∧ e 1 = lv ∧ e 7 = .int .i64 (ub O (rkI ord) (rkI ord x) l : Nat) ∧ Ext noF w1 w') (W_loop (fun mm e w' => ∃ i : Nat, mm = l.length - i ∧ i ≤ l.length ∧ (∀ j y, j < i → l[j]? = some y → O.lt (rkI ord x) (rkI ord y) = false) ∧ e 0 = os ∧ e 1 = lv ∧ e 5 = .pointer (some ⟨w.heap.size, 0, none⟩) ∧ e 7 = .int .i64 i ∧ Ext noF w1 w')
    l.length ⟨0, by simp, by simp, fun j y h => by omega, ?_, ?_, ?_, ?_, Ext.refl _ _⟩ ?_)).mono ?_)
  · simp only [upd_eq, Nat.reduceEqDiff, ↓reduceIte]; exact e0
  · simp only [upd_eq, Nat.reduceEqDiff, ↓reduceIte]; exact e1
  · simp only [upd_eq, Nat.reduceEqDiff, ↓reduceIte]
  · simp only [upd_eq, Nat.reduceEqDiff, ↓reduceIte]; rfl
  · clear e0 e1 e2 e
    rintro mm e w' ⟨i, rfl, hi, hlow, e0, e1, e5, e7, X⟩
    have sX := X.size
    refine W_seq ?_
    by_cases hlt : i < l.length
    · have ht := lt_tt i l.length hlt
      obtain ⟨y, hy⟩ : ∃ y, l[i]? = some y := ⟨_, List.getElem?_eq_getElem hlt⟩
      obtain ⟨b, o, cap, hlv2, row, hb⟩ := hsome i hlt
      rw [hlv2] at e1
      have ix := iV_at (X.row (n1.ext.row row fun _ _ h => h) fun _ _ h => h) hy
      have bx : rdA w' w.heap.size 0 2 = some (iV x) := (X.row n1.row fun _ _ h => h).rdA 2 (by show 2 ≤ 2; omega)
      have M1 : readsB (some (some [b, w.heap.size])) b = true := by simp [readsB]
      have M2 : readsB (some (some [b, w.heap.size])) w.heap.size = true := by simp [readsB]
      refine W_sq fun K hK => (W_draw (some (some [b, w.heap.size])) none [(0, 0, 0), (0, 1, 0), (0, 2, 0), (0, 3, 0), (0, 4, 0), (0, 5, 0), (0, 6, 0), (0, 7, 0), (0, 8, 0), (0, 9, 0), (0, 10, 0), (1, 11, 0), (0, 12, 0), (0, 13, 0)] mixed (by kernel_rfl) ?_); simp only [↓List.toList_toArray, ↓rgd, ↓rgf, ↓reduceIte, Nat.reduceEqDiff, rg, ow_81, e0, e1, e5, e7, ht, hlt, ix, bx, M1, M2]
      refine do_call fn_52 (by simp only [evt, evc, upd_eq, Nat.reduceEqDiff, ↓reduceIte, maT, maC, maN, isnN, isnS] <;> rfl) (before_ord os ord x y _ (SlV.ext0 hO ((n1.ext.tr X).tr (Ext.dr noF _ _))) hOb) ?_
      rintro _ w2 ⟨rfl, x2⟩
      refine ⟨.inr (keeps_on x2 fun z hz => ⟨?_, fun _ h => h⟩), ?_⟩
      · rw [sz_dr]
        simp only [List.mem_cons, List.not_mem_nil, or_false] at hz
        omega
      simp only [↓List.toList_toArray, ↓rgd, ↓rgf, ↓reduceIte, Nat.reduceEqDiff, rg, ow_81]
      refine hK _ _ ?_; clear hK K
      have x2 := x2.od
      cases hq : O.lt (rkI ord x) (rkI ord y) with
      | false =>
        refine W_true (by simp only [evt, evc, upd_eq, Nat.reduceEqDiff, ↓reduceIte, ntT, ntF] <;> rfl) (W_skip ?_)
        show W _ _ _ _ _ _
        have q1 := wadd1 i (by omega)
        refine W_block ?_
        refine W_rg fun K hK => (W_text [true, true, true] (by kernel_rfl) ?_); simp only [↓List.toList_toArray, ↓rgd, ↓rgf, ↓reduceIte, Nat.reduceEqDiff, rg, ow_81, e7, q1]
        refine hK _ _ ?_; clear hK K
        refine ⟨_, ?_, i + 1, rfl, hlt, fun j z hj hz => ?_, ?_, ?_, ?_, ?_, X.tr x2⟩
        · omega
        · rcases Nat.lt_or_ge j i with g | g
          · exact hlow j z g hz
          · obtain rfl : j = i := by omega
            rw [hy] at hz; cases hz; exact hq
        · simp only [upd_eq, Nat.reduceEqDiff, ↓reduceIte]; exact e0
        · simp only [upd_eq, Nat.reduceEqDiff, ↓reduceIte]; rw [e1, hlv2]
        · simp only [upd_eq, Nat.reduceEqDiff, ↓reduceIte]; exact e5
        · simp only [upd_eq, Nat.reduceEqDiff, ↓reduceIte]
      | true =>
        have hu := ub_at O (rkI ord) ha hi hlow (fun z hz => by rw [hy] at hz; cases hz; exact hq)
        refine W_false (by simp only [evt, evc, upd_eq, Nat.reduceEqDiff, ↓reduceIte, ntT, ntF] <;> rfl) (W_exit ?_)
        simp only [andThen_exit, inBlk_exit, ↓reduceIte]
        refine ⟨trivial, ?_, ?_, X.tr x2⟩
        · simp only [upd_eq, Nat.reduceEqDiff, ↓reduceIte]; rw [e1, hlv2]
        · simp only [upd_eq, Nat.reduceEqDiff, ↓reduceIte]; rw [e7, hu]
    · obtain rfl : i = l.length := by omega
      have ht := lt_ff l.length l.length (by omega)
      have hu := ub_at O (rkI ord) ha (Nat.le_refl _) hlow (fun z hz => by have := (List.getElem?_eq_some_iff.1 hz).1; omega)
      rw [hlv] at e1
      refine W_sq fun K hK => (W_draw (some (some [])) none [(0, 0, 0), (0, 1, 0), (0, 2, 0), (0, 3, 0), (0, 4, 0), (0, 5, 0), (0, 6, 0), (0, 7, 0), (0, 8, 0), (0, 9, 0), (0, 10, 0), (1, 11, 0), (0, 12, 0), (0, 13, 0)] mixed (by kernel_rfl) ?_); simp only [↓List.toList_toArray, ↓rgd, ↓rgf, ↓reduceIte, Nat.reduceEqDiff, rg, ow_81, e0, e1, e5, e7, ht]
      refine hK _ _ ?_; clear hK K
      refine W_false (by simp only [evt, evc, upd_eq, Nat.reduceEqDiff, ↓reduceIte, ntT, ntF] <;> rfl) (W_exit ?_)
      simp only [andThen_exit, inBlk_exit, ↓reduceIte]
      refine ⟨trivial, ?_, ?_, X.tr (Ext.dr _ _ _)⟩
      · simp only [upd_eq, Nat.reduceEqDiff, ↓reduceIte]; rw [e1, hlv]
      · simp only [upd_eq, Nat.reduceEqDiff, ↓reduceIte]; rw [e7, hu]
  · clear e0 e1 e2 e
    rintro ex e w' ⟨rfl, e1, e7, X⟩
    show W _ _ _ _ _ _
    have X1 := n1.ext.tr X
    obtain ⟨sv, hs, hsl⟩ := sl_hi (SlV.ext0 hl X1) (ub O (rkI ord) (rkI ord x) l) hub
    have hS : SlI w' sv (l.take (ub O (rkI ord) (rkI ord x) l)) := by
      rw [SlI, List.length_take, Nat.min_eq_left hub]; exact hsl
    refine W_sq fun K hK => (W_text [true, true, true, false, true] (by kernel_rfl) ?_); simp only [↓List.toList_toArray, ↓rgd, ↓rgf, ↓reduceIte, Nat.reduceEqDiff, rg, ow_81, e1, e7, hs]
    refine do_call fn_80 (by simp only [evt, evc, upd_eq, Nat.reduceEqDiff, ↓reduceIte, maT, maC, maN, isnN, isnS] <;> rfl) (sturned_any _ sv w' hS (by rw [List.length_take]; omega)) ?_
    rintro v2 w2 ⟨hS2, X2⟩
    refine ⟨trivial, ?_⟩
    simp only [↓List.toList_toArray, ↓rgd, ↓rgf, ↓reduceIte, Nat.reduceEqDiff, rg, ow_81]
    refine hK _ _ ?_; clear hK K
    exact W_ret (endQ_1 (by simp only [upd_eq, Nat.reduceEqDiff, ↓reduceIte] <;> rfl) ⟨hS2, X1.tr X2⟩)
set_option maxHeartbeats 800000 in
set_option maxRecDepth 8000 in
theorem sgreverse (d : Nat) (ord : List Int) (sv : Value) (nl : Bool) (l : List It) (lv : Value) (n : Int) (w : World) (hs : SlInt w sv ord) (hsb : ord.length ≤ 2147483647) (hl : SlI w lv l) (hbig : l.length ≤ 2147483647) :
    CallK Try.prog 47 #[mkV sv d nl, lv, .int .i64 n] w fun v w' => SlI w' v (firstN n (treeG ord l).reverse) ∧ Ext noF w w' := by
  have htl := treeG_len ord l
  refine calls_of_W [.tmp 6] Try.func47 rfl Try.ntmps47 Try.results47 (by simp) fun e he => ?_
  have e0 : e 0 = mkV sv d nl := he 0 _ rfl
  have e1 : e 1 = lv := he 1 _ rfl
  have e2 : e 2 = .int .i64 n := he 2 _ rfl
  clear he
  refine W_sq fun K hK => (W_text [false, true] (by kernel_rfl) ?_); simp only [↓List.toList_toArray, ↓rgd, ↓rgf, ↓reduceIte, Nat.reduceEqDiff, rg, ow_47]
  refine do_box (by simp only [evt]; exact e0) fun w1 n1 => ⟨trivial, ?_⟩
  simp only [↓List.toList_toArray, ↓rgd, ↓rgf, ↓reduceIte, Nat.reduceEqDiff, rg, ow_47]
  refine hK _ _ ?_; clear hK K
  have r1 := mk_at0 (show Row w1 w.heap.size 0 (mkL sv d nl) from n1.row)
  refine W_sq fun K hK => (W_text [true, true, true, false, false, true, false, true] (by kernel_rfl) ?_); simp only [↓List.toList_toArray, ↓rgd, ↓rgf, ↓reduceIte, Nat.reduceEqDiff, rg, ow_47, e1, e2, r1]
  refine do_call fn_60 (by simp only [evt, evc, upd_eq, Nat.reduceEqDiff, ↓reduceIte, maT, maC, maN, isnN, isnS] <;> rfl) (stree_ord sv ord l lv w1 (SlV.ext0 hs n1.ext) hsb (SlV.ext0 hl n1.ext) hbig) ?_
  rintro v2 w2 ⟨hS2, X2⟩
  refine ⟨trivial, ?_⟩
  simp only [↓List.toList_toArray, ↓rgd, ↓rgf, ↓reduceIte, Nat.reduceEqDiff, rg, ow_47]
  refine do_call fn_80 (by simp only [evt, evc, upd_eq, Nat.reduceEqDiff, ↓reduceIte, maT, maC, maN, isnN, isnS] <;> rfl) (sturned_any (treeG ord l) v2 w2 hS2 (by omega)) ?_
  rintro v3 w3 ⟨hS3, X3⟩
  refine ⟨trivial, ?_⟩
  simp only [↓List.toList_toArray, ↓rgd, ↓rgf, ↓reduceIte, Nat.reduceEqDiff, rg, ow_47, e2]
  refine do_call fn_35 (by simp only [evt, evc, upd_eq, Nat.reduceEqDiff, ↓reduceIte, maT, maC, maN, isnN, isnS] <;> rfl) (first_any _ v3 n w3 hS3) ?_
  rintro v4 w4 ⟨hS4, hw4⟩
  obtain rfl : w3 = w4 := hw4.symm
  refine ⟨trivial, ?_⟩
  simp only [↓List.toList_toArray, ↓rgd, ↓rgf, ↓reduceIte, Nat.reduceEqDiff, rg, ow_47]
  refine hK _ _ ?_; clear hK K
  exact W_ret (endQ_1 (by simp only [upd_eq, Nat.reduceEqDiff, ↓reduceIte] <;> rfl) ⟨hS4, (n1.ext.tr X2).tr X3⟩)
set_option maxHeartbeats 400000 in
set_option maxRecDepth 8000 in
theorem sgdescend (d : Nat) (ord : List Int) (sv : Value) (nl : Bool) (l : List It) (lv : Value) (q : It) (n : Int) (w : World) (hs : SlInt w sv ord) (hsb : ord.length ≤ 2147483647) (hl : SlI w lv l) (hbig : l.length ≤ 2147483647) :
    CallK Try.prog 48 #[mkV sv d nl, lv, iV q, .int .i64 n] w fun v w' => SlI w' v (firstN n (((treeG ord l).take (ub O (rkI ord) (rkI ord q) (treeG ord l))).reverse)) ∧ Ext noF w w' := by
  refine calls_of_W [.tmp 8] Try.func48 rfl Try.ntmps48 Try.results48 (by simp) fun e he => ?_
  have e0 : e 0 = mkV sv d nl := he 0 _ rfl
  have e1 : e 1 = lv := he 1 _ rfl
  have e2 : e 2 = iV q := he 2 _ rfl
  have e3 : e 3 = .int .i64 n := he 3 _ rfl
  clear he
  have htl := treeG_len ord l
  refine W_sq fun K hK => (W_text [false, false, true] (by kernel_rfl) ?_); simp only [↓List.toList_toArray, ↓rgd, ↓rgf, ↓reduceIte, Nat.reduceEqDiff, rg, ow_48]
  refine do_box (by simp only [evt]; exact e0) fun w0 n0 => ⟨trivial, ?_⟩
  simp only [↓List.toList_toArray, ↓rgd, ↓rgf, ↓reduceIte, Nat.reduceEqDiff, rg, ow_48]
  refine do_box (by simp only [evt, upd_eq, Nat.reduceEqDiff, ↓reduceIte]; exact e2) fun wq nq => ⟨trivial, ?_⟩
  simp only [↓List.toList_toArray, ↓rgd, ↓rgf, ↓reduceIte, Nat.reduceEqDiff, rg, ow_48]
  refine hK _ _ ?_; clear hK K
  have s0 := n0.size
  have sq := nq.size
  have X0 := n0.ext.tr nq.ext
  have r1 := mk_at0 (nq.ext.row (show Row w0 w.heap.size 0 (mkL sv d nl) from n0.row) fun _ _ h => h)
  have iq := iXi_at (show Row wq w0.heap.size 0 (Ei.cel q) from nq.row)
  have M1 : readsB (some (some [w.heap.size, w0.heap.size])) w.heap.size = true := by simp [readsB]
  have M2 : readsB (some (some [w.heap.size, w0.heap.size])) w0.heap.size = true := by simp [readsB]
  refine W_sq fun K hK => (W_free (some (some [w.heap.size, w0.heap.size])) (.take 0 (.take 1 (.take 2 (.take 3 (.take 4 (.take 6 (.take 8 (.act 5 (.act 7 (.bar 9 (.take 10 .nil))))))))))) mixed (by kernel_rfl) ?_); simp only [↓List.toList_toArray, ↓rgd, ↓rgf, ↓reduceIte, Nat.reduceEqDiff, rg, ow_48, e1, e3, r1, iq, M1, M2]
  refine do_call fn_60 (by simp only [evt, evc, upd_eq, Nat.reduceEqDiff, ↓reduceIte, maT, maC, maN, isnN, isnS] <;> rfl) (stree_ord sv ord l lv _ (SlV.ext0 hs (X0.tr (Ext.dr _ _ _))) hsb (SlV.ext0 hl (X0.tr (Ext.dr _ _ _))) hbig) ?_
  rintro v2 w2 ⟨hS2, X2⟩
  refine ⟨.inr (keeps_on X2 fun y hy => ⟨?_, fun _ g => g⟩), ?_⟩
  · rw [sz_dr]
    simp only [List.mem_cons, List.not_mem_nil, or_false] at hy
    omega
  have X2 := X2.od
  have s2 := X2.size
  have X02 := X0.tr X2
  simp only [↓List.toList_toArray, ↓rgd, ↓rgf, ↓reduceIte, Nat.reduceEqDiff, rg, ow_48]
  refine do_call fn_81 (by simp only [evt, evc, upd_eq, Nat.reduceEqDiff, ↓reduceIte, maT, maC, maN, isnN, isnS] <;> rfl) (sdown_any sv ord (treeG ord l) v2 q w2 (SlV.ext0 hs X02) hsb hS2 (by omega) (treeG_asc ord l)) ?_
  rintro v3 w3 ⟨hS3, X3⟩
  refine ⟨.inr (keeps_on X3 fun y hy => ⟨?_, fun _ g => g⟩), ?_⟩
  · simp only [List.mem_cons, List.not_mem_nil, or_false] at hy
    omega
  simp only [↓List.toList_toArray, ↓rgd, ↓rgf, ↓reduceIte, Nat.reduceEqDiff, rg, ow_48, e3]
  refine do_call fn_35 (by simp only [evt, evc, upd_eq, Nat.reduceEqDiff, ↓reduceIte, maT, maC, maN, isnN, isnS] <;> rfl) (first_any _ v3 n w3 hS3) ?_
  rintro v4 w4 ⟨hS4, hw4⟩
  obtain rfl : w3 = w4 := hw4.symm
  refine ⟨trivial, ?_⟩
  simp only [↓List.toList_toArray, ↓rgd, ↓rgf, ↓reduceIte, Nat.reduceEqDiff, rg, ow_48]
  refine hK _ _ ?_; clear hK K
  exact W_ret (endQ_1 (by simp only [upd_eq, Nat.reduceEqDiff, ↓reduceIte] <;> rfl) ⟨hS4, X02.tr X3⟩)
end Go.Proofs.Ytanmjbkbdmeckaa
/-
  Regions by a plan, once more: where all operations that read the heap wait for an operation or it for them, the heap may change at it at will. For whatever program. No condition.
-/
set_option linter.unusedSimpArgs false
set_option linter.unusedVariables false
namespace Go.Proofs.Ytanmjbkbdmeckaa
open Go
/-- What the operation yields does not depend on the heap. -/
def pureOp (P : Program) : Op → Bool
  | .move _ => true
  | .assign _ => true
  | .pick _ _ _ => true
  | .nilCheck _ => true
  | .binOp _ _ _ _ _ => true
  | .unOp .not _ _ => true
  | .slice _ _ _ _ _ => true
  | .fieldAddr T _ f => (fOff P T f).isSome
  | .indexAddr _ _ _ => true
  | .extract _ _ => true
  | _ => false
theorem pure_tk {P : Program} {H H' : Hold} {e : Env} {w w' : World} {op : Op} (h : pureOp P op = true) : tkOp P H e w op = tkOp P H' e w' op := by
  cases op with
  | fieldAddr T x f =>
    obtain ⟨o, ho⟩ := Option.isSome_iff_exists.1 (show (fOff P T f).isSome = true from h)
    simp only [tkOp, foZ, ho]
  | unOp k T x => cases k <;> first | rfl | cases h
  | _ => first | rfl | cases h
/-- What f waits for, of those from f - k on. -/
def ancs (ops : Array Oper) (f : Nat) : Nat → List Nat
  | 0 => [f]
  | k + 1 => let L := ancs ops f k; if L.any (fun j => waitsOn ops j (f - (k + 1))) then (f - (k + 1)) :: L else L
/-- What waits for f, of those up to f + k. -/
def descs (ops : Array Oper) (f : Nat) : Nat → List Nat
  | 0 => [f]
  | k + 1 => let L := descs ops f k; if L.any (fun j => waitsOn ops (f + (k + 1)) j) then (f + (k + 1)) :: L else L
def semiOk (P : Program) (ops : Array Oper) (f : Nat) : Bool :=
  decide (f < ops.size) && (let A := ancs ops f f; let D := descs ops f (ops.size - f); (List.range ops.size).all fun i => i == f || A.contains i || D.contains i || (ops[i]?).any fun o => pureOp P o.op)
inductive Anc (ops : Array Oper) (f : Nat) : Nat → Prop
  | self : Anc ops f f
  | step {j i : Nat} : Anc ops f j → waitsOn ops j i = true → Anc ops f i
inductive Desc (ops : Array Oper) (f : Nat) : Nat → Prop
  | self : Desc ops f f
  | step {j i : Nat} : Desc ops f j → waitsOn ops i j = true → Desc ops f i
theorem ancs_spec {ops : Array Oper} {f : Nat} : ∀ (k i : Nat), i ∈ ancs ops f k → Anc ops f i
  | 0, i, h => by
    simp only [ancs, List.mem_singleton] at h
    subst h; exact .self
  | k + 1, i, h => by
    simp only [ancs] at h
    split at h
    · rename_i hc
      rcases List.mem_cons.1 h with rfl | h
      · obtain ⟨j, hj, hw⟩ := List.any_eq_true.1 hc
        exact .step (ancs_spec k j hj) hw
      · exact ancs_spec k i h
    · exact ancs_spec k i h
theorem descs_spec {ops : Array Oper} {f : Nat} : ∀ (k i : Nat), i ∈ descs ops f k → Desc ops f i
  | 0, i, h => by
    simp only [descs, List.mem_singleton] at h
    subst h; exact .self
  | k + 1, i, h => by
    simp only [descs] at h
    split at h
    · rename_i hc
      rcases List.mem_cons.1 h with rfl | h
      · obtain ⟨j, hj, hw⟩ := List.any_eq_true.1 hc
        exact .step (descs_spec k j hj) hw
      · exact descs_spec k i h
    · exact descs_spec k i h
theorem anc_ahead {ops : Array Oper} {f : Nat} {listed : Array Bool} (hc : ClosedUp ops listed) (hr : f ∈ Region.ready .any ops listed) {i : Nat} (h : Anc ops f i) (hu : listed.getD i false = false) : i = f := by
  induction h with
  | self => rfl
  | @step j i hj hw ih =>
    cases hl : listed.getD j false with
    | true =>
      have := waits_listed hc (.inr hl) hw
      rw [hu] at this; cases this
    | false =>
      obtain rfl := ih hl
      have := waits_listed hc (.inl hr) hw
      rw [hu] at this; cases this
theorem desc_behind {ops : Array Oper} {f : Nat} {listed : Array Bool} (hc : ClosedUp ops listed) (hf : f ∈ Region.ready .any ops listed) {i : Nat} (h : Desc ops f i) (hr : i ∈ Region.ready .any ops listed ∨ listed.getD i false = true) : i = f := by
  have key : i = f ∨ listed.getD f false = true := by
    induction h with
    | self => exact .inl rfl
    | @step j i hj hw ih =>
      have hl := waits_listed hc hr hw
      rcases ih (.inr hl) with rfl | h
      · exact .inr hl
      · exact .inr h
  rcases key with h | h
  · exact h
  · exact (listed_unready h hf).elim
theorem semi_spec {P : Program} {ops : Array Oper} {f i : Nat} {o : Oper} (h : semiOk P ops f = true) (hi : ops[i]? = some o) : i = f ∨ Anc ops f i ∨ Desc ops f i ∨ pureOp P o.op = true := by
  simp only [semiOk, Bool.and_eq_true, decide_eq_true_eq, List.all_eq_true, List.mem_range, Bool.or_eq_true, beq_iff_eq] at h
  rcases h.2 i (Array.getElem?_eq_some_iff.1 hi).1 with ((h | h) | h) | h
  · exact .inl h
  · exact .inr (.inl (ancs_spec _ _ (by simpa using h)))
  · exact .inr (.inr (.inl (descs_spec _ _ (by simpa using h))))
  · rw [hi] at h; exact .inr (.inr (.inr h))
/-- Of those that are marked, f waits for each, or each for f. -/
def linkOk (ops : Array Oper) (sd : List Nat) (f : Nat) : Bool :=
  let A := ancs ops f f; let D := descs ops f (ops.size - f); sd.all fun i => i == f || A.contains i || D.contains i
theorem link_spec {ops : Array Oper} {sd : List Nat} {f i : Nat} (h : linkOk ops sd f = true) (hi : sd.contains i = true) : i = f ∨ Anc ops f i ∨ Desc ops f i := by
  simp only [linkOk, List.all_eq_true, Bool.or_eq_true, beq_iff_eq] at h
  rcases h i (by simpa using hi) with (h | h) | h
  · exact .inl h
  · exact .inr (.inl (ancs_spec _ _ (by simpa using h)))
  · exact .inr (.inr (descs_spec _ _ (by simpa using h)))
section
variable {P : Program} {ops : Array Oper} {Q : Exit → Act → World → Prop} {R : World → World → Prop} {sd : List Nat}
def wpM (P : Program) (ops : Array Oper) (Q : Exit → Act → World → Prop) (R : World → World → Prop) (sd : List Nat) : Nat → Array Bool → World → Act → World → Prop
  | 0, listed, _, a, w => Region.ready .any ops listed = [] ∧ Q .normal a w
  | fuel + 1, listed, w0, a, w =>
    (Region.ready .any ops listed = [] → Q .normal a w) ∧
    ∀ i ∈ Region.ready .any ops listed, wpOp P ops Q i (fun a' w' => (semiOk P ops i = true ∧ wpM P ops Q R sd fuel (listed.setIfInBounds i true) w' a' w') ∨
      ((linkOk ops sd i = true ∨ w'.heap = w.heap) ∧ R w0 w' ∧ wpM P ops Q R sd fuel (listed.setIfInBounds i true) w0 a' w')) a w
theorem wpAny_of_wpM : ∀ (fuel : Nat) (listed : Array Bool) (w0 : World) (a : Act) (w : World), wpM P ops Q R sd fuel listed w0 a w → wpAny P .any ops Q fuel listed a w
  | 0, _, _, _, _, h => h
  | fuel + 1, _, _, _, _, h => ⟨h.1, fun i hi => wpOp_mono (fun a' w' h' => h'.elim (fun h => wpAny_of_wpM fuel _ _ a' w' h.2) fun h => wpAny_of_wpM fuel _ _ a' w' h.2.2) (h.2 i hi)⟩
/-- In which worlds an operation that is pending must yield its value. -/
def Tol (P : Program) (R : World → World → Prop) (sd : List Nat) (o : Oper) (i : Nat) (w0 w u : World) : Prop := pureOp P o.op = true ∨ (sd.contains i = true ∧ u.heap = w.heap) ∨ (sd.contains i = false ∧ R w0 u)
theorem Gives.mono {S S' : World → Prop} {o : Oper} {v : Value} {a : Act} (h : Gives P ops S o v a) (hS : ∀ u, S' u → S u) : Gives P ops S' o v a := h.imp (fun ⟨h1, h2⟩ => ⟨h1, fun w hw => h2 w (hS w hw)⟩) id
theorem wpM_first {i : Nat} {oi : Oper} {v : Value} (hi : ops[i]? = some oi) (hR : ∀ w, R w w)
    (hsel : ∀ (j : Nat) (o : Oper) cs b, ops[j]? = some o → o.op ≠ .select cs b) (hQ : ∀ c a w, ¬ Q (.panic c) a w) :
    ∀ (fuel : Nat) (listed : Array Bool) (w0 : World) (a : Act) (w : World), ClosedUp ops listed →
      (∀ j oj, ops[j]? = some oj → j ≠ i → listed.getD j true = false → (∀ e ∈ oj.after, Region.binds .any e = true → e.on ≠ i) → oi.apart ops oj = true) →
      i ∈ Region.ready .any ops listed → Gives P ops (Tol P R sd oi i w0 w) oi v a → R w0 w →
      wpM P ops Q R sd fuel (listed.setIfInBounds i true) w0 (a.put oi.dst v) w → wpM P ops Q R sd (fuel + 1) listed w0 a w := by
  have here : ∀ {w0 w : World}, R w0 w → Tol P R sd oi i w0 w w := fun h => by
    cases hs : sd.contains i with
    | true => exact .inr (.inl ⟨hs, rfl⟩)
    | false => exact .inr (.inr ⟨hs, h⟩)
  intro fuel
  induction fuel with
  | zero =>
    intro listed w0 a w _ _ hr hy hS H
    refine ⟨fun h => (by rw [h] at hr; cases hr), fun j hj => ?_⟩
    by_cases hji : j = i
    · subst hji; exact hy.wpOp hi (here hS) (.inr ⟨.inr rfl, hS, H⟩)
    · have := ready_mono hj hji
      rw [H.1] at this
      cases this
  | succ fuel ih =>
    intro listed w0 a w hc hfree hr hy hS H
    refine ⟨fun h => (by rw [h] at hr; cases hr), fun j hj => ?_⟩
    by_cases hji : j = i
    · subst hji; exact hy.wpOp hi (here hS) (.inr ⟨.inr rfl, hS, H⟩)
    · have h1 := H.2 j (ready_mono hj hji)
      obtain ⟨hjun, oj, hoj, hall⟩ := mem_ready.1 hj
      have hiun := (mem_ready.1 hr).1
      have his : i < ops.size := (Array.getElem?_eq_some_iff.1 hi).1
      have hnot : ∀ e ∈ oj.after, Region.binds .any e = true → e.on ≠ i := fun e he hb heq => by
        have h1 := hall e he hb
        rw [heq, getD_tf hiun] at h1
        cases h1
      have h2 := wpOp_before hoj (hfree j oj hoj hji hjun hnot) (fun cs b => hsel i oi cs b hi) (fun cs b => hsel j oj cs b hoj) hQ hy h1
      have hfree' : ∀ k ok, ops[k]? = some ok → k ≠ i → (listed.setIfInBounds j true).getD k true = false → (∀ e ∈ ok.after, Region.binds .any e = true → e.on ≠ i) → oi.apart ops ok = true := fun k ok hk hki hun hno => by
        refine hfree k ok hk hki ?_ hno
        by_cases hjk : j = k
        · subst hjk; exact hjun
        · rw [getD_set_ne true hjk] at hun; exact hun
      have apartL : ¬ (i = j ∨ Anc ops j i ∨ Desc ops j i) := fun h => by
        rcases h with h | h | h
        · exact hji h.symm
        · exact hji (anc_ahead hc hj h (getD_tf hiun)).symm
        · exact hji (desc_behind hc hj h (.inl hr)).symm
      refine wpOp_mono (fun a' w' h3 => ?_) h2
      rcases h3.2 with ⟨hb, hrest⟩ | ⟨hl, hS', hrest⟩
      · refine .inl ⟨hb, ih (listed.setIfInBounds j true) w' a' w' (hc.set hj) hfree' (ready_mono hr (Ne.symm hji)) (h3.1.mono fun u _ => .inl ?_) (hR _) ?_⟩
        · rcases semi_spec hb hi with h | h | h | h
          · exact (apartL (.inl h)).elim
          · exact (apartL (.inr (.inl h))).elim
          · exact (apartL (.inr (.inr h))).elim
          · exact h
        · rw [Array.setIfInBounds_comm _ _ hji]
          exact hrest
      · refine .inr ⟨hl, hS', ih (listed.setIfInBounds j true) w0 a' w' (hc.set hj) hfree' (ready_mono hr (Ne.symm hji)) (h3.1.mono fun u hu => ?_) hS' ?_⟩
        · rcases hu with hu | ⟨hu, hh⟩ | hu
          · exact .inl hu
          · rcases hl with hl | hl
            · exact (apartL (link_spec hl hu)).elim
            · exact .inr (.inl ⟨hu, hh.trans hl⟩)
          · exact .inr (.inr hu)
        · rw [Array.setIfInBounds_comm _ _ hji]
          exact hrest
end
/-- A plan: an operation is taken (true: all that write wait for it or it for them); is carried out; is carried out, and all that read wait for it or it for them; two may come up. -/
inductive PM where
  | nil
  | take (s : Bool) (i : Nat) (r : PM)
  | act (i : Nat) (r : PM)
  | bar (i : Nat) (r : PM)
  | split (i : Nat) (r : PM) (j : Nat) (s : PM)
def sdOf : PM → List Nat
  | .nil => []
  | .take true i r => i :: sdOf r
  | .take false _ r => sdOf r
  | .act _ r => sdOf r
  | .bar _ r => sdOf r
  | .split _ r _ s => sdOf r ++ sdOf s
def ptOkM (P : Program) (ops : Array Oper) (sd : List Nat) : PM → Array Bool → Bool
  | .nil, listed => (Region.ready .any ops listed).isEmpty
  | .take s i r, listed => (s == sd.contains i) && (Region.ready .any ops listed).contains i && Region.free .any ops listed i && ptOkM P ops sd r (listed.setIfInBounds i true)
  | .act i r, listed => decide (Region.ready .any ops listed = [i]) && linkOk ops sd i && ptOkM P ops sd r (listed.setIfInBounds i true)
  | .bar i r, listed => decide (Region.ready .any ops listed = [i]) && semiOk P ops i && ptOkM P ops sd r (listed.setIfInBounds i true)
  | .split i r j s, listed => decide (Region.ready .any ops listed = [i, j]) && linkOk ops sd i && linkOk ops sd j && ptOkM P ops sd r (listed.setIfInBounds i true) && ptOkM P ops sd s (listed.setIfInBounds j true)
def ptM : PM → Nat → Bool
  | .nil, n => n == 0
  | .take _ _ r, n => n != 0 && ptM r (n - 1)
  | .act _ r, n => n != 0 && ptM r (n - 1)
  | .bar _ r, n => n != 0 && ptM r (n - 1)
  | .split _ r _ s, n => n != 0 && ptM r (n - 1) && ptM s (n - 1)
def regOkM (P : Program) (n : Nat) (ops : Array Oper) (pl : PM) : Bool :=
  Region.noSelect ops && dstsOk n ops && ptM pl ops.size && (let sd := sdOf pl; ptOkM P ops sd pl (Array.replicate ops.size false))
def WPM (P : Program) (ops : Array Oper) (H : Hold) (Q : Post) : PM → Env → World → Prop
  | .nil, e, w => Q .normal e w
  | .take true i r, e, w => withOp ops i (TakeO P ops (some none) (WPM P ops H Q r) e w)
  | .take false i r, e, w => withOp ops i (TakeO P ops H (WPM P ops H Q r) e w)
  | .act i r, e, w => DoAt P ops H none i (WPM P ops H Q r) e w
  | .bar i r, e, w => DoB P ops i (WPM P ops H Q r) e w
  | .split i r j s, e, w => DoAt P ops H none i (WPM P ops H Q r) e w ∧ DoAt P ops H none j (WPM P ops H Q s) e w
section
variable {P : Program} {ops : Array Oper} {n : Nat} {Q : Post} {sd : List Nat}
theorem wpM_of_plan {H : Hold} (hsel : Region.noSelect ops = true) (hd : dstsOk n ops = true) (hH : ∀ a b c, keeps H a b → keeps H b c → keeps H a c) :
    ∀ (pl : PM) (k : Nat) (listed : Array Bool) (w0 : World) (e : Env) (a : Act) (w : World), ptM pl k = true → Fr n e a → ClosedUp ops listed → ptOkM P ops sd pl listed = true → keeps H w0 w →
      WPM P ops H Q pl e w → wpM P ops (lift n Q) (keeps H) sd k listed w0 a w
  | .nil, k, listed, w0, e, a, w, hn, ha, _, hok, _, h => by
    obtain rfl : k = 0 := by simpa [ptM] using hn
    exact ⟨by simpa [ptOkM] using hok, e, ha, trivial, h⟩
  | .take s i r, 0, listed, w0, e, a, w, hn, ha, hc, hok, hk, h => by simp [ptM] at hn
  | .act i r, 0, listed, w0, e, a, w, hn, ha, hc, hok, hk, h => by simp [ptM] at hn
  | .bar i r, 0, listed, w0, e, a, w, hn, ha, hc, hok, hk, h => by simp [ptM] at hn
  | .split i r j s, 0, listed, w0, e, a, w, hn, ha, hc, hok, hk, h => by simp [ptM] at hn
  | .take s i r, k + 1, listed, w0, e, a, w, hn, ha, hc, hok, hk, h => by
    obtain ⟨o, ho, h⟩ : withOp ops i (TakeO P ops (if s = true then some none else H) (WPM P ops H Q r) e w) := by cases s <;> exact h
    have hn' : ptM r k = true := by simpa [ptM] using hn
    simp only [ptOkM, Bool.and_eq_true, beq_iff_eq] at hok
    obtain ⟨⟨⟨hs, hr⟩, hf⟩, hok⟩ := hok
    have hr' : i ∈ Region.ready .any ops listed := by simpa using hr
    have go : ∀ v, Gives P ops (Tol P (keeps H) sd o i w0 w) o v a → WPM P ops H Q r (updO e o.dst v) w →
        wpM P ops (lift n Q) (keeps H) sd (k + 1) listed w0 a w := fun v hg hw =>
      wpM_first ho (keeps_refl H) (Region.noSelect_spec hsel) lift_panic k listed w0 a w hc (Region.free_spec ho hf) hr' hg hk
        (wpM_of_plan hsel hd hH r k _ _ _ _ _ hn' (ha.put (dst_lt hd ho) v) (hc.set hr') hok hk hw)
    rcases guardE_cases h with ⟨hw, v, hv, hrest⟩ | ⟨hw, hrest⟩
    · refine go v (.inl ⟨wanted_of ha hd hw, fun w' hk2 => ?_⟩) hrest
      rw [ha.eval]
      rcases hk2 with hp | ⟨h1, h2⟩ | ⟨h1, h2⟩
      · rw [pure_tk (H' := some (some [])) (w' := w) hp] at hv
        exact tk_sound hv fun b hb => by simp [readsB] at hb
      · exact tk_sound hv fun b _ => by rw [h2]
      · rw [h1] at hs
        subst hs
        exact tk_sound hv fun b hb => (keeps_reads h2 hb).trans (keeps_reads hk hb).symm
    · exact go undef (.inr ⟨unwanted_of ha hd hw, rfl⟩) hrest
  | .act i r, k + 1, listed, w0, e, a, w, hn, ha, hc, hok, hk, h => by
    have hn' : ptM r k = true := by simpa [ptM] using hn
    simp only [ptOkM, Bool.and_eq_true, decide_eq_true_eq] at hok
    obtain ⟨⟨hr, hl⟩, hok⟩ := hok
    have hr' : i ∈ Region.ready .any ops listed := by rw [hr]; simp
    refine ⟨fun h0 => (by rw [h0] at hr; cases hr), fun j hj => ?_⟩
    obtain rfl : j = i := by rw [hr] at hj; simpa using hj
    refine wpOp_of_doAt ha hd h fun e' a' w' ha' hkk hrest => ?_
    have hk1 := hH _ _ _ hk (hkk.resolve_left (by simp))
    exact .inr ⟨.inl hl, hk1, wpM_of_plan hsel hd hH r k _ _ _ _ _ hn' ha' (hc.set hr') hok hk1 hrest⟩
  | .bar i r, k + 1, listed, w0, e, a, w, hn, ha, hc, hok, hk, h => by
    have hn' : ptM r k = true := by simpa [ptM] using hn
    simp only [ptOkM, Bool.and_eq_true, decide_eq_true_eq] at hok
    obtain ⟨⟨hr, hb⟩, hok⟩ := hok
    have hr' : i ∈ Region.ready .any ops listed := by rw [hr]; simp
    refine ⟨fun h0 => (by rw [h0] at hr; cases hr), fun j hj => ?_⟩
    obtain rfl : j = i := by rw [hr] at hj; simpa using hj
    refine wpOp_of_doB ha hd h fun e' a' w' ha' hrest => .inl ⟨hb, ?_⟩
    exact wpM_of_plan hsel hd hH r k _ _ _ _ _ hn' ha' (hc.set hr') hok (keeps_refl _ _) hrest
  | .split i r j s, k + 1, listed, w0, e, a, w, hn, ha, hc, hok, hk, h => by
    have hn' : ptM r k = true ∧ ptM s k = true := by simpa [ptM] using hn
    simp only [ptOkM, Bool.and_eq_true, decide_eq_true_eq] at hok
    obtain ⟨⟨⟨⟨hr, hl1⟩, hl2⟩, hok1⟩, hok2⟩ := hok
    have hi' : i ∈ Region.ready .any ops listed := by rw [hr]; simp
    have hj' : j ∈ Region.ready .any ops listed := by rw [hr]; simp
    refine ⟨fun h0 => (by rw [h0] at hr; cases hr), fun m hm => ?_⟩
    rw [hr] at hm
    rcases List.mem_cons.1 hm with rfl | hm
    · refine wpOp_of_doAt ha hd h.1 fun e' a' w' ha' hkk hrest => ?_
      have hk1 := hH _ _ _ hk (hkk.resolve_left (by simp))
      exact .inr ⟨.inl hl1, hk1, wpM_of_plan hsel hd hH r k _ _ _ _ _ hn'.1 ha' (hc.set hi') hok1 hk1 hrest⟩
    · obtain rfl : m = j := by simpa using hm
      refine wpOp_of_doAt ha hd h.2 fun e' a' w' ha' hkk hrest => ?_
      have hk1 := hH _ _ _ hk (hkk.resolve_left (by simp))
      exact .inr ⟨.inl hl2, hk1, wpM_of_plan hsel hd hH s k _ _ _ _ _ hn'.2 ha' (hc.set hj') hok2 hk1 hrest⟩
/-- A region that draws its order, by a plan with branches; barriers concern the heap alone, and what is linked with all that write needs no hold. -/
theorem W_semi (H : Hold) (pl : PM) {id : Nat} {e : Env} {w : World} (hm : P.follows .mixedOrders = true)
    (hok : regOkM P n ops pl = true) (h : WPM P ops H Q pl e w.drew) : W P n (.region id ops true) Q e w := by
  intro a ha
  simp only [regOkM, Bool.and_eq_true] at hok
  obtain ⟨⟨⟨hsel, hd⟩, hlen⟩, hok⟩ := hok
  refine wp_region_any hm ?_
  have hc : ClosedUp ops (Array.replicate ops.size false) := ⟨by simp, fun j oj _ hl => by
    rcases Nat.lt_or_ge j ops.size with h | h
    · simp [h] at hl
    · simp [h] at hl⟩
  exact wpAny_of_wpM _ _ _ _ _ (wpM_of_plan hsel hd (keeps_trans H) pl _ _ w.drew e a w.drew hlen ha hc hok (keeps_refl _ _) h)
end
theorem rgm :
    (∀ {P : Program} {ops : Array Oper} {H : Hold} {Q : Post} {e : Env} {w : World}, WPM P ops H Q .nil e w = Q Exit.normal e w) ∧
    (∀ {P : Program} {ops : Array Oper} {H : Hold} {Q : Post} {e : Env} {w : World} (i : Nat) (r : PM), WPM P ops H Q (.take true i r) e w = withOp ops i (TakeO P ops (some none) (WPM P ops H Q r) e w)) ∧
    (∀ {P : Program} {ops : Array Oper} {H : Hold} {Q : Post} {e : Env} {w : World} (i : Nat) (r : PM), WPM P ops H Q (.take false i r) e w = withOp ops i (TakeO P ops H (WPM P ops H Q r) e w)) ∧
    (∀ {P : Program} {ops : Array Oper} {H : Hold} {Q : Post} {e : Env} {w : World} (i : Nat) (r : PM), WPM P ops H Q (.act i r) e w = DoAt P ops H none i (WPM P ops H Q r) e w) ∧
    (∀ {P : Program} {ops : Array Oper} {H : Hold} {Q : Post} {e : Env} {w : World} (i : Nat) (r : PM), WPM P ops H Q (.bar i r) e w = DoB P ops i (WPM P ops H Q r) e w) ∧
    (∀ {P : Program} {ops : Array Oper} {H : Hold} {Q : Post} {e : Env} {w : World} (i j : Nat) (r s : PM), WPM P ops H Q (.split i r j s) e w = (DoAt P ops H none i (WPM P ops H Q r) e w ∧ DoAt P ops H none j (WPM P ops H Q s) e w)) :=
  ⟨id (Eq.trans rfl rfl), fun _ _ => id (Eq.trans rfl rfl), fun _ _ => id (Eq.trans rfl rfl), fun _ _ => id (Eq.trans rfl rfl), fun _ _ => id (Eq.trans rfl rfl), fun _ _ _ _ => id (Eq.trans rfl rfl)⟩
end Go.Proofs.Ytanmjbkbdmeckaa
/-
  A slice that a cell holds: what appends, insertions, removals and settings leave of it. For whatever program. No condition.
-/
set_option linter.unusedSimpArgs false
set_option linter.unusedVariables false
namespace Go.Proofs.Ytanmjbkbdmeckaa
open Go
/-- Pointers to blocks as elements. -/
def Ep : Enc Nat where
  cel b := [ptr b]
  sz := 1
  len _ := rfl
  one b v hv := by simp at hv; subst hv; rfl
  pos := by decide
theorem flat_Ep (l : List Nat) : flat Ep l = l.map ptr := by
  induction l with
  | nil => rfl
  | cons x l ih => rw [flat_cons, ih]; rfl
section
variable {α : Type} {E : Enc α}
structure SE (E : Enc α) (w : World) (hb ho : Nat) (ks : List α) (bi oi cap : Nat) : Prop where
  hd : rd w hb ho = some (.slice (some ⟨bi, oi, none⟩) ks.length cap)
  row : Row w bi oi (flat E ks)
  wi : wok w bi (oi + cap * E.sz)
  le : ks.length ≤ cap
  hok : wok w hb (ho + 1)
  ne : bi ≠ hb
/-- The slice's own cells: the one that holds it, and its room. -/
def seF (E : Enc α) (hb ho bi oi cap : Nat) : Nat → Nat → Prop := fun y o => (y = hb ∧ o = ho) ∨ rng bi oi (cap * E.sz) y o
theorem SE.ext {w w' : World} {G : Nat → Nat → Prop} {hb ho bi oi cap : Nat} {ks : List α} (h : SE E w hb ho ks bi oi cap) (x : Ext G w w') (hG : ∀ y o, seF E hb ho bi oi cap y o → ¬ G y o) : SE E w' hb ho ks bi oi cap :=
  ⟨x.rd h.hd (hG _ _ (.inl ⟨rfl, rfl⟩)), x.row h.row fun i hi => hG _ _ (.inr ⟨rfl, by omega, by rw [flat_length] at hi; have := Nat.mul_le_mul_right E.sz h.le; omega⟩), x.wok h.wi, h.le, x.wok h.hok, h.ne⟩
theorem SE.ext0 {w w' : World} {hb ho bi oi cap : Nat} {ks : List α} (h : SE E w hb ho ks bi oi cap) (x : Ext noF w w') : SE E w' hb ho ks bi oi cap := h.ext x fun _ _ _ g => g
theorem SE.lt {w : World} {hb ho bi oi cap : Nat} {ks : List α} (h : SE E w hb ho ks bi oi cap) : hb < w.heap.size ∧ bi < w.heap.size := ⟨wok_lt h.hok, wok_lt h.wi⟩
theorem SE.slV {w : World} {hb ho bi oi cap : Nat} {ks : List α} (h : SE E w hb ho ks bi oi cap) : SlV w E.sz (.slice (some ⟨bi, oi, none⟩) ks.length cap) ks.length (flat E ks) :=
  ⟨flat_length _ _, .inr ⟨bi, oi, cap, rfl, h.le, h.row, h.wi.R (Nat.le_refl _)⟩⟩
/-- An append, whose slice is stored again. -/
theorem SE.app {w w1 w2 : World} {hb ho bi oi cap m : Nat} {ks ls : List α} {v' : Value} (h : SE E w hb ho ks bi oi cap) (hm : ls.length = m) (a : AppRes w E.sz (.slice (some ⟨bi, oi, none⟩) ks.length cap) ks.length m (flat E ks) (flat E ls) v' w1)
    (x : Ext (rng hb ho 1) w1 w2) (r : rd w2 hb ho = some v') :
    ∃ bi' oi' cap', v' = .slice (some ⟨bi', oi', none⟩) (ks.length + m) cap' ∧ SE E w2 hb ho (ks ++ ls) bi' oi' cap' ∧ Ext (seF E hb ho bi oi cap) w w2 ∧ ((bi' = bi ∧ oi' = oi ∧ cap' = cap) ∨ (bi' = w.heap.size ∧ w.heap.size < w2.heap.size)) := by
  subst hm
  obtain ⟨hs, hc⟩ := a
  have hbl := wok_lt h.hok
  have hbil := wok_lt h.wi
  have hne := h.ne
  have hlen : (ks ++ ls).length = ks.length + ls.length := List.length_append
  rcases hc with ⟨_, _, h3⟩ | ⟨b0, o0, cap0, h1, h2, h3, h4, h5⟩ | ⟨cap', h1, h2, h3, h4⟩
  · cases h3
  · simp only [Value.slice.injEq, Option.some.injEq, Addr.mk.injEq, true_and, and_true] at h1
    obtain ⟨⟨rfl, rfl⟩, rfl⟩ := h1
    subst h2
    have hw1 := h3.wok h.wi
    have hr : Row w1 bi oi (flat E (ks ++ ls)) := by
      rw [flat_append]
      rcases hs.2 with ⟨h, _⟩ | ⟨b1, o1, c1, h1, hle, hr, hw⟩
      · cases h
      · simp only [Value.slice.injEq, Option.some.injEq, Addr.mk.injEq, true_and, and_true] at h1
        obtain ⟨⟨rfl, rfl⟩, rfl⟩ := h1
        exact hr
    refine ⟨bi, oi, cap, rfl, ⟨by rw [r, hlen], x.row hr fun i _ g => by simp only [rng] at g; omega, x.wok hw1, by omega, x.wok (h3.wok h.hok), hne⟩, h3.trans x (fun y o g => .inr ?_) fun y o _ g => .inl ?_, .inl ⟨rfl, rfl, rfl⟩⟩
    · have e1 : (ks.length + ls.length) * E.sz = ks.length * E.sz + ls.length * E.sz := Nat.add_mul _ _ _
      have e2 := Nat.mul_le_mul_right E.sz h5
      simp only [rng] at g ⊢
      omega
    · simp only [rng] at g; omega
  · subst h1
    have hr : Row w1 w.heap.size 0 (flat E (ks ++ ls)) ∧ ks.length + ls.length ≤ cap' := by
      rw [flat_append]
      rcases hs.2 with ⟨h, _⟩ | ⟨b1, o1, c1, h1, hle, hr, hw⟩
      · cases h
      · simp only [Value.slice.injEq, Option.some.injEq, Addr.mk.injEq, true_and, and_true] at h1
        obtain ⟨⟨rfl, rfl⟩, rfl⟩ := h1
        exact ⟨hr, hle⟩
    have s2 := x.size
    refine ⟨_, 0, cap', rfl, ⟨by rw [r, hlen], x.row hr.1 fun i _ g => by simp only [rng] at g; omega, by rw [Nat.zero_add]; exact x.wok h4, by omega, x.wok (h2.wok h.hok), by omega⟩, h2.trans x (fun y o g => g.elim) fun y o _ g => .inl ?_, .inr ⟨rfl, by omega⟩⟩
    simp only [rng] at g; omega
/-- One element, put ahead of all others: an append of something, a copy one place on, a store. -/
theorem SE.ins0 {w w1 w2 : World} {hb ho bi oi cap o1 : Nat} {ks : List α} {z x : α} (h : SE E w hb ho (ks ++ [z]) bi oi cap)
    (x1 : Ext (rng bi o1 (ks.length * E.sz)) w w1) (r1 : Row w1 bi o1 (flat E ks)) (ho1 : 0 < ks.length → o1 = oi + E.sz) (x2 : Ext (rng bi oi E.sz) w1 w2) (r2 : Row w2 bi oi (E.cel x)) :
    SE E w2 hb ho (x :: ks) bi oi cap ∧ Ext (seF E hb ho bi oi cap) w w2 := by
  have hne := h.ne
  have hle := h.le
  rw [List.length_append, List.length_singleton] at hle
  have hcap := Nat.mul_le_mul_right E.sz hle
  have e1 : (ks.length + 1) * E.sz = ks.length * E.sz + E.sz := by rw [Nat.add_mul, Nat.one_mul]
  have hk0 : ks.length = 0 → ks.length * E.sz = 0 := fun e => by rw [e, Nat.zero_mul]
  have X1 : Ext (seF E hb ho bi oi cap) w w1 := x1.mono fun y o _ g => .inr (by
    simp only [rng] at g ⊢
    by_cases hk : 0 < ks.length
    · have := ho1 hk; omega
    · have := hk0 (by omega); omega)
  have X : Ext (seF E hb ho bi oi cap) w w2 := X1.tr (x2.mono fun y o _ g => .inr (by simp only [rng] at g ⊢; omega))
  refine ⟨⟨?_, ?_, X.wok h.wi, ?_, X.wok h.hok, hne⟩, X⟩
  · have := h.hd
    rw [List.length_append, List.length_singleton] at this
    rw [List.length_cons]
    refine x2.rd (x1.rd this ?_) ?_
    · simp only [rng]; omega
    · simp only [rng]; omega
  · rw [flat_cons]
    refine Row.append.2 ⟨r2, ?_⟩
    rw [E.len]
    by_cases hk : 0 < ks.length
    · rw [← ho1 hk]
      exact x2.row r1 fun i hi g => by have := ho1 hk; simp only [rng] at g; omega
    · have : ks = [] := List.eq_nil_of_length_eq_zero (by omega)
      rw [this]; exact Row.nil _ _ _
  · rw [List.length_cons]; exact hle
/-- One element is taken out: a copy one place back, something in the last place, the slice shortened. -/
theorem SE.erase {w w1 w2 w3 : World} {hb ho bi oi cap i : Nat} {ks : List α} (h : SE E w hb ho ks bi oi cap) (hi : i < ks.length)
    (x1 : Ext (rng bi (oi + i * E.sz) ((ks.length - 1 - i) * E.sz)) w w1) (r1 : Row w1 bi (oi + i * E.sz) (flat E (ks.drop (i + 1)))) (x2 : Ext (rng bi (oi + (ks.length - 1) * E.sz) E.sz) w1 w2)
    (x3 : Ext (rng hb ho 1) w2 w3) (r3 : rd w3 hb ho = some (.slice (some ⟨bi, oi, none⟩) (ks.length - 1 : Nat) cap)) :
    SE E w3 hb ho (ks.eraseIdx i) bi oi cap ∧ Ext (seF E hb ho bi oi cap) w w3 := by
  have hne := h.ne
  have hle := h.le
  have hcap := Nat.mul_le_mul_right E.sz hle
  have e1 : (ks.length - 1) * E.sz = ks.length * E.sz - E.sz := by rw [Nat.sub_mul, Nat.one_mul]
  have e2 : (ks.length - 1 - i) * E.sz = (ks.length - 1) * E.sz - i * E.sz := Nat.sub_mul _ _ _
  have e3 : (i + 1) * E.sz ≤ ks.length * E.sz := Nat.mul_le_mul_right _ hi
  have e4 : (i + 1) * E.sz = i * E.sz + E.sz := by rw [Nat.add_mul, Nat.one_mul]
  have hl : (ks.eraseIdx i).length = ks.length - 1 := by rw [List.length_eraseIdx, if_pos hi]
  have X : Ext (seF E hb ho bi oi cap) w w3 := ((x1.mono fun y o _ g => .inr (by simp only [rng] at g ⊢; omega)).tr (x2.mono fun y o _ g => .inr (by simp only [rng] at g ⊢; omega))).tr (x3.mono fun y o _ g => .inl (by simp only [rng] at g; omega))
  refine ⟨⟨by rw [hl]; exact r3, ?_, X.wok h.wi, by omega, X.wok h.hok, hne⟩, X⟩
  rw [List.eraseIdx_eq_take_drop_succ, flat_append]
  have hlt : (flat E (ks.take i)).length = i * E.sz := by rw [flat_length, List.length_take]; congr 1; omega
  have hld : (flat E (ks.drop (i + 1))).length = ks.length * E.sz - (i + 1) * E.sz := by rw [flat_length, List.length_drop, Nat.sub_mul]
  refine Row.append.2 ⟨?_, ?_⟩
  · have h0 := h.row.take (i * E.sz)
    rw [flat_take] at h0
    refine x3.row (x2.row (x1.row h0 fun j hj g => ?_) fun j hj g => ?_) fun j hj g => ?_
    · rw [hlt] at hj; simp only [rng] at g; omega
    · rw [hlt] at hj; simp only [rng] at g; omega
    · simp only [rng] at g; omega
  · rw [hlt]
    refine x3.row (x2.row r1 fun j hj g => ?_) fun j hj g => ?_
    · rw [hld] at hj; simp only [rng] at g; omega
    · simp only [rng] at g; omega
/-- The last element is taken away. -/
theorem SE.pop {w w2 w3 : World} {hb ho bi oi cap : Nat} {ks : List α} (h : SE E w hb ho ks bi oi cap) (hi : 0 < ks.length)
    (x2 : Ext (rng bi (oi + (ks.length - 1) * E.sz) E.sz) w w2) (x3 : Ext (rng hb ho 1) w2 w3) (r3 : rd w3 hb ho = some (.slice (some ⟨bi, oi, none⟩) (ks.length - 1 : Nat) cap)) :
    SE E w3 hb ho ks.dropLast bi oi cap ∧ Ext (seF E hb ho bi oi cap) w w3 := by
  have hd : ks.drop (ks.length - 1 + 1) = [] := List.drop_eq_nil_of_le (by omega)
  have := h.erase (i := ks.length - 1) (w1 := w) (by omega) (Ext.refl _ _) (by rw [hd]; exact Row.nil _ _ _) x2 x3 r3
  have he : ks.eraseIdx (ks.length - 1) = ks.dropLast := by rw [List.eraseIdx_eq_take_drop_succ, hd, List.append_nil, List.dropLast_eq_take]
  rw [he] at this
  exact this
/-- One element is set. -/
theorem SE.set {w w' : World} {hb ho bi oi cap i : Nat} {ks : List α} {x : α} (h : SE E w hb ho ks bi oi cap) (hi : i < ks.length) (X : Ext (rng bi (oi + i * E.sz) E.sz) w w') (r : Row w' bi (oi + i * E.sz) (E.cel x)) :
    SE E w' hb ho (ks.set i x) bi oi cap ∧ Ext (seF E hb ho bi oi cap) w w' := by
  have hne := h.ne
  have hle := h.le
  have hcap := Nat.mul_le_mul_right E.sz hle
  have e3 : (i + 1) * E.sz ≤ ks.length * E.sz := Nat.mul_le_mul_right _ hi
  have e4 : (i + 1) * E.sz = i * E.sz + E.sz := by rw [Nat.add_mul, Nat.one_mul]
  have hrow : Row w' bi oi (flat E (ks.set i x)) := by
    rw [List.set_eq_take_append_cons_drop, if_pos hi, flat_append, flat_cons]
    have hl : (flat E (ks.take i)).length = i * E.sz := by rw [flat_length, List.length_take]; congr 1; omega
    refine Row.append.2 ⟨?_, Row.append.2 ⟨by rw [hl]; exact r, ?_⟩⟩
    · rw [← flat_take]
      exact X.row (h.row.take _) fun j hj g => by rw [flat_take, hl] at hj; simp only [rng] at g; omega
    · rw [hl, E.len, ← flat_drop]
      have h1 := h.row.drop ((i + 1) * E.sz)
      rw [e4, ← Nat.add_assoc] at h1
      rw [e4]
      exact X.row h1 fun j hj g => by simp only [rng] at g; omega
  refine ⟨⟨by rw [List.length_set]; exact X.rd h.hd (by simp only [rng]; omega), hrow, X.wok h.wi, by rw [List.length_set]; exact hle, X.wok h.hok, hne⟩, X.mono fun y o _ g => .inr (by simp only [rng] at g ⊢; omega)⟩
end
end Go.Proofs.Ytanmjbkbdmeckaa
/-
  Several things in memory that lie apart; one of them is changed. For items of whatever make. No condition.
-/
set_option linter.unusedSimpArgs false
set_option linter.unusedVariables false
namespace Go.Proofs.Ytanmjbkbdmeckaa
open Go
/-- A thing: what it says of a world, the cells it takes, the block of its row. -/
structure Ob where
  p : World → (Nat → Nat → Prop) → Nat → Prop
  loc : ∀ {w w' : World} {F G : Nat → Nat → Prop} {K : Nat}, p w F K → Ext G w w' → (∀ y o, F y o → ¬ G y o) → p w' F K
  lt : ∀ {w : World} {F : Nat → Nat → Prop} {K : Nat}, p w F K → (∀ y o, F y o → y < w.heap.size) ∧ K < w.heap.size
/-- Things that lie apart; the rows of two things whose places are three apart lie in different blocks. -/
structure St (w0 : World) (G : Nat → Nat → Prop) (w : World) (P : List Ob) (F : Nat → Nat → Nat → Prop) (K : Nat → Nat) : Prop where
  o : ∀ (i : Nat) (A : Ob), P[i]? = some A → A.p w (F i) (K i)
  d : ∀ i j, i < P.length → j < P.length → i ≠ j → ∀ y o, F i y o → ¬ F j y o
  s : ∀ i, i < P.length → ∀ y o, F i y o → G y o ∨ w0.heap.size ≤ y
  r : ∀ i, i + 3 < P.length → K i ≠ K (i + 3)
  x : Ext G w0 w
/-- The things P stand in w, apart; since w0 nothing else has changed, and they take no other old cells than G's. -/
def Ss (w0 : World) (G : Nat → Nat → Prop) (w : World) (P : List Ob) : Prop := ∃ F K, St w0 G w P F K
theorem Ss.x {w0 w : World} {G : Nat → Nat → Prop} {P : List Ob} (s : Ss w0 G w P) : Ext G w0 w := s.elim fun _ h => h.elim fun _ h => h.x
theorem St.step {w0 w w' : World} {G : Nat → Nat → Prop} {P : List Ob} {F : Nat → Nat → Nat → Prop} {K : Nat → Nat} (s : St w0 G w P F K) {i : Nat} {A : Ob} (hi : P[i]? = some A) (B : Ob) {F' : Nat → Nat → Prop} {K' : Nat}
    (x : Ext (F i) w w') (hB : B.p w' F' K') (hF : ∀ y o, F' y o → F i y o ∨ w.heap.size ≤ y) (hK : K' = K i ∨ w.heap.size ≤ K') : Ss w0 G w' (P.set i B) := by
  have hil := (List.getElem?_eq_some_iff.1 hi).1
  have hlt : ∀ j, j < P.length → (∀ y o, F j y o → y < w.heap.size) ∧ K j < w.heap.size := fun j hj => (P[j]).lt (s.o j _ (List.getElem?_eq_getElem hj))
  refine ⟨fun j => if j = i then F' else F j, fun j => if j = i then K' else K j, ⟨fun j C hj => ?_, fun j k hj hk hne y o g h => ?_, fun j hj y o g => ?_, fun j hj => ?_, s.x.trans x (fun _ _ g => g) fun y o hy g => ?_⟩⟩
  · by_cases hji : j = i
    · subst hji
      rw [if_pos rfl, if_pos rfl]
      rw [List.getElem?_set_self hil] at hj
      cases hj
      exact hB
    · rw [if_neg hji, if_neg hji]
      rw [List.getElem?_set_ne (Ne.symm hji)] at hj
      have hjl := (List.getElem?_eq_some_iff.1 hj).1
      exact C.loc (s.o j C hj) x (s.d j i hjl hil hji)
  · rw [List.length_set] at hj hk
    by_cases hji : j = i
    · subst hji
      have hki : k ≠ j := Ne.symm hne
      rw [if_pos rfl] at g
      rw [if_neg hki] at h
      rcases hF y o g with g | g
      · exact s.d j k hj hk hne y o g h
      · have := (hlt k hk).1 y o h; omega
    · rw [if_neg hji] at g
      by_cases hki : k = i
      · subst hki
        rw [if_pos rfl] at h
        rcases hF y o h with h | h
        · exact s.d j k hj hk hne y o g h
        · have := (hlt j hj).1 y o g; omega
      · rw [if_neg hki] at h
        exact s.d j k hj hk hne y o g h
  · rw [List.length_set] at hj
    by_cases hji : j = i
    · subst hji
      rw [if_pos rfl] at g
      rcases hF y o g with g | g
      · exact s.s j hj y o g
      · have := s.x.size; exact .inr (by omega)
    · rw [if_neg hji] at g
      exact s.s j hj y o g
  · rw [List.length_set] at hj
    have h1 := s.r j hj
    have h2 := (hlt j (by omega)).2
    have h3 := (hlt (j + 3) hj).2
    by_cases hji : j = i
    · subst hji
      rw [if_pos rfl, if_neg (by omega)]
      omega
    · rw [if_neg hji]
      by_cases hki : j + 3 = i
      · subst hki
        rw [if_pos rfl]; omega
      · rw [if_neg hki]; exact h1
  · rcases s.s i hil y o g with g | g
    · exact g
    · omega
/-- A run that changes nothing old. -/
theorem Ss.ext0 {w0 w w' : World} {G : Nat → Nat → Prop} {P : List Ob} (s : Ss w0 G w P) (x : Ext noF w w') : Ss w0 G w' P := by
  obtain ⟨F, K, s⟩ := s
  exact ⟨F, K, fun i A h => A.loc (s.o i A h) x fun _ _ _ g => g, s.d, s.s, s.r, s.x.trans x (fun _ _ g => g) fun _ _ _ g => g.elim⟩
section
variable {α : Type} {E : Enc α}
theorem Own.se {w : World} {b : Nat} {iso cnt : Int} {bi oi cap : Nat} {ks : List α} {ch : Value} (h : Own E w b iso cnt bi oi cap ks ch) : SE E w b 2 ks bi oi cap := ⟨h.h2, h.row, h.wi, h.le, h.wb.mono (by decide), h.ne⟩
theorem seF_own {b bi oi cap : Nat} {y o : Nat} (h : seF E b 2 bi oi cap y o) : ownF E b bi oi cap y o := by
  rcases h with ⟨h, _⟩ | h
  · exact .inl h
  · exact .inr h
theorem Own.step {w w' : World} {b : Nat} {iso cnt : Int} {bi oi cap bi' oi' cap' : Nat} {ks ks' : List α} {ch : Value} (h : Own E w b iso cnt bi oi cap ks ch) (s : SE E w' b 2 ks' bi' oi' cap') (x : Ext (seF E b 2 bi oi cap) w w') :
    Own E w' b iso cnt bi' oi' cap' ks' ch := by
  have hne := h.ne
  have hn : ∀ o, o ≠ 2 → ¬ seF E b 2 bi oi cap b o := fun o ho g => by
    rcases g with g | g
    · omega
    · exact hne g.1.symm
  exact ⟨x.rd h.h0 (hn _ (by decide)), x.rd h.h1 (hn _ (by decide)), s.hd, x.rd h.h3 (hn _ (by decide)), x.wok h.wb, s.row, s.wi, s.le, s.ne⟩
theorem Own.cnt' {w w' : World} {b : Nat} {iso cnt cnt' : Int} {bi oi cap : Nat} {ks : List α} {ch : Value} (h : Own E w b iso cnt bi oi cap ks ch) (x : Ext (rng b 1 1) w w') (r : rd w' b 1 = some (.int .i64 cnt')) :
    Own E w' b iso cnt' bi oi cap ks ch := by
  have hne := h.ne
  refine ⟨x.rd h.h0 ?_, r, x.rd h.h2 ?_, x.rd h.h3 ?_, x.wok h.wb, x.row h.row fun i _ g => ?_, x.wok h.wi, h.le, h.ne⟩
  · simp only [rng]; omega
  · simp only [rng]; omega
  · simp only [rng]; omega
  · exact hne g.1
/-- Pointers that may be nil as elements. -/
def Eo : Enc (Option Nat) where
  cel o := [.pointer (o.map fun b => ⟨b, 0, none⟩)]
  sz := 1
  len _ := rfl
  one o v hv := by simp at hv; subst hv; rfl
  pos := by decide
theorem Eo_sz : Eo.sz = 1 := id (Eq.trans rfl rfl)
theorem flat_Eo (l : List Nat) : flat Eo (l.map some) = l.map ptr := by
  induction l with
  | nil => rfl
  | cons x l ih => rw [List.map_cons, flat_cons, ih]; rfl
theorem Kids.se {w : World} {bc ba oa capc : Nat} {ps : List Nat} (h : Kids w bc ba oa capc ps) : SE Eo w bc 0 (ps.map some) ba oa capc :=
  ⟨by rw [List.length_map]; exact h.c0, by rw [flat_Eo]; exact h.row, by rw [Eo_sz, Nat.mul_one]; exact h.wa, by rw [List.length_map]; exact h.le, h.wc, h.ne⟩
theorem SE.kids {w : World} {bc ba oa capc : Nat} {ps : List Nat} (h : SE Eo w bc 0 (ps.map some) ba oa capc) : Kids w bc ba oa capc ps :=
  ⟨by have := h.hd; rw [List.length_map] at this; exact this, h.hok, by have := h.row; rw [flat_Eo] at this; exact this, by have := h.wi; rw [Eo_sz, Nat.mul_one] at this; exact this, by have := h.le; rw [List.length_map] at this; exact this, h.ne⟩
theorem seF_kid {bc ba oa capc : Nat} {y o : Nat} (h : seF Eo bc 0 ba oa capc y o) : kidF bc ba oa capc y o := by
  rcases h with ⟨h, _⟩ | h
  · exact .inl h
  · rw [Eo_sz, Nat.mul_one] at h; exact .inr h
/-- A node's own part; its items' room is no less than z. -/
def ndO (E : Enc α) (iso : Int) (z b : Nat) (cnt : Int) (ks : List α) (ch : Value) : Ob where
  p w F K := ∃ bi oi cap, Own E w b iso cnt bi oi cap ks ch ∧ z ≤ cap ∧ K = bi ∧ ∀ y o, F y o ↔ ownF E b bi oi cap y o
  loc := fun ⟨bi, oi, cap, h, hz, hK, hF⟩ x hd => ⟨bi, oi, cap, h.ext x fun y o g => hd y o ((hF y o).2 g), hz, hK, hF⟩
  lt := fun ⟨_, _, _, h, _, hK, hF⟩ => ⟨fun y o g => h.lt ((hF y o).1 g), hK ▸ wok_lt h.wi⟩
/-- A node's children: none, or a cell with a slice. -/
def kdO (ch : Value) (ps : List (Option Nat)) : Ob where
  p w F K := (ch = .pointer none ∧ ps = [] ∧ K < w.heap.size ∧ ∀ y o, ¬ F y o) ∨ ∃ bc ba oa capc, ch = ptr bc ∧ SE Eo w bc 0 ps ba oa capc ∧ K = ba ∧ ∀ y o, F y o ↔ kidF bc ba oa capc y o
  loc := fun h x hd => h.imp (fun ⟨h1, h2, h3, h4⟩ => ⟨h1, h2, Nat.lt_of_lt_of_le h3 x.size, h4⟩) fun ⟨bc, ba, oa, capc, h1, h, hK, hF⟩ => ⟨bc, ba, oa, capc, h1, h.ext x fun y o g => hd y o ((hF y o).2 (seF_kid g)), hK, hF⟩
  lt := fun h => by
    rcases h with ⟨_, _, hK, h⟩ | ⟨bc, ba, _, _, _, h, hK, hF⟩
    · exact ⟨fun y o g => (h y o g).elim, hK⟩
    · have := h.lt
      refine ⟨fun y o g => ?_, by omega⟩
      rcases (hF y o).1 g with g | g
      · omega
      · have := g.1; omega
theorem ownF_new {b bi oi cap bi' oi' cap' B : Nat} (h : (bi' = bi ∧ oi' = oi ∧ cap' = cap) ∨ B ≤ bi') {y o : Nat} (g : ownF E b bi' oi' cap' y o) : ownF E b bi oi cap y o ∨ B ≤ y := by
  rcases h with ⟨rfl, rfl, rfl⟩ | h
  · exact .inl g
  · rcases g with g | g
    · exact .inl (.inl g)
    · exact .inr (by have := g.1; omega)
theorem kidF_new {bc ba oa capc ba' oa' capc' B : Nat} (h : (ba' = ba ∧ oa' = oa ∧ capc' = capc) ∨ B ≤ ba') {y o : Nat} (g : kidF bc ba' oa' capc' y o) : kidF bc ba oa capc y o ∨ B ≤ y := by
  rcases h with ⟨rfl, rfl, rfl⟩ | h
  · exact .inl g
  · rcases g with g | g
    · exact .inl (.inl g)
    · exact .inr (by have := g.1; omega)
theorem Ss.nd {w0 w : World} {G : Nat → Nat → Prop} {P : List Ob} (s : Ss w0 G w P) (i : Nat) {iso : Int} {z b : Nat} {cnt : Int} {ks : List α} {ch : Value} (hi : P[i]? = some (ndO E iso z b cnt ks ch)) :
    ∃ bi oi cap, Own E w b iso cnt bi oi cap ks ch ∧
      (∀ {w' : World} {ks' : List α} {bi' oi' cap' : Nat}, SE E w' b 2 ks' bi' oi' cap' → Ext (seF E b 2 bi oi cap) w w' → ((bi' = bi ∧ oi' = oi ∧ cap' = cap) ∨ (w.heap.size ≤ bi' ∧ z ≤ cap')) → Ss w0 G w' (P.set i (ndO E iso z b cnt ks' ch))) ∧
      (∀ {w' : World} {cnt' : Int}, Ext (rng b 1 1) w w' → rd w' b 1 = some (.int .i64 cnt') → Ss w0 G w' (P.set i (ndO E iso z b cnt' ks ch))) := by
  obtain ⟨F, K, s⟩ := s
  obtain ⟨bi, oi, cap, h, hz, hK, hF⟩ := s.o i _ hi
  refine ⟨bi, oi, cap, h, fun {w' ks' bi' oi' cap'} s' x hb => s.step hi _ (x.mono fun y o _ g => (hF y o).2 (seF_own g)) ⟨bi', oi', cap', h.step s' x, by omega, rfl, fun _ _ => Iff.rfl⟩ (fun y o g => ?_) (by rw [hK]; exact hb.imp And.left And.left),
    fun {w' cnt'} x r => s.step hi _ (x.mono fun y o _ g => (hF y o).2 (.inl g.1)) ⟨bi, oi, cap, h.cnt' x r, hz, rfl, fun _ _ => Iff.rfl⟩ (fun y o g => .inl ((hF y o).2 g)) (.inl hK.symm)⟩
  rcases ownF_new (hb.imp id And.left) g with g | g
  · exact .inl ((hF y o).2 g)
  · exact .inr g
theorem Ss.kd {w0 w : World} {G : Nat → Nat → Prop} {P : List Ob} (s : Ss w0 G w P) (i : Nat) {bc : Nat} {ps : List (Option Nat)} (hi : P[i]? = some (kdO (ptr bc) ps)) :
    ∃ ba oa capc, SE Eo w bc 0 ps ba oa capc ∧
      (∀ {w' : World} {ps' : List (Option Nat)} {ba' oa' capc' : Nat}, SE Eo w' bc 0 ps' ba' oa' capc' → Ext (seF Eo bc 0 ba oa capc) w w' → ((ba' = ba ∧ oa' = oa ∧ capc' = capc) ∨ w.heap.size ≤ ba') → Ss w0 G w' (P.set i (kdO (ptr bc) ps'))) := by
  obtain ⟨F, K, s⟩ := s
  rcases s.o i _ hi with ⟨h, _⟩ | ⟨bc', ba, oa, capc, h1, h, hK, hF⟩
  · cases h
  · obtain rfl : bc = bc' := by simpa [ptr] using h1
    refine ⟨ba, oa, capc, h, fun {w' ps' ba' oa' capc'} s' x hb => s.step hi _ (x.mono fun y o _ g => (hF y o).2 (seF_kid g)) (.inr ⟨bc, ba', oa', capc', rfl, s', rfl, fun _ _ => Iff.rfl⟩) (fun y o g => ?_) (by rw [hK]; exact hb.imp And.left id)⟩
    rcases kidF_new hb g with g | g
    · exact .inl ((hF y o).2 g)
    · exact .inr g
end
/-! ### Steps of a slice in a cell -/
section
variable {α : Type} {E : Enc α}
/-- A copy of what lies behind place i, one place back. -/
theorem SE.down {w w1 : World} {hb ho bi oi cap i : Nat} {ks : List α} (h : SE E w hb ho ks bi oi cap) (hi : i < ks.length)
    (x1 : Ext (rng bi (oi + i * E.sz) ((ks.length - 1 - i) * E.sz)) w w1) (r1 : Row w1 bi (oi + i * E.sz) (flat E (ks.drop (i + 1)))) :
    ∃ z, SE E w1 hb ho (ks.eraseIdx i ++ [z]) bi oi cap ∧ Ext (seF E hb ho bi oi cap) w w1 := by
  obtain ⟨z, hz⟩ : ∃ z, ks.drop (ks.length - 1) = [z] := List.length_eq_one_iff.1 (by rw [List.length_drop]; omega)
  refine ⟨z, ?_⟩
  rw [← hz]
  have hne := h.ne
  have hle := h.le
  have hcap := Nat.mul_le_mul_right E.sz hle
  have e1 : (ks.length - 1) * E.sz = ks.length * E.sz - E.sz := by rw [Nat.sub_mul, Nat.one_mul]
  have e2 : (ks.length - 1 - i) * E.sz = (ks.length - 1) * E.sz - i * E.sz := Nat.sub_mul _ _ _
  have e3 : (i + 1) * E.sz ≤ ks.length * E.sz := Nat.mul_le_mul_right _ hi
  have e4 : (i + 1) * E.sz = i * E.sz + E.sz := by rw [Nat.add_mul, Nat.one_mul]
  have hl : (ks.eraseIdx i ++ ks.drop (ks.length - 1)).length = ks.length := by rw [List.length_append, List.length_eraseIdx, if_pos hi, List.length_drop]; omega
  have X : Ext (seF E hb ho bi oi cap) w w1 := x1.mono fun y o _ g => .inr (by simp only [rng] at g ⊢; omega)
  refine ⟨⟨by rw [hl]; exact x1.rd h.hd (by simp only [rng]; omega), ?_, X.wok h.wi, by omega, X.wok h.hok, hne⟩, X⟩
  rw [List.eraseIdx_eq_take_drop_succ, List.append_assoc, flat_append, flat_append]
  have hlt : (flat E (ks.take i)).length = i * E.sz := by rw [flat_length, List.length_take]; congr 1; omega
  have hld : (flat E (ks.drop (i + 1))).length = ks.length * E.sz - (i + 1) * E.sz := by rw [flat_length, List.length_drop, Nat.sub_mul]
  refine Row.append.2 ⟨?_, Row.append.2 ⟨?_, ?_⟩⟩
  · have h0 := h.row.take (i * E.sz)
    rw [flat_take] at h0
    refine x1.row h0 fun j hj g => ?_
    rw [hlt] at hj; simp only [rng] at g; omega
  · rw [hlt]; exact r1
  · rw [hlt, hld]
    have h0 := h.row.drop ((ks.length - 1) * E.sz)
    rw [flat_drop] at h0
    have ho : oi + i * E.sz + (ks.length * E.sz - (i + 1) * E.sz) = oi + (ks.length - 1) * E.sz := by omega
    rw [ho]
    refine x1.row h0 fun j hj g => ?_
    simp only [rng] at g; omega
/-- A copy of all, one place on. -/
theorem SE.up {w w1 : World} {hb ho bi oi cap o1 : Nat} {ks : List α} {z : α} (h : SE E w hb ho (ks ++ [z]) bi oi cap)
    (x1 : Ext (rng bi o1 (ks.length * E.sz)) w w1) (r1 : Row w1 bi o1 (flat E ks)) (ho1 : 0 < ks.length → o1 = oi + E.sz) :
    SE E w1 hb ho ((ks ++ [z]).take 1 ++ ks) bi oi cap ∧ Ext (seF E hb ho bi oi cap) w w1 := by
  have hne := h.ne
  have hle := h.le
  rw [List.length_append, List.length_singleton] at hle
  have hcap := Nat.mul_le_mul_right E.sz hle
  have e1 : (ks.length + 1) * E.sz = ks.length * E.sz + E.sz := by rw [Nat.add_mul, Nat.one_mul]
  have hk0 : ks.length = 0 → ks.length * E.sz = 0 := fun e => by rw [e, Nat.zero_mul]
  have X1 : Ext (seF E hb ho bi oi cap) w w1 := x1.mono fun y o _ g => .inr (by
    simp only [rng] at g ⊢
    by_cases hk : 0 < ks.length
    · have := ho1 hk; omega
    · have := hk0 (by omega); omega)
  have hl : ((ks ++ [z]).take 1 ++ ks).length = ks.length + 1 := by simp only [List.length_append, List.length_take, List.length_singleton]; omega
  have hl1 : (flat E ((ks ++ [z]).take 1)).length = E.sz := by rw [flat_length, List.length_take, List.length_append, List.length_singleton, Nat.min_eq_left (by omega), Nat.one_mul]
  refine ⟨⟨?_, ?_, X1.wok h.wi, by omega, X1.wok h.hok, hne⟩, X1⟩
  · have := h.hd
    rw [List.length_append, List.length_singleton] at this
    rw [hl]
    exact x1.rd this (by simp only [rng]; omega)
  · rw [flat_append]
    refine Row.append.2 ⟨?_, ?_⟩
    · have h0 := h.row.take (1 * E.sz)
      rw [flat_take] at h0
      refine x1.row h0 fun j hj g => ?_
      rw [hl1] at hj
      simp only [rng] at g
      by_cases hk : 0 < ks.length
      · have := ho1 hk; omega
      · have := hk0 (by omega); omega
    · rw [hl1]
      by_cases hk : 0 < ks.length
      · rw [← ho1 hk]; exact r1
      · have : ks = [] := List.eq_nil_of_length_eq_zero (by omega)
        rw [this]; exact Row.nil _ _ _
/-- The slice is shortened. -/
theorem SE.cut {w w1 : World} {hb ho bi oi cap : Nat} {ks : List α} {z : α} (h : SE E w hb ho (ks ++ [z]) bi oi cap) (x1 : Ext (rng hb ho 1) w w1) (r1 : rd w1 hb ho = some (.slice (some ⟨bi, oi, none⟩) ks.length cap)) :
    SE E w1 hb ho ks bi oi cap ∧ Ext (seF E hb ho bi oi cap) w w1 := by
  have hne := h.ne
  have hle := h.le
  rw [List.length_append, List.length_singleton] at hle
  have hr := h.row
  rw [flat_append] at hr
  exact ⟨⟨r1, x1.row (Row.append.1 hr).1 fun j _ g => by simp only [rng] at g; omega, x1.wok h.wi, by omega, x1.wok h.hok, hne⟩, x1.mono fun y o _ g => .inl (by simp only [rng] at g; omega)⟩
theorem set_last {A : List α} {z x : α} : (A ++ [z]).set A.length x = A ++ [x] := by simp
theorem set_first {A : List α} {z x : α} : ((A ++ [z]).take 1 ++ A).set 0 x = x :: A := by cases A <;> rfl
theorem SE.app' {w w1 : World} {hb ho bi oi cap m : Nat} {ks ls : List α} {v' : Value} (h : SE E w hb ho ks bi oi cap) (hm : ls.length = m) (a : AppRes w E.sz (.slice (some ⟨bi, oi, none⟩) ks.length cap) ks.length m (flat E ks) (flat E ls) v' w1) :
    ∃ bi' oi' cap', v' = .slice (some ⟨bi', oi', none⟩) (ks.length + m) cap' ∧ wok w1 hb (ho + 1) ∧ w.heap.size ≤ w1.heap.size ∧
      ∀ w2, Ext (rng hb ho 1) w1 w2 → rd w2 hb ho = some v' → SE E w2 hb ho (ks ++ ls) bi' oi' cap' ∧ Ext (seF E hb ho bi oi cap) w w2 ∧ ((bi' = bi ∧ oi' = oi ∧ cap' = cap) ∨ w.heap.size ≤ bi') := by
  have key : ∃ bi' oi' cap', v' = .slice (some ⟨bi', oi', none⟩) (ks.length + m) cap' ∧ wok w1 hb (ho + 1) ∧ w.heap.size ≤ w1.heap.size := by
    rcases a.2 with ⟨_, _, h3⟩ | ⟨b0, o0, cap0, h1, h2, h3, h4, h5⟩ | ⟨cap', h1, h2, h3, h4⟩
    · cases h3
    · exact ⟨_, _, _, h2, h3.wok h.hok, by omega⟩
    · exact ⟨_, _, _, h1, h2.wok h.hok, by omega⟩
  obtain ⟨bi', oi', cap', hv, hw, hs⟩ := key
  refine ⟨bi', oi', cap', hv, hw, hs, fun w2 x r => ?_⟩
  obtain ⟨bi2, oi2, cap2, hv2, h1, h2, h3⟩ := h.app hm a x r
  rw [hv] at hv2
  simp only [Value.slice.injEq, Option.some.injEq, Addr.mk.injEq, true_and, and_true] at hv2
  obtain ⟨⟨rfl, rfl⟩, rfl⟩ := hv2
  exact ⟨h1, h2, h3.imp id fun g => Nat.le_of_eq g.1.symm⟩
/-- The slice from place i on. -/
theorem SE.from {w : World} {hb ho bi oi cap : Nat} {ks : List α} (h : SE E w hb ho ks bi oi cap) {sz : Nat} (hsz : E.sz = sz) (i : Nat) (hi : i ≤ ks.length) :
    ∃ o1, slFrom bi oi sz i ks.length cap = .slice (some ⟨bi, o1, none⟩) (ks.length - i) (cap - i) ∧ (i < cap → o1 = oi + i * sz) ∧ SlV w sz (.slice (some ⟨bi, o1, none⟩) (ks.length - i) (cap - i)) (ks.length - i) (flat E (ks.drop i)) ∧ wok w bi (o1 + (ks.length - i) * sz) := by
  subst hsz
  have hle := h.le
  obtain ⟨o1, h1, h2, h3⟩ := slFrom_sl bi oi E.sz i ks.length cap
  have hl : (flat E (ks.drop i)).length = (ks.length - i) * E.sz := by rw [flat_length, List.length_drop]
  have e1 : (ks.length - i) * E.sz = ks.length * E.sz - i * E.sz := Nat.sub_mul _ _ _
  have e2 := Nat.mul_le_mul_right E.sz hle
  have e3 := Nat.mul_le_mul_right E.sz hi
  have e4 : (cap - i) * E.sz = cap * E.sz - i * E.sz := Nat.sub_mul _ _ _
  by_cases hc : cap = i
  · have ho := h3 hc
    have hi0 : ks.length - i = 0 := by omega
    have hd : ks.drop i = [] := List.drop_eq_nil_of_le (by omega)
    have e5 : (ks.length - i) * E.sz = 0 := by rw [hi0, Nat.zero_mul]
    refine ⟨o1, h1, fun g => by omega, ⟨by rw [hl], .inr ⟨bi, o1, cap - i, rfl, by omega, by rw [hd]; exact Row.nil _ _ _, (h.wi.mono ?_).R (Nat.le_refl _)⟩⟩, h.wi.mono ?_⟩
    · omega
    · omega
  · have ho := h2 hc
    have hr := h.row.drop (i * E.sz)
    rw [flat_drop, ← ho] at hr
    refine ⟨o1, h1, fun _ => ho, ⟨by rw [hl], .inr ⟨bi, o1, cap - i, rfl, by omega, hr, (h.wi.mono ?_).R (Nat.le_refl _)⟩⟩, h.wi.mono ?_⟩
    · omega
    · omega
theorem New.keep {w w' : World} {l : List Value} (n : New w w' l) (L : List Nat) (h : ∀ b ∈ L, b < w.heap.size) : keeps (some (some L)) w w' := keeps_on n.ext fun x hx => ⟨h x hx, fun _ g => g⟩
theorem SE.ptr_at {w : World} {bc ba oa capc j p : Nat} {ps : List (Option Nat)} (h : SE Eo w bc 0 ps ba oa capc) (hp : ps[j]? = some (some p)) : rd w ba (oa + j) = some (ptr p) := by
  have := (Row.cons.1 (row_at Eo h.row hp)).1
  rw [Eo_sz, Nat.mul_one] at this
  exact this
end
/-- As kd, and the array lies in no other thing's own blocks. -/
theorem Ss.kdx {w0 w : World} {G : Nat → Nat → Prop} {P : List Ob} (s : Ss w0 G w P) (i : Nat) {bc : Nat} {ps : List (Option Nat)} (hi : P[i]? = some (kdO (ptr bc) ps)) (h0 : 0 < ps.length) :
    ∃ ba oa capc, SE Eo w bc 0 ps ba oa capc ∧
      (∀ {w' : World} {ps' : List (Option Nat)} {ba' oa' capc' : Nat}, SE Eo w' bc 0 ps' ba' oa' capc' → Ext (seF Eo bc 0 ba oa capc) w w' → ((ba' = ba ∧ oa' = oa ∧ capc' = capc) ∨ w.heap.size ≤ ba') → Ss w0 G w' (P.set i (kdO (ptr bc) ps'))) ∧
      (∀ {α : Type} {E : Enc α} (j : Nat) {iso : Int} {z b : Nat} {cnt : Int} {ks : List α} {ch : Value}, j ≠ i → P[j]? = some (ndO E iso z b cnt ks ch) → b ≠ ba) ∧
      (∀ (j : Nat) {c : Nat} {qs : List (Option Nat)}, j ≠ i → P[j]? = some (kdO (ptr c) qs) → c ≠ ba) := by
  obtain ⟨F, K, s⟩ := s
  rcases s.o i _ hi with ⟨h, _⟩ | ⟨bc', ba, oa, capc, h1, h, hK, hF⟩
  · cases h
  · obtain rfl : bc = bc' := by simpa [ptr] using h1
    have hle := h.le
    have hil := (List.getElem?_eq_some_iff.1 hi).1
    have hin : F i ba oa := (hF _ _).2 (.inr ⟨rfl, Nat.le_refl _, by omega⟩)
    refine ⟨ba, oa, capc, h, fun {w' ps' ba' oa' capc'} s' x hb => s.step hi _ (x.mono fun y o _ g => (hF y o).2 (seF_kid g)) (.inr ⟨bc, ba', oa', capc', rfl, s', rfl, fun _ _ => Iff.rfl⟩) (fun y o g => ?_) (by rw [hK]; exact hb.imp And.left id), fun {α E} j {iso z b cnt ks ch} hji hj hb => ?_, fun j {c qs} hji hj hc => ?_⟩
    · rcases kidF_new hb g with g | g
      · exact .inl ((hF y o).2 g)
      · exact .inr g
    · obtain ⟨bi, oi, cap, _, _, _, hF'⟩ := s.o j _ hj
      exact s.d j i (List.getElem?_eq_some_iff.1 hj).1 hil hji ba oa ((hF' _ _).2 (.inl hb.symm)) hin
    · rcases s.o j _ hj with ⟨h, _⟩ | ⟨c', ba', oa', capc', h1, _, _, hF'⟩
      · cases h
      · obtain rfl : c = c' := by simpa [ptr] using h1
        exact s.d j i (List.getElem?_eq_some_iff.1 hj).1 hil hji ba oa ((hF' _ _).2 (.inl hc.symm)) hin
theorem app_keep {w w1 : World} {sz n m bi oi cap : Nat} {l l' : List Value} {v' : Value} (a : AppRes w sz (.slice (some ⟨bi, oi, none⟩) n cap) n m l l' v' w1) (L : List Nat) (h : ∀ x ∈ L, x < w.heap.size ∧ x ≠ bi) : keeps (some (some L)) w w1 := by
  rcases a.2 with ⟨_, rfl, _⟩ | ⟨b0, o0, cap0, h1, _, h3, _⟩ | ⟨_, _, h2, _⟩
  · exact keeps_refl _ _
  · simp only [Value.slice.injEq, Option.some.injEq, Addr.mk.injEq, true_and, and_true] at h1
    obtain ⟨⟨rfl, rfl⟩, rfl⟩ := h1
    exact keeps_on h3 fun x hx => ⟨(h x hx).1, fun o g => (h x hx).2 g.1⟩
  · exact keeps_on h2 fun x hx => ⟨(h x hx).1, fun _ g => g⟩
theorem W_keep5 {P : Program} {n : Nat} {c : Code} {Q : Post} {e : Env} {w : World} {v0 v1 v2 v6 v7 : Value} (h0 : e 0 = v0) (h1 : e 1 = v1) (h2 : e 2 = v2) (h6 : e 6 = v6) (h7 : e 7 = v7)
    (h : ∀ e' : Env, e' 0 = v0 → e' 1 = v1 → e' 2 = v2 → e' 6 = v6 → e' 7 = v7 → W P n c Q e' w) : W P n c Q e w := h e h0 h1 h2 h6 h7
end Go.Proofs.Ytanmjbkbdmeckaa
/-
  What nodeRebalance's walks share. No condition.
-/
set_option linter.unusedSimpArgs false
set_option linter.unusedVariables false
namespace Go.Proofs.Ytanmjbkbdmeckaa
open Go Go.Proofs
/-- Items, or the empty item. -/
def Ez : Enc (Option It) where
  cel x := [itO x]
  sz := 1
  len _ := rfl
  one x v hv := by simp at hv; subst hv; cases x <;> rfl
  pos := by decide
theorem Ez_sz : Ez.sz = 1 := rfl
theorem rb_cel (x : Option It) : (itO x).cells.toList = Ez.cel x := by cases x <;> rfl
theorem itz_at {w : World} {b o : Nat} {xs : List (Option It)} (h : Row w b o (flat Ez xs)) {i : Nat} {x : Option It} (hi : xs[i]? = some x) : rd w b (o + i) = some (itO x) := by
  have := row_cell (row_at Ez h hi) (j := 0) rfl
  rwa [show Ez.sz = 1 from rfl, Nat.mul_one] at this
theorem flat_z (ks : List It) : flat Ez (ks.map some) = flat E ks := by
  induction ks with
  | nil => rfl
  | cons x l ih => rw [List.map_cons, flat_cons, flat_cons, ih]; rfl
theorem Own.z {w : World} {b bi oi cap : Nat} {iso cnt : Int} {ks : List It} {ch : Value} (h : Own E w b iso cnt bi oi cap ks ch) : Own Ez w b iso cnt bi oi cap (ks.map some) ch := by
  obtain ⟨h0, h1, h2, h3, wb, row, wi, le, ne⟩ := h
  exact ⟨h0, h1, by rw [List.length_map]; exact h2, h3, wb, by rw [flat_z]; exact row, wi, by rw [List.length_map]; exact le, ne⟩
theorem Own.unz {w : World} {b bi oi cap : Nat} {iso cnt : Int} {ks : List It} {ch : Value} (h : Own Ez w b iso cnt bi oi cap (ks.map some) ch) : Own E w b iso cnt bi oi cap ks ch := by
  obtain ⟨h0, h1, h2, h3, wb, row, wi, le, ne⟩ := h
  rw [List.length_map] at h2 le
  rw [flat_z] at row
  exact ⟨h0, h1, h2, h3, wb, row, wi, le, ne⟩
theorem ownF_z (b bi oi cap : Nat) : ownF Ez b bi oi cap = ownF E b bi oi cap := rfl
theorem Ob.same {A B : Ob} (h : A.p = B.p) : A = B := by cases A; cases B; cases h; rfl
theorem ndO_z (iso : Int) (z b : Nat) (cnt : Int) (ks : List It) (ch : Value) : ndO E iso z b cnt ks ch = ndO Ez iso z b cnt (ks.map some) ch :=
  Ob.same (by
    funext w F K
    exact propext ⟨fun ⟨bi, oi, cap, h, hr⟩ => ⟨bi, oi, cap, h.z, hr⟩, fun ⟨bi, oi, cap, h, hr⟩ => ⟨bi, oi, cap, h.unz, hr⟩⟩)
theorem rb_k (x : Option It) : bsV Try.prog 140 1 [(0, itO x)] = some (20, Ez.cel x) := by cases x <;> kernel_rfl
theorem rb_o (a : Option Addr) : bsV Try.prog 144 1 [(0, .pointer a)] = some (106, [.pointer a]) := by kernel_rfl
theorem rb_eli : elK Try.prog 140 = some (20, 1, 16, [zV]) := by kernel_rfl
theorem rb_elk : elK Try.prog 144 = some (106, 1, 8, [.pointer none]) := by kernel_rfl
theorem rb_len (x : Option It) : (itO x).cells.toList.length = 1 := by cases x <;> rfl
theorem rb_oc (x : Option It) : oc (itO x).cells.toList := by cases x <;> exact Ez.one _
theorem on1_0 (a : Nat) : readsB (some (some [a])) a = true := by simp [readsB]
theorem on2_0 (a b : Nat) : readsB (some (some [a, b])) a = true := by simp [readsB]
theorem on2_1 (a b : Nat) : readsB (some (some [a, b])) b = true := by simp [readsB]
theorem on3_0 (a b c : Nat) : readsB (some (some [a, b, c])) a = true := by simp [readsB]
theorem on3_1 (a b c : Nat) : readsB (some (some [a, b, c])) b = true := by simp [readsB]
theorem on3_2 (a b c : Nat) : readsB (some (some [a, b, c])) c = true := by simp [readsB]
theorem on5_0 (a b c d e : Nat) : readsB (some (some [a, b, c, d, e])) a = true := by simp [readsB]
theorem on5_1 (a b c d e : Nat) : readsB (some (some [a, b, c, d, e])) b = true := by simp [readsB]
theorem on5_2 (a b c d e : Nat) : readsB (some (some [a, b, c, d, e])) c = true := by simp [readsB]
theorem on5_3 (a b c d e : Nat) : readsB (some (some [a, b, c, d, e])) d = true := by simp [readsB]
theorem on5_4 (a b c d e : Nat) : readsB (some (some [a, b, c, d, e])) e = true := by simp [readsB]
theorem lt1 {B a : Nat} (h : a < B) : ∀ x ∈ [a], x < B := by simp [h]
theorem lt2 {B a b : Nat} (h : a < B) (h2 : b < B) : ∀ x ∈ [a, b], x < B := by simp [h, h2]
theorem lt3 {B a b c : Nat} (h : a < B) (h2 : b < B) (h3 : c < B) : ∀ x ∈ [a, b, c], x < B := by simp [h, h2, h3]
theorem lt5 {B a b c d e : Nat} (h : a < B) (h2 : b < B) (h3 : c < B) (h4 : d < B) (h5 : e < B) : ∀ x ∈ [a, b, c, d, e], x < B := by simp [h, h2, h3, h4, h5]
theorem fkeep1 {B c a : Nat} (h : a < B ∧ a ≠ c) : ∀ x ∈ [a], x < B ∧ x ≠ c := by simp [h]
theorem fkeep2 {B c a b : Nat} (h : a < B ∧ a ≠ c) (h2 : b < B ∧ b ≠ c) : ∀ x ∈ [a, b], x < B ∧ x ≠ c := by simp [h, h2]
theorem ix0 (sz b o n : Nat) (h : 0 < n) : idxX (some sz) ⟨b, o, none⟩ n 0 = some (.pointer (some ⟨b, o, none⟩)) := by
  have := idxX_s sz b o n 0 h
  rwa [Nat.zero_mul, Nat.add_zero] at this
theorem W_st {P : Program} {n : Nat} {c : Code} {Q : Post} {e : Env} {w w0 : World} {G : Nat → Nat → Prop} {L : List Ob} {v0 v1 v2 v6 v7 : Value} (s : Ss w0 G w L) (h0 : e 0 = v0) (h1 : e 1 = v1) (h2 : e 2 = v2) (h6 : e 6 = v6) (h7 : e 7 = v7)
    (h : ∀ (e' : Env) (w' : World), Ss w0 G w' L → e' 0 = v0 → e' 1 = v1 → e' 2 = v2 → e' 6 = v6 → e' 7 = v7 → W P n c Q e' w') : W P n c Q e w := h e w s h0 h1 h2 h6 h7
end Go.Proofs.Ytanmjbkbdmeckaa
/-
  nodeRebalance: the merge. No condition.
-/
set_option linter.unusedSimpArgs false
set_option linter.unusedVariables false
namespace Go.Proofs.Ytanmjbkbdmeckaa
open Go Go.Proofs
set_option maxHeartbeats 4000000 in
set_option maxRecDepth 8000 in
theorem zreb_merge (m d b p q bc i0 j cl cr : Nat) (iso cb : Int) (ks ls rs : List (Option It)) (k : Option It) (ps lp rp : List (Option Nat)) (chl chr : Value) (w0 w : World) (G : Nat → Nat → Prop) (hd : 2 ≤ d) (hd' : d ≤ 128) (hc : Cfg w0 m iso d) (hG : ∀ o, ¬ G m o)
    (s : Ss w0 G w [ndO Ez iso 1 b cb ks (ptr bc), ndO Ez iso 0 p (cl : Nat) ls chl, ndO Ez iso 0 q (cr : Nat) rs chr, kdO (ptr bc) ps, kdO chl lp, kdO chr rp]) (hj : (i0 = j ∧ j < ks.length) ∨ (i0 = ks.length ∧ j + 1 = ks.length)) (hkl : ks.length ≤ 2 * d - 1) (hk : ks[j]? = some k) (hps : ps.length = ks.length + 1) (hp : ps[j]? = some (some p)) (hq : ps[j + 1]? = some (some q))
    (hch : (chl = .pointer none ∧ chr = .pointer none ∧ lp = [] ∧ rp = []) ∨ ∃ lc rc, chl = ptr lc ∧ chr = ptr rc ∧ lp.length = ls.length + 1 ∧ rp.length = rs.length + 1) (hll : ls.length ≤ 2 * d - 1) (hrl : rs.length ≤ 2 * d - 1) (hcl : cl < 2305843009213693952) (hcr : cr < 2305843009213693952) (hlt : ls.length + rs.length < 2 * d - 1) :
    CallK Try.prog 176 #[ptr m, ptr b, .int .i64 (i0 : Nat)] w fun _ w' => Ss w0 G w' [ndO Ez iso 1 b cb (ks.eraseIdx j) (ptr bc), ndO Ez iso 0 p ((cl + (cr + 1) : Nat) : Int) (ls ++ k :: rs) chl, ndO Ez iso 0 q (cr : Nat) rs chr, kdO (ptr bc) (ps.eraseIdx (j + 1)), kdO chl (lp ++ rp), kdO chr rp] := by
  have hjn : j < ks.length := (List.getElem?_eq_some_iff.1 hk).1
  refine calls_of_W [] Try.func176 rfl Try.ntmps176 Try.results176 (by simp) fun e he => ?_
  have e0 : e 0 = ptr m := he 0 _ rfl
  have e1 : e 1 = ptr b := he 1 _ rfl
  have e2 : e 2 = .int .i64 (i0 : Nat) := he 2 _ rfl
  clear he
  refine W_sqx fun J hJ => ?_
  have hend : ∀ e, e 0 = ptr m → e 1 = ptr b → e 2 = .int .i64 j → J e w := by
    clear e0 e1 e2 e
    intro e e0 e1 e2
    refine hJ _ _ ?_; clear hJ J
    obtain ⟨nb, no, nc, on, un, vn⟩ := s.nd 0 rfl
    obtain ⟨xb, xo, xc, ox, ux⟩ := s.kd 3 rfl
    obtain ⟨lb, lo, lq, ol, ul, vl⟩ := s.nd 1 rfl
    obtain ⟨tb, to, tq, ot, ut, vt⟩ := s.nd 2 rfl
    have hiso := (hc.ext s.x fun o _ _ => hG o).iso
    have hjp : j < ps.length := by omega
    refine W_sq fun K hK => (W_text [true, true, true, true, true, true, true, true, true, false, true] (by kernel_rfl) ?_); simp only [↓List.toList_toArray, ↓rgd, ↓rgf, ↓reduceIte, Nat.reduceEqDiff, rg, ow_176, e0, e1, e2, ptr_eq, on.h3, ox.hd, hjp]
    refine do_call fn_121 (by simp only [evt, evc, upd_eq, Nat.reduceEqDiff, ↓reduceIte, maT, maC, maN, isnN, isnS] <;> rfl) (isoLoad_any m xb (xo + j) p true iso _ hiso (ox.ptr_at hp) ol.h0) ?_
    rintro _ w1 ⟨rfl, r1⟩
    refine ⟨trivial, ?_⟩
    simp only [↓List.toList_toArray, ↓rgd, ↓rgf, ↓reduceIte, Nat.reduceEqDiff, rg, ow_176]
    refine hK _ _ ?_; clear hK K
    have X1 : Ext noF w w1 := r1.ext
    have on := on.ext X1 fun _ _ _ g => g
    have ox := ox.ext0 X1
    have ot := ot.ext X1 fun _ _ _ g => g
    have hiso := X1.rd hiso fun g => g
    have q1 := wadd1 j (by omega)
    have hjp : j + 1 < ps.length := by omega
    refine W_sq fun K hK => (W_text [true, true, true, true, true, true, true, true, true, true, false, true] (by kernel_rfl) ?_); simp only [↓List.toList_toArray, ↓rgd, ↓rgf, ↓reduceIte, Nat.reduceEqDiff, rg, ow_176, e0, e1, e2, ptr_eq, on.h3, ox.hd, hjp, q1]
    refine do_call fn_121 (by simp only [evt, evc, upd_eq, Nat.reduceEqDiff, ↓reduceIte, maT, maC, maN, isnN, isnS] <;> rfl) (isoLoad_any m xb (xo + (j + 1)) q true iso _ hiso (ox.ptr_at hq) ot.h0) ?_
    rintro _ w2 ⟨rfl, r2⟩
    refine ⟨trivial, ?_⟩
    simp only [↓List.toList_toArray, ↓rgd, ↓rgf, ↓reduceIte, Nat.reduceEqDiff, rg, ow_176]
    refine hK _ _ ?_; clear hK K
    have s2 := (s.ext0 X1).ext0 r2.ext
    refine W_st s2 (by simp only [upd_eq, Nat.reduceEqDiff, ↓reduceIte]; exact e0) (by simp only [upd_eq, Nat.reduceEqDiff, ↓reduceIte]; exact e1) (by simp only [upd_eq, Nat.reduceEqDiff, ↓reduceIte]; exact e2) (by simp only [upd_eq, Nat.reduceEqDiff, ↓reduceIte] <;> rfl) (by simp only [upd_eq, Nat.reduceEqDiff, ↓reduceIte] <;> rfl) ?_
    clear s s2 e0 e1 e2 on un vn ox ux ol ul vl ot ut vt hiso X1 r1 r2 hjp q1
    clear e; intro e w s e0 e1 e2 e6 e7
    obtain ⟨lb, lo, lq, ol, ul, vl⟩ := s.nd 1 rfl
    obtain ⟨tb, to, tq, ot, ut, vt⟩ := s.nd 2 rfl
    have q1 := wadd ls.length rs.length (by omega)
    have hmx := (hc.ext s.x fun o _ _ => hG o).mx
    have hb : decide (((ls.length + rs.length : Nat) : Int) < ((2 * d - 1 : Nat) : Int)) = true := by simp; omega
    refine W_sq fun K hK => (W_draw (some none) none [(0, 0, 0), (0, 1, 0), (0, 2, 0), (0, 3, 0), (0, 4, 0), (0, 5, 0), (0, 6, 0), (0, 7, 0), (0, 8, 0), (0, 9, 0), (0, 10, 0), (0, 11, 0), (0, 12, 0), (0, 13, 0), (0, 14, 0), (0, 15, 0)] mixed (by kernel_rfl) ?_); simp only [↓List.toList_toArray, ↓rgd, ↓rgf, ↓reduceIte, Nat.reduceEqDiff, rg, ow_176, e0, e6, e7, ptr_eq, ol.h2, ot.h2, q1, hmx, hb]
    refine hK _ _ ?_; clear hK K
    refine W_true (by simp only [evt, evc, upd_eq, Nat.reduceEqDiff, ↓reduceIte, ntT, ntF] <;> rfl) ?_
    have s2 := s.ext0 (Ext.dr noF w (w.drawn + 1))
    refine W_st s2 (by simp only [upd_eq, Nat.reduceEqDiff, ↓reduceIte]; exact e0) (by simp only [upd_eq, Nat.reduceEqDiff, ↓reduceIte]; exact e1) (by simp only [upd_eq, Nat.reduceEqDiff, ↓reduceIte]; exact e2) (by simp only [upd_eq, Nat.reduceEqDiff, ↓reduceIte]; exact e6) (by simp only [upd_eq, Nat.reduceEqDiff, ↓reduceIte]; exact e7) ?_
    clear s s2 e0 e1 e2 e6 e7 ol ul vl ot ut vt q1 hmx hb
    clear e; intro e w s e0 e1 e2 e6 e7
    obtain ⟨lb, lo, lq, ol, ul, vl⟩ := s.nd 1 rfl
    obtain ⟨nb, no, nq, on, un, vn⟩ := s.nd 0 rfl
    have hkv := itz_at on.row hk
    have hb_p := wok_lt ol.wb
    have L0 := on1_0 p
    refine W_sq fun K hK => (W_semi (some (some [p])) (.take false 0 (.take false 1 (.take false 2 (.take false 3 (.take false 4 (.take false 5 (.take false 6 (.take false 7 (.take true 8 (.take false 9 (.take false 10 (.take true 11 (.act 12 (.bar 13 (.take false 14 (.take false 15 (.bar 16 .nil))))))))))))))))) mixed (by kernel_rfl) ?_); simp only [↓rgm, ↓List.toList_toArray, ↓rgd, ↓rgf, ↓reduceIte, Nat.reduceEqDiff, rg, ow_176, e0, e1, e2, e6, e7, ptr_eq, ol.h2, on.h2, hjn, hkv, L0, rB_on]
    refine do_bsl rfl (rb_k k) fun w1 n1 => ⟨.inr (n1.keep _ (lt1 hb_p)), ?_⟩
    simp only [↓List.toList_toArray, ↓rgd, ↓rgf, ↓reduceIte, Nat.reduceEqDiff, rg, ow_176, ↓rgm]
    have n1 := n1.od
    have a1 := ol.se.ext0 n1.ext
    refine do_append (by simp only [evt, evc, upd_eq, Nat.reduceEqDiff, ↓reduceIte, ntT, ntF] <;> rfl) (by simp only [evt, evc, upd_eq, Nat.reduceEqDiff, ↓reduceIte, ntT, ntF] <;> rfl) rb_eli rfl ni_140 a1.slV (u := .slice (some ⟨w.heap.size, 0, none⟩) 1 1) (m := 1) (l' := Ez.cel k) ⟨rfl, .inr ⟨_, 0, 1, rfl, Nat.le_refl _, n1.row, n1.wok.R (Nat.le_refl _)⟩⟩ (by omega) (by decide) (Ez.one _) fun v2 w2 a2 => ⟨trivial, ?_⟩
    obtain ⟨gb, go, gc, rfl, wk2, -, nx⟩ := a1.app' (ls := [k]) rfl (by rw [flat_one]; exact a2)
    simp only [↓List.toList_toArray, ↓rgd, ↓rgf, ↓reduceIte, Nat.reduceEqDiff, rg, ow_176, ↓rgm]
    refine do_store (by simp only [evt, evc, upd_eq, Nat.reduceEqDiff, ↓reduceIte, ntT, ntF] <;> rfl) (by simp only [evt, evc, upd_eq, Nat.reduceEqDiff, ↓reduceIte, ntT, ntF] <;> rfl) sz_140 rfl wk2 (by decide) (oc_one rfl rfl) fun w3 x3 r3 s3 => ⟨trivial, ?_⟩
    simp only [↓List.toList_toArray, ↓rgd, ↓rgf, ↓reduceIte, Nat.reduceEqDiff, rg, ow_176, ↓rgm]
    refine hK _ _ ?_; clear hK K
    obtain ⟨g1, g2, g3⟩ := nx w3 x3 (Row.cons.1 r3).1
    have s2 : Ss w0 G w3 [ndO Ez iso 1 b cb ks (ptr bc), ndO Ez iso 0 p (cl : Nat) (ls ++ [k]) chl, ndO Ez iso 0 q (cr : Nat) rs chr, kdO (ptr bc) ps, kdO chl lp, kdO chr rp] := ul g1 (n1.ext.trans g2 (fun _ _ h => h.elim) fun _ _ _ h => h) (g3.imp id fun h => ⟨(by have := n1.size; omega), Nat.zero_le _⟩)
    refine W_st s2 (by simp only [upd_eq, Nat.reduceEqDiff, ↓reduceIte]; exact e0) (by simp only [upd_eq, Nat.reduceEqDiff, ↓reduceIte]; exact e1) (by simp only [upd_eq, Nat.reduceEqDiff, ↓reduceIte]; exact e2) (by simp only [upd_eq, Nat.reduceEqDiff, ↓reduceIte]; exact e6) (by simp only [upd_eq, Nat.reduceEqDiff, ↓reduceIte]; exact e7) ?_
    clear s s2 e0 e1 e2 e6 e7 ol ul vl on un vn wk2 nx x3 r3 s3 g1 g2 g3 hkv hb_p n1 a1 a2 L0
    clear e; intro e w s e0 e1 e2 e6 e7
    obtain ⟨lb, lo, lq, ol, ul, vl⟩ := s.nd 1 rfl
    obtain ⟨tb, to, tq, ot, ut, vt⟩ := s.nd 2 rfl
    refine W_sq fun K hK => (W_semi (some none) (.take false 0 (.take false 1 (.take false 2 (.take false 3 (.take true 4 (.take false 5 (.take false 6 (.take false 7 (.take true 8 (.bar 9 (.take false 10 (.take false 11 (.bar 12 .nil))))))))))))) mixed (by kernel_rfl) ?_); simp only [↓rgm, ↓List.toList_toArray, ↓rgd, ↓rgf, ↓reduceIte, Nat.reduceEqDiff, rg, ow_176, e0, e1, e2, e6, e7, ptr_eq, ol.h2, ot.h2]
    have a1 := ol.se.ext0 (Ext.dr noF w (w.drawn + 1))
    refine do_append (by simp only [evt, evc, upd_eq, Nat.reduceEqDiff, ↓reduceIte, ntT, ntF] <;> rfl) (by simp only [evt, evc, upd_eq, Nat.reduceEqDiff, ↓reduceIte, ntT, ntF] <;> rfl) rb_eli rfl ni_140 a1.slV (ot.se.ext0 (Ext.dr noF w (w.drawn + 1))).slV (by simp only [List.length_append, List.length_singleton]; omega) (by decide) (flat_oc Ez _) fun v2 w2 a2 => ⟨trivial, ?_⟩
    obtain ⟨gb, go, gc, rfl, wk2, -, nx⟩ := a1.app' (ls := rs) rfl a2
    simp only [↓List.toList_toArray, ↓rgd, ↓rgf, ↓reduceIte, Nat.reduceEqDiff, rg, ow_176, ↓rgm]
    refine do_store (by simp only [evt, evc, upd_eq, Nat.reduceEqDiff, ↓reduceIte, ntT, ntF] <;> rfl) (by simp only [evt, evc, upd_eq, Nat.reduceEqDiff, ↓reduceIte, ntT, ntF] <;> rfl) sz_140 rfl wk2 (by decide) (oc_one rfl rfl) fun w3 x3 r3 s3 => ⟨trivial, ?_⟩
    simp only [↓List.toList_toArray, ↓rgd, ↓rgf, ↓reduceIte, Nat.reduceEqDiff, rg, ow_176, ↓rgm]
    refine hK _ _ ?_; clear hK K
    obtain ⟨g1, g2, g3⟩ := nx w3 x3 (Row.cons.1 r3).1
    have s2 : Ss w0 G w3 [ndO Ez iso 1 b cb ks (ptr bc), ndO Ez iso 0 p (cl : Nat) ((ls ++ [k]) ++ rs) chl, ndO Ez iso 0 q (cr : Nat) rs chr, kdO (ptr bc) ps, kdO chl lp, kdO chr rp] := ul g1 ((Ext.dr noF w (w.drawn + 1)).trans g2 (fun _ _ h => h.elim) fun _ _ _ h => h) (g3.imp id fun h => ⟨h, Nat.zero_le _⟩)
    refine W_st s2 (by simp only [upd_eq, Nat.reduceEqDiff, ↓reduceIte]; exact e0) (by simp only [upd_eq, Nat.reduceEqDiff, ↓reduceIte]; exact e1) (by simp only [upd_eq, Nat.reduceEqDiff, ↓reduceIte]; exact e2) (by simp only [upd_eq, Nat.reduceEqDiff, ↓reduceIte]; exact e6) (by simp only [upd_eq, Nat.reduceEqDiff, ↓reduceIte]; exact e7) ?_
    clear s s2 e0 e1 e2 e6 e7 ol ul vl ot ut vt wk2 nx x3 r3 s3 g1 g2 g3 a1 a2
    clear e; intro e w s e0 e1 e2 e6 e7
    refine W_sqx fun J hJ => ?_
    have hend : ∀ e w, Ss w0 G w [ndO Ez iso 1 b cb ks (ptr bc), ndO Ez iso 0 p (cl : Nat) ((ls ++ [k]) ++ rs) chl, ndO Ez iso 0 q (cr : Nat) rs chr, kdO (ptr bc) ps, kdO chl (lp ++ rp), kdO chr rp] → e 0 = ptr m → e 1 = ptr b → e 2 = .int .i64 j → e 6 = ptr p → e 7 = ptr q → J e w := by
      clear s e0 e1 e2 e6 e7 e w
      intro e w s e0 e1 e2 e6 e7
      refine hJ _ _ ?_; clear hJ J
      obtain ⟨lb, lo, lq, ol, ul, vl⟩ := s.nd 1 rfl
      obtain ⟨tb, to, tq, ot, ut, vt⟩ := s.nd 2 rfl
      have q1 := wadd1 cr (by omega)
      have q2 := wadd cl (cr + 1) (by omega)
      refine W_sq fun K hK => (W_draw (some none) (some 12) [(0, 0, 0), (0, 1, 0), (0, 2, 0), (0, 3, 0), (0, 4, 0), (0, 5, 0), (0, 6, 0), (0, 7, 0), (0, 8, 0), (0, 9, 0), (0, 10, 0), (0, 11, 0), (1, 12, 0)] mixed (by kernel_rfl) ?_); simp only [↓List.toList_toArray, ↓rgd, ↓rgf, ↓reduceIte, Nat.reduceEqDiff, rg, ow_176, e0, e1, e2, e6, e7, ptr_eq, ol.h1, ot.h1, q1, q2]
      refine do_store (by simp only [evt, evc, upd_eq, Nat.reduceEqDiff, ↓reduceIte, ntT, ntF] <;> rfl) (by simp only [evt, evc, upd_eq, Nat.reduceEqDiff, ↓reduceIte, ntT, ntF] <;> rfl) sz_3 rfl ol.wb (by decide) (oc_one rfl rfl) fun w3 x3 r3 s3 => ⟨(by first | exact trivial | exact .inl trivial), ?_⟩
      simp only [↓List.toList_toArray, ↓rgd, ↓rgf, ↓reduceIte, Nat.reduceEqDiff, rg, ow_176, ↓rgm]
      refine hK _ _ ?_; clear hK K
      have s2 : Ss w0 G w3 [ndO Ez iso 1 b cb ks (ptr bc), ndO Ez iso 0 p ((cl + (cr + 1) : Nat) : Int) ((ls ++ [k]) ++ rs) chl, ndO Ez iso 0 q (cr : Nat) rs chr, kdO (ptr bc) ps, kdO chl (lp ++ rp), kdO chr rp] := vl x3.od (Row.cons.1 r3).1
      refine W_st s2 (by simp only [upd_eq, Nat.reduceEqDiff, ↓reduceIte]; exact e0) (by simp only [upd_eq, Nat.reduceEqDiff, ↓reduceIte]; exact e1) (by simp only [upd_eq, Nat.reduceEqDiff, ↓reduceIte]; exact e2) (by simp only [upd_eq, Nat.reduceEqDiff, ↓reduceIte]; exact e6) (by simp only [upd_eq, Nat.reduceEqDiff, ↓reduceIte]; exact e7) ?_
      clear s s2 e0 e1 e2 e6 e7 ol ul vl ot ut vt x3 r3 s3  q1 q2
      clear e; intro e w s e0 e1 e2 e6 e7
      obtain ⟨nb, no, nq, on, un, vn⟩ := s.nd 0 rfl
      have q1 := wadd1 j (by omega)
      have hil : j < ks.length := hjn
      have hic := on.se.le
      obtain ⟨o1, h1, h1', -, k1⟩ := on.se.from Ez_sz (j) (by omega)
      have h1' := h1' (by omega)
      try simp only [Nat.mul_one] at h1'
      subst h1'
      have i1 : j ≤ ks.length := by omega
      obtain ⟨o2, h2, -, v2, -⟩ := on.se.from Ez_sz (j + 1) (by omega)
      have i2 : (j + 1) ≤ ks.length := by omega
      refine W_sq fun K hK => (W_draw (some none) (some 13) [(0, 0, 0), (0, 1, 0), (0, 2, 0), (0, 3, 0), (0, 4, 0), (0, 5, 0), (0, 6, 0), (0, 7, 0), (0, 8, 0), (0, 9, 0), (0, 10, 0), (0, 11, 0), (0, 12, 0), (1, 13, 0)] mixed (by kernel_rfl) ?_); simp only [↓List.toList_toArray, ↓rgd, ↓rgf, ↓reduceIte, Nat.reduceEqDiff, rg, ow_176, e0, e1, e2, e6, e7, ptr_eq, on.h2, q1, i1, h1, i2, h2]
      refine do_copy (by simp only [evt, evc, upd_eq, Nat.reduceEqDiff, ↓reduceIte, ntT, ntF] <;> rfl) (by simp only [evt, evc, upd_eq, Nat.reduceEqDiff, ↓reduceIte, ntT, ntF] <;> rfl) rb_eli (SlV.ext0 v2 (Ext.dr noF w (w.drawn + 1))) ((Ext.dr noF w (w.drawn + 1)).wok k1) (flat_oc Ez _) fun w3 x3 r3 s3 => ⟨(by first | exact trivial | exact .inl trivial), ?_⟩
      simp only [↓List.toList_toArray, ↓rgd, ↓rgf, ↓reduceIte, Nat.reduceEqDiff, rg, ow_176, ↓rgm]
      refine hK _ _ ?_; clear hK K
      have hm : min (ks.length - (j + 1)) (ks.length - j) = ks.length - 1 - j := by omega
      rw [hm] at x3 r3
      rw [List.take_of_length_le (by rw [flat_length, List.length_drop, Ez_sz]; omega)] at r3
      obtain ⟨z, g1, g2⟩ := on.se.down (i := j) hil (by simp only [Ez_sz, Nat.mul_one]; (try simp only [Nat.mul_one] at x3); exact x3.od) (by simp only [Ez_sz, Nat.mul_one]; (try simp only [Nat.mul_one] at r3); first | exact r3 | exact (rb_cel _) ▸ r3)
      have s2 : Ss w0 G w3 [ndO Ez iso 1 b cb (ks.eraseIdx j ++ [z]) (ptr bc), ndO Ez iso 0 p ((cl + (cr + 1) : Nat) : Int) ((ls ++ [k]) ++ rs) chl, ndO Ez iso 0 q (cr : Nat) rs chr, kdO (ptr bc) ps, kdO chl (lp ++ rp), kdO chr rp] := un g1 g2 (.inl ⟨rfl, rfl, rfl⟩)
      refine W_st s2 (by simp only [upd_eq, Nat.reduceEqDiff, ↓reduceIte]; exact e0) (by simp only [upd_eq, Nat.reduceEqDiff, ↓reduceIte]; exact e1) (by simp only [upd_eq, Nat.reduceEqDiff, ↓reduceIte]; exact e2) (by simp only [upd_eq, Nat.reduceEqDiff, ↓reduceIte]; exact e6) (by simp only [upd_eq, Nat.reduceEqDiff, ↓reduceIte]; exact e7) ?_
      clear s s2 e0 e1 e2 e6 e7 on un vn x3 r3 s3 g1 g2 hm hil hic v2 h2 i2 q1 h1 i1 k1 
      clear e; intro e w s e0 e1 e2 e6 e7
      obtain ⟨nb, no, nq, on, un, vn⟩ := s.nd 0 rfl
      have hA : (ks.eraseIdx j ++ [z]).length = ks.length := by rw [List.length_append, List.length_singleton]; have := List.length_eraseIdx_of_lt hjn; omega
      have h2 := on.se.hd
      rw [hA] at h2
      have q1 := wsub1 (ks.length) (by omega) (by omega)
      have hi : ks.length - 1 < ks.length := by omega
      have z4 := zIt_at (hc.ext s.x fun o _ _ => hG o)
      refine W_sq fun K hK => (W_draw (some none) (some 15) [(0, 0, 0), (0, 1, 0), (0, 2, 0), (0, 3, 0), (0, 4, 0), (0, 5, 0), (0, 6, 0), (0, 7, 0), (0, 8, 0), (0, 9, 0), (0, 10, 0), (0, 11, 0), (0, 12, 0), (0, 13, 0), (0, 14, 0), (1, 15, 0)] mixed (by kernel_rfl) ?_); simp only [↓List.toList_toArray, ↓rgd, ↓rgf, ↓reduceIte, Nat.reduceEqDiff, rg, ow_176, e0, e1, e2, e6, e7, ptr_eq, h2, q1, hi, z4]
      refine do_store (by simp only [evt, evc, upd_eq, Nat.reduceEqDiff, ↓reduceIte, ntT, ntF] <;> rfl) (by simp only [evt, evc, upd_eq, Nat.reduceEqDiff, ↓reduceIte, ntT, ntF] <;> rfl) sz_20 (rb_len none) on.se.wi (by have := on.se.le; rw [Ez_sz]; rw [hA] at this; omega) (rb_oc none) fun w3 x3 r3 s3 => ⟨(by first | exact trivial | exact .inl trivial), ?_⟩
      simp only [↓List.toList_toArray, ↓rgd, ↓rgf, ↓reduceIte, Nat.reduceEqDiff, rg, ow_176, ↓rgm]
      refine hK _ _ ?_; clear hK K
      obtain ⟨g1, g2⟩ := on.se.set (i := ks.length - 1) (x := none) (by rw [hA]; omega) (by simp only [Ez_sz, Nat.mul_one]; exact x3.od) (by simp only [Ez_sz, Nat.mul_one]; first | exact r3 | exact (rb_cel _) ▸ r3)
      have hs : (ks.eraseIdx j ++ [z]).set (ks.length - 1) none = ks.eraseIdx j ++ [none] := by rw [show ks.length - 1 = (ks.eraseIdx j).length by have := List.length_eraseIdx_of_lt hjn; omega]; exact set_last
      rw [hs] at g1
      have s2 : Ss w0 G w3 [ndO Ez iso 1 b cb (ks.eraseIdx j ++ [none]) (ptr bc), ndO Ez iso 0 p ((cl + (cr + 1) : Nat) : Int) ((ls ++ [k]) ++ rs) chl, ndO Ez iso 0 q (cr : Nat) rs chr, kdO (ptr bc) ps, kdO chl (lp ++ rp), kdO chr rp] := un g1 g2 (.inl ⟨rfl, rfl, rfl⟩)
      refine W_st s2 (by simp only [upd_eq, Nat.reduceEqDiff, ↓reduceIte]; exact e0) (by simp only [upd_eq, Nat.reduceEqDiff, ↓reduceIte]; exact e1) (by simp only [upd_eq, Nat.reduceEqDiff, ↓reduceIte]; exact e2) (by simp only [upd_eq, Nat.reduceEqDiff, ↓reduceIte]; exact e6) (by simp only [upd_eq, Nat.reduceEqDiff, ↓reduceIte]; exact e7) ?_
      clear s s2 e0 e1 e2 e6 e7 on un vn x3 r3 s3 g1 g2 hA h2 q1 hi z4 hs
      clear e; intro e w s e0 e1 e2 e6 e7
      obtain ⟨nb, no, nq, on, un, vn⟩ := s.nd 0 rfl
      have hA : ((ks.eraseIdx j) ++ [none]).length = ks.length := by rw [List.length_append, List.length_singleton]; have := List.length_eraseIdx_of_lt hjn; omega
      have h2 := on.se.hd
      have h4 := on.se.le
      rw [hA] at h2 h4
      have q1 := wsub1 (ks.length) (by omega) (by omega)
      have hi : ks.length - 1 ≤ nq := by omega
      refine W_sq fun K hK => (W_draw (some none) (some 14) [(0, 0, 0), (0, 1, 0), (0, 2, 0), (0, 3, 0), (0, 4, 0), (0, 5, 0), (0, 6, 0), (0, 7, 0), (0, 8, 0), (0, 9, 0), (0, 10, 0), (0, 11, 0), (0, 12, 0), (0, 13, 0), (1, 14, 0)] mixed (by kernel_rfl) ?_); simp only [↓List.toList_toArray, ↓rgd, ↓rgf, ↓reduceIte, Nat.reduceEqDiff, rg, ow_176, e0, e1, e2, e6, e7, ptr_eq, h2, q1, hi]
      refine do_store (by simp only [evt, evc, upd_eq, Nat.reduceEqDiff, ↓reduceIte, ntT, ntF] <;> rfl) (by simp only [evt, evc, upd_eq, Nat.reduceEqDiff, ↓reduceIte, ntT, ntF] <;> rfl) sz_140 rfl on.se.hok (by decide) (oc_one rfl rfl) fun w3 x3 r3 s3 => ⟨(by first | exact trivial | exact .inl trivial), ?_⟩
      simp only [↓List.toList_toArray, ↓rgd, ↓rgf, ↓reduceIte, Nat.reduceEqDiff, rg, ow_176, ↓rgm]
      refine hK _ _ ?_; clear hK K
      obtain ⟨g1, g2⟩ := on.se.cut x3.od (by rw [show ((ks.eraseIdx j)).length = ks.length - 1 by have := List.length_eraseIdx_of_lt hjn; omega]; exact (Row.cons.1 r3).1)
      have s2 : Ss w0 G w3 [ndO Ez iso 1 b cb (ks.eraseIdx j) (ptr bc), ndO Ez iso 0 p ((cl + (cr + 1) : Nat) : Int) ((ls ++ [k]) ++ rs) chl, ndO Ez iso 0 q (cr : Nat) rs chr, kdO (ptr bc) ps, kdO chl (lp ++ rp), kdO chr rp] := un g1 g2 (.inl ⟨rfl, rfl, rfl⟩)
      refine W_st s2 (by simp only [upd_eq, Nat.reduceEqDiff, ↓reduceIte]; exact e0) (by simp only [upd_eq, Nat.reduceEqDiff, ↓reduceIte]; exact e1) (by simp only [upd_eq, Nat.reduceEqDiff, ↓reduceIte]; exact e2) (by simp only [upd_eq, Nat.reduceEqDiff, ↓reduceIte]; exact e6) (by simp only [upd_eq, Nat.reduceEqDiff, ↓reduceIte]; exact e7) ?_
      clear s s2 e0 e1 e2 e6 e7 on un vn x3 r3 s3 g1 g2 hA h2 h4 q1 hi
      clear e; intro e w s e0 e1 e2 e6 e7
      have hjp : j + 1 < ps.length := by omega
      obtain ⟨nb, no, nq, on, un, vn⟩ := s.nd 0 rfl
      obtain ⟨xb, xo, xq, ox, ux⟩ := s.kd 3 rfl
      have q1 := wadd1 j (by omega)
      have q2 : IntKind.i64.wrap ((j : Int) + 2) = ((j + 1 + 1 : Nat) : Int) := wadd j 2 (by omega)
      have hil : (j + 1) < ps.length := hjp
      have hic := ox.le
      obtain ⟨o1, h1, h1', -, k1⟩ := ox.from Eo_sz ((j + 1)) (by omega)
      have h1' := h1' (by omega)
      try simp only [Nat.mul_one] at h1'
      subst h1'
      have i1 : (j + 1) ≤ ps.length := by omega
      obtain ⟨o2, h2, -, v2, -⟩ := ox.from Eo_sz ((j + 1) + 1) (by omega)
      have i2 : ((j + 1) + 1) ≤ ps.length := by omega
      refine W_sq fun K hK => (W_draw (some none) (some 18) [(0, 0, 0), (0, 1, 0), (0, 2, 0), (0, 3, 0), (0, 4, 0), (0, 5, 0), (0, 6, 0), (0, 7, 0), (0, 8, 0), (0, 9, 0), (0, 10, 0), (0, 11, 0), (0, 12, 0), (0, 13, 0), (0, 14, 0), (0, 15, 0), (0, 16, 0), (0, 17, 0), (1, 18, 0)] mixed (by kernel_rfl) ?_); simp only [↓List.toList_toArray, ↓rgd, ↓rgf, ↓reduceIte, Nat.reduceEqDiff, rg, ow_176, e0, e1, e2, e6, e7, ptr_eq, on.h3, ox.hd, q1, q2, i1, h1, i2, h2]
      refine do_copy (by simp only [evt, evc, upd_eq, Nat.reduceEqDiff, ↓reduceIte, ntT, ntF] <;> rfl) (by simp only [evt, evc, upd_eq, Nat.reduceEqDiff, ↓reduceIte, ntT, ntF] <;> rfl) rb_elk (SlV.ext0 v2 (Ext.dr noF w (w.drawn + 1))) ((Ext.dr noF w (w.drawn + 1)).wok k1) (flat_oc Eo _) fun w3 x3 r3 s3 => ⟨(by first | exact trivial | exact .inl trivial), ?_⟩
      simp only [↓List.toList_toArray, ↓rgd, ↓rgf, ↓reduceIte, Nat.reduceEqDiff, rg, ow_176, ↓rgm]
      refine hK _ _ ?_; clear hK K
      have hm : min (ps.length - ((j + 1) + 1)) (ps.length - (j + 1)) = ps.length - 1 - (j + 1) := by omega
      rw [hm] at x3 r3
      rw [List.take_of_length_le (by rw [flat_length, List.length_drop, Eo_sz]; omega)] at r3
      obtain ⟨z, g1, g2⟩ := ox.down (i := (j + 1)) hil (by simpa only [Eo_sz, Nat.mul_one, Nat.zero_mul, Nat.add_zero] using x3.od) (by simpa only [Eo_sz, Nat.mul_one, Nat.zero_mul, Nat.add_zero] using r3)
      have s2 : Ss w0 G w3 [ndO Ez iso 1 b cb (ks.eraseIdx j) (ptr bc), ndO Ez iso 0 p ((cl + (cr + 1) : Nat) : Int) ((ls ++ [k]) ++ rs) chl, ndO Ez iso 0 q (cr : Nat) rs chr, kdO (ptr bc) (ps.eraseIdx (j + 1) ++ [z]), kdO chl (lp ++ rp), kdO chr rp] := ux g1 g2 (.inl ⟨rfl, rfl, rfl⟩)
      refine W_st s2 (by simp only [upd_eq, Nat.reduceEqDiff, ↓reduceIte]; exact e0) (by simp only [upd_eq, Nat.reduceEqDiff, ↓reduceIte]; exact e1) (by simp only [upd_eq, Nat.reduceEqDiff, ↓reduceIte]; exact e2) (by simp only [upd_eq, Nat.reduceEqDiff, ↓reduceIte]; exact e6) (by simp only [upd_eq, Nat.reduceEqDiff, ↓reduceIte]; exact e7) ?_
      clear s s2 e0 e1 e2 e6 e7 on un vn ox ux x3 r3 s3 g1 g2 hm hil hic v2 h2 i2 q1 q2 h1 i1 k1 
      clear e; intro e w s e0 e1 e2 e6 e7
      obtain ⟨nb, no, nq, on, un, vn⟩ := s.nd 0 rfl
      obtain ⟨xb, xo, xq, ox, ux⟩ := s.kd 3 rfl
      have hA : (ps.eraseIdx (j + 1) ++ [z]).length = ps.length := by rw [List.length_append, List.length_singleton]; have := List.length_eraseIdx_of_lt hjp; omega
      have h2 := ox.hd
      rw [hA] at h2
      have q1 := wsub1 (ps.length) (by omega) (by omega)
      have hi : ps.length - 1 < ps.length := by omega
      refine W_sq fun K hK => (W_draw (some none) (some 15) [(0, 0, 0), (0, 1, 0), (0, 2, 0), (0, 3, 0), (0, 4, 0), (0, 5, 0), (0, 6, 0), (0, 7, 0), (0, 8, 0), (0, 9, 0), (0, 10, 0), (0, 11, 0), (0, 12, 0), (0, 13, 0), (0, 14, 0), (1, 15, 0)] mixed (by kernel_rfl) ?_); simp only [↓List.toList_toArray, ↓rgd, ↓rgf, ↓reduceIte, Nat.reduceEqDiff, rg, ow_176, e0, e1, e2, e6, e7, ptr_eq, on.h3, h2, q1, hi]
      refine do_store (by simp only [evt, evc, upd_eq, Nat.reduceEqDiff, ↓reduceIte, ntT, ntF] <;> rfl) (by simp only [evt, evc, upd_eq, Nat.reduceEqDiff, ↓reduceIte, ntT, ntF] <;> rfl) sz_106 rfl ox.wi (by have := ox.le; rw [Eo_sz]; rw [hA] at this; omega) (oc_one rfl rfl) fun w3 x3 r3 s3 => ⟨(by first | exact trivial | exact .inl trivial), ?_⟩
      simp only [↓List.toList_toArray, ↓rgd, ↓rgf, ↓reduceIte, Nat.reduceEqDiff, rg, ow_176, ↓rgm]
      refine hK _ _ ?_; clear hK K
      obtain ⟨g1, g2⟩ := ox.set (i := ps.length - 1) (x := none) (by rw [hA]; omega) (by rw [Eo_sz, Nat.mul_one]; exact x3.od) (by rw [Eo_sz, Nat.mul_one]; first | exact r3 | exact (rb_cel _) ▸ r3)
      have hs : (ps.eraseIdx (j + 1) ++ [z]).set (ps.length - 1) none = ps.eraseIdx (j + 1) ++ [none] := by rw [show ps.length - 1 = (ps.eraseIdx (j + 1)).length by have := List.length_eraseIdx_of_lt hjp; omega]; exact set_last
      rw [hs] at g1
      have s2 : Ss w0 G w3 [ndO Ez iso 1 b cb (ks.eraseIdx j) (ptr bc), ndO Ez iso 0 p ((cl + (cr + 1) : Nat) : Int) ((ls ++ [k]) ++ rs) chl, ndO Ez iso 0 q (cr : Nat) rs chr, kdO (ptr bc) (ps.eraseIdx (j + 1) ++ [none]), kdO chl (lp ++ rp), kdO chr rp] := ux g1 g2 (.inl ⟨rfl, rfl, rfl⟩)
      refine W_st s2 (by simp only [upd_eq, Nat.reduceEqDiff, ↓reduceIte]; exact e0) (by simp only [upd_eq, Nat.reduceEqDiff, ↓reduceIte]; exact e1) (by simp only [upd_eq, Nat.reduceEqDiff, ↓reduceIte]; exact e2) (by simp only [upd_eq, Nat.reduceEqDiff, ↓reduceIte]; exact e6) (by simp only [upd_eq, Nat.reduceEqDiff, ↓reduceIte]; exact e7) ?_
      clear s s2 e0 e1 e2 e6 e7 on un vn ox ux x3 r3 s3 g1 g2 hA h2 q1 hi hs
      clear e; intro e w s e0 e1 e2 e6 e7
      obtain ⟨nb, no, nq, on, un, vn⟩ := s.nd 0 rfl
      obtain ⟨xb, xo, xq, ox, ux⟩ := s.kd 3 rfl
      have hA : ((ps.eraseIdx (j + 1)) ++ [none]).length = ps.length := by rw [List.length_append, List.length_singleton]; have := List.length_eraseIdx_of_lt hjp; omega
      have h2 := ox.hd
      have h4 := ox.le
      rw [hA] at h2 h4
      have q1 := wsub1 (ps.length) (by omega) (by omega)
      have hi : ps.length - 1 ≤ xq := by omega
      refine W_rg fun K hK => (W_draw (some none) (some 20) [(0, 0, 0), (0, 1, 0), (0, 2, 0), (0, 3, 0), (0, 4, 0), (0, 5, 0), (0, 6, 0), (0, 7, 0), (0, 8, 0), (0, 9, 0), (0, 10, 0), (0, 11, 0), (0, 12, 0), (0, 13, 0), (0, 14, 0), (0, 15, 0), (0, 16, 0), (0, 17, 0), (0, 18, 0), (0, 19, 0), (1, 20, 0)] mixed (by kernel_rfl) ?_); simp only [↓List.toList_toArray, ↓rgd, ↓rgf, ↓reduceIte, Nat.reduceEqDiff, rg, ow_176, e0, e1, e2, e6, e7, ptr_eq, on.h3, h2, q1, hi]
      refine do_store (by simp only [evt, evc, upd_eq, Nat.reduceEqDiff, ↓reduceIte, ntT, ntF] <;> rfl) (by simp only [evt, evc, upd_eq, Nat.reduceEqDiff, ↓reduceIte, ntT, ntF] <;> rfl) sz_144 rfl ox.hok (by decide) (oc_one rfl rfl) fun w3 x3 r3 s3 => ⟨(by first | exact trivial | exact .inl trivial), ?_⟩
      simp only [↓List.toList_toArray, ↓rgd, ↓rgf, ↓reduceIte, Nat.reduceEqDiff, rg, ow_176, ↓rgm]
      refine hK _ _ ?_; clear hK K
      obtain ⟨g1, g2⟩ := ox.cut x3.od (by rw [show ((ps.eraseIdx (j + 1))).length = ps.length - 1 by have := List.length_eraseIdx_of_lt hjp; omega]; exact (Row.cons.1 r3).1)
      have s2 : Ss w0 G w3 [ndO Ez iso 1 b cb (ks.eraseIdx j) (ptr bc), ndO Ez iso 0 p ((cl + (cr + 1) : Nat) : Int) ((ls ++ [k]) ++ rs) chl, ndO Ez iso 0 q (cr : Nat) rs chr, kdO (ptr bc) (ps.eraseIdx (j + 1)), kdO chl (lp ++ rp), kdO chr rp] := ux g1 g2 (.inl ⟨rfl, rfl, rfl⟩)
      show endQ _ _ _ _ _ _
      refine endQ_0n ?_
      rw [List.append_assoc] at s2
      exact s2
    obtain ⟨lb, lo, lq, ol, ul, vl⟩ := s.nd 1 rfl
    rcases hch with ⟨rfl, rfl, rfl, rfl⟩ | ⟨lc, rc, rfl, rfl, hlp, hrp⟩
    · refine W_sq fun K hK => (W_text [true, false, true] (by kernel_rfl) ?_); simp only [↓List.toList_toArray, ↓rgd, ↓rgf, ↓reduceIte, Nat.reduceEqDiff, rg, ow_176, e6]
      refine do_call fn_122 (by simp only [evt, evc, upd_eq, Nat.reduceEqDiff, ↓reduceIte, maT, maC, maN, isnN, isnS] <;> rfl) (leaf_any p none w ol.h3) ?_
      rintro _ w1 ⟨rfl, hw1⟩
      obtain rfl : w = w1 := hw1.symm
      refine ⟨trivial, ?_⟩
      simp only [↓List.toList_toArray, ↓rgd, ↓rgf, ↓reduceIte, Nat.reduceEqDiff, rg, ow_176]
      refine hK _ _ ?_; clear hK K
      refine W_false (by simp only [evt, evc, upd_eq, Nat.reduceEqDiff, ↓reduceIte, ntT, ntF] <;> rfl) (W_skip ?_)
      exact hend _ _ s (by simp only [upd_eq, Nat.reduceEqDiff, ↓reduceIte]; exact e0) (by simp only [upd_eq, Nat.reduceEqDiff, ↓reduceIte]; exact e1) (by simp only [upd_eq, Nat.reduceEqDiff, ↓reduceIte]; exact e2) (by simp only [upd_eq, Nat.reduceEqDiff, ↓reduceIte]; exact e6) (by simp only [upd_eq, Nat.reduceEqDiff, ↓reduceIte]; exact e7)
    · refine W_sq fun K hK => (W_text [true, false, true] (by kernel_rfl) ?_); simp only [↓List.toList_toArray, ↓rgd, ↓rgf, ↓reduceIte, Nat.reduceEqDiff, rg, ow_176, e6]
      refine do_call fn_122 (by simp only [evt, evc, upd_eq, Nat.reduceEqDiff, ↓reduceIte, maT, maC, maN, isnN, isnS] <;> rfl) (leaf_any p (some ⟨lc, 0, none⟩) w ol.h3) ?_
      rintro _ w1 ⟨rfl, hw1⟩
      obtain rfl : w = w1 := hw1.symm
      refine ⟨trivial, ?_⟩
      simp only [↓List.toList_toArray, ↓rgd, ↓rgf, ↓reduceIte, Nat.reduceEqDiff, rg, ow_176]
      refine hK _ _ ?_; clear hK K
      refine W_true (by simp only [evt, evc, upd_eq, Nat.reduceEqDiff, ↓reduceIte, ntT, ntF] <;> rfl) ?_
      refine W_st s (by simp only [upd_eq, Nat.reduceEqDiff, ↓reduceIte]; exact e0) (by simp only [upd_eq, Nat.reduceEqDiff, ↓reduceIte]; exact e1) (by simp only [upd_eq, Nat.reduceEqDiff, ↓reduceIte]; exact e2) (by simp only [upd_eq, Nat.reduceEqDiff, ↓reduceIte]; exact e6) (by simp only [upd_eq, Nat.reduceEqDiff, ↓reduceIte]; exact e7) ?_
      clear s e0 e1 e2 e6 e7 ol ul vl
      clear e; intro e w s e0 e1 e2 e6 e7
      obtain ⟨lb, lo, lq, ol, ul, vl⟩ := s.nd 1 rfl
      obtain ⟨yb, yo, yq, oy, uy, fn, fk⟩ := s.kdx 4 rfl (by omega)
      obtain ⟨tb, to, tq, ot, ut, vt⟩ := s.nd 2 rfl
      obtain ⟨zb, zo, zq, oz, uz⟩ := s.kd 5 rfl
      have L0 := on1_0 p
      refine W_rg fun K hK => (W_semi (some (some [p])) (.take false 0 (.take false 1 (.take false 2 (.take false 3 (.take false 4 (.take false 5 (.take false 6 (.take true 7 (.take false 8 (.take true 9 (.take false 10 (.take false 11 (.take false 12 (.take true 13 (.take false 14 (.take true 15 (.act 16 (.take false 17 (.bar 18 .nil))))))))))))))))))) mixed (by kernel_rfl) ?_); simp only [↓rgm, ↓List.toList_toArray, ↓rgd, ↓rgf, ↓reduceIte, Nat.reduceEqDiff, rg, ow_176, e0, e1, e2, e6, e7, ptr_eq, ol.h3, oy.hd, ot.h3, oz.hd, L0, rB_on]
      have a1 := oy.ext0 (Ext.dr noF w (w.drawn + 1))
      refine do_append (by simp only [evt, evc, upd_eq, Nat.reduceEqDiff, ↓reduceIte, ntT, ntF] <;> rfl) (by simp only [evt, evc, upd_eq, Nat.reduceEqDiff, ↓reduceIte, ntT, ntF] <;> rfl) rb_elk rfl ni_144 a1.slV (oz.ext0 (Ext.dr noF w (w.drawn + 1))).slV (by omega) (by decide) (flat_oc Eo _) fun v2 w2 a2 => ⟨.inr (app_keep a2 _ (fkeep1 ⟨wok_lt ol.wb, fn 1 (by decide) rfl⟩)), ?_⟩
      obtain ⟨gb, go, gc, rfl, wk2, -, nx⟩ := a1.app' (ls := rp) rfl a2
      simp only [↓List.toList_toArray, ↓rgd, ↓rgf, ↓reduceIte, Nat.reduceEqDiff, rg, ow_176, ↓rgm]
      refine do_store (by simp only [evt, evc, upd_eq, Nat.reduceEqDiff, ↓reduceIte, ntT, ntF] <;> rfl) (by simp only [evt, evc, upd_eq, Nat.reduceEqDiff, ↓reduceIte, ntT, ntF] <;> rfl) sz_144 rfl wk2 (by decide) (oc_one rfl rfl) fun w3 x3 r3 s3 => ⟨trivial, ?_⟩
      simp only [↓List.toList_toArray, ↓rgd, ↓rgf, ↓reduceIte, Nat.reduceEqDiff, rg, ow_176, ↓rgm]
      refine hK _ _ ?_; clear hK K
      obtain ⟨g1, g2, g3⟩ := nx w3 x3 (Row.cons.1 r3).1
      have s2 : Ss w0 G w3 [ndO Ez iso 1 b cb ks (ptr bc), ndO Ez iso 0 p (cl : Nat) ((ls ++ [k]) ++ rs) (ptr lc), ndO Ez iso 0 q (cr : Nat) rs (ptr rc), kdO (ptr bc) ps, kdO (ptr lc) (lp ++ rp), kdO (ptr rc) rp] := uy g1 ((Ext.dr noF w (w.drawn + 1)).trans g2 (fun _ _ h => h.elim) fun _ _ _ h => h) (g3.imp id fun h => h)
      exact hend _ _ s2 (by simp only [upd_eq, Nat.reduceEqDiff, ↓reduceIte]; exact e0) (by simp only [upd_eq, Nat.reduceEqDiff, ↓reduceIte]; exact e1) (by simp only [upd_eq, Nat.reduceEqDiff, ↓reduceIte]; exact e2) (by simp only [upd_eq, Nat.reduceEqDiff, ↓reduceIte]; exact e6) (by simp only [upd_eq, Nat.reduceEqDiff, ↓reduceIte]; exact e7)
  obtain ⟨nb, no, nc, on, un, vn⟩ := s.nd 0 rfl
  rcases hj with ⟨rfl, hj⟩ | ⟨rfl, hj⟩
  · have hb : ((i0 : Int) == (ks.length : Int)) = false := by simp; omega
    refine W_sq fun K hK => (W_text [true, true, true, true, true, true, true] (by kernel_rfl) ?_); simp only [↓List.toList_toArray, ↓rgd, ↓rgf, ↓reduceIte, Nat.reduceEqDiff, rg, ow_176, e1, e2, ptr_eq, on.h2, hb]
    refine hK _ _ ?_; clear hK K
    refine W_false (by simp only [evt, evc, upd_eq, Nat.reduceEqDiff, ↓reduceIte, ntT, ntF] <;> rfl) (W_skip ?_)
    exact hend _ (by simp only [upd_eq, Nat.reduceEqDiff, ↓reduceIte]; exact e0) (by simp only [upd_eq, Nat.reduceEqDiff, ↓reduceIte]; exact e1) (by simp only [upd_eq, Nat.reduceEqDiff, ↓reduceIte]; exact e2)
  · have hb : ((ks.length : Int) == (ks.length : Int)) = true := by simp
    refine W_sq fun K hK => (W_text [true, true, true, true, true, true, true] (by kernel_rfl) ?_); simp only [↓List.toList_toArray, ↓rgd, ↓rgf, ↓reduceIte, Nat.reduceEqDiff, rg, ow_176, e1, e2, ptr_eq, on.h2, hb]
    refine hK _ _ ?_; clear hK K
    refine W_true (by simp only [evt, evc, upd_eq, Nat.reduceEqDiff, ↓reduceIte, ntT, ntF] <;> rfl) ?_
    have q1 := wsub1 ks.length (by omega) (by omega)
    have hjs : ks.length - 1 = j := by omega
    refine W_rg fun K hK => (W_text [true, true, true] (by kernel_rfl) ?_); simp only [↓List.toList_toArray, ↓rgd, ↓rgf, ↓reduceIte, Nat.reduceEqDiff, rg, ow_176, e2, q1]
    refine hK _ _ ?_; clear hK K
    exact hend _ (by simp only [upd_eq, Nat.reduceEqDiff, ↓reduceIte]; exact e0) (by simp only [upd_eq, Nat.reduceEqDiff, ↓reduceIte]; exact e1) (by simp only [upd_eq, Nat.reduceEqDiff, ↓reduceIte] <;> rw [hjs])
end Go.Proofs.Ytanmjbkbdmeckaa
/-
  nodeRebalance: left to right. No condition.
-/
set_option linter.unusedSimpArgs false
set_option linter.unusedVariables false
namespace Go.Proofs.Ytanmjbkbdmeckaa
open Go Go.Proofs
set_option maxHeartbeats 4000000 in
set_option maxRecDepth 8000 in
theorem zreb_right (m d b p q bc i0 j cl cr : Nat) (iso cb : Int) (ks ls rs : List (Option It)) (k x : Option It) (ps lp rp : List (Option Nat)) (chl chr : Value) (w0 w : World) (G : Nat → Nat → Prop) (hd : 2 ≤ d) (hd' : d ≤ 128) (hc : Cfg w0 m iso d) (hG : ∀ o, ¬ G m o)
    (s : Ss w0 G w [ndO Ez iso 1 b cb ks (ptr bc), ndO Ez iso 0 p (cl : Nat) (ls ++ [x]) chl, ndO Ez iso 0 q (cr : Nat) rs chr, kdO (ptr bc) ps, kdO chl lp, kdO chr rp]) (hj : (i0 = j ∧ j < ks.length) ∨ (i0 = ks.length ∧ j + 1 = ks.length)) (hkl : ks.length ≤ 2 * d - 1) (hk : ks[j]? = some k) (hps : ps.length = ks.length + 1) (hp : ps[j]? = some (some p)) (hq : ps[j + 1]? = some (some q))
    (hch : (chl = .pointer none ∧ chr = .pointer none ∧ lp = [] ∧ rp = []) ∨ ∃ lc rc, chl = ptr lc ∧ chr = ptr rc ∧ lp.length = (ls ++ [x]).length + 1 ∧ rp.length = rs.length + 1) (hll : (ls ++ [x]).length ≤ 2 * d - 1) (hrl : rs.length ≤ 2 * d - 1) (hcl : cl < 2305843009213693952) (hcr : cr < 2305843009213693952) (hlt : 2 * d - 1 ≤ (ls ++ [x]).length + rs.length) (hgt : rs.length < (ls ++ [x]).length) (cg : Nat) (hcg : 1 + cg ≤ cl) (hcgb : cr + cg < 2305843009213693952) (hg : (lp = [] ∧ cg = 0) ∨ ∃ g lp', lp = lp' ++ [some g] ∧ rd w0 g 1 = some (.int .i64 (cg : Nat)) ∧ ∀ o, ¬ G g o) :
    CallK Try.prog 176 #[ptr m, ptr b, .int .i64 (i0 : Nat)] w fun _ w' => Ss w0 G w' [ndO Ez iso 1 b cb (ks.set j x) (ptr bc), ndO Ez iso 0 p ((cl - 1 - cg : Nat) : Int) ls chl, ndO Ez iso 0 q ((cr + 1 + cg : Nat) : Int) (k :: rs) chr, kdO (ptr bc) ps, kdO chl lp.dropLast, kdO chr (lp.drop (lp.length - 1) ++ rp)] := by
  have hjn : j < ks.length := (List.getElem?_eq_some_iff.1 hk).1
  refine calls_of_W [] Try.func176 rfl Try.ntmps176 Try.results176 (by simp) fun e he => ?_
  have e0 : e 0 = ptr m := he 0 _ rfl
  have e1 : e 1 = ptr b := he 1 _ rfl
  have e2 : e 2 = .int .i64 (i0 : Nat) := he 2 _ rfl
  clear he
  refine W_sqx fun J hJ => ?_
  have hend : ∀ e, e 0 = ptr m → e 1 = ptr b → e 2 = .int .i64 j → J e w := by
    clear e0 e1 e2 e
    intro e e0 e1 e2
    refine hJ _ _ ?_; clear hJ J
    obtain ⟨nb, no, nc, on, un, vn⟩ := s.nd 0 rfl
    obtain ⟨xb, xo, xc, ox, ux⟩ := s.kd 3 rfl
    obtain ⟨lb, lo, lq, ol, ul, vl⟩ := s.nd 1 rfl
    obtain ⟨tb, to, tq, ot, ut, vt⟩ := s.nd 2 rfl
    have hiso := (hc.ext s.x fun o _ _ => hG o).iso
    have hjp : j < ps.length := by omega
    refine W_sq fun K hK => (W_text [true, true, true, true, true, true, true, true, true, false, true] (by kernel_rfl) ?_); simp only [↓List.toList_toArray, ↓rgd, ↓rgf, ↓reduceIte, Nat.reduceEqDiff, rg, ow_176, e0, e1, e2, ptr_eq, on.h3, ox.hd, hjp]
    refine do_call fn_121 (by simp only [evt, evc, upd_eq, Nat.reduceEqDiff, ↓reduceIte, maT, maC, maN, isnN, isnS] <;> rfl) (isoLoad_any m xb (xo + j) p true iso _ hiso (ox.ptr_at hp) ol.h0) ?_
    rintro _ w1 ⟨rfl, r1⟩
    refine ⟨trivial, ?_⟩
    simp only [↓List.toList_toArray, ↓rgd, ↓rgf, ↓reduceIte, Nat.reduceEqDiff, rg, ow_176]
    refine hK _ _ ?_; clear hK K
    have X1 : Ext noF w w1 := r1.ext
    have on := on.ext X1 fun _ _ _ g => g
    have ox := ox.ext0 X1
    have ot := ot.ext X1 fun _ _ _ g => g
    have hiso := X1.rd hiso fun g => g
    have q1 := wadd1 j (by omega)
    have hjp : j + 1 < ps.length := by omega
    refine W_sq fun K hK => (W_text [true, true, true, true, true, true, true, true, true, true, false, true] (by kernel_rfl) ?_); simp only [↓List.toList_toArray, ↓rgd, ↓rgf, ↓reduceIte, Nat.reduceEqDiff, rg, ow_176, e0, e1, e2, ptr_eq, on.h3, ox.hd, hjp, q1]
    refine do_call fn_121 (by simp only [evt, evc, upd_eq, Nat.reduceEqDiff, ↓reduceIte, maT, maC, maN, isnN, isnS] <;> rfl) (isoLoad_any m xb (xo + (j + 1)) q true iso _ hiso (ox.ptr_at hq) ot.h0) ?_
    rintro _ w2 ⟨rfl, r2⟩
    refine ⟨trivial, ?_⟩
    simp only [↓List.toList_toArray, ↓rgd, ↓rgf, ↓reduceIte, Nat.reduceEqDiff, rg, ow_176]
    refine hK _ _ ?_; clear hK K
    have s2 := (s.ext0 X1).ext0 r2.ext
    refine W_st s2 (by simp only [upd_eq, Nat.reduceEqDiff, ↓reduceIte]; exact e0) (by simp only [upd_eq, Nat.reduceEqDiff, ↓reduceIte]; exact e1) (by simp only [upd_eq, Nat.reduceEqDiff, ↓reduceIte]; exact e2) (by simp only [upd_eq, Nat.reduceEqDiff, ↓reduceIte] <;> rfl) (by simp only [upd_eq, Nat.reduceEqDiff, ↓reduceIte] <;> rfl) ?_
    clear s s2 e0 e1 e2 on un vn ox ux ol ul vl ot ut vt hiso X1 r1 r2 hjp q1
    clear e; intro e w s e0 e1 e2 e6 e7
    obtain ⟨lb, lo, lq, ol, ul, vl⟩ := s.nd 1 rfl
    obtain ⟨tb, to, tq, ot, ut, vt⟩ := s.nd 2 rfl
    have q1 := wadd (ls ++ [x]).length rs.length (by omega)
    have hmx := (hc.ext s.x fun o _ _ => hG o).mx
    have hb : decide ((((ls ++ [x]).length + rs.length : Nat) : Int) < ((2 * d - 1 : Nat) : Int)) = false := by simp only [decide_eq_false_iff_not]; omega
    refine W_sq fun K hK => (W_draw (some none) none [(0, 0, 0), (0, 1, 0), (0, 2, 0), (0, 3, 0), (0, 4, 0), (0, 5, 0), (0, 6, 0), (0, 7, 0), (0, 8, 0), (0, 9, 0), (0, 10, 0), (0, 11, 0), (0, 12, 0), (0, 13, 0), (0, 14, 0), (0, 15, 0)] mixed (by kernel_rfl) ?_); simp only [↓List.toList_toArray, ↓rgd, ↓rgf, ↓reduceIte, Nat.reduceEqDiff, rg, ow_176, e0, e6, e7, ptr_eq, ol.h2, ot.h2, q1, hmx, hb]
    refine hK _ _ ?_; clear hK K
    refine W_false (by simp only [evt, evc, upd_eq, Nat.reduceEqDiff, ↓reduceIte, ntT, ntF] <;> rfl) ?_
    have hb2 : decide ((rs.length : Int) < ((ls ++ [x]).length : Int)) = true := by simp only [decide_eq_true_eq]; omega
    refine W_sq fun K hK => (W_draw (some none) none [(0, 0, 0), (0, 1, 0), (0, 2, 0), (0, 3, 0), (0, 4, 0), (0, 5, 0), (0, 6, 0), (0, 7, 0), (0, 8, 0), (0, 9, 0), (0, 10, 0)] mixed (by kernel_rfl) ?_); simp only [↓List.toList_toArray, ↓rgd, ↓rgf, ↓reduceIte, Nat.reduceEqDiff, rg, ow_176, e0, e6, e7, ptr_eq, ol.h2, ot.h2, hb2]
    refine hK _ _ ?_; clear hK K
    refine W_true (by simp only [evt, evc, upd_eq, Nat.reduceEqDiff, ↓reduceIte, ntT, ntF] <;> rfl) ?_
    refine W_st (s.ext0 (Ext.dr noF w _)) (by simp only [upd_eq, Nat.reduceEqDiff, ↓reduceIte]; exact e0) (by simp only [upd_eq, Nat.reduceEqDiff, ↓reduceIte]; exact e1) (by simp only [upd_eq, Nat.reduceEqDiff, ↓reduceIte]; exact e2) (by simp only [upd_eq, Nat.reduceEqDiff, ↓reduceIte]; exact e6) (by simp only [upd_eq, Nat.reduceEqDiff, ↓reduceIte]; exact e7) ?_
    clear s e0 e1 e2 e6 e7 ol ul vl ot ut vt q1 hmx hb hb2
    clear e; intro e w s e0 e1 e2 e6 e7
    obtain ⟨n0, hn0⟩ : ∃ n0, n0 = ls.length + 1 := ⟨_, rfl⟩
    have hnl : (ls ++ [x]).length = n0 := by simp [hn0]
    obtain ⟨tb, to, tq, ot, ut, vt⟩ := s.nd 2 rfl
    have z4 := zIt_at (hc.ext s.x fun o _ _ => hG o)
    have hb_q := wok_lt ot.wb
    have L0 := on1_0 q
    refine W_sq fun K hK => (W_semi (some (some [q])) (.take false 0 (.take false 1 (.take false 2 (.take false 3 (.take false 4 (.take false 5 (.take false 6 (.take false 7 (.take true 8 (.act 9 (.bar 10 (.take false 11 (.take false 12 (.bar 13 .nil)))))))))))))) mixed (by kernel_rfl) ?_); simp only [↓rgm, ↓List.toList_toArray, ↓rgd, ↓rgf, ↓reduceIte, Nat.reduceEqDiff, rg, ow_176, e0, e1, e2, e6, e7, ptr_eq, ot.h2, z4, L0, rB_on]
    refine do_bsl rfl (rb_k none) fun w1 n1 => ⟨.inr (n1.keep _ (lt1 hb_q)), ?_⟩
    simp only [↓List.toList_toArray, ↓rgd, ↓rgf, ↓reduceIte, Nat.reduceEqDiff, rg, ow_176, ↓rgm]
    have n1 := n1.od
    have a1 := ot.se.ext0 n1.ext
    refine do_append (by simp only [evt, evc, upd_eq, Nat.reduceEqDiff, ↓reduceIte, ntT, ntF] <;> rfl) (by simp only [evt, evc, upd_eq, Nat.reduceEqDiff, ↓reduceIte, ntT, ntF] <;> rfl) rb_eli rfl ni_140 a1.slV (u := .slice (some ⟨w.heap.size, 0, none⟩) 1 1) (m := 1) (l' := Ez.cel none) ⟨rfl, .inr ⟨_, 0, 1, rfl, Nat.le_refl _, n1.row, n1.wok.R (Nat.le_refl _)⟩⟩ (by omega) (by decide) (Ez.one _) fun v2 w2 a2 => ⟨trivial, ?_⟩
    obtain ⟨gb, go, gc, rfl, wk2, -, nx⟩ := a1.app' (ls := [none]) rfl (by rw [flat_one]; exact a2)
    simp only [↓List.toList_toArray, ↓rgd, ↓rgf, ↓reduceIte, Nat.reduceEqDiff, rg, ow_176, ↓rgm]
    refine do_store (by simp only [evt, evc, upd_eq, Nat.reduceEqDiff, ↓reduceIte, ntT, ntF] <;> rfl) (by simp only [evt, evc, upd_eq, Nat.reduceEqDiff, ↓reduceIte, ntT, ntF] <;> rfl) sz_140 rfl wk2 (by decide) (oc_one rfl rfl) fun w3 x3 r3 s3 => ⟨trivial, ?_⟩
    simp only [↓List.toList_toArray, ↓rgd, ↓rgf, ↓reduceIte, Nat.reduceEqDiff, rg, ow_176, ↓rgm]
    refine hK _ _ ?_; clear hK K
    obtain ⟨g1, g2, g3⟩ := nx w3 x3 (Row.cons.1 r3).1
    have s2 : Ss w0 G w3 [ndO Ez iso 1 b cb ks (ptr bc), ndO Ez iso 0 p (cl : Nat) (ls ++ [x]) chl, ndO Ez iso 0 q (cr : Nat) (rs ++ [none]) chr, kdO (ptr bc) ps, kdO chl lp, kdO chr rp] := ut g1 (n1.ext.trans g2 (fun _ _ h => h.elim) fun _ _ _ h => h) (g3.imp id fun h => ⟨(by have := n1.size; omega), Nat.zero_le _⟩)
    refine W_st s2 (by simp only [upd_eq, Nat.reduceEqDiff, ↓reduceIte]; exact e0) (by simp only [upd_eq, Nat.reduceEqDiff, ↓reduceIte]; exact e1) (by simp only [upd_eq, Nat.reduceEqDiff, ↓reduceIte]; exact e2) (by simp only [upd_eq, Nat.reduceEqDiff, ↓reduceIte]; exact e6) (by simp only [upd_eq, Nat.reduceEqDiff, ↓reduceIte]; exact e7) ?_
    clear s s2 e0 e1 e2 e6 e7 ot ut vt wk2 nx x3 r3 s3 g1 g2 g3 z4 hb_q n1 a1 a2 L0
    clear e; intro e w s e0 e1 e2 e6 e7
    obtain ⟨tb, to, tq, ot, ut, vt⟩ := s.nd 2 rfl
    have hic := ot.se.le
    have hle : (rs ++ [none]).length = rs.length + 1 := by simp
    have i2 : 1 ≤ (rs ++ [none]).length := by omega
    obtain ⟨o1, h1, h1', -, k1⟩ := ot.se.from Ez_sz 1 i2
    have h3 : slcX (some 1) (.slice (some ⟨tb, to, none⟩) (rs ++ [none]).length tq) (some (.int .i64 1)) none none = some (slFrom tb to 1 1 (rs ++ [none]).length tq) := slcX_lo _ _ _ _ _ 1 _ i2
    refine W_sq fun K hK => (W_draw (some none) (some 9) [(0, 0, 0), (0, 1, 0), (0, 2, 0), (0, 3, 0), (0, 4, 0), (0, 5, 0), (0, 6, 0), (0, 7, 0), (0, 8, 0), (1, 9, 0)] mixed (by kernel_rfl) ?_); simp only [↓List.toList_toArray, ↓rgd, ↓rgf, ↓reduceIte, Nat.reduceEqDiff, rg, ow_176, e0, e1, e2, e6, e7, ptr_eq, ot.h2, h3, h1]
    refine do_copy (by simp only [evt, evc, upd_eq, Nat.reduceEqDiff, ↓reduceIte, ntT, ntF] <;> rfl) (by simp only [evt, evc, upd_eq, Nat.reduceEqDiff, ↓reduceIte, ntT, ntF] <;> rfl) rb_eli (SlV.ext0 ot.se.slV (Ext.dr noF w (w.drawn + 1))) ((Ext.dr noF w (w.drawn + 1)).wok k1) (flat_oc Ez _) fun w3 x3 r3 s3 => ⟨(by first | exact trivial | exact .inl trivial), ?_⟩
    simp only [↓List.toList_toArray, ↓rgd, ↓rgf, ↓reduceIte, Nat.reduceEqDiff, rg, ow_176, ↓rgm]
    refine hK _ _ ?_; clear hK K
    have hm : min (rs ++ [none]).length ((rs ++ [none]).length - 1) = rs.length := by omega
    rw [hm] at x3 r3
    rw [show rs.length * 1 = rs.length * Ez.sz from rfl, flat_take, List.take_left' rfl] at r3
    obtain ⟨g1, g2⟩ := ot.se.up x3.od r3 fun hA => by have := h1' (by omega); rw [Ez_sz]; omega
    have s2 : Ss w0 G w3 [ndO Ez iso 1 b cb ks (ptr bc), ndO Ez iso 0 p (cl : Nat) (ls ++ [x]) chl, ndO Ez iso 0 q (cr : Nat) ((rs ++ [none]).take 1 ++ rs) chr, kdO (ptr bc) ps, kdO chl lp, kdO chr rp] := ut g1 g2 (.inl ⟨rfl, rfl, rfl⟩)
    refine W_st s2 (by simp only [upd_eq, Nat.reduceEqDiff, ↓reduceIte]; exact e0) (by simp only [upd_eq, Nat.reduceEqDiff, ↓reduceIte]; exact e1) (by simp only [upd_eq, Nat.reduceEqDiff, ↓reduceIte]; exact e2) (by simp only [upd_eq, Nat.reduceEqDiff, ↓reduceIte]; exact e6) (by simp only [upd_eq, Nat.reduceEqDiff, ↓reduceIte]; exact e7) ?_
    clear s s2 e0 e1 e2 e6 e7 ot ut vt x3 r3 s3 g1 g2 hm hic hle i2 h1 h1' k1 h3
    clear e; intro e w s e0 e1 e2 e6 e7
    obtain ⟨tb, to, tq, ot, ut, vt⟩ := s.nd 2 rfl
    obtain ⟨nb, no, nq, on, un, vn⟩ := s.nd 0 rfl
    have hkv := itz_at on.row hk
    have hl0 : 0 < ((rs ++ [none]).take 1 ++ rs).length := by simp only [List.length_append, List.length_take, List.length_cons, List.length_nil]; omega
    have i0 := ix0 1 tb to ((rs ++ [none]).take 1 ++ rs).length hl0
    refine W_sq fun K hK => (W_draw (some none) (some 12) [(0, 0, 0), (0, 1, 0), (0, 2, 0), (0, 3, 0), (0, 4, 0), (0, 5, 0), (0, 6, 0), (0, 7, 0), (0, 8, 0), (0, 9, 0), (0, 10, 0), (0, 11, 0), (1, 12, 0)] mixed (by kernel_rfl) ?_); simp only [↓List.toList_toArray, ↓rgd, ↓rgf, ↓reduceIte, Nat.reduceEqDiff, rg, ow_176, e0, e1, e2, e6, e7, ptr_eq, ot.h2, on.h2, hjn, hkv, i0]
    refine do_store (by simp only [evt, evc, upd_eq, Nat.reduceEqDiff, ↓reduceIte, ntT, ntF] <;> rfl) (by simp only [evt, evc, upd_eq, Nat.reduceEqDiff, ↓reduceIte, ntT, ntF] <;> rfl) sz_20 (rb_len k) ot.se.wi (by have := ot.se.le; rw [Ez_sz]; skip; omega) (rb_oc k) fun w3 x3 r3 s3 => ⟨(by first | exact trivial | exact .inl trivial), ?_⟩
    simp only [↓List.toList_toArray, ↓rgd, ↓rgf, ↓reduceIte, Nat.reduceEqDiff, rg, ow_176, ↓rgm]
    refine hK _ _ ?_; clear hK K
    obtain ⟨g1, g2⟩ := ot.se.set (i := 0) (x := k) (hl0) (by rw [Nat.zero_mul, Nat.add_zero]; exact x3.od) (by rw [Nat.zero_mul, Nat.add_zero]; first | exact r3 | exact (rb_cel _) ▸ r3)
    rw [set_first] at g1
    have s2 : Ss w0 G w3 [ndO Ez iso 1 b cb ks (ptr bc), ndO Ez iso 0 p (cl : Nat) (ls ++ [x]) chl, ndO Ez iso 0 q (cr : Nat) (k :: rs) chr, kdO (ptr bc) ps, kdO chl lp, kdO chr rp] := ut g1 g2 (.inl ⟨rfl, rfl, rfl⟩)
    refine W_st s2 (by simp only [upd_eq, Nat.reduceEqDiff, ↓reduceIte]; exact e0) (by simp only [upd_eq, Nat.reduceEqDiff, ↓reduceIte]; exact e1) (by simp only [upd_eq, Nat.reduceEqDiff, ↓reduceIte]; exact e2) (by simp only [upd_eq, Nat.reduceEqDiff, ↓reduceIte]; exact e6) (by simp only [upd_eq, Nat.reduceEqDiff, ↓reduceIte]; exact e7) ?_
    clear s s2 e0 e1 e2 e6 e7 ot ut vt on un vn x3 r3 s3 g1 g2 hkv hl0 i0
    clear e; intro e w s e0 e1 e2 e6 e7
    obtain ⟨tb, to, tq, ot, ut, vt⟩ := s.nd 2 rfl
    have q1 := wadd1 cr (by omega)
    refine W_sq fun K hK => (W_text [true, true, true, true, true, true, true, false] (by kernel_rfl) ?_); simp only [↓List.toList_toArray, ↓rgd, ↓rgf, ↓reduceIte, Nat.reduceEqDiff, rg, ow_176, e0, e1, e2, e6, e7, ptr_eq, ot.h1, q1]
    refine do_store (by simp only [evt, evc, upd_eq, Nat.reduceEqDiff, ↓reduceIte, ntT, ntF] <;> rfl) (by simp only [evt, evc, upd_eq, Nat.reduceEqDiff, ↓reduceIte, ntT, ntF] <;> rfl) sz_3 rfl ot.wb (by decide) (oc_one rfl rfl) fun w3 x3 r3 s3 => ⟨(by first | exact trivial | exact .inl trivial), ?_⟩
    simp only [↓List.toList_toArray, ↓rgd, ↓rgf, ↓reduceIte, Nat.reduceEqDiff, rg, ow_176, ↓rgm]
    refine hK _ _ ?_; clear hK K
    have s2 : Ss w0 G w3 [ndO Ez iso 1 b cb ks (ptr bc), ndO Ez iso 0 p (cl : Nat) (ls ++ [x]) chl, ndO Ez iso 0 q ((cr + 1 : Nat) : Int) (k :: rs) chr, kdO (ptr bc) ps, kdO chl lp, kdO chr rp] := vt x3 (Row.cons.1 r3).1
    refine W_st s2 (by simp only [upd_eq, Nat.reduceEqDiff, ↓reduceIte]; exact e0) (by simp only [upd_eq, Nat.reduceEqDiff, ↓reduceIte]; exact e1) (by simp only [upd_eq, Nat.reduceEqDiff, ↓reduceIte]; exact e2) (by simp only [upd_eq, Nat.reduceEqDiff, ↓reduceIte]; exact e6) (by simp only [upd_eq, Nat.reduceEqDiff, ↓reduceIte]; exact e7) ?_
    clear s s2 e0 e1 e2 e6 e7 ot ut vt x3 r3 s3  q1
    clear e; intro e w s e0 e1 e2 e6 e7
    obtain ⟨nb, no, nq, on, un, vn⟩ := s.nd 0 rfl
    obtain ⟨lb, lo, lq, ol, ul, vl⟩ := s.nd 1 rfl
    have h2 := ol.h2
    rw [hnl] at h2
    have q1 := wsub1 n0 (by omega) (by omega)
    have hi : n0 - 1 < n0 := by omega
    have hxv := itz_at ol.row (i := n0 - 1) (x := x) (by simp [hn0])
    refine W_sq fun K hK => (W_draw (some none) (some 18) [(0, 0, 0), (0, 1, 0), (0, 2, 0), (0, 3, 0), (0, 4, 0), (0, 5, 0), (0, 6, 0), (0, 7, 0), (0, 8, 0), (0, 9, 0), (0, 10, 0), (0, 11, 0), (0, 12, 0), (0, 13, 0), (0, 14, 0), (0, 15, 0), (0, 16, 0), (0, 17, 0), (1, 18, 0)] mixed (by kernel_rfl) ?_); simp only [↓List.toList_toArray, ↓rgd, ↓rgf, ↓reduceIte, Nat.reduceEqDiff, rg, ow_176, e0, e1, e2, e6, e7, ptr_eq, on.h2, h2, hjn, q1, hi, hxv]
    refine do_store (by simp only [evt, evc, upd_eq, Nat.reduceEqDiff, ↓reduceIte, ntT, ntF] <;> rfl) (by simp only [evt, evc, upd_eq, Nat.reduceEqDiff, ↓reduceIte, ntT, ntF] <;> rfl) sz_20 (rb_len x) on.se.wi (by have := on.se.le; rw [Ez_sz]; skip; omega) (rb_oc x) fun w3 x3 r3 s3 => ⟨(by first | exact trivial | exact .inl trivial), ?_⟩
    simp only [↓List.toList_toArray, ↓rgd, ↓rgf, ↓reduceIte, Nat.reduceEqDiff, rg, ow_176, ↓rgm]
    refine hK _ _ ?_; clear hK K
    obtain ⟨g1, g2⟩ := on.se.set (i := j) (x := x) (hjn) (by simp only [Ez_sz, Nat.mul_one]; exact x3.od) (by simp only [Ez_sz, Nat.mul_one]; first | exact r3 | exact (rb_cel _) ▸ r3)
    skip
    have s2 : Ss w0 G w3 [ndO Ez iso 1 b cb (ks.set j x) (ptr bc), ndO Ez iso 0 p (cl : Nat) (ls ++ [x]) chl, ndO Ez iso 0 q ((cr + 1 : Nat) : Int) (k :: rs) chr, kdO (ptr bc) ps, kdO chl lp, kdO chr rp] := un g1 g2 (.inl ⟨rfl, rfl, rfl⟩)
    refine W_st s2 (by simp only [upd_eq, Nat.reduceEqDiff, ↓reduceIte]; exact e0) (by simp only [upd_eq, Nat.reduceEqDiff, ↓reduceIte]; exact e1) (by simp only [upd_eq, Nat.reduceEqDiff, ↓reduceIte]; exact e2) (by simp only [upd_eq, Nat.reduceEqDiff, ↓reduceIte]; exact e6) (by simp only [upd_eq, Nat.reduceEqDiff, ↓reduceIte]; exact e7) ?_
    clear s s2 e0 e1 e2 e6 e7 on un vn ol ul vl x3 r3 s3 g1 g2 h2 q1 hi hxv
    clear e; intro e w s e0 e1 e2 e6 e7
    obtain ⟨lb, lo, lq, ol, ul, vl⟩ := s.nd 1 rfl
    have hA : (ls ++ [x]).length = n0 := by rw [List.length_append, List.length_singleton]; skip; omega
    have h2 := ol.se.hd
    rw [hA] at h2
    have q1 := wsub1 (n0) (by omega) (by omega)
    have hi : n0 - 1 < n0 := by omega
    have z4 := zIt_at (hc.ext s.x fun o _ _ => hG o)
    refine W_sq fun K hK => (W_draw (some none) (some 15) [(0, 0, 0), (0, 1, 0), (0, 2, 0), (0, 3, 0), (0, 4, 0), (0, 5, 0), (0, 6, 0), (0, 7, 0), (0, 8, 0), (0, 9, 0), (0, 10, 0), (0, 11, 0), (0, 12, 0), (0, 13, 0), (0, 14, 0), (1, 15, 0)] mixed (by kernel_rfl) ?_); simp only [↓List.toList_toArray, ↓rgd, ↓rgf, ↓reduceIte, Nat.reduceEqDiff, rg, ow_176, e0, e1, e2, e6, e7, ptr_eq, h2, q1, hi, z4]
    refine do_store (by simp only [evt, evc, upd_eq, Nat.reduceEqDiff, ↓reduceIte, ntT, ntF] <;> rfl) (by simp only [evt, evc, upd_eq, Nat.reduceEqDiff, ↓reduceIte, ntT, ntF] <;> rfl) sz_20 (rb_len none) ol.se.wi (by have := ol.se.le; rw [Ez_sz]; rw [hA] at this; omega) (rb_oc none) fun w3 x3 r3 s3 => ⟨(by first | exact trivial | exact .inl trivial), ?_⟩
    simp only [↓List.toList_toArray, ↓rgd, ↓rgf, ↓reduceIte, Nat.reduceEqDiff, rg, ow_176, ↓rgm]
    refine hK _ _ ?_; clear hK K
    obtain ⟨g1, g2⟩ := ol.se.set (i := n0 - 1) (x := none) (by rw [hA]; omega) (by simp only [Ez_sz, Nat.mul_one]; exact x3.od) (by simp only [Ez_sz, Nat.mul_one]; first | exact r3 | exact (rb_cel _) ▸ r3)
    have hs : (ls ++ [x]).set (n0 - 1) none = ls ++ [none] := by rw [show n0 - 1 = (ls).length by skip; omega]; exact set_last
    rw [hs] at g1
    have s2 : Ss w0 G w3 [ndO Ez iso 1 b cb (ks.set j x) (ptr bc), ndO Ez iso 0 p (cl : Nat) (ls ++ [none]) chl, ndO Ez iso 0 q ((cr + 1 : Nat) : Int) (k :: rs) chr, kdO (ptr bc) ps, kdO chl lp, kdO chr rp] := ul g1 g2 (.inl ⟨rfl, rfl, rfl⟩)
    refine W_st s2 (by simp only [upd_eq, Nat.reduceEqDiff, ↓reduceIte]; exact e0) (by simp only [upd_eq, Nat.reduceEqDiff, ↓reduceIte]; exact e1) (by simp only [upd_eq, Nat.reduceEqDiff, ↓reduceIte]; exact e2) (by simp only [upd_eq, Nat.reduceEqDiff, ↓reduceIte]; exact e6) (by simp only [upd_eq, Nat.reduceEqDiff, ↓reduceIte]; exact e7) ?_
    clear s s2 e0 e1 e2 e6 e7 ol ul vl x3 r3 s3 g1 g2 hA h2 q1 hi z4 hs
    clear e; intro e w s e0 e1 e2 e6 e7
    obtain ⟨lb, lo, lq, ol, ul, vl⟩ := s.nd 1 rfl
    have hA : (ls ++ [none]).length = n0 := by rw [List.length_append, List.length_singleton]; skip; omega
    have h2 := ol.se.hd
    have h4 := ol.se.le
    rw [hA] at h2 h4
    have q1 := wsub1 (n0) (by omega) (by omega)
    have hi : n0 - 1 ≤ lq := by omega
    refine W_sq fun K hK => (W_draw (some none) (some 14) [(0, 0, 0), (0, 1, 0), (0, 2, 0), (0, 3, 0), (0, 4, 0), (0, 5, 0), (0, 6, 0), (0, 7, 0), (0, 8, 0), (0, 9, 0), (0, 10, 0), (0, 11, 0), (0, 12, 0), (0, 13, 0), (1, 14, 0)] mixed (by kernel_rfl) ?_); simp only [↓List.toList_toArray, ↓rgd, ↓rgf, ↓reduceIte, Nat.reduceEqDiff, rg, ow_176, e0, e1, e2, e6, e7, ptr_eq, h2, q1, hi]
    refine do_store (by simp only [evt, evc, upd_eq, Nat.reduceEqDiff, ↓reduceIte, ntT, ntF] <;> rfl) (by simp only [evt, evc, upd_eq, Nat.reduceEqDiff, ↓reduceIte, ntT, ntF] <;> rfl) sz_140 rfl ol.se.hok (by decide) (oc_one rfl rfl) fun w3 x3 r3 s3 => ⟨(by first | exact trivial | exact .inl trivial), ?_⟩
    simp only [↓List.toList_toArray, ↓rgd, ↓rgf, ↓reduceIte, Nat.reduceEqDiff, rg, ow_176, ↓rgm]
    refine hK _ _ ?_; clear hK K
    obtain ⟨g1, g2⟩ := ol.se.cut x3.od (by rw [show (ls).length = n0 - 1 by skip; omega]; exact (Row.cons.1 r3).1)
    have s2 : Ss w0 G w3 [ndO Ez iso 1 b cb (ks.set j x) (ptr bc), ndO Ez iso 0 p (cl : Nat) ls chl, ndO Ez iso 0 q ((cr + 1 : Nat) : Int) (k :: rs) chr, kdO (ptr bc) ps, kdO chl lp, kdO chr rp] := ul g1 g2 (.inl ⟨rfl, rfl, rfl⟩)
    refine W_st s2 (by simp only [upd_eq, Nat.reduceEqDiff, ↓reduceIte]; exact e0) (by simp only [upd_eq, Nat.reduceEqDiff, ↓reduceIte]; exact e1) (by simp only [upd_eq, Nat.reduceEqDiff, ↓reduceIte]; exact e2) (by simp only [upd_eq, Nat.reduceEqDiff, ↓reduceIte]; exact e6) (by simp only [upd_eq, Nat.reduceEqDiff, ↓reduceIte]; exact e7) ?_
    clear s s2 e0 e1 e2 e6 e7 ol ul vl x3 r3 s3 g1 g2 hA h2 h4 q1 hi
    clear e; intro e w s e0 e1 e2 e6 e7
    obtain ⟨lb, lo, lq, ol, ul, vl⟩ := s.nd 1 rfl
    have q1 := wsub1 cl (by omega) (by omega)
    refine W_sq fun K hK => (W_text [true, true, true, true, true, true, true, false] (by kernel_rfl) ?_); simp only [↓List.toList_toArray, ↓rgd, ↓rgf, ↓reduceIte, Nat.reduceEqDiff, rg, ow_176, e0, e1, e2, e6, e7, ptr_eq, ol.h1, q1]
    refine do_store (by simp only [evt, evc, upd_eq, Nat.reduceEqDiff, ↓reduceIte, ntT, ntF] <;> rfl) (by simp only [evt, evc, upd_eq, Nat.reduceEqDiff, ↓reduceIte, ntT, ntF] <;> rfl) sz_3 rfl ol.wb (by decide) (oc_one rfl rfl) fun w3 x3 r3 s3 => ⟨(by first | exact trivial | exact .inl trivial), ?_⟩
    simp only [↓List.toList_toArray, ↓rgd, ↓rgf, ↓reduceIte, Nat.reduceEqDiff, rg, ow_176, ↓rgm]
    refine hK _ _ ?_; clear hK K
    have s2 : Ss w0 G w3 [ndO Ez iso 1 b cb (ks.set j x) (ptr bc), ndO Ez iso 0 p ((cl - 1 : Nat) : Int) ls chl, ndO Ez iso 0 q ((cr + 1 : Nat) : Int) (k :: rs) chr, kdO (ptr bc) ps, kdO chl lp, kdO chr rp] := vl x3 (Row.cons.1 r3).1
    refine W_st s2 (by simp only [upd_eq, Nat.reduceEqDiff, ↓reduceIte]; exact e0) (by simp only [upd_eq, Nat.reduceEqDiff, ↓reduceIte]; exact e1) (by simp only [upd_eq, Nat.reduceEqDiff, ↓reduceIte]; exact e2) (by simp only [upd_eq, Nat.reduceEqDiff, ↓reduceIte]; exact e6) (by simp only [upd_eq, Nat.reduceEqDiff, ↓reduceIte]; exact e7) ?_
    clear s s2 e0 e1 e2 e6 e7 ol ul vl x3 r3 s3  q1
    clear e; intro e w s e0 e1 e2 e6 e7
    obtain ⟨lb, lo, lq, ol, ul, vl⟩ := s.nd 1 rfl
    rcases hch with ⟨rfl, rfl, rfl, rfl⟩ | ⟨lc, rc, rfl, rfl, hlp, hrp⟩
    · refine W_sq fun K hK => (W_text [true, false, true] (by kernel_rfl) ?_); simp only [↓List.toList_toArray, ↓rgd, ↓rgf, ↓reduceIte, Nat.reduceEqDiff, rg, ow_176, e6]
      refine do_call fn_122 (by simp only [evt, evc, upd_eq, Nat.reduceEqDiff, ↓reduceIte, maT, maC, maN, isnN, isnS] <;> rfl) (leaf_any p none w ol.h3) ?_
      rintro _ w1 ⟨rfl, hw1⟩
      obtain rfl : w = w1 := hw1.symm
      refine ⟨trivial, ?_⟩
      simp only [↓List.toList_toArray, ↓rgd, ↓rgf, ↓reduceIte, Nat.reduceEqDiff, rg, ow_176]
      refine hK _ _ ?_; clear hK K
      refine W_false (by simp only [evt, evc, upd_eq, Nat.reduceEqDiff, ↓reduceIte, ntT, ntF] <;> rfl) (W_skip ?_)
      show endQ _ _ _ _ _ _
      refine endQ_0n ?_
      obtain rfl : cg = 0 := by
        rcases hg with ⟨_, h⟩ | ⟨g, lp', h, _⟩
        · exact h
        · simp at h
      exact s
    · refine W_sq fun K hK => (W_text [true, false, true] (by kernel_rfl) ?_); simp only [↓List.toList_toArray, ↓rgd, ↓rgf, ↓reduceIte, Nat.reduceEqDiff, rg, ow_176, e6]
      refine do_call fn_122 (by simp only [evt, evc, upd_eq, Nat.reduceEqDiff, ↓reduceIte, maT, maC, maN, isnN, isnS] <;> rfl) (leaf_any p (some ⟨lc, 0, none⟩) w ol.h3) ?_
      rintro _ w1 ⟨rfl, hw1⟩
      obtain rfl : w = w1 := hw1.symm
      refine ⟨trivial, ?_⟩
      simp only [↓List.toList_toArray, ↓rgd, ↓rgf, ↓reduceIte, Nat.reduceEqDiff, rg, ow_176]
      refine hK _ _ ?_; clear hK K
      refine W_true (by simp only [evt, evc, upd_eq, Nat.reduceEqDiff, ↓reduceIte, ntT, ntF] <;> rfl) ?_
      refine W_st s (by simp only [upd_eq, Nat.reduceEqDiff, ↓reduceIte]; exact e0) (by simp only [upd_eq, Nat.reduceEqDiff, ↓reduceIte]; exact e1) (by simp only [upd_eq, Nat.reduceEqDiff, ↓reduceIte]; exact e2) (by simp only [upd_eq, Nat.reduceEqDiff, ↓reduceIte]; exact e6) (by simp only [upd_eq, Nat.reduceEqDiff, ↓reduceIte]; exact e7) ?_
      clear s e0 e1 e2 e6 e7 ol ul vl
      clear e; intro e w s e0 e1 e2 e6 e7
      obtain ⟨g, lp', rfl, hgc, hgG⟩ : ∃ g lp', lp = lp' ++ [some g] ∧ rd w0 g 1 = some (.int .i64 (cg : Nat)) ∧ ∀ o, ¬ G g o := by
        rcases hg with ⟨h, _⟩ | h
        · rw [h] at hlp; cases hlp
        · exact h
      obtain ⟨n2, hn2⟩ : ∃ n2, n2 = lp'.length + 1 := ⟨_, rfl⟩
      have hnk : (lp' ++ [some g]).length = n2 := by simp [hn2]
      have hrp0 : rp.length ≤ 2 * d := by omega
      have hn2b : n2 ≤ 2 * d := by omega
      clear hlp hll hrl hgt hlt hnl
      obtain ⟨tb, to, tq, ot, ut, vt⟩ := s.nd 2 rfl
      obtain ⟨zb, zo, zq, oz, uz, fn, fk⟩ := s.kdx 5 rfl (by omega)
      have hb_q := wok_lt ot.wb
      have hb_rc := wok_lt oz.hok
      have L0 := on2_0 q rc
      have L1 := on2_1 q rc
      refine W_sq fun K hK => (W_semi (some (some [q, rc])) (.take false 0 (.take false 1 (.take false 2 (.take false 3 (.take false 4 (.take false 5 (.take false 6 (.take false 7 (.take false 8 (.take false 9 (.act 10 (.act 11 (.take false 12 (.bar 13 .nil)))))))))))))) mixed (by kernel_rfl) ?_); simp only [↓rgm, ↓List.toList_toArray, ↓rgd, ↓rgf, ↓reduceIte, Nat.reduceEqDiff, rg, ow_176, e0, e1, e2, e6, e7, ptr_eq, ot.h3, oz.hd, L0, L1, rB_on]
      refine do_bsl rfl (rb_o none) fun w1 n1 => ⟨.inr (n1.keep _ (lt2 hb_q hb_rc)), ?_⟩
      simp only [↓List.toList_toArray, ↓rgd, ↓rgf, ↓reduceIte, Nat.reduceEqDiff, rg, ow_176, ↓rgm]
      have n1 := n1.od
      have a1 := oz.ext0 n1.ext
      refine do_append (by simp only [evt, evc, upd_eq, Nat.reduceEqDiff, ↓reduceIte, ntT, ntF] <;> rfl) (by simp only [evt, evc, upd_eq, Nat.reduceEqDiff, ↓reduceIte, ntT, ntF] <;> rfl) rb_elk rfl ni_144 a1.slV (u := .slice (some ⟨w.heap.size, 0, none⟩) 1 1) (m := 1) (l' := Eo.cel none) ⟨rfl, .inr ⟨_, 0, 1, rfl, Nat.le_refl _, n1.row, n1.wok.R (Nat.le_refl _)⟩⟩ (by omega) (by decide) (Eo.one _) fun v2 w2 a2 => ⟨.inr (app_keep a2 _ (fkeep2 ⟨wok_lt (n1.ext.wok ot.wb), fn 2 (by decide) rfl⟩ ⟨wok_lt (n1.ext.wok oz.hok), oz.ne.symm⟩)), ?_⟩
      obtain ⟨gb, go, gc, rfl, wk2, -, nx⟩ := a1.app' (ls := [none]) rfl (by rw [flat_one]; exact a2)
      simp only [↓List.toList_toArray, ↓rgd, ↓rgf, ↓reduceIte, Nat.reduceEqDiff, rg, ow_176, ↓rgm]
      refine do_store (by simp only [evt, evc, upd_eq, Nat.reduceEqDiff, ↓reduceIte, ntT, ntF] <;> rfl) (by simp only [evt, evc, upd_eq, Nat.reduceEqDiff, ↓reduceIte, ntT, ntF] <;> rfl) sz_144 rfl wk2 (by decide) (oc_one rfl rfl) fun w3 x3 r3 s3 => ⟨trivial, ?_⟩
      simp only [↓List.toList_toArray, ↓rgd, ↓rgf, ↓reduceIte, Nat.reduceEqDiff, rg, ow_176, ↓rgm]
      refine hK _ _ ?_; clear hK K
      obtain ⟨g1, g2, g3⟩ := nx w3 x3 (Row.cons.1 r3).1
      have s2 : Ss w0 G w3 [ndO Ez iso 1 b cb (ks.set j x) (ptr bc), ndO Ez iso 0 p ((cl - 1 : Nat) : Int) ls (ptr lc), ndO Ez iso 0 q ((cr + 1 : Nat) : Int) (k :: rs) (ptr rc), kdO (ptr bc) ps, kdO (ptr lc) (lp' ++ [some g]), kdO (ptr rc) (rp ++ [none])] := uz g1 (n1.ext.trans g2 (fun _ _ h => h.elim) fun _ _ _ h => h) (g3.imp id fun h => (by have := n1.size; omega))
      refine W_st s2 (by simp only [upd_eq, Nat.reduceEqDiff, ↓reduceIte]; exact e0) (by simp only [upd_eq, Nat.reduceEqDiff, ↓reduceIte]; exact e1) (by simp only [upd_eq, Nat.reduceEqDiff, ↓reduceIte]; exact e2) (by simp only [upd_eq, Nat.reduceEqDiff, ↓reduceIte]; exact e6) (by simp only [upd_eq, Nat.reduceEqDiff, ↓reduceIte]; exact e7) ?_
      clear s s2 e0 e1 e2 e6 e7 ot ut vt oz uz fn fk wk2 nx x3 r3 s3 g1 g2 g3 hb_q hb_rc n1 a1 a2 L0 L1
      clear e; intro e w s e0 e1 e2 e6 e7
      obtain ⟨tb, to, tq, ot, ut, vt⟩ := s.nd 2 rfl
      obtain ⟨zb, zo, zq, oz, uz⟩ := s.kd 5 rfl
      have hic := oz.le
      have hle : (rp ++ [none]).length = rp.length + 1 := by simp
      have i2 : 1 ≤ (rp ++ [none]).length := by omega
      obtain ⟨o1, h1, h1', -, k1⟩ := oz.from Eo_sz 1 i2
      have h3 : slcX (some 1) (.slice (some ⟨zb, zo, none⟩) (rp ++ [none]).length zq) (some (.int .i64 1)) none none = some (slFrom zb zo 1 1 (rp ++ [none]).length zq) := slcX_lo _ _ _ _ _ 1 _ i2
      refine W_sq fun K hK => (W_draw (some none) (some 13) [(0, 0, 0), (0, 1, 0), (0, 2, 0), (0, 3, 0), (0, 4, 0), (0, 5, 0), (0, 6, 0), (0, 7, 0), (0, 8, 0), (0, 9, 0), (0, 10, 0), (0, 11, 0), (0, 12, 0), (1, 13, 0)] mixed (by kernel_rfl) ?_); simp only [↓List.toList_toArray, ↓rgd, ↓rgf, ↓reduceIte, Nat.reduceEqDiff, rg, ow_176, e0, e1, e2, e6, e7, ptr_eq, ot.h3, oz.hd, h3, h1]
      refine do_copy (by simp only [evt, evc, upd_eq, Nat.reduceEqDiff, ↓reduceIte, ntT, ntF] <;> rfl) (by simp only [evt, evc, upd_eq, Nat.reduceEqDiff, ↓reduceIte, ntT, ntF] <;> rfl) rb_elk (SlV.ext0 oz.slV (Ext.dr noF w (w.drawn + 1))) ((Ext.dr noF w (w.drawn + 1)).wok k1) (flat_oc Eo _) fun w3 x3 r3 s3 => ⟨(by first | exact trivial | exact .inl trivial), ?_⟩
      simp only [↓List.toList_toArray, ↓rgd, ↓rgf, ↓reduceIte, Nat.reduceEqDiff, rg, ow_176, ↓rgm]
      refine hK _ _ ?_; clear hK K
      have hm : min (rp ++ [none]).length ((rp ++ [none]).length - 1) = rp.length := by omega
      rw [hm] at x3 r3
      rw [show rp.length * 1 = rp.length * Eo.sz from rfl, flat_take, List.take_left' rfl] at r3
      obtain ⟨g1, g2⟩ := oz.up x3.od r3 fun hA => by have := h1' (by omega); rw [Eo_sz]; omega
      have s2 : Ss w0 G w3 [ndO Ez iso 1 b cb (ks.set j x) (ptr bc), ndO Ez iso 0 p ((cl - 1 : Nat) : Int) ls (ptr lc), ndO Ez iso 0 q ((cr + 1 : Nat) : Int) (k :: rs) (ptr rc), kdO (ptr bc) ps, kdO (ptr lc) (lp' ++ [some g]), kdO (ptr rc) ((rp ++ [none]).take 1 ++ rp)] := uz g1 g2 (.inl ⟨rfl, rfl, rfl⟩)
      refine W_st s2 (by simp only [upd_eq, Nat.reduceEqDiff, ↓reduceIte]; exact e0) (by simp only [upd_eq, Nat.reduceEqDiff, ↓reduceIte]; exact e1) (by simp only [upd_eq, Nat.reduceEqDiff, ↓reduceIte]; exact e2) (by simp only [upd_eq, Nat.reduceEqDiff, ↓reduceIte]; exact e6) (by simp only [upd_eq, Nat.reduceEqDiff, ↓reduceIte]; exact e7) ?_
      clear s s2 e0 e1 e2 e6 e7 ot ut vt oz uz x3 r3 s3 g1 g2 hm hic hle i2 h1 h1' k1 h3
      clear e; intro e w s e0 e1 e2 e6 e7
      obtain ⟨tb, to, tq, ot, ut, vt⟩ := s.nd 2 rfl
      obtain ⟨zb, zo, zq, oz, uz⟩ := s.kd 5 rfl
      obtain ⟨lb, lo, lq, ol, ul, vl⟩ := s.nd 1 rfl
      obtain ⟨yb, yo, yq, oy, uy⟩ := s.kd 4 rfl
      have h2 := oy.hd
      rw [hnk] at h2
      have q1 := wsub1 n2 (by omega) (by omega)
      have hi : n2 - 1 < n2 := by omega
      have hgv := oy.ptr_at (j := n2 - 1) (p := g) (by simp [hn2])
      have hl0 : 0 < ((rp ++ [none]).take 1 ++ rp).length := by simp only [List.length_append, List.length_take, List.length_cons, List.length_nil]; omega
      have i0 := ix0 1 zb zo ((rp ++ [none]).take 1 ++ rp).length hl0
      refine W_sq fun K hK => (W_draw (some none) (some 23) [(0, 0, 0), (0, 1, 0), (0, 2, 0), (0, 3, 0), (0, 4, 0), (0, 5, 0), (0, 6, 0), (0, 7, 0), (0, 8, 0), (0, 9, 0), (0, 10, 0), (0, 11, 0), (0, 12, 0), (0, 13, 0), (0, 14, 0), (0, 15, 0), (0, 16, 0), (0, 17, 0), (0, 18, 0), (0, 19, 0), (0, 20, 0), (0, 21, 0), (0, 22, 0), (1, 23, 0)] mixed (by kernel_rfl) ?_); simp only [↓List.toList_toArray, ↓rgd, ↓rgf, ↓reduceIte, Nat.reduceEqDiff, rg, ow_176, e0, e1, e2, e6, e7, ptr_eq, ot.h3, oz.hd, ol.h3, h2, q1, hi, hgv, i0]
      refine do_store (by simp only [evt, evc, upd_eq, Nat.reduceEqDiff, ↓reduceIte, ntT, ntF] <;> rfl) (by simp only [evt, evc, upd_eq, Nat.reduceEqDiff, ↓reduceIte, ntT, ntF] <;> rfl) sz_106 rfl oz.wi (by have := oz.le; rw [Eo_sz]; skip; omega) (oc_one rfl rfl) fun w3 x3 r3 s3 => ⟨(by first | exact trivial | exact .inl trivial), ?_⟩
      simp only [↓List.toList_toArray, ↓rgd, ↓rgf, ↓reduceIte, Nat.reduceEqDiff, rg, ow_176, ↓rgm]
      refine hK _ _ ?_; clear hK K
      obtain ⟨g1, g2⟩ := oz.set (i := 0) (x := (some g)) (hl0) (by rw [Nat.zero_mul, Nat.add_zero]; exact x3.od) (by rw [Nat.zero_mul, Nat.add_zero]; first | exact r3 | exact (rb_cel _) ▸ r3)
      rw [set_first] at g1
      have s2 : Ss w0 G w3 [ndO Ez iso 1 b cb (ks.set j x) (ptr bc), ndO Ez iso 0 p ((cl - 1 : Nat) : Int) ls (ptr lc), ndO Ez iso 0 q ((cr + 1 : Nat) : Int) (k :: rs) (ptr rc), kdO (ptr bc) ps, kdO (ptr lc) (lp' ++ [some g]), kdO (ptr rc) (some g :: rp)] := uz g1 g2 (.inl ⟨rfl, rfl, rfl⟩)
      refine W_st s2 (by simp only [upd_eq, Nat.reduceEqDiff, ↓reduceIte]; exact e0) (by simp only [upd_eq, Nat.reduceEqDiff, ↓reduceIte]; exact e1) (by simp only [upd_eq, Nat.reduceEqDiff, ↓reduceIte]; exact e2) (by simp only [upd_eq, Nat.reduceEqDiff, ↓reduceIte]; exact e6) (by simp only [upd_eq, Nat.reduceEqDiff, ↓reduceIte]; exact e7) ?_
      clear s s2 e0 e1 e2 e6 e7 ot ut vt oz uz ol ul vl oy uy x3 r3 s3 g1 g2 h2 q1 hi hgv hl0 i0
      clear e; intro e w s e0 e1 e2 e6 e7
      obtain ⟨lb, lo, lq, ol, ul, vl⟩ := s.nd 1 rfl
      obtain ⟨yb, yo, yq, oy, uy⟩ := s.kd 4 rfl
      have hA : (lp' ++ [some g]).length = n2 := by rw [List.length_append, List.length_singleton]; skip; omega
      have h2 := oy.hd
      rw [hA] at h2
      have q1 := wsub1 (n2) (by omega) (by omega)
      have hi : n2 - 1 < n2 := by omega
      refine W_sq fun K hK => (W_draw (some none) (some 15) [(0, 0, 0), (0, 1, 0), (0, 2, 0), (0, 3, 0), (0, 4, 0), (0, 5, 0), (0, 6, 0), (0, 7, 0), (0, 8, 0), (0, 9, 0), (0, 10, 0), (0, 11, 0), (0, 12, 0), (0, 13, 0), (0, 14, 0), (1, 15, 0)] mixed (by kernel_rfl) ?_); simp only [↓List.toList_toArray, ↓rgd, ↓rgf, ↓reduceIte, Nat.reduceEqDiff, rg, ow_176, e0, e1, e2, e6, e7, ptr_eq, ol.h3, h2, q1, hi]
      refine do_store (by simp only [evt, evc, upd_eq, Nat.reduceEqDiff, ↓reduceIte, ntT, ntF] <;> rfl) (by simp only [evt, evc, upd_eq, Nat.reduceEqDiff, ↓reduceIte, ntT, ntF] <;> rfl) sz_106 rfl oy.wi (by have := oy.le; rw [Eo_sz]; rw [hA] at this; omega) (oc_one rfl rfl) fun w3 x3 r3 s3 => ⟨(by first | exact trivial | exact .inl trivial), ?_⟩
      simp only [↓List.toList_toArray, ↓rgd, ↓rgf, ↓reduceIte, Nat.reduceEqDiff, rg, ow_176, ↓rgm]
      refine hK _ _ ?_; clear hK K
      obtain ⟨g1, g2⟩ := oy.set (i := n2 - 1) (x := none) (by rw [hA]; omega) (by rw [Eo_sz, Nat.mul_one]; exact x3.od) (by rw [Eo_sz, Nat.mul_one]; first | exact r3 | exact (rb_cel _) ▸ r3)
      have hs : (lp' ++ [some g]).set (n2 - 1) none = lp' ++ [none] := by rw [show n2 - 1 = (lp').length by skip; omega]; exact set_last
      rw [hs] at g1
      have s2 : Ss w0 G w3 [ndO Ez iso 1 b cb (ks.set j x) (ptr bc), ndO Ez iso 0 p ((cl - 1 : Nat) : Int) ls (ptr lc), ndO Ez iso 0 q ((cr + 1 : Nat) : Int) (k :: rs) (ptr rc), kdO (ptr bc) ps, kdO (ptr lc) (lp' ++ [none]), kdO (ptr rc) (some g :: rp)] := uy g1 g2 (.inl ⟨rfl, rfl, rfl⟩)
      refine W_st s2 (by simp only [upd_eq, Nat.reduceEqDiff, ↓reduceIte]; exact e0) (by simp only [upd_eq, Nat.reduceEqDiff, ↓reduceIte]; exact e1) (by simp only [upd_eq, Nat.reduceEqDiff, ↓reduceIte]; exact e2) (by simp only [upd_eq, Nat.reduceEqDiff, ↓reduceIte]; exact e6) (by simp only [upd_eq, Nat.reduceEqDiff, ↓reduceIte]; exact e7) ?_
      clear s s2 e0 e1 e2 e6 e7 ol ul vl oy uy x3 r3 s3 g1 g2 hA h2 q1 hi hs
      clear e; intro e w s e0 e1 e2 e6 e7
      obtain ⟨lb, lo, lq, ol, ul, vl⟩ := s.nd 1 rfl
      obtain ⟨yb, yo, yq, oy, uy⟩ := s.kd 4 rfl
      have hA : (lp' ++ [none]).length = n2 := by rw [List.length_append, List.length_singleton]; skip; omega
      have h2 := oy.hd
      have h4 := oy.le
      rw [hA] at h2 h4
      have q1 := wsub1 (n2) (by omega) (by omega)
      have hi : n2 - 1 ≤ yq := by omega
      refine W_sq fun K hK => (W_draw (some none) (some 20) [(0, 0, 0), (0, 1, 0), (0, 2, 0), (0, 3, 0), (0, 4, 0), (0, 5, 0), (0, 6, 0), (0, 7, 0), (0, 8, 0), (0, 9, 0), (0, 10, 0), (0, 11, 0), (0, 12, 0), (0, 13, 0), (0, 14, 0), (0, 15, 0), (0, 16, 0), (0, 17, 0), (0, 18, 0), (0, 19, 0), (1, 20, 0)] mixed (by kernel_rfl) ?_); simp only [↓List.toList_toArray, ↓rgd, ↓rgf, ↓reduceIte, Nat.reduceEqDiff, rg, ow_176, e0, e1, e2, e6, e7, ptr_eq, ol.h3, h2, q1, hi]
      refine do_store (by simp only [evt, evc, upd_eq, Nat.reduceEqDiff, ↓reduceIte, ntT, ntF] <;> rfl) (by simp only [evt, evc, upd_eq, Nat.reduceEqDiff, ↓reduceIte, ntT, ntF] <;> rfl) sz_144 rfl oy.hok (by decide) (oc_one rfl rfl) fun w3 x3 r3 s3 => ⟨(by first | exact trivial | exact .inl trivial), ?_⟩
      simp only [↓List.toList_toArray, ↓rgd, ↓rgf, ↓reduceIte, Nat.reduceEqDiff, rg, ow_176, ↓rgm]
      refine hK _ _ ?_; clear hK K
      obtain ⟨g1, g2⟩ := oy.cut x3.od (by rw [show (lp').length = n2 - 1 by skip; omega]; exact (Row.cons.1 r3).1)
      have s2 : Ss w0 G w3 [ndO Ez iso 1 b cb (ks.set j x) (ptr bc), ndO Ez iso 0 p ((cl - 1 : Nat) : Int) ls (ptr lc), ndO Ez iso 0 q ((cr + 1 : Nat) : Int) (k :: rs) (ptr rc), kdO (ptr bc) ps, kdO (ptr lc) lp', kdO (ptr rc) (some g :: rp)] := uy g1 g2 (.inl ⟨rfl, rfl, rfl⟩)
      refine W_st s2 (by simp only [upd_eq, Nat.reduceEqDiff, ↓reduceIte]; exact e0) (by simp only [upd_eq, Nat.reduceEqDiff, ↓reduceIte]; exact e1) (by simp only [upd_eq, Nat.reduceEqDiff, ↓reduceIte]; exact e2) (by simp only [upd_eq, Nat.reduceEqDiff, ↓reduceIte]; exact e6) (by simp only [upd_eq, Nat.reduceEqDiff, ↓reduceIte]; exact e7) ?_
      clear s s2 e0 e1 e2 e6 e7 ol ul vl oy uy x3 r3 s3 g1 g2 hA h2 h4 q1 hi
      clear e; intro e w s e0 e1 e2 e6 e7
      obtain ⟨lb, lo, lq, ol, ul, vl⟩ := s.nd 1 rfl
      obtain ⟨tb, to, tq, ot, ut, vt⟩ := s.nd 2 rfl
      obtain ⟨zb, zo, zq, oz, uz⟩ := s.kd 5 rfl
      have hgv := oz.ptr_at (j := 0) (p := g) rfl
      rw [Nat.add_zero] at hgv
      have hg1 := s.x.rd hgc (hgG 1)
      have hl0 : 0 < (some g :: rp).length := by simp
      have i0 := ix0 1 zb zo (some g :: rp).length hl0
      have q1 := wsub (cl - 1) cg (by omega) (by omega)
      refine W_sq fun K hK => (W_draw (some none) (some 18) [(0, 0, 0), (0, 1, 0), (0, 2, 0), (0, 3, 0), (0, 4, 0), (0, 5, 0), (0, 6, 0), (0, 7, 0), (0, 8, 0), (0, 9, 0), (0, 10, 0), (0, 11, 0), (0, 12, 0), (0, 13, 0), (0, 14, 0), (0, 15, 0), (0, 16, 0), (0, 17, 0), (1, 18, 0)] mixed (by kernel_rfl) ?_); simp only [↓List.toList_toArray, ↓rgd, ↓rgf, ↓reduceIte, Nat.reduceEqDiff, rg, ow_176, e0, e1, e2, e6, e7, ptr_eq, ol.h1, ot.h3, oz.hd, i0, hgv, hg1, q1]
      refine do_store (by simp only [evt, evc, upd_eq, Nat.reduceEqDiff, ↓reduceIte, ntT, ntF] <;> rfl) (by simp only [evt, evc, upd_eq, Nat.reduceEqDiff, ↓reduceIte, ntT, ntF] <;> rfl) sz_3 rfl ol.wb (by decide) (oc_one rfl rfl) fun w3 x3 r3 s3 => ⟨(by first | exact trivial | exact .inl trivial), ?_⟩
      simp only [↓List.toList_toArray, ↓rgd, ↓rgf, ↓reduceIte, Nat.reduceEqDiff, rg, ow_176, ↓rgm]
      refine hK _ _ ?_; clear hK K
      have s2 : Ss w0 G w3 [ndO Ez iso 1 b cb (ks.set j x) (ptr bc), ndO Ez iso 0 p ((cl - 1 - cg : Nat) : Int) ls (ptr lc), ndO Ez iso 0 q ((cr + 1 : Nat) : Int) (k :: rs) (ptr rc), kdO (ptr bc) ps, kdO (ptr lc) lp', kdO (ptr rc) (some g :: rp)] := vl x3.od (Row.cons.1 r3).1
      refine W_st s2 (by simp only [upd_eq, Nat.reduceEqDiff, ↓reduceIte]; exact e0) (by simp only [upd_eq, Nat.reduceEqDiff, ↓reduceIte]; exact e1) (by simp only [upd_eq, Nat.reduceEqDiff, ↓reduceIte]; exact e2) (by simp only [upd_eq, Nat.reduceEqDiff, ↓reduceIte]; exact e6) (by simp only [upd_eq, Nat.reduceEqDiff, ↓reduceIte]; exact e7) ?_
      clear s s2 e0 e1 e2 e6 e7 ol ul vl ot ut vt oz uz x3 r3 s3 hgv hg1 hl0 i0 q1
      clear e; intro e w s e0 e1 e2 e6 e7
      obtain ⟨tb, to, tq, ot, ut, vt⟩ := s.nd 2 rfl
      obtain ⟨zb, zo, zq, oz, uz⟩ := s.kd 5 rfl
      have hgv := oz.ptr_at (j := 0) (p := g) rfl
      rw [Nat.add_zero] at hgv
      have hg1 := s.x.rd hgc (hgG 1)
      have hl0 : 0 < (some g :: rp).length := by simp
      have i0 := ix0 1 zb zo (some g :: rp).length hl0
      have q1 := wadd (cr + 1) cg (by omega)
      refine W_rg fun K hK => (W_draw (some none) (some 18) [(0, 0, 0), (0, 1, 0), (0, 2, 0), (0, 3, 0), (0, 4, 0), (0, 5, 0), (0, 6, 0), (0, 7, 0), (0, 8, 0), (0, 9, 0), (0, 10, 0), (0, 11, 0), (0, 12, 0), (0, 13, 0), (0, 14, 0), (0, 15, 0), (0, 16, 0), (0, 17, 0), (1, 18, 0)] mixed (by kernel_rfl) ?_); simp only [↓List.toList_toArray, ↓rgd, ↓rgf, ↓reduceIte, Nat.reduceEqDiff, rg, ow_176, e0, e1, e2, e6, e7, ptr_eq, ot.h1, ot.h3, oz.hd, i0, hgv, hg1, q1]
      refine do_store (by simp only [evt, evc, upd_eq, Nat.reduceEqDiff, ↓reduceIte, ntT, ntF] <;> rfl) (by simp only [evt, evc, upd_eq, Nat.reduceEqDiff, ↓reduceIte, ntT, ntF] <;> rfl) sz_3 rfl ot.wb (by decide) (oc_one rfl rfl) fun w3 x3 r3 s3 => ⟨(by first | exact trivial | exact .inl trivial), ?_⟩
      simp only [↓List.toList_toArray, ↓rgd, ↓rgf, ↓reduceIte, Nat.reduceEqDiff, rg, ow_176, ↓rgm]
      refine hK _ _ ?_; clear hK K
      have s2 : Ss w0 G w3 [ndO Ez iso 1 b cb (ks.set j x) (ptr bc), ndO Ez iso 0 p ((cl - 1 - cg : Nat) : Int) ls (ptr lc), ndO Ez iso 0 q ((cr + 1 + cg : Nat) : Int) (k :: rs) (ptr rc), kdO (ptr bc) ps, kdO (ptr lc) lp', kdO (ptr rc) (some g :: rp)] := vt x3.od (Row.cons.1 r3).1
      show endQ _ _ _ _ _ _
      refine endQ_0n ?_
      rw [List.dropLast_concat, show (lp' ++ [some g]).drop ((lp' ++ [some g]).length - 1) = [some g] by simp]
      exact s2
  obtain ⟨nb, no, nc, on, un, vn⟩ := s.nd 0 rfl
  rcases hj with ⟨rfl, hj⟩ | ⟨rfl, hj⟩
  · have hb : ((i0 : Int) == (ks.length : Int)) = false := by simp; omega
    refine W_sq fun K hK => (W_text [true, true, true, true, true, true, true] (by kernel_rfl) ?_); simp only [↓List.toList_toArray, ↓rgd, ↓rgf, ↓reduceIte, Nat.reduceEqDiff, rg, ow_176, e1, e2, ptr_eq, on.h2, hb]
    refine hK _ _ ?_; clear hK K
    refine W_false (by simp only [evt, evc, upd_eq, Nat.reduceEqDiff, ↓reduceIte, ntT, ntF] <;> rfl) (W_skip ?_)
    exact hend _ (by simp only [upd_eq, Nat.reduceEqDiff, ↓reduceIte]; exact e0) (by simp only [upd_eq, Nat.reduceEqDiff, ↓reduceIte]; exact e1) (by simp only [upd_eq, Nat.reduceEqDiff, ↓reduceIte]; exact e2)
  · have hb : ((ks.length : Int) == (ks.length : Int)) = true := by simp
    refine W_sq fun K hK => (W_text [true, true, true, true, true, true, true] (by kernel_rfl) ?_); simp only [↓List.toList_toArray, ↓rgd, ↓rgf, ↓reduceIte, Nat.reduceEqDiff, rg, ow_176, e1, e2, ptr_eq, on.h2, hb]
    refine hK _ _ ?_; clear hK K
    refine W_true (by simp only [evt, evc, upd_eq, Nat.reduceEqDiff, ↓reduceIte, ntT, ntF] <;> rfl) ?_
    have q1 := wsub1 ks.length (by omega) (by omega)
    have hjs : ks.length - 1 = j := by omega
    refine W_rg fun K hK => (W_text [true, true, true] (by kernel_rfl) ?_); simp only [↓List.toList_toArray, ↓rgd, ↓rgf, ↓reduceIte, Nat.reduceEqDiff, rg, ow_176, e2, q1]
    refine hK _ _ ?_; clear hK K
    exact hend _ (by simp only [upd_eq, Nat.reduceEqDiff, ↓reduceIte]; exact e0) (by simp only [upd_eq, Nat.reduceEqDiff, ↓reduceIte]; exact e1) (by simp only [upd_eq, Nat.reduceEqDiff, ↓reduceIte] <;> rw [hjs])
end Go.Proofs.Ytanmjbkbdmeckaa
