/-
  The engine's rewriting rules: what each reading operation yields. Each is proved as an equation that the rewriter takes for a real step. For whatever program. No condition.
-/
import Derived.Test.YthonmbkjbgkfaaaWr
namespace Go.Proofs.Ythonmbkjbgkfaaa
open Go
theorem upd_eq (e : Env) (d : Nat) (v : Value) (t : Nat) : upd e d v t = if t = d then v else e t := id (Eq.trans rfl rfl)
theorem evt (e : Env) (t : Nat) : ev e (.tmp t) = e t := id (Eq.trans rfl rfl)
theorem evc (e : Env) (v : Value) : ev e (.const v) = v := id (Eq.trans rfl rfl)
theorem evg (e : Env) (g : Nat) : ev e (.global g) = .pointer (some ⟨g, 0, none⟩) := id (Eq.trans rfl rfl)
theorem evf (e : Env) (f : Nat) : ev e (.func f) = .func (.func f) #[] #[] := id (Eq.trans rfl rfl)
theorem updN (e : Env) (v : Value) : updO e none v = e := id (Eq.trans rfl rfl)
theorem updS (e : Env) (d : Nat) (v : Value) : updO e (some d) v = upd e d v := id (Eq.trans rfl rfl)
theorem pick_t (a b : Value) : pickG (.bool true) a b = some a := id (Eq.trans rfl rfl)
theorem pick_f (a b : Value) : pickG (.bool false) a b = some b := id (Eq.trans rfl rfl)
theorem nil_p (a : Addr) : nilG (.pointer (some a)) = some (.pointer (some a)) := id (Eq.trans rfl rfl)
theorem nil_f (f : Nat) (a b : Array Value) : nilG (.func (.func f) a b) = some (.func (.func f) a b) := id (Eq.trans rfl rfl)
theorem not_b (b : Bool) : notG (.bool b) = some (.bool (!b)) := id (Eq.trans rfl rfl)
theorem cv_i (k k' : IntKind) (n : Int) : cvG (some k) (.int k' n) = some (.int k (k.wrap n)) := id (Eq.trans rfl rfl)
theorem fo_p (o : Nat) (a : Addr) : foG (some o) (.pointer (some a)) = some (.pointer (some (a.add o))) := id (Eq.trans rfl rfl)
theorem ntT : (!true) = false := id (Eq.trans rfl rfl)
theorem ntF : (!false) = true := id (Eq.trans rfl rfl)
theorem isnS {α : Type} (a : α) : (some a).isNone = false := id (Eq.trans rfl rfl)
theorem isnN {α : Type} : (none : Option α).isNone = true := id (Eq.trans rfl rfl)
theorem issS {α : Type} (a : α) : (some a).isSome = true := id (Eq.trans rfl rfl)
theorem omS {α β : Type} (f : α → β) (a : α) : Option.map f (some a) = some (f a) := id (Eq.trans rfl rfl)
theorem omN {α β : Type} (f : α → β) : Option.map f none = none := id (Eq.trans rfl rfl)
theorem geZ {α : Type} (a : α) (l : List α) : (a :: l)[0]? = some a := id (Eq.trans rfl rfl)
theorem geS {α : Type} (a : α) (l : List α) (i : Nat) : (a :: l)[i + 1]? = l[i]? := id (Eq.trans rfl rfl)
theorem maT {α β : Type} (f : α → β) (l : List α) : l.toArray.map f = (l.map f).toArray := by simp
theorem maC {α β : Type} (f : α → β) (a : α) (l : List α) : (a :: l).map f = f a :: l.map f := id (Eq.trans rfl rfl)
theorem maN {α β : Type} (f : α → β) : ([] : List α).map f = [] := id (Eq.trans rfl rfl)
theorem nm1 (a : Nat) : a * 1 = a := Nat.mul_one a
theorem sz_dr (w : World) (n : Nat) : (dr w n).heap.size = w.heap.size := id (Eq.trans rfl rfl)
theorem naZ (a : Nat) : a + 0 = a := id (Eq.trans rfl rfl)
theorem ex_t (l : List Value) (i : Nat) : exG (.tuple l.toArray) i = l[i]? := by simp [exG]
section
variable (P : Program) (H : Hold) (w : World)
def rdX (r : Bool) (v : Option Value) : Option Value := if r = true then v else none
theorem rdX_t (v : Option Value) : rdX true v = v := id (Eq.trans rfl rfl)
theorem tas_no (t T : Nat) (v z : Value) (h1 : coK P T = false) (h2 : laK P t T = some z) : tasV P (.iface t v) T true = some (.tuple #[z, .bool false]) := by simp [tasV, h1, h2]
def mkX (b : Bool) (T : Nat) (v : Value) : Option Value := if b = true then some (.iface T v) else none
theorem mk_i (T : Nat) (x : Operand) (e : Env) : tkOp P H e w (.makeInterface T x) = mkX (coK P T) T (ev e x) := id (Eq.trans rfl rfl)
theorem mkX_t (T : Nat) (v : Value) : mkX true T v = some (.iface T v) := id (Eq.trans rfl rfl)
def ldX (H : Hold) (w : World) (k : Option (Option Nat)) (a : Addr) : Option Value :=
  match k with
  | some k => rdX (readsB H a.block) (loadV w a k)
  | none => none
theorem ld_p (T : Nat) (a : Addr) : ldG P H w T (.pointer (some a)) = ldX H w (ldK P T) a := by
  simp only [ldG, ldX, rdX]; cases ldK P T <;> rfl
theorem ldX_1 (b o : Nat) : ldX H w (some none) ⟨b, o, none⟩ = rdX (readsB H b) (rd w b o) := id (Eq.trans rfl rfl)
theorem ldX_n (n b o : Nat) : ldX H w (some (some n)) ⟨b, o, none⟩ = rdX (readsB H b) (rdA w b o n) := id (Eq.trans rfl rfl)
theorem rB_any (b : Nat) : readsB none b = true := id (Eq.trans rfl rfl)
theorem rB_all (b : Nat) : readsB (some none) b = true := id (Eq.trans rfl rfl)
theorem rB_on (L : List Nat) (b : Nat) : readsB (some (some L)) b = L.contains b := id (Eq.trans rfl rfl)
theorem bv_add (T : Nat) (k : IntKind) (a b : Int) : binV P .add T (.int k a) (.int k b) = some (.int k (k.wrap (a + b))) := by simp [binV]
theorem bv_sub (T : Nat) (k : IntKind) (a b : Int) : binV P .sub T (.int k a) (.int k b) = some (.int k (k.wrap (a - b))) := by simp [binV]
theorem bv_mul (T : Nat) (k : IntKind) (a b : Int) : binV P .mul T (.int k a) (.int k b) = some (.int k (k.wrap (a * b))) := by simp [binV]
theorem bv_half (T : Nat) (a : Int) : binV P .quo T (.int .i64 a) (.int .i64 2) = some (.int .i64 (IntKind.i64.wrap (a.tdiv 2))) := by simp [binV]
theorem bv_rem (T : Nat) (a b : Int) (h : (b = 0) = False) : binV P .rem T (.int .i64 a) (.int .i64 b) = some (.int .i64 (a.tmod b)) := by simp [binV, h]
theorem bv_lss (T : Nat) (k : IntKind) (a b : Int) : binV P .lss T (.int k a) (.int k b) = some (.bool (decide (a < b))) := by simp [binV]
theorem bv_leq (T : Nat) (k : IntKind) (a b : Int) : binV P .leq T (.int k a) (.int k b) = some (.bool (decide (a ≤ b))) := by simp [binV]
theorem bv_gtr (T : Nat) (k : IntKind) (a b : Int) : binV P .gtr T (.int k a) (.int k b) = some (.bool (decide (b < a))) := by simp [binV]
theorem bv_geq (T : Nat) (k : IntKind) (a b : Int) : binV P .geq T (.int k a) (.int k b) = some (.bool (decide (b ≤ a))) := by simp [binV]
theorem bv_eql (T : Nat) (k : IntKind) (a b : Int) : binV P .eql T (.int k a) (.int k b) = some (.bool (a == b)) := by simp [binV]
theorem bv_neq (T : Nat) (k : IntKind) (a b : Int) : binV P .neq T (.int k a) (.int k b) = some (.bool (a != b)) := by simp [binV]
def ptX (r b : Bool) : Option Value := if r = true then some (.bool b) else none
theorem ptX_t (b : Bool) : ptX true b = some (.bool b) := id (Eq.trans rfl rfl)
theorem bv_peq (T : Nat) (a : Option Addr) : binV P .eql T (.pointer a) (.pointer none) = ptX (ptK P T) a.isNone := id (Eq.trans rfl rfl)
theorem bv_pne (T : Nat) (a : Option Addr) : binV P .neq T (.pointer a) (.pointer none) = ptX (ptK P T) (!a.isNone) := id (Eq.trans rfl rfl)
theorem bv_slt (T : Nat) (a b : ByteArray) : binV P .lss T (.string a) (.string b) = some (.bool (Op.bytesLess a.toList b.toList)) := id (Eq.trans rfl rfl)
theorem bv_seq (T : Nat) (a b : ByteArray) : binV P .eql T (.string a) (.string b) = some (.bool (a.toList == b.toList)) := id (Eq.trans rfl rfl)
def lenX (k : Option Nat) (n : Nat) : Option Value := if k.isSome then some (.int .i64 n) else none
theorem lenX_s (k n : Nat) : lenX (some k) n = some (.int .i64 n) := id (Eq.trans rfl rfl)
theorem len_sl (T : Nat) (a : Option Addr) (n c : Nat) : lenV P T (.slice a n c) = lenX (slK P T) n := id (Eq.trans rfl rfl)
theorem cap_sl (T : Nat) (a : Option Addr) (n c : Nat) : capV P T (.slice a n c) = lenX (slK P T) c := id (Eq.trans rfl rfl)
def idxX (k : Option Nat) (a : Addr) (n : Nat) (i : Int) : Option Value :=
  match k with
  | some sz => if 0 ≤ i ∧ i < n then some (.pointer (some (a.add (i.toNat * sz)))) else none
  | none => none
theorem idx_sl (T : Nat) (a : Addr) (n c : Nat) (k : IntKind) (i : Int) : idxV P T (.slice (some a) n c) (.int k i) = idxX (slK P T) a n i := by
  simp only [idxV, idxX]; cases slK P T <;> rfl
theorem idxX_s (sz b o n i : Nat) (h : i < n) : idxX (some sz) ⟨b, o, none⟩ n (i : Int) = some (.pointer (some ⟨b, o + i * sz, none⟩)) := by
  simp only [idxX]
  rw [if_pos (by omega)]
  simp [add_mk]
def idxA (k : Option (Nat × Nat)) (a : Addr) (i : Int) : Option Value :=
  match k with
  | some (n, sz) => if 0 ≤ i ∧ i < n then some (.pointer (some (a.add (i.toNat * sz)))) else none
  | none => none
theorem idx_ar (T : Nat) (a : Addr) (k : IntKind) (i : Int) : idxV P T (.pointer (some a)) (.int k i) = idxA (arK P T) a i := by
  simp only [idxV, idxA]; cases arK P T <;> rfl
theorem idxA_s (sz b o n i : Nat) (h : i < n) : idxA (some (n, sz)) ⟨b, o, none⟩ (i : Int) = some (.pointer (some ⟨b, o + i * sz, none⟩)) := by
  simp only [idxA]
  rw [if_pos (by omega)]
  simp [add_mk]
/-- A slice from l on. -/
def slFrom (b o sz l n c : Nat) : Value := .slice (some (if c = l then ⟨b, o, none⟩ else ⟨b, o + l * sz, none⟩)) (n - l) (c - l)
def slcX (k : Option Nat) (x : Value) (lo hi mx : Option Value) : Option Value :=
  match x, k with
  | .slice a len cap, some sz =>
    match optV mx cap cap with
    | none => none
    | some m => match (if mx.isSome && hi.isNone then none else optV hi len m) with
      | none => none
      | some h => match optV lo 0 h with
        | none => none
        | some l => some (.slice (if m = l then a else a.map (·.add (l * sz))) (h - l) (m - l))
  | _, _ => none
theorem slc_sl (T : Nat) (a : Option Addr) (n c : Nat) (lo hi mx : Option Value) : sliceV P T (.slice a n c) lo hi mx = slcX (slK P T) (.slice a n c) lo hi mx := id (Eq.trans rfl rfl)
theorem bound_n (l y : Nat) (k : IntKind) (h : l ≤ y) : boundV (.int k (l : Int)) y = some l := by
  simp only [boundV]; rw [if_pos (by omega)]; simp
theorem slcX_lo (sz b o n c l : Nat) (k : IntKind) (h : l ≤ n) : slcX (some sz) (.slice (some ⟨b, o, none⟩) n c) (some (.int k (l : Int))) none none = some (slFrom b o sz l n c) := by
  simp only [slcX, optV, bound_n l n k h, slFrom, Option.isSome_none, Bool.false_and, Bool.false_eq_true, if_false]
  by_cases hc : c = l
  · simp [hc]
  · simp [hc, add_mk]
theorem slcX_hi (sz b o n c m : Nat) (k : IntKind) (h : m ≤ c) : slcX (some sz) (.slice (some ⟨b, o, none⟩) n c) none (some (.int k (m : Int))) none = some (.slice (some ⟨b, o, none⟩) m c) := by
  simp only [slcX, optV, bound_n m c k h, Option.isSome_none, Bool.false_and, Bool.false_eq_true, if_false]
  by_cases hc : c = 0
  · simp [hc]
  · simp [hc, add_mk]
theorem slcX_hm (sz b o n c m : Nat) (k k' : IntKind) (h : m ≤ c) : slcX (some sz) (.slice (some ⟨b, o, none⟩) n c) none (some (.int k (m : Int))) (some (.int k' (m : Int))) = some (.slice (some ⟨b, o, none⟩) m m) := by
  simp only [slcX, optV, bound_n m c k' h, bound_n m m k (Nat.le_refl _), Option.isSome_some, Option.isNone_some, Bool.and_false, Bool.false_eq_true, if_false]
  by_cases hc : m = 0
  · simp [hc]
  · simp [hc, add_mk]
theorem slcX_all (sz b o n c : Nat) : slcX (some sz) (.slice (some ⟨b, o, none⟩) n c) none none none = some (.slice (some ⟨b, o, none⟩) n c) := by
  simp only [slcX, optV, Option.isSome_none, Bool.false_and, Bool.false_eq_true, if_false]
  by_cases hc : c = 0
  · simp [hc]
  · simp [hc, add_mk]
theorem slcX_nil (sz m : Nat) (k : IntKind) (h : m = 0) : slcX (some sz) (.slice none 0 0) none (some (.int k (m : Int))) none = some (.slice none 0 0) := by
  subst h; simp [slcX, optV, boundV]
theorem slcX_nil_lo (sz m : Nat) (k : IntKind) (h : m = 0) : slcX (some sz) (.slice none 0 0) (some (.int k (m : Int))) none none = some (.slice none 0 0) := by
  subst h; simp [slcX, optV, boundV]
end

/-! ### The rules as two facts, so that a call names them shortly -/
theorem rgd : type_of% (And.intro @WPlan_nil (And.intro @WPlan_take (And.intro @WPlan_do (And.intro @WPlan_fork (And.intro @DoAt_eq (And.intro @WText_nil (And.intro @WText_take (And.intro @WText_do (And.intro @withOp_zero (And.intro @withOp_succ (And.intro @take_none (And.intro @take_some (And.intro @do_some (And.intro @updN (And.intro @updS (@nrm_normal)))))))))))))))) := And.intro @WPlan_nil (And.intro @WPlan_take (And.intro @WPlan_do (And.intro @WPlan_fork (And.intro @DoAt_eq (And.intro @WText_nil (And.intro @WText_take (And.intro @WText_do (And.intro @withOp_zero (And.intro @withOp_succ (And.intro @take_none (And.intro @take_some (And.intro @do_some (And.intro @updN (And.intro @updS (@nrm_normal)))))))))))))))
theorem rg : type_of% (And.intro @guardV_tt (And.intro @guardV_ff (And.intro @guardV_tf (And.intro @guardV_ft (And.intro @guardV_undef (And.intro @dstV_zero (And.intro @dstV_succ (And.intro @omS (And.intro @omN (And.intro @bindO_some (And.intro @tk_move (And.intro @tk_assign (And.intro @tk_pick (And.intro @tk_load (And.intro @tk_nil (And.intro @tk_bin (And.intro @tk_not (And.intro @tk_conv (And.intro @tk_mkf (And.intro @tk_slice (And.intro @tk_fo (And.intro @tk_fld (And.intro @tk_idx (And.intro @tk_build (And.intro @tk_ext (And.intro @mk_i (And.intro @mkX_t (And.intro @tk_tas (And.intro @tk_len (And.intro @tk_cap (And.intro @pick_t (And.intro @pick_f (And.intro @nil_p (And.intro @nil_f (And.intro @not_b (And.intro @cv_i (And.intro @fo_p (And.intro @ex_t (And.intro @rdX_t (And.intro @ld_p (And.intro @ldX_1 (And.intro @ldX_n (And.intro @rB_any (And.intro @rB_all (And.intro @bv_add (And.intro @bv_sub (And.intro @bv_half (And.intro @bv_lss (And.intro @bv_leq (And.intro @bv_gtr (And.intro @bv_geq (And.intro @bv_eql (And.intro @bv_neq (And.intro @ptX_t (And.intro @bv_peq (And.intro @bv_pne (And.intro @lenX_s (And.intro @len_sl (And.intro @cap_sl (And.intro @idx_sl (And.intro @idxX_s (And.intro @slc_sl (And.intro @slcX_lo (And.intro @slcX_hi (And.intro @slcX_hm (And.intro @slcX_all (And.intro @evt (And.intro @evc (And.intro @evg (And.intro @evf (And.intro @upd_eq (And.intro @add_mk (And.intro @rd_drew (And.intro @rdA_drew (And.intro @rd_dr (And.intro @rdA_dr (And.intro @drew_dr (And.intro @dr_drew (And.intro @dr_dr (And.intro @maT (And.intro @maC (And.intro @maN (And.intro @geZ (And.intro @geS (And.intro @Nat.zero_add (And.intro @naZ (And.intro @nm1 (And.intro @sz_dr (And.intro @ntT (And.intro @ntF (And.intro @isnS (And.intro @isnN (@issS))))))))))))))))))))))))))))))))))))))))))))))))))))))))))))))))))))))))))))))))))))))))))))) := And.intro @guardV_tt (And.intro @guardV_ff (And.intro @guardV_tf (And.intro @guardV_ft (And.intro @guardV_undef (And.intro @dstV_zero (And.intro @dstV_succ (And.intro @omS (And.intro @omN (And.intro @bindO_some (And.intro @tk_move (And.intro @tk_assign (And.intro @tk_pick (And.intro @tk_load (And.intro @tk_nil (And.intro @tk_bin (And.intro @tk_not (And.intro @tk_conv (And.intro @tk_mkf (And.intro @tk_slice (And.intro @tk_fo (And.intro @tk_fld (And.intro @tk_idx (And.intro @tk_build (And.intro @tk_ext (And.intro @mk_i (And.intro @mkX_t (And.intro @tk_tas (And.intro @tk_len (And.intro @tk_cap (And.intro @pick_t (And.intro @pick_f (And.intro @nil_p (And.intro @nil_f (And.intro @not_b (And.intro @cv_i (And.intro @fo_p (And.intro @ex_t (And.intro @rdX_t (And.intro @ld_p (And.intro @ldX_1 (And.intro @ldX_n (And.intro @rB_any (And.intro @rB_all (And.intro @bv_add (And.intro @bv_sub (And.intro @bv_half (And.intro @bv_lss (And.intro @bv_leq (And.intro @bv_gtr (And.intro @bv_geq (And.intro @bv_eql (And.intro @bv_neq (And.intro @ptX_t (And.intro @bv_peq (And.intro @bv_pne (And.intro @lenX_s (And.intro @len_sl (And.intro @cap_sl (And.intro @idx_sl (And.intro @idxX_s (And.intro @slc_sl (And.intro @slcX_lo (And.intro @slcX_hi (And.intro @slcX_hm (And.intro @slcX_all (And.intro @evt (And.intro @evc (And.intro @evg (And.intro @evf (And.intro @upd_eq (And.intro @add_mk (And.intro @rd_drew (And.intro @rdA_drew (And.intro @rd_dr (And.intro @rdA_dr (And.intro @drew_dr (And.intro @dr_drew (And.intro @dr_dr (And.intro @maT (And.intro @maC (And.intro @maN (And.intro @geZ (And.intro @geS (And.intro @Nat.zero_add (And.intro @naZ (And.intro @nm1 (And.intro @sz_dr (And.intro @ntT (And.intro @ntF (And.intro @isnS (And.intro @isnN (@issS))))))))))))))))))))))))))))))))))))))))))))))))))))))))))))))))))))))))))))))))))))))))))))
end Go.Proofs.Ythonmbkjbgkfaaa
