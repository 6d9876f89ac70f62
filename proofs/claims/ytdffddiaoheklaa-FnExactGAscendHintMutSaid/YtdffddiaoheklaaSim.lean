/-
  The engine's rewriting rules: what each reading operation yields. Each is proved as an equation that the rewriter takes for a real step. For whatever program. No condition.
-/
import Derived.Test.YtdffddiaoheklaaWr
set_option linter.unusedSimpArgs false
set_option linter.unusedVariables false
namespace Go.Proofs.Ytdffddiaoheklaa
open Go
theorem upd_eq (e : Env) (d : Nat) (v : Value) (t : Nat) : upd e d v t = if t = d then v else e t := id (Eq.trans rfl rfl)
theorem evt (e : Env) (t : Nat) : ev e (.tmp t) = e t := id (Eq.trans rfl rfl)
theorem evc (e : Env) (v : Value) : ev e (.const v) = v := id (Eq.trans rfl rfl)
theorem evg (e : Env) (g : Nat) : ev e (.global g) = .pointer (some ⟨g, 0, none⟩) := id (Eq.trans rfl rfl)
theorem evf (e : Env) (f : Nat) : ev e (.func f) = .func (.func f) #[] #[] := id (Eq.trans rfl rfl)
theorem updN (e : Env) (v : Value) : updO e none v = e := id (Eq.trans rfl rfl)
theorem updS (e : Env) (d : Nat) (v : Value) : updO e (some d) v = upd e d v := id (Eq.trans rfl rfl)
theorem pick_t (a b : Value) : pickG (.bool true) a b = some a := id (Eq.trans rfl rfl)
theorem pick_f (a b : Value) : pickG (.bool false) a b = some b := id (Eq.trans rfl rfl)
theorem nil_p (a : Addr) : nilG (.pointer (some a)) = some (.pointer (some a)) := id (Eq.trans rfl rfl)
theorem nil_f (f : Nat) (a b : Array Value) : nilG (.func (.func f) a b) = some (.func (.func f) a b) := id (Eq.trans rfl rfl)
theorem not_b (b : Bool) : notG (.bool b) = some (.bool (!b)) := id (Eq.trans rfl rfl)
theorem cv_i (k k' : IntKind) (n : Int) : cvG (some k) (.int k' n) = some (.int k (k.wrap n)) := id (Eq.trans rfl rfl)
theorem fo_p (o : Nat) (a : Addr) : foG (some o) (.pointer (some a)) = some (.pointer (some (a.add o))) := id (Eq.trans rfl rfl)
theorem foZ_s (P : Program) (H : Hold) (w : World) (o T f : Nat) (x : Value) : foZ P H w (some o) T f x = foG (some o) x := id (Eq.trans rfl rfl)
theorem foZ_n (P : Program) (H : Hold) (w : World) (T f : Nat) (x : Value) : foZ P H w none T f x = fzG P H w (fZero P T f) x := id (Eq.trans rfl rfl)
def fzX (r t : Bool) (b o : Nat) : Option Value := if r = true then (if t = true then some (.pointer (some ⟨b, o, none⟩)) else none) else none
theorem fz_p (P : Program) (H : Hold) (w : World) (b o : Nat) : fzG P H w true (.pointer (some ⟨b, o, none⟩)) = fzX (readsB H b) (tyOk P w b) b o := id (Eq.trans rfl rfl)
theorem fzX_t (b o : Nat) : fzX true true b o = some (.pointer (some ⟨b, o, none⟩)) := id (Eq.trans rfl rfl)
theorem rdA_0 (w : World) (b o : Nat) : rdA w b o 0 = some (.agg #[]) := id (Eq.trans rfl rfl)
theorem ntT : (!true) = false := id (Eq.trans rfl rfl)
theorem ntF : (!false) = true := id (Eq.trans rfl rfl)
theorem isnS {α : Type} (a : α) : (some a).isNone = false := id (Eq.trans rfl rfl)
theorem isnN {α : Type} : (none : Option α).isNone = true := id (Eq.trans rfl rfl)
theorem issS {α : Type} (a : α) : (some a).isSome = true := id (Eq.trans rfl rfl)
theorem omS {α β : Type} (f : α → β) (a : α) : Option.map f (some a) = some (f a) := id (Eq.trans rfl rfl)
theorem omN {α β : Type} (f : α → β) : Option.map f none = none := id (Eq.trans rfl rfl)
theorem geZ {α : Type} (a : α) (l : List α) : (a :: l)[0]? = some a := id (Eq.trans rfl rfl)
theorem geS {α : Type} (a : α) (l : List α) (i : Nat) : (a :: l)[i + 1]? = l[i]? := id (Eq.trans rfl rfl)
theorem maT {α β : Type} (f : α → β) (l : List α) : l.toArray.map f = (l.map f).toArray := by simp
theorem maC {α β : Type} (f : α → β) (a : α) (l : List α) : (a :: l).map f = f a :: l.map f := id (Eq.trans rfl rfl)
theorem maN {α β : Type} (f : α → β) : ([] : List α).map f = [] := id (Eq.trans rfl rfl)
theorem nm1 (a : Nat) : a * 1 = a := Nat.mul_one a
theorem sz_dr (w : World) (n : Nat) : (dr w n).heap.size = w.heap.size := id (Eq.trans rfl rfl)
theorem naZ (a : Nat) : a + 0 = a := id (Eq.trans rfl rfl)
theorem ex_t (l : List Value) (i : Nat) : exG (.tuple l.toArray) i = l[i]? := by simp [exG]
section
variable (P : Program) (H : Hold) (w : World)
def rdX (r : Bool) (v : Option Value) : Option Value := if r = true then v else none
theorem rdX_t (v : Option Value) : rdX true v = v := id (Eq.trans rfl rfl)
theorem tas_no (t T : Nat) (v z : Value) (h1 : coK P T = false) (h2 : laK P t T = some z) : tasV P (.iface t v) T true = some (.tuple #[z, .bool false]) := by simp [tasV, h1, h2]
def mkX (b : Bool) (T : Nat) (v : Value) : Option Value := if b = true then some (.iface T v) else none
theorem mk_i (T : Nat) (x : Operand) (e : Env) : tkOp P H e w (.makeInterface T x) = mkX (coK P T) T (ev e x) := id (Eq.trans rfl rfl)
theorem mkX_t (T : Nat) (v : Value) : mkX true T v = some (.iface T v) := id (Eq.trans rfl rfl)
def ldX (H : Hold) (w : World) (k : Option (Option Nat)) (a : Addr) : Option Value :=
  match k with
  | some k => rdX (readsB H a.block) (loadV w a k)
  | none => none
theorem ld_p (T : Nat) (a : Addr) : ldG P H w T (.pointer (some a)) = ldX H w (ldK P T) a := by
  simp only [ldG, ldX, rdX]; cases ldK P T <;> rfl
theorem ldX_1 (b o : Nat) : ldX H w (some none) ⟨b, o, none⟩ = rdX (readsB H b) (rd w b o) := id (Eq.trans rfl rfl)
theorem ldX_n (n b o : Nat) : ldX H w (some (some n)) ⟨b, o, none⟩ = rdX (readsB H b) (rdA w b o n) := id (Eq.trans rfl rfl)
theorem rB_any (b : Nat) : readsB none b = true := id (Eq.trans rfl rfl)
theorem rB_all (b : Nat) : readsB (some none) b = true := id (Eq.trans rfl rfl)
theorem rB_on (L : List Nat) (b : Nat) : readsB (some (some L)) b = L.contains b := id (Eq.trans rfl rfl)
theorem bv_add (T : Nat) (k : IntKind) (a b : Int) : binV P .add T (.int k a) (.int k b) = some (.int k (k.wrap (a + b))) := by simp [binV]
theorem bv_sub (T : Nat) (k : IntKind) (a b : Int) : binV P .sub T (.int k a) (.int k b) = some (.int k (k.wrap (a - b))) := by simp [binV]
theorem bv_mul (T : Nat) (k : IntKind) (a b : Int) : binV P .mul T (.int k a) (.int k b) = some (.int k (k.wrap (a * b))) := by simp [binV]
theorem bv_half (T : Nat) (a : Int) : binV P .quo T (.int .i64 a) (.int .i64 2) = some (.int .i64 (IntKind.i64.wrap (a.tdiv 2))) := by simp [binV]
theorem bv_rem (T : Nat) (a b : Int) (h : (b = 0) = False) : binV P .rem T (.int .i64 a) (.int .i64 b) = some (.int .i64 (a.tmod b)) := by simp [binV, h]
theorem bv_lss (T : Nat) (k : IntKind) (a b : Int) : binV P .lss T (.int k a) (.int k b) = some (.bool (decide (a < b))) := by simp [binV]
theorem bv_leq (T : Nat) (k : IntKind) (a b : Int) : binV P .leq T (.int k a) (.int k b) = some (.bool (decide (a ≤ b))) := by simp [binV]
theorem bv_gtr (T : Nat) (k : IntKind) (a b : Int) : binV P .gtr T (.int k a) (.int k b) = some (.bool (decide (b < a))) := by simp [binV]
theorem bv_geq (T : Nat) (k : IntKind) (a b : Int) : binV P .geq T (.int k a) (.int k b) = some (.bool (decide (b ≤ a))) := by simp [binV]
theorem bv_eql (T : Nat) (k : IntKind) (a b : Int) : binV P .eql T (.int k a) (.int k b) = some (.bool (a == b)) := by simp [binV]
theorem bv_neq (T : Nat) (k : IntKind) (a b : Int) : binV P .neq T (.int k a) (.int k b) = some (.bool (a != b)) := by simp [binV]
def ptX (r b : Bool) : Option Value := if r = true then some (.bool b) else none
theorem ptX_t (b : Bool) : ptX true b = some (.bool b) := id (Eq.trans rfl rfl)
theorem bv_peq (T : Nat) (a : Option Addr) : binV P .eql T (.pointer a) (.pointer none) = ptX (ptK P T) a.isNone := id (Eq.trans rfl rfl)
theorem bv_pne (T : Nat) (a : Option Addr) : binV P .neq T (.pointer a) (.pointer none) = ptX (ptK P T) (!a.isNone) := id (Eq.trans rfl rfl)
theorem bv_slt (T : Nat) (a b : ByteArray) : binV P .lss T (.string a) (.string b) = some (.bool (Op.bytesLess a.toList b.toList)) := id (Eq.trans rfl rfl)
theorem bv_seq (T : Nat) (a b : ByteArray) : binV P .eql T (.string a) (.string b) = some (.bool (a.toList == b.toList)) := id (Eq.trans rfl rfl)
def lenX (k : Option Nat) (n : Nat) : Option Value := if k.isSome then some (.int .i64 n) else none
theorem lenX_s (k n : Nat) : lenX (some k) n = some (.int .i64 n) := id (Eq.trans rfl rfl)
theorem len_sl (T : Nat) (a : Option Addr) (n c : Nat) : lenV P T (.slice a n c) = lenX (slK P T) n := id (Eq.trans rfl rfl)
theorem cap_sl (T : Nat) (a : Option Addr) (n c : Nat) : capV P T (.slice a n c) = lenX (slK P T) c := id (Eq.trans rfl rfl)
def idxX (k : Option Nat) (a : Addr) (n : Nat) (i : Int) : Option Value :=
  match k with
  | some sz => if 0 ≤ i ∧ i < n then some (.pointer (some (a.add (i.toNat * sz)))) else none
  | none => none
theorem idx_sl (T : Nat) (a : Addr) (n c : Nat) (k : IntKind) (i : Int) : idxV P T (.slice (some a) n c) (.int k i) = idxX (slK P T) a n i := by
  simp only [idxV, idxX]; cases slK P T <;> rfl
theorem idxX_s (sz b o n i : Nat) (h : i < n) : idxX (some sz) ⟨b, o, none⟩ n (i : Int) = some (.pointer (some ⟨b, o + i * sz, none⟩)) := by
  simp only [idxX]
  rw [if_pos (by omega)]
  simp [add_mk]
def idxA (k : Option (Nat × Nat)) (a : Addr) (i : Int) : Option Value :=
  match k with
  | some (n, sz) => if 0 ≤ i ∧ i < n then some (.pointer (some (a.add (i.toNat * sz)))) else none
  | none => none
theorem idx_ar (T : Nat) (a : Addr) (k : IntKind) (i : Int) : idxV P T (.pointer (some a)) (.int k i) = idxA (arK P T) a i := by
  simp only [idxV, idxA]; cases arK P T <;> rfl
theorem idxA_s (sz b o n i : Nat) (h : i < n) : idxA (some (n, sz)) ⟨b, o, none⟩ (i : Int) = some (.pointer (some ⟨b, o + i * sz, none⟩)) := by
  simp only [idxA]
  rw [if_pos (by omega)]
  simp [add_mk]
/-- A slice from l on. -/
def slFrom (b o sz l n c : Nat) : Value := .slice (some (if c = l then ⟨b, o, none⟩ else ⟨b, o + l * sz, none⟩)) (n - l) (c - l)
def slcX (k : Option Nat) (x : Value) (lo hi mx : Option Value) : Option Value :=
  match x, k with
  | .slice a len cap, some sz =>
    match optV mx cap cap with
    | none => none
    | some m => match (if mx.isSome && hi.isNone then none else optV hi len m) with
      | none => none
      | some h => match optV lo 0 h with
        | none => none
        | some l => some (.slice (if m = l then a else a.map (·.add (l * sz))) (h - l) (m - l))
  | _, _ => none
theorem slc_sl (T : Nat) (a : Option Addr) (n c : Nat) (lo hi mx : Option Value) : sliceV P T (.slice a n c) lo hi mx = slcX (slK P T) (.slice a n c) lo hi mx := id (Eq.trans rfl rfl)
theorem bound_n (l y : Nat) (k : IntKind) (h : l ≤ y) : boundV (.int k (l : Int)) y = some l := by
  simp only [boundV]; rw [if_pos (by omega)]; simp
theorem slcX_lo (sz b o n c l : Nat) (k : IntKind) (h : l ≤ n) : slcX (some sz) (.slice (some ⟨b, o, none⟩) n c) (some (.int k (l : Int))) none none = some (slFrom b o sz l n c) := by
  simp only [slcX, optV, bound_n l n k h, slFrom, Option.isSome_none, Bool.false_and, Bool.false_eq_true, if_false]
  by_cases hc : c = l
  · simp [hc]
  · simp [hc, add_mk]
theorem slcX_hi (sz b o n c m : Nat) (k : IntKind) (h : m ≤ c) : slcX (some sz) (.slice (some ⟨b, o, none⟩) n c) none (some (.int k (m : Int))) none = some (.slice (some ⟨b, o, none⟩) m c) := by
  simp only [slcX, optV, bound_n m c k h, Option.isSome_none, Bool.false_and, Bool.false_eq_true, if_false]
  by_cases hc : c = 0
  · simp [hc]
  · simp [hc, add_mk]
theorem slcX_hm (sz b o n c m : Nat) (k k' : IntKind) (h : m ≤ c) : slcX (some sz) (.slice (some ⟨b, o, none⟩) n c) none (some (.int k (m : Int))) (some (.int k' (m : Int))) = some (.slice (some ⟨b, o, none⟩) m m) := by
  simp only [slcX, optV, bound_n m c k' h, bound_n m m k (Nat.le_refl _), Option.isSome_some, Option.isNone_some, Bool.and_false, Bool.false_eq_true, if_false]
  by_cases hc : m = 0
  · simp [hc]
  · simp [hc, add_mk]
theorem slcX_all (sz b o n c : Nat) : slcX (some sz) (.slice (some ⟨b, o, none⟩) n c) none none none = some (.slice (some ⟨b, o, none⟩) n c) := by
  simp only [slcX, optV, Option.isSome_none, Bool.false_and, Bool.false_eq_true, if_false]
  by_cases hc : c = 0
  · simp [hc]
  · simp [hc, add_mk]
theorem slcX_nil (sz m : Nat) (k : IntKind) (h : m = 0) : slcX (some sz) (.slice none 0 0) none (some (.int k (m : Int))) none = some (.slice none 0 0) := by
  subst h; simp [slcX, optV, boundV]
theorem slcX_nil_lo (sz m : Nat) (k : IntKind) (h : m = 0) : slcX (some sz) (.slice none 0 0) (some (.int k (m : Int))) none none = some (.slice none 0 0) := by
  subst h; simp [slcX, optV, boundV]
end

/-! ### The rules as two facts, so that a call names them shortly -/
theorem rgd :
    (∀ {P : Program} {ops : Array Oper} {H : Hold} {sink : Option Nat} {Q : Post} {e : Env} {w : World}, WPlan P ops H sink Q [] e w = Q Exit.normal e w) ∧
    (∀ {P : Program} {ops : Array Oper} {H : Hold} {sink : Option Nat} {Q : Post} {e : Env} {w : World} (i x : Nat) (r : PlanL), WPlan P ops H sink Q ((0, i, x) :: r) e w = withOp ops i (TakeO P ops H (WPlan P ops H sink Q r) e w)) ∧
    (∀ {P : Program} {ops : Array Oper} {H : Hold} {sink : Option Nat} {Q : Post} {e : Env} {w : World} (i x : Nat) (r : PlanL), WPlan P ops H sink Q ((1, i, x) :: r) e w = DoAt P ops H sink i (WPlan P ops H sink Q r) e w) ∧
    (∀ {P : Program} {ops : Array Oper} {H : Hold} {sink : Option Nat} {Q : Post} {e : Env} {w : World} (i j : Nat) (r : PlanL), WPlan P ops H sink Q ((2, i, j) :: r) e w = (DoAt P ops H sink i (DoAt P ops H sink j (WPlan P ops H sink Q r)) e w ∧ DoAt P ops H sink j (DoAt P ops H sink i (WPlan P ops H sink Q r)) e w)) ∧
    (∀ {P : Program} {ops : Array Oper} {H : Hold} {sink : Option Nat} {e : Env} {w : World} (i : Nat) (K : Env → World → Prop), DoAt P ops H sink i K e w = withOp ops i (DoO P ops (fun (w w' : World) => sink = some i ∨ keeps H w w') K e w)) ∧
    (∀ {P : Program} {ops : Array Oper} {Q : Post} {e : Env} {w : World} (bs : List Bool), WText P ops Q bs [] e w = Q Exit.normal e w) ∧
    (∀ {P : Program} {ops : Array Oper} {Q : Post} {e : Env} {w : World} (bs : List Bool) (o : Oper) (r : List Oper), WText P ops Q (true :: bs) (o :: r) e w = TakeO P ops none (WText P ops Q bs r) e w o) ∧
    (∀ {P : Program} {ops : Array Oper} {Q : Post} {e : Env} {w : World} (bs : List Bool) (o : Oper) (r : List Oper), WText P ops Q (false :: bs) (o :: r) e w = DoO P ops (fun (x x_1 : World) => True) (WText P ops Q bs r) e w o) ∧
    (∀ (o : Oper) (l : List Oper) (k : Oper → Prop), withOp (o :: l).toArray 0 k = k o) ∧
    (∀ (o : Oper) (l : List Oper) (i : Nat) (k : Oper → Prop), withOp (o :: l).toArray (i + 1) k = withOp l.toArray i k) ∧
    (∀ {P : Program} {ops : Array Oper} {H : Hold} {e : Env} {w : World} {K : Env → World → Prop} (d : Option Nat) (op : Op) (ty : Nat) (pos : String) (af : Array Edge), TakeO P ops H K e w (Oper.mk d op ty pos af none) = bindO (tkOp P H e w op) fun (v : Value) => K (updO e d v) w) ∧
    (∀ {P : Program} {ops : Array Oper} {H : Hold} {e : Env} {w : World} {K : Env → World → Prop} (d : Option Nat) (op : Op) (ty : Nat) (pos : String) (af : Array Edge) (j : Nat) (want : Bool), TakeO P ops H K e w (Oper.mk d op ty pos af (some (j, want))) = guardV (dstV ops e j) want (bindO (tkOp P H e w op) fun (v : Value) => K (updO e d v) w) (K (updO e d undef) w)) ∧
    (∀ {P : Program} {ops : Array Oper} {e : Env} {w : World} {C : World → World → Prop} {K : Env → World → Prop} (d : Option Nat) (op : Op) (ty : Nat) (pos : String) (af : Array Edge) (j : Nat) (want : Bool), DoO P ops C K e w (Oper.mk d op ty pos af (some (j, want))) = guardV (dstV ops e j) want (DoO P ops C K e w (Oper.mk d op ty pos af none)) (K (updO e d undef) w)) ∧
    (∀ (e : Env) (v : Value), updO e none v = e) ∧
    (∀ (e : Env) (d : Nat) (v : Value), updO e (some d) v = upd e d v) ∧
    (∀ (K : Env → World → Prop) (e : Env) (w : World), nrm K Exit.normal e w = K e w) :=
  ⟨@WPlan_nil, @WPlan_take, @WPlan_do, @WPlan_fork, @DoAt_eq, @WText_nil, @WText_take, @WText_do, @withOp_zero, @withOp_succ, @take_none, @take_some, @do_some, @updN, @updS, @nrm_normal⟩
theorem rg :
    (∀ (yes no : Prop), guardV (some (Value.bool true)) true yes no = yes) ∧
    (∀ (yes no : Prop), guardV (some (Value.bool false)) false yes no = yes) ∧
    (∀ (yes no : Prop), guardV (some (Value.bool true)) false yes no = no) ∧
    (∀ (yes no : Prop), guardV (some (Value.bool false)) true yes no = no) ∧
    (∀ (want : Bool) (yes no : Prop), guardV (some undef) want yes no = no) ∧
    (∀ {e : Env} (o : Oper) (l : List Oper), dstV (o :: l).toArray e 0 = Option.map e o.dst) ∧
    (∀ {e : Env} (o : Oper) (l : List Oper) (j : Nat), dstV (o :: l).toArray e (j + 1) = dstV l.toArray e j) ∧
    (∀ {α β : Type} (f : α → β) (a : α), Option.map f (some a) = some (f a)) ∧
    (∀ {α β : Type} (f : α → β), Option.map f none = none) ∧
    (∀ (v : Value) (k : Value → Prop), bindO (some v) k = k v) ∧
    (∀ (P : Program) (H : Hold) (e : Env) (w : World) (x : Operand), tkOp P H e w (Op.move x) = some (ev e x)) ∧
    (∀ (P : Program) (H : Hold) (e : Env) (w : World) (x : Operand), tkOp P H e w (Op.assign x) = some (ev e x)) ∧
    (∀ (P : Program) (H : Hold) (e : Env) (w : World) (c a b : Operand), tkOp P H e w (Op.pick c a b) = pickG (ev e c) (ev e a) (ev e b)) ∧
    (∀ (P : Program) (H : Hold) (e : Env) (w : World) (T : Nat) (x : Operand), tkOp P H e w (Op.load T x) = ldG P H w T (ev e x)) ∧
    (∀ (P : Program) (H : Hold) (e : Env) (w : World) (x : Operand), tkOp P H e w (Op.nilCheck x) = nilG (ev e x)) ∧
    (∀ (P : Program) (H : Hold) (e : Env) (w : World) (op : BinOp) (T U : Nat) (x y : Operand), tkOp P H e w (Op.binOp op T x y U) = binV P op T (ev e x) (ev e y)) ∧
    (∀ (P : Program) (H : Hold) (e : Env) (w : World) (T : Nat) (x : Operand), tkOp P H e w (Op.unOp UnOp.not T x) = notG (ev e x)) ∧
    (∀ (P : Program) (H : Hold) (e : Env) (w : World) (S T : Nat) (x : Operand), tkOp P H e w (Op.convert S T x) = cvG (cvK P S T) (ev e x)) ∧
    (∀ (P : Program) (H : Hold) (e : Env) (w : World) (fn : Fn) (a b : Array Operand), tkOp P H e w (Op.makeFunc fn a b) = some (Value.func fn (Array.map (ev e) a) (Array.map (ev e) b))) ∧
    (∀ (P : Program) (H : Hold) (e : Env) (w : World) (T : Nat) (x : Operand) (lo hi mx : Option Operand), tkOp P H e w (Op.slice T x lo hi mx) = sliceV P T (ev e x) (Option.map (ev e) lo) (Option.map (ev e) hi) (Option.map (ev e) mx)) ∧
    (∀ (P : Program) (H : Hold) (e : Env) (w : World) (T f : Nat) (x : Operand), tkOp P H e w (Op.fieldAddr T x f) = foZ P H w (fOff P T f) T f (ev e x)) ∧
    (∀ (P : Program) (H : Hold) (w : World) (o T f : Nat) (x : Value), foZ P H w (some o) T f x = foG (some o) x) ∧
    (∀ (P : Program) (H : Hold) (w : World) (T f : Nat) (x : Value), foZ P H w none T f x = fzG P H w (fZero P T f) x) ∧
    (∀ (P : Program) (H : Hold) (w : World) (b o : Nat), fzG P H w true (.pointer (some (Addr.mk b o none))) = fzX (readsB H b) (tyOk P w b) b o) ∧
    (∀ (b o : Nat), fzX true true b o = some (.pointer (some (Addr.mk b o none)))) ∧
    (∀ (w : World) (b o : Nat), rdA w b o 0 = some (.agg #[])) ∧
    (∀ (P : Program) (H : Hold) (e : Env) (w : World) (T f : Nat) (x : Operand), tkOp P H e w (Op.field T x f) = fldV P T (ev e x) f) ∧
    (∀ (P : Program) (H : Hold) (e : Env) (w : World) (T : Nat) (x i : Operand), tkOp P H e w (Op.indexAddr T x i) = idxV P T (ev e x) (ev e i)) ∧
    (∀ (P : Program) (H : Hold) (e : Env) (w : World) (T : Nat) (parts : List (Nat × Operand)), tkOp P H e w (Op.build T parts.toArray) = buildV P T (List.map (fun (p : Nat × Operand) => (p.fst, ev e p.snd)) parts)) ∧
    (∀ (P : Program) (H : Hold) (e : Env) (w : World) (x : Operand) (i : Nat), tkOp P H e w (Op.extract x i) = exG (ev e x) i) ∧
    (∀ (P : Program) (H : Hold) (w : World) (T : Nat) (x : Operand) (e : Env), tkOp P H e w (Op.makeInterface T x) = mkX (coK P T) T (ev e x)) ∧
    (∀ (T : Nat) (v : Value), mkX true T v = some (Value.iface T v)) ∧
    (∀ (P : Program) (H : Hold) (e : Env) (w : World) (T U : Nat) (x : Operand) (ok : Bool), tkOp P H e w (Op.typeAssert x U T ok) = tasV P (ev e x) T ok) ∧
    (∀ (P : Program) (H : Hold) (e : Env) (w : World) (T : Nat) (x : Operand), tkOp P H e w (Op.call (Call.mk (Callee.builtin Builtin.len) #[x] #[T])) = lenV P T (ev e x)) ∧
    (∀ (P : Program) (H : Hold) (e : Env) (w : World) (T : Nat) (x : Operand), tkOp P H e w (Op.call (Call.mk (Callee.builtin Builtin.cap) #[x] #[T])) = capV P T (ev e x)) ∧
    (∀ (a b : Value), pickG (Value.bool true) a b = some a) ∧
    (∀ (a b : Value), pickG (Value.bool false) a b = some b) ∧
    (∀ (a : Addr), nilG (Value.pointer (some a)) = some (Value.pointer (some a))) ∧
    (∀ (f : Nat) (a b : Array Value), nilG (Value.func (Fn.func f) a b) = some (Value.func (Fn.func f) a b)) ∧
    (∀ (b : Bool), notG (Value.bool b) = some (Value.bool !b)) ∧
    (∀ (k k' : IntKind) (n : Int), cvG (some k) (Value.int k' n) = some (Value.int k (k.wrap n))) ∧
    (∀ (o : Nat) (a : Addr), foG (some o) (Value.pointer (some a)) = some (Value.pointer (some (a.add o)))) ∧
    (∀ (l : List Value) (i : Nat), exG (Value.tuple l.toArray) i = l[i]?) ∧
    (∀ (v : Option Value), rdX true v = v) ∧
    (∀ (P : Program) (H : Hold) (w : World) (T : Nat) (a : Addr), ldG P H w T (Value.pointer (some a)) = ldX H w (ldK P T) a) ∧
    (∀ (H : Hold) (w : World) (b o : Nat), ldX H w (some none) (Addr.mk b o none) = rdX (readsB H b) (rd w b o)) ∧
    (∀ (H : Hold) (w : World) (n b o : Nat), ldX H w (some (some n)) (Addr.mk b o none) = rdX (readsB H b) (rdA w b o n)) ∧
    (∀ (b : Nat), readsB none b = true) ∧
    (∀ (b : Nat), readsB (some none) b = true) ∧
    (∀ (P : Program) (T : Nat) (k : IntKind) (a b : Int), binV P BinOp.add T (Value.int k a) (Value.int k b) = some (Value.int k (k.wrap (a + b)))) ∧
    (∀ (P : Program) (T : Nat) (k : IntKind) (a b : Int), binV P BinOp.sub T (Value.int k a) (Value.int k b) = some (Value.int k (k.wrap (a - b)))) ∧
    (∀ (P : Program) (T : Nat) (a : Int), binV P BinOp.quo T (Value.int IntKind.i64 a) (Value.int IntKind.i64 2) = some (Value.int IntKind.i64 (IntKind.i64.wrap (a.tdiv 2)))) ∧
    (∀ (P : Program) (T : Nat) (k : IntKind) (a b : Int), binV P BinOp.lss T (Value.int k a) (Value.int k b) = some (Value.bool (decide (a < b)))) ∧
    (∀ (P : Program) (T : Nat) (k : IntKind) (a b : Int), binV P BinOp.leq T (Value.int k a) (Value.int k b) = some (Value.bool (decide (a ≤ b)))) ∧
    (∀ (P : Program) (T : Nat) (k : IntKind) (a b : Int), binV P BinOp.gtr T (Value.int k a) (Value.int k b) = some (Value.bool (decide (b < a)))) ∧
    (∀ (P : Program) (T : Nat) (k : IntKind) (a b : Int), binV P BinOp.geq T (Value.int k a) (Value.int k b) = some (Value.bool (decide (b ≤ a)))) ∧
    (∀ (P : Program) (T : Nat) (k : IntKind) (a b : Int), binV P BinOp.eql T (Value.int k a) (Value.int k b) = some (Value.bool (a == b))) ∧
    (∀ (P : Program) (T : Nat) (k : IntKind) (a b : Int), binV P BinOp.neq T (Value.int k a) (Value.int k b) = some (Value.bool (a != b))) ∧
    (∀ (b : Bool), ptX true b = some (Value.bool b)) ∧
    (∀ (P : Program) (T : Nat) (a : Option Addr), binV P BinOp.eql T (Value.pointer a) (Value.pointer none) = ptX (ptK P T) a.isNone) ∧
    (∀ (P : Program) (T : Nat) (a : Option Addr), binV P BinOp.neq T (Value.pointer a) (Value.pointer none) = ptX (ptK P T) !a.isNone) ∧
    (∀ (k n : Nat), lenX (some k) n = some (Value.int IntKind.i64 ↑n)) ∧
    (∀ (P : Program) (T : Nat) (a : Option Addr) (n c : Nat), lenV P T (Value.slice a n c) = lenX (slK P T) n) ∧
    (∀ (P : Program) (T : Nat) (a : Option Addr) (n c : Nat), capV P T (Value.slice a n c) = lenX (slK P T) c) ∧
    (∀ (P : Program) (T : Nat) (a : Addr) (n c : Nat) (k : IntKind) (i : Int), idxV P T (Value.slice (some a) n c) (Value.int k i) = idxX (slK P T) a n i) ∧
    (∀ (sz b o n i : Nat), i < n → idxX (some sz) (Addr.mk b o none) n ↑i = some (Value.pointer (some (Addr.mk b (o + i * sz) none)))) ∧
    (∀ (P : Program) (T : Nat) (a : Option Addr) (n c : Nat) (lo hi mx : Option Value), sliceV P T (Value.slice a n c) lo hi mx = slcX (slK P T) (Value.slice a n c) lo hi mx) ∧
    (∀ (sz b o n c l : Nat) (k : IntKind), l ≤ n → slcX (some sz) (Value.slice (some (Addr.mk b o none)) n c) (some (Value.int k ↑l)) none none = some (slFrom b o sz l n c)) ∧
    (∀ (sz b o n c m : Nat) (k : IntKind), m ≤ c → slcX (some sz) (Value.slice (some (Addr.mk b o none)) n c) none (some (Value.int k ↑m)) none = some (Value.slice (some (Addr.mk b o none)) m c)) ∧
    (∀ (sz b o n c m : Nat) (k k' : IntKind), m ≤ c → slcX (some sz) (Value.slice (some (Addr.mk b o none)) n c) none (some (Value.int k ↑m)) (some (Value.int k' ↑m)) = some (Value.slice (some (Addr.mk b o none)) m m)) ∧
    (∀ (sz b o n c : Nat), slcX (some sz) (Value.slice (some (Addr.mk b o none)) n c) none none none = some (Value.slice (some (Addr.mk b o none)) n c)) ∧
    (∀ (e : Env) (t : Nat), ev e (Operand.tmp t) = e t) ∧
    (∀ (e : Env) (v : Value), ev e (Operand.const v) = v) ∧
    (∀ (e : Env) (g : Nat), ev e (Operand.global g) = Value.pointer (some (Addr.mk g 0 none))) ∧
    (∀ (e : Env) (f : Nat), ev e (Operand.func f) = Value.func (Fn.func f) #[] #[]) ∧
    (∀ (e : Env) (d : Nat) (v : Value) (t : Nat), upd e d v t = if t = d then v else e t) ∧
    (∀ (b o n : Nat), (Addr.mk b o none).add n = Addr.mk b (o + n) none) ∧
    (∀ (w : World) (b o : Nat), rd w.drew b o = rd w b o) ∧
    (∀ (w : World) (b o n : Nat), rdA w.drew b o n = rdA w b o n) ∧
    (∀ (w : World) (n b o : Nat), rd (dr w n) b o = rd w b o) ∧
    (∀ (w : World) (n b o k : Nat), rdA (dr w n) b o k = rdA w b o k) ∧
    (∀ (w : World), w.drew = dr w (w.drawn + 1)) ∧
    (∀ (w : World) (n : Nat), (dr w n).drew = dr w (n + 1)) ∧
    (∀ (w : World) (n m : Nat), dr (dr w n) m = dr w m) ∧
    (∀ {α β : Type} (f : α → β) (l : List α), Array.map f l.toArray = (List.map f l).toArray) ∧
    (∀ {α β : Type} (f : α → β) (a : α) (l : List α), List.map f (a :: l) = f a :: List.map f l) ∧
    (∀ {α β : Type} (f : α → β), List.map f [] = []) ∧
    (∀ {α : Type} (a : α) (l : List α), (a :: l)[0]? = some a) ∧
    (∀ {α : Type} (a : α) (l : List α) (i : Nat), (a :: l)[i + 1]? = l[i]?) ∧
    (∀ (n : Nat), 0 + n = n) ∧
    (∀ (a : Nat), a + 0 = a) ∧
    (∀ (a : Nat), a * 1 = a) ∧
    (∀ (w : World) (n : Nat), (dr w n).heap.size = w.heap.size) ∧
    (∀ (P : Program) (w : World) (n b : Nat), tyOk P (dr w n) b = tyOk P w b) ∧
    ((!true) = false) ∧
    ((!false) = true) ∧
    (∀ {α : Type} (a : α), (some a).isNone = false) ∧
    (∀ {α : Type}, (none : Option α).isNone = true) ∧
    (∀ {α : Type} (a : α), (some a).isSome = true) :=
  ⟨@guardV_tt, @guardV_ff, @guardV_tf, @guardV_ft, @guardV_undef, @dstV_zero, @dstV_succ, @omS, @omN, @bindO_some, @tk_move, @tk_assign, @tk_pick, @tk_load, @tk_nil, @tk_bin, @tk_not, @tk_conv, @tk_mkf, @tk_slice, @tk_fo, @foZ_s, @foZ_n, @fz_p, @fzX_t, @rdA_0, @tk_fld, @tk_idx, @tk_build, @tk_ext, @mk_i, @mkX_t, @tk_tas, @tk_len, @tk_cap, @pick_t, @pick_f, @nil_p, @nil_f, @not_b, @cv_i, @fo_p, @ex_t, @rdX_t, @ld_p, @ldX_1, @ldX_n, @rB_any, @rB_all, @bv_add, @bv_sub, @bv_half, @bv_lss, @bv_leq, @bv_gtr, @bv_geq, @bv_eql, @bv_neq, @ptX_t, @bv_peq, @bv_pne, @lenX_s, @len_sl, @cap_sl, @idx_sl, @idxX_s, @slc_sl, @slcX_lo, @slcX_hi, @slcX_hm, @slcX_all, @evt, @evc, @evg, @evf, @upd_eq, @add_mk, @rd_drew, @rdA_drew, @rd_dr, @rdA_dr, @drew_dr, @dr_drew, @dr_dr, @maT, @maC, @maN, @geZ, @geS, @Nat.zero_add, @naZ, @nm1, @sz_dr, @ty_dr, @ntT, @ntF, @isnS, @isnN, @issS⟩
end Go.Proofs.Ytdffddiaoheklaa
