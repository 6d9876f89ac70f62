/-
  What a reading operation yields, as a function (loads, addresses, arithmetic, slicing), and that the model's run agrees. For whatever program. No condition.
-/
import Derived.Test.YtdffddiaoheklaaEng
import Derived.Laws.Sem
import Derived.Stop.Asserts
import Derived.Laws.World
import Derived.Laws.StructEq
import Derived.WalkSpells
set_option linter.unusedSimpArgs false
set_option linter.unusedVariables false
namespace Go.Proofs.Ytdffddiaoheklaa
open Go

/-! ### What the program's tables say -/
def fOff (P : Program) (T f : Nat) : Option Nat :=
  match P.underlying T with
  | some (.struct fs) => match fs[f]? with
    | some fd => match P.info? fd.type with
      | some i => if i.size = 0 then none else some fd.offset
      | none => none
    | none => none
  | _ => none
/-- Every cell of every type begins somewhere among its bytes (a question to a program's table of types). -/
def bocAll (P : Program) : Bool := (List.range P.types.size).all fun T => (List.range (P.cellsOf T)).all fun k => (byteOfCell P P.depth T k).isSome
/-- The block's cells are of a type of the program's own table. -/
def tyOk (P : Program) (w : World) (b : Nat) : Bool := match w.heap[b]? with
  | some (.cells _ T _) => decide (T < P.types.size)
  | _ => false
/-- A field without cells that begins its struct. -/
def fZero (P : Program) (T f : Nat) : Bool :=
  match P.underlying T with
  | some (.struct fs) => match fs[f]? with
    | some fd => match P.info? fd.type with
      | some i => i.size == 0 && fd.offset == 0 && fd.byteOffset == 0 && bocAll P
      | none => false
    | none => false
  | _ => false
def ldK (P : Program) (T : Nat) : Option (Option Nat) :=
  match P.underlying T with
  | some (.struct _) => (P.info? T).map fun i => some i.size
  | some (.array _ _) => (P.info? T).map fun i => some i.size
  | some _ => some none
  | none => none
def slK (P : Program) (T : Nat) : Option Nat :=
  match P.underlying T with
  | some (.slice E) => (P.info? E).map fun i => i.size
  | _ => none
def arK (P : Program) (T : Nat) : Option (Nat × Nat) :=
  match P.underlying T with
  | some (.array n E) => (P.info? E).map fun i => (n, i.size)
  | _ => none
def ptK (P : Program) (T : Nat) : Bool :=
  match P.underlying T with
  | some (.pointer _) => true
  | _ => false
def cvK (P : Program) (S T : Nat) : Option IntKind :=
  match P.underlying S, P.underlying T with
  | some _, some (.int k) => some k
  | _, _ => none
def coK (P : Program) (T : Nat) : Bool :=
  match P.underlying T with
  | some (.interface _) => false
  | some _ => true
  | none => false
def fldK (P : Program) (T f : Nat) : Option (Nat × Option Nat) :=
  match P.underlying T with
  | some (.struct fs) => match fs[f]? with
    | some fd => (ldK P fd.type).map fun k => (fd.offset, k)
    | none => none
  | _ => none

/-! ### Reading memory -/
def cellsFrom (w : World) (a : Addr) (i : Nat) : Nat → Option (List Value)
  | 0 => some []
  | n + 1 => match w.cell? (a.add i) with
    | some v => (cellsFrom w a (i + 1) n).map (v :: ·)
    | none => none
def loadV (w : World) (a : Addr) : Option Nat → Option Value
  | none => w.cell? a
  | some n => (cellsFrom w a 0 n).map fun l => .agg l.toArray

theorem cell?_of_heap {w w' : World} {a : Addr} (h : w'.heap[a.block]? = w.heap[a.block]?) : w'.cell? a = w.cell? a := by
  simp only [World.cell?, h]
theorem add_block (a : Addr) (i : Nat) : (a.add i).block = a.block := by unfold Addr.add; split <;> rfl
theorem cellsFrom_of_heap {w w' : World} {a : Addr} (h : w'.heap[a.block]? = w.heap[a.block]?) : ∀ n i, cellsFrom w' a i n = cellsFrom w a i n
  | 0, _ => rfl
  | n + 1, i => by
    simp only [cellsFrom, cellsFrom_of_heap h n (i + 1)]
    rw [cell?_of_heap (a := a.add i) (w := w) (w' := w') (by rw [add_block]; exact h)]
theorem loadV_of_heap {w w' : World} {a : Addr} (h : w'.heap[a.block]? = w.heap[a.block]?) (k : Option Nat) : loadV w' a k = loadV w a k := by
  cases k with
  | none => exact cell?_of_heap h
  | some n => simp only [loadV, cellsFrom_of_heap h]

theorem run_loadCellsFrom (P : Program) (w : World) (a : Addr) : ∀ (n i : Nat) (acc : Array Value) (l : List Value), cellsFrom w a i n = some l →
    (loadCellsFrom a i n acc).run P w = .ok (acc ++ l.toArray) w
  | 0, i, acc, l, h => by simp [cellsFrom] at h; subst h; simp [loadCellsFrom]
  | n + 1, i, acc, l, h => by
    simp only [cellsFrom] at h
    cases hc : w.cell? (a.add i) with
    | none => simp [hc] at h
    | some v =>
      simp only [hc] at h
      cases hr : cellsFrom w a (i + 1) n with
      | none => simp [hr] at h
      | some r =>
        simp [hr] at h
        subst h
        simp only [loadCellsFrom, Sem.run_bind, run_load, hc, Result.andThen_ok, run_loadCellsFrom P w a n (i + 1) (acc.push v) r hr]
        simp
theorem run_loadCells {P : Program} {w : World} {a : Addr} {n : Nat} {l : List Value} (h : cellsFrom w a 0 n = some l) : (loadCells a n).run P w = .ok l.toArray w := by
  simp [loadCells, run_loadCellsFrom P w a n 0 #[] l h]

theorem run_loadVar {P : Program} {w : World} {a : Addr} {T : Nat} {k : Option Nat} {v : Value} (hk : ldK P T = some k) (h : loadV w a k = some v) :
    (loadVar T a).run P w = .ok v w := by
  unfold ldK at hk
  cases hu : P.underlying T with
  | none => simp [hu] at hk
  | some d =>
    cases hi : P.info? T with
    | none => simp [Program.underlying, hi] at hu
    | some i =>
      cases k with
      | none =>
        have hd : isAgg T = (do match ← underlying T with | .struct _ | .array _ _ => pure true | _ => pure false) := rfl
        cases d <;> simp [hu, hi] at hk <;> simp only [loadV] at h <;> simp [loadVar, isAgg, underlying, hu, h]
      | some n =>
        simp only [loadV, Option.map_eq_some_iff] at h
        obtain ⟨l, hl, rfl⟩ := h
        cases d <;> simp [hu, hi] at hk <;> subst hk <;> simp [loadVar, isAgg, underlying, hu, sizeOf, typeInfo, hi, run_loadCells hl]

/-! ### The holds -/
abbrev Hold := Option (Option (List Nat))
def readsB : Hold → Nat → Bool
  | some (some L), b => L.contains b
  | _, _ => true
def keeps : Hold → World → World → Prop
  | none, w, w' => w' = w
  | some none, w, w' => w'.heap = w.heap
  | some (some L), w, w' => ∀ b ∈ L, w'.heap[b]? = w.heap[b]?
theorem keeps_reads {H : Hold} {w w' : World} (h : keeps H w w') {b : Nat} (hb : readsB H b = true) : w'.heap[b]? = w.heap[b]? := by
  match H, h, hb with
  | none, h, _ => rw [show w' = w from h]
  | some none, h, _ => rw [show w'.heap = w.heap from h]
  | some (some L), h, hb => exact h b (by simpa [readsB] using hb)
theorem keeps_refl (H : Hold) (w : World) : keeps H w w := by
  match H with
  | none => rfl
  | some none => rfl
  | some (some _) => exact fun _ _ => rfl

/-! ### Operations that only read -/
/-- A part of a struct's cells. -/
def prtV (P : Program) (t : Nat) (cs : Array Value) (o : Nat) : Option Value :=
  match P.underlying t with
  | some (.struct _) => (P.info? t).map fun i => .agg (cs.extract o (o + i.size))
  | some (.array _ _) => (P.info? t).map fun i => .agg (cs.extract o (o + i.size))
  | some _ => cs[o]?
  | none => none
def eqFs (P : Program) (rec : Nat → Value → Value → Option Bool) (xs ys : Array Value) : List Field → Option Bool
  | [] => some true
  | f :: fs => if f.name = "_" then eqFs P rec xs ys fs else
    match prtV P f.type xs f.offset, prtV P f.type ys f.offset with
    | some a, some b => match rec f.type a b, eqFs P rec xs ys fs with
      | some r, some q => some (r && q)
      | _, _ => none
    | _, _ => none
/-- Are two values equal? -/
def eqV (P : Program) : Nat → Nat → Value → Value → Option Bool
  | 0, _, _, _ => none
  | d + 1, t, x, y => match P.underlying t, x, y with
    | some .bool, .bool a, .bool b => some (a == b)
    | some (.int _), .int k a, .int k' b => if k = k' then some (a == b) else none
    | some .string, .string a, .string b => some (a.toList == b.toList)
    | some (.struct fs), .agg xs, .agg ys => if P.stoodInHeld t = true then none else eqFs P (eqV P d) xs ys fs.toList
    | some (.slice _), .slice a _ _, .slice none 0 0 => some a.isNone
    | some (.interface _), .nilIface, .nilIface => some true
    | some (.interface _), .iface _ _, .nilIface => some false
    | some (.func ..), .nilFunc, .nilFunc => some true
    | some (.func ..), .func .., .nilFunc => some false
    | _, _, _ => none
def eqG (P : Program) (op : BinOp) (T : Nat) (x y : Value) : Option Value :=
  match op with
  | .eql => (eqV P 10000 T x y).map .bool
  | .neq => (eqV P 10000 T x y).map fun r => .bool (!r)
  | _ => none
def binV (P : Program) (op : BinOp) (T : Nat) : Value → Value → Option Value
  | .int k a, .int k' b =>
    if k = k' then match op with
      | .add => some (.int k (k.wrap (a + b)))
      | .sub => some (.int k (k.wrap (a - b)))
      | .mul => some (.int k (k.wrap (a * b)))
      | .quo => if b = 0 then none else some (.int k (k.wrap (a.tdiv b)))
      | .rem => if b = 0 then none else some (.int k (a.tmod b))
      | .eql => some (.bool (a == b))
      | .neq => some (.bool (a != b))
      | .lss => some (.bool (decide (a < b)))
      | .leq => some (.bool (decide (a ≤ b)))
      | .gtr => some (.bool (decide (a > b)))
      | .geq => some (.bool (decide (a ≥ b)))
      | .shr => if b < 0 then none else some (.int k (a.fdiv (2 ^ min b.toNat k.bits)))
      | _ => none
    else none
  | .string a, .string b => match op with
      | .eql => some (.bool (a.toList == b.toList))
      | .neq => some (.bool (!(a.toList == b.toList)))
      | .lss => some (.bool (Op.bytesLess a.toList b.toList))
      | .gtr => some (.bool (!(Op.bytesLess a.toList b.toList || a.toList == b.toList)))
      | .leq => some (.bool (Op.bytesLess a.toList b.toList || a.toList == b.toList))
      | _ => none
  | .pointer a, .pointer none => if ptK P T = true then match op with
      | .eql => some (.bool a.isNone)
      | .neq => some (.bool (!a.isNone))
      | _ => none
    else none
  | .bool a, .bool b => eqG P op T (.bool a) (.bool b)
  | .agg a, .agg b => if P.eqGuardType P.depth T = true then none else eqG P op T (.agg a) (.agg b)
  | .slice a n c, .slice none 0 0 => eqG P op T (.slice a n c) (.slice none 0 0)
  | .iface t v, .nilIface => eqG P op T (.iface t v) .nilIface
  | .func f a b, .nilFunc => eqG P op T (.func f a b) .nilFunc
  | .nilFunc, .nilFunc => eqG P op T .nilFunc .nilFunc
  | _, _ => none

def boundV (x : Value) (y : Nat) : Option Nat :=
  match x with
  | .int _ i => if 0 ≤ i ∧ i ≤ y then some i.toNat else none
  | _ => none
def optV (x : Option Value) (d y : Nat) : Option Nat :=
  match x with
  | some v => boundV v y
  | none => some d
def sliceV (P : Program) (T : Nat) (x : Value) (lo hi mx : Option Value) : Option Value :=
  match x, slK P T with
  | .slice a len cap, some sz =>
    match optV mx cap cap with
    | none => none
    | some m => match (if mx.isSome && hi.isNone then none else optV hi len m) with
      | none => none
      | some h => match optV lo 0 h with
        | none => none
        | some l => some (.slice (if m = l then a else a.map (·.add (l * sz))) (h - l) (m - l))
  | _, _ => none
def idxV (P : Program) (T : Nat) (x i : Value) : Option Value :=
  match x, i with
  | .slice (some a) len _, .int _ i => match slK P T with
    | some sz => if 0 ≤ i ∧ i < len then some (.pointer (some (a.add (i.toNat * sz)))) else none
    | none => none
  | .pointer (some a), .int _ i => match arK P T with
    | some (n, sz) => if 0 ≤ i ∧ i < n then some (.pointer (some (a.add (i.toNat * sz)))) else none
    | none => none
  | _, _ => none
def ixV (P : Program) (T : Nat) (x i : Value) : Option Value :=
  match x, i with
  | .string s, .int _ i => if P.underlying T matches some .string then (match (if 0 ≤ i then s[i.toNat]? else none) with
    | some b => some (.int .u8 b.toNat)
    | none => none) else none
  | _, _ => none
def partV (cs : Array Value) (o : Nat) : Option Nat → Option Value
  | none => cs[o]?
  | some n => some (.agg (cs.extract o (o + n)))
def fldV (P : Program) (T : Nat) (x : Value) (f : Nat) : Option Value :=
  match x, fldK P T f with
  | .agg cs, some (o, k) => partV cs o k
  | _, _ => none
def buildV (P : Program) (T : Nat) (parts : List (Nat × Value)) : Option Value :=
  match (P.info? T).bind (·.zero), P.underlying T with
  | some z, some (.struct fs) =>
    if fs.all fun f => (P.info? f.type).isSome then
      (Instr.fill (fun i => (fs[i]?).map fun f => (f.offset, P.cellsOf f.type)) z.cells parts).map .agg
    else none
  | _, _ => none
def lenV (P : Program) (T : Nat) : Value → Option Value
  | .slice _ n _ => if (slK P T).isSome then some (.int .i64 n) else none
  | .string s => if P.underlying T matches some .string then some (.int .i64 s.size) else none
  | _ => none
def capV (P : Program) (T : Nat) : Value → Option Value
  | .slice _ _ n => if (slK P T).isSome then some (.int .i64 n) else none
  | _ => none
/-- What comma-ok hands back where the dynamic type lacks a method of the interface. -/
def laK (P : Program) (t T : Nat) : Option Value :=
  match P.underlying T with
  | some (.interface want) => if (P.info? t).map (fun i => (lacking want i.methods).isEmpty) = some false then (P.info? T).bind (·.zero) else none
  | _ => none
def tasV (P : Program) (x : Value) (T : Nat) (ok : Bool) : Option Value :=
  match x with
  | .iface t v => if coK P T = true ∧ t = T then some (if ok then .tuple #[v, .bool true] else v) else if ok = true then (laK P t T).map fun z => .tuple #[z, .bool false] else none
  | _ => none

def pickG (c a b : Value) : Option Value :=
  match c with
  | .bool t => some (if t then a else b)
  | _ => none
def ldG (P : Program) (H : Hold) (w : World) (T : Nat) (x : Value) : Option Value :=
  match x, ldK P T with
  | .pointer (some a), some k => if readsB H a.block = true then loadV w a k else none
  | _, _ => none
def nilG (x : Value) : Option Value :=
  match x with
  | .pointer (some a) => some (.pointer (some a))
  | .func (.func f) a b => some (.func (.func f) a b)
  | _ => none
def notG (x : Value) : Option Value :=
  match x with
  | .bool b => some (.bool (!b))
  | _ => none
def cvG (k : Option IntKind) (x : Value) : Option Value :=
  match x, k with
  | .int _ n, some k => some (.int k (k.wrap n))
  | _, _ => none
def foG (o : Option Nat) (x : Value) : Option Value :=
  match x, o with
  | .pointer (some a), some o => some (.pointer (some (a.add o)))
  | _, _ => none
def fzG (P : Program) (H : Hold) (w : World) (z : Bool) (x : Value) : Option Value :=
  match z, x with
  | true, .pointer (some ⟨b, o, none⟩) => if readsB H b = true then (if tyOk P w b = true then some (.pointer (some ⟨b, o, none⟩)) else none) else none
  | _, _ => none
def foZ (P : Program) (H : Hold) (w : World) (k : Option Nat) (T f : Nat) (x : Value) : Option Value :=
  match k with
  | some o => foG (some o) x
  | none => fzG P H w (fZero P T f) x
def exG (x : Value) (i : Nat) : Option Value :=
  match x with
  | .tuple vs => vs[i]?
  | _ => none
def tkOp (P : Program) (H : Hold) (e : Env) (w : World) : Op → Option Value
  | .move x => some (ev e x)
  | .assign x => some (ev e x)
  | .pick c a b => pickG (ev e c) (ev e a) (ev e b)
  | .load T x => ldG P H w T (ev e x)
  | .nilCheck x => nilG (ev e x)
  | .binOp op T x y _ => binV P op T (ev e x) (ev e y)
  | .unOp .not _ x => notG (ev e x)
  | .convert src dst x => cvG (cvK P src dst) (ev e x)
  | .makeFunc fn first captured => some (.func fn (first.map (ev e)) (captured.map (ev e)))
  | .slice T x lo hi mx => sliceV P T (ev e x) (lo.map (ev e)) (hi.map (ev e)) (mx.map (ev e))
  | .fieldAddr T x f => foZ P H w (fOff P T f) T f (ev e x)
  | .field T x f => fldV P T (ev e x) f
  | .indexAddr T x i => idxV P T (ev e x) (ev e i)
  | .index T x i => ixV P T (ev e x) (ev e i)
  | .build T parts => buildV P T (parts.toList.map fun p => (p.1, ev e p.2))
  | .extract x i => exG (ev e x) i
  | .makeInterface T x => if coK P T = true then some (.iface T (ev e x)) else none
  | .typeAssert x _ T ok => tasV P (ev e x) T ok
  | .call ⟨.builtin .len, #[x], #[T]⟩ => lenV P T (ev e x)
  | .call ⟨.builtin .cap, #[x], #[T]⟩ => capV P T (ev e x)
  | _ => none

section
variable (P : Program) (H : Hold) (e : Env) (w : World)
theorem tk_move (x : Operand) : tkOp P H e w (.move x) = some (ev e x) := id (Eq.trans rfl rfl)
theorem tk_assign (x : Operand) : tkOp P H e w (.assign x) = some (ev e x) := id (Eq.trans rfl rfl)
theorem tk_pick (c a b : Operand) : tkOp P H e w (.pick c a b) = pickG (ev e c) (ev e a) (ev e b) := id (Eq.trans rfl rfl)
theorem tk_load (T : Nat) (x : Operand) : tkOp P H e w (.load T x) = ldG P H w T (ev e x) := id (Eq.trans rfl rfl)
theorem tk_nil (x : Operand) : tkOp P H e w (.nilCheck x) = nilG (ev e x) := id (Eq.trans rfl rfl)
theorem tk_bin (op : BinOp) (T U : Nat) (x y : Operand) : tkOp P H e w (.binOp op T x y U) = binV P op T (ev e x) (ev e y) := id (Eq.trans rfl rfl)
theorem tk_not (T : Nat) (x : Operand) : tkOp P H e w (.unOp .not T x) = notG (ev e x) := id (Eq.trans rfl rfl)
theorem tk_conv (S T : Nat) (x : Operand) : tkOp P H e w (.convert S T x) = cvG (cvK P S T) (ev e x) := id (Eq.trans rfl rfl)
theorem tk_mkf (fn : Fn) (a b : Array Operand) : tkOp P H e w (.makeFunc fn a b) = some (.func fn (a.map (ev e)) (b.map (ev e))) := id (Eq.trans rfl rfl)
theorem tk_slice (T : Nat) (x : Operand) (lo hi mx : Option Operand) : tkOp P H e w (.slice T x lo hi mx) = sliceV P T (ev e x) (lo.map (ev e)) (hi.map (ev e)) (mx.map (ev e)) := id (Eq.trans rfl rfl)
theorem tk_ix (T : Nat) (x i : Operand) : tkOp P H e w (.index T x i) = ixV P T (ev e x) (ev e i) := id (Eq.trans rfl rfl)
theorem tk_fo (T f : Nat) (x : Operand) : tkOp P H e w (.fieldAddr T x f) = foZ P H w (fOff P T f) T f (ev e x) := id (Eq.trans rfl rfl)
theorem tk_fld (T f : Nat) (x : Operand) : tkOp P H e w (.field T x f) = fldV P T (ev e x) f := id (Eq.trans rfl rfl)
theorem tk_idx (T : Nat) (x i : Operand) : tkOp P H e w (.indexAddr T x i) = idxV P T (ev e x) (ev e i) := id (Eq.trans rfl rfl)
theorem tk_build (T : Nat) (parts : List (Nat × Operand)) : tkOp P H e w (.build T parts.toArray) = buildV P T (parts.map fun p => (p.1, ev e p.2)) := id (Eq.trans rfl rfl)
theorem tk_ext (x : Operand) (i : Nat) : tkOp P H e w (.extract x i) = exG (ev e x) i := id (Eq.trans rfl rfl)
theorem tk_mki (T : Nat) (x : Operand) : tkOp P H e w (.makeInterface T x) = if coK P T = true then some (.iface T (ev e x)) else none := id (Eq.trans rfl rfl)
theorem tk_tas (T U : Nat) (x : Operand) (ok : Bool) : tkOp P H e w (.typeAssert x U T ok) = tasV P (ev e x) T ok := id (Eq.trans rfl rfl)
theorem tk_len (T : Nat) (x : Operand) : tkOp P H e w (.call ⟨.builtin .len, #[x], #[T]⟩) = lenV P T (ev e x) := id (Eq.trans rfl rfl)
theorem tk_cap (T : Nat) (x : Operand) : tkOp P H e w (.call ⟨.builtin .cap, #[x], #[T]⟩) = capV P T (ev e x) := id (Eq.trans rfl rfl)
end

section
variable {P : Program} {H : Hold} {e : Env} {w w' : World}

theorem run_underlying' {T : Nat} {d : TypeDesc} (h : P.underlying T = some d) (w : World) : (underlying T).run P w = .ok d w := by simp [underlying, h]

theorem guard_int (op : BinOp) (T : Nat) (x y : Operand) (k k' : IntKind) (a b : Int) (s : Sem Value) (w : World) :
    (do eqGuard op T x y (.int k a) (.int k' b); s : Sem Value).run P w = s.run P w := by cases op <;> simp [eqGuard]
theorem guard_string (op : BinOp) (T : Nat) (x y : Operand) (a b : ByteArray) (s : Sem Value) (w : World) :
    (do eqGuard op T x y (.string a) (.string b); s : Sem Value).run P w = s.run P w := by cases op <;> simp [eqGuard]
theorem guard_pointer (op : BinOp) (T : Nat) (x y : Operand) (a b : Option Addr) (s : Sem Value) (w : World) :
    (do eqGuard op T x y (.pointer a) (.pointer b); s : Sem Value).run P w = s.run P w := by cases op <;> simp [eqGuard]
theorem run_binV_int {op : BinOp} {T : Nat} {k k' : IntKind} {a b : Int} {v : Value} (h : binV P op T (.int k a) (.int k' b) = some v) (w : World) :
    (binOp op T (.int k a) (.int k' b)).run P w = .ok v w := by
  simp only [binV] at h
  split at h
  · rename_i hk
    subst hk
    cases op
    case add => simp at h; subst h; simp [binOp, Op.intArith]
    case sub => simp at h; subst h; simp [binOp, Op.intArith]
    case mul => simp at h; subst h; simp [binOp, Op.intArith]
    case quo => simp at h; obtain ⟨hb, rfl⟩ := h; simp [binOp, Op.intDiv, hb]
    case rem => simp at h; obtain ⟨hb, rfl⟩ := h; simp [binOp, Op.intDiv, hb]
    case eql => simp at h; subst h; simp [binOp, Op.intCmp]
    case neq => simp at h; subst h; simp [binOp, Op.intCmp]
    case lss => simp at h; subst h; simp [binOp, Op.intCmp]
    case leq => simp at h; subst h; simp [binOp, Op.intCmp]
    case gtr => simp at h; subst h; simp [binOp, Op.intCmp]
    case geq => simp at h; subst h; simp [binOp, Op.intCmp]
    case shr => simp at h; obtain ⟨hb, rfl⟩ := h; have hb' : ¬ b < 0 := by omega
                simp [binOp, Op.shift, hb']
    all_goals simp at h
  · simp at h
theorem run_binV_string {op : BinOp} {T : Nat} {a b : ByteArray} {v : Value} (h : binV P op T (.string a) (.string b) = some v) (w : World) :
    (binOp op T (.string a) (.string b)).run P w = .ok v w := by
  simp only [binV] at h
  cases op
  case eql => simp at h; subst h; simp [binOp, Op.stringOp]
  case neq => simp at h; subst h; simp [binOp, Op.stringOp]
  case lss => simp at h; subst h; simp [binOp, Op.stringOp]
  case gtr => simp at h; subst h; simp [binOp, Op.stringOp]
  case leq => simp at h; subst h; simp [binOp, Op.stringOp]
  all_goals simp at h
theorem run_equalIn_nil (d : Nat) {T E : Nat} (hu : P.underlying T = some (.pointer E)) (a : Option Addr) (w : World) : (Op.equalIn (d + 1) T (.pointer a) (.pointer none)).run P w = .ok a.isNone w := by
  cases a <;> simp only [Op.equalIn, Sem.run_bind, run_underlying' hu, Result.andThen_ok] <;> rfl
theorem run_equal_nil {T E : Nat} (hu : P.underlying T = some (.pointer E)) (a : Option Addr) (w : World) : (Op.equal T (.pointer a) (.pointer none)).run P w = .ok a.isNone w :=
  run_equalIn_nil 9999 hu a w
theorem binOp_eql_ptr (T : Nat) (a : Option Addr) : binOp .eql T (.pointer a) (.pointer none) = (do pure (.bool (← Op.equal T (.pointer a) (.pointer none)))) := by cases a <;> rfl
theorem binOp_neq_ptr (T : Nat) (a : Option Addr) : binOp .neq T (.pointer a) (.pointer none) = (do pure (.bool (!(← Op.equal T (.pointer a) (.pointer none))))) := by cases a <;> rfl
theorem run_binV_pointer {op : BinOp} {T : Nat} {a b : Option Addr} {v : Value} (h : binV P op T (.pointer a) (.pointer b) = some v) (w : World) :
    (binOp op T (.pointer a) (.pointer b)).run P w = .ok v w := by
  cases b with
  | some b => simp [binV] at h
  | none =>
    simp only [binV, ptK] at h
    cases hu : P.underlying T with
    | none => simp [hu] at h
    | some d =>
      cases d with
      | pointer E =>
        simp [hu] at h
        cases op
        case eql => simp at h; subst h; simp [binOp_eql_ptr, run_equal_nil hu]
        case neq => simp at h; subst h; simp [binOp_neq_ptr, run_equal_nil hu]
        all_goals simp at h
      | _ => simp [hu] at h
theorem run_prtV {t o : Nat} {cs : Array Value} {v : Value} (h : prtV P t cs o = some v) (w : World) : (part t cs o).run P w = .ok v w := by
  unfold prtV at h
  cases hu : P.underlying t with
  | none => simp [hu] at h
  | some d =>
    have hs : ∀ i, P.info? t = some i → (sizeOf t).run P w = .ok i.size w := fun i hi => by simp [sizeOf, typeInfo, hi]
    cases d with
    | struct fs =>
      simp only [hu, Option.map_eq_some_iff] at h
      obtain ⟨i, hi, rfl⟩ := h
      simp [part, isAgg, run_underlying' hu, hs i hi]
    | array n E =>
      simp only [hu, Option.map_eq_some_iff] at h
      obtain ⟨i, hi, rfl⟩ := h
      simp [part, isAgg, run_underlying' hu, hs i hi]
    | _ => simp only [hu] at h; simp [part, isAgg, run_underlying' hu, h]
theorem run_eqFs {d : Nat} (ih : ∀ (t : Nat) (x y : Value) (r : Bool), eqV P d t x y = some r → ∀ w, (Op.equalIn d t x y).run P w = .ok r w) (xs ys : Array Value) :
    ∀ (fs : List Field) (r : Bool), eqFs P (eqV P d) xs ys fs = some r → ∀ w, (Op.eqFields d xs ys fs).run P w = .ok r w
  | [], r, h, w => by simp [eqFs] at h; subst h; simp [Op.eqFields]
  | f :: fs, r, h, w => by
    unfold eqFs at h
    unfold Op.eqFields
    by_cases hn : f.name = "_"
    · simp only [hn, if_true] at h
      simp only [hn, ne_eq, not_true_eq_false, if_false]
      exact run_eqFs ih xs ys fs r h w
    · simp only [hn, if_false] at h
      simp only [hn, ne_eq, not_false_eq_true, if_true]
      split at h
      · rename_i a b ha hb
        split at h
        · rename_i q s hq hs
          simp only [Option.some.injEq] at h
          subst h
          simp only [Sem.run_bind, run_prtV ha, run_prtV hb, ih _ _ _ _ hq, Result.andThen_ok]
          cases q with
          | false => simp
          | true => simp [run_eqFs ih xs ys fs s hs w]
        · cases h
      · cases h
theorem run_eqV : ∀ (d t : Nat) (x y : Value) (r : Bool), eqV P d t x y = some r → ∀ w, (Op.equalIn d t x y).run P w = .ok r w
  | 0, _, _, _, _, h, _ => by simp [eqV] at h
  | d + 1, t, x, y, r, h, w => by
    unfold eqV at h
    split at h
    · rename_i a b hu; simp at h; subst h; exact run_equalIn_bool w d t _ _ hu
    · rename_i k' k a k2 b hu
      split at h
      · rename_i hk; subst hk; simp at h; subst h; exact run_equalIn_int w d t _ _ _ _ hu
      · cases h
    · rename_i a b hu; simp at h; subst h; exact run_equalIn_string w d t _ _ hu
    · rename_i fs xs ys hu
      split at h
      · cases h
      · rename_i hst
        have hf : P.fieldsOf t = fs := by simp [Program.fieldsOf, hu]
        rw [run_equalIn_struct w d t xs ys (by rw [hf]; exact hu) (by simpa using hst), hf]
        exact run_eqFs (fun t x y r h w => run_eqV d t x y r h w) xs ys _ r h w
    · rename_i E a n c hu
      simp at h; subst h
      cases a <;> simp only [Op.equalIn, Sem.run_bind, run_underlying' hu, Result.andThen_ok] <;> rfl
    · rename_i ms hu; simp at h; subst h; simp only [Op.equalIn, Sem.run_bind, run_underlying' hu, Result.andThen_ok]; rfl
    · rename_i ms u v hu; simp at h; subst h; simp only [Op.equalIn, Sem.run_bind, run_underlying' hu, Result.andThen_ok]; rfl
    · rename_i hu; simp at h; subst h; simp only [Op.equalIn, Sem.run_bind, run_underlying' hu, Result.andThen_ok]; rfl
    · rename_i hu; simp at h; subst h; simp only [Op.equalIn, Sem.run_bind, run_underlying' hu, Result.andThen_ok]; rfl
    · cases h
theorem run_eqG {op : BinOp} {T : Nat} {x y : Value} {v : Value} (he : binOp .eql T x y = (do pure (.bool (← Op.equal T x y)))) (hn : binOp .neq T x y = (do pure (.bool (!(← Op.equal T x y)))))
    (h : eqG P op T x y = some v) (w : World) : (binOp op T x y).run P w = .ok v w := by
  unfold eqG at h
  cases op
  case eql =>
    simp only [Option.map_eq_some_iff] at h
    obtain ⟨r, hr, rfl⟩ := h
    rw [he]
    simp [Op.equal, Op.maxDepth, run_eqV 10000 T x y r hr w]
  case neq =>
    simp only [Option.map_eq_some_iff] at h
    obtain ⟨r, hr, rfl⟩ := h
    rw [hn]
    simp [Op.equal, Op.maxDepth, run_eqV 10000 T x y r hr w]
  all_goals simp at h
theorem run_binV {op : BinOp} {T : Nat} {x y : Operand} {v : Value} (h : binV P op T (ev e x) (ev e y) = some v) (w : World) :
    (do eqGuard op T x y (ev e x) (ev e y); binOp op T (ev e x) (ev e y) : Sem Value).run P w = .ok v w := by
  generalize ev e x = a at h ⊢
  generalize ev e y = b at h ⊢
  cases a with
  | int k a => cases b with
    | int k' b => rw [guard_int]; exact run_binV_int h w
    | _ => simp [binV] at h
  | string a => cases b with
    | string b => rw [guard_string]; exact run_binV_string h w
    | _ => simp [binV] at h
  | pointer a => cases b with
    | pointer b => rw [guard_pointer]; exact run_binV_pointer h w
    | _ => simp [binV] at h
  | bool a => cases b with
    | bool b =>
      have hg : (eqGuard op T x y (.bool a) (.bool b)).run P w = .ok () w := by cases op <;> simp [eqGuard]
      simp only [Sem.run_bind, hg, Result.andThen_ok]
      exact run_eqG rfl rfl h w
    | _ => simp [binV] at h
  | agg a => cases b with
    | agg b =>
      simp only [binV] at h
      split at h
      · cases h
      · rename_i hm
        simp only [Sem.run_bind, run_eqGuard_agg w op T x y a b (by simpa using hm), Result.andThen_ok]
        exact run_eqG rfl rfl h w
    | _ => simp [binV] at h
  | slice a n c => cases b with
    | slice a2 n2 c2 =>
      obtain ⟨rfl, rfl, rfl⟩ : a2 = none ∧ n2 = 0 ∧ c2 = 0 := by
        cases a2 with
        | some _ => simp [binV] at h
        | none =>
          cases n2 with
          | succ _ => simp [binV] at h
          | zero =>
            cases c2 with
            | succ _ => simp [binV] at h
            | zero => exact ⟨rfl, rfl, rfl⟩
      have hg : (eqGuard op T x y (.slice a n c) (.slice none 0 0)).run P w = .ok () w := by cases op <;> simp [eqGuard]
      simp only [Sem.run_bind, hg, Result.andThen_ok]
      exact run_eqG rfl rfl h w
    | _ => simp [binV] at h
  | iface t u => cases b with
    | nilIface =>
      have hg : (eqGuard op T x y (.iface t u) .nilIface).run P w = .ok () w := by cases op <;> simp [eqGuard]
      simp only [Sem.run_bind, hg, Result.andThen_ok]
      exact run_eqG rfl rfl h w
    | _ => simp [binV] at h
  | func f c d => cases b with
    | nilFunc =>
      have hg : (eqGuard op T x y (.func f c d) .nilFunc).run P w = .ok () w := by cases op <;> simp [eqGuard]
      simp only [Sem.run_bind, hg, Result.andThen_ok]
      exact run_eqG rfl rfl h w
    | _ => simp [binV] at h
  | nilFunc => cases b with
    | nilFunc =>
      have hg : (eqGuard op T x y .nilFunc .nilFunc).run P w = .ok () w := by cases op <;> simp [eqGuard]
      simp only [Sem.run_bind, hg, Result.andThen_ok]
      exact run_eqG rfl rfl h w
    | _ => simp [binV] at h
  | _ => simp [binV] at h

theorem run_boundV {x : Value} {y n : Nat} {c : BoundsCode} (h : boundV x y = some n) (w : World) : (Instr.sliceBound x y c).run P w = .ok n w := by
  unfold boundV at h
  cases x with
  | int k i =>
    simp only at h
    split at h
    · rename_i hc
      simp at h; subst h
      simp [Instr.sliceBound, asIntOf, hc]
    · simp at h
  | _ => simp at h
theorem run_sliceV {T : Nat} {x : Value} {lo hi mx : Option Value} {v : Value} (h : sliceV P T x lo hi mx = some v) (w : World) :
    (Instr.sliceAt T x lo hi mx).run P w = .ok v w := by
  unfold sliceV at h
  cases x with
  | slice a len cap =>
    simp only [slK] at h
    cases hu : P.underlying T with
    | none => simp [hu] at h
    | some d =>
      cases d with
      | slice E =>
        cases hi' : P.info? E with
        | none => simp [hu, hi'] at h
        | some i =>
          simp only [hu, hi', Option.map_some] at h
          split at h
          · simp at h
          · rename_i m hm
            split at h
            · simp at h
            · rename_i hh hhi
              split at h
              · simp at h
              · rename_i l hl
                simp at h
                subst h
                have hb : (Instr.sliceBounds true len cap lo hi mx).run P w = .ok (l, hh, m) w := by
                  cases mx with
                  | none =>
                    simp [optV] at hm; subst hm
                    simp at hhi
                    cases hi with
                    | none =>
                      simp [optV] at hhi; subst hhi
                      cases lo with
                      | none => simp [optV] at hl; subst hl; simp [Instr.sliceBounds]
                      | some lo => simp only [optV] at hl; simp [Instr.sliceBounds, run_boundV hl]
                    | some hi =>
                      simp only [optV] at hhi
                      cases lo with
                      | none => simp [optV] at hl; subst hl; simp [Instr.sliceBounds, run_boundV hhi]
                      | some lo => simp only [optV] at hl; simp [Instr.sliceBounds, run_boundV hl, run_boundV hhi]
                  | some mx =>
                    simp only [optV] at hm
                    cases hi with
                    | none => simp at hhi
                    | some hi =>
                      simp [optV] at hhi
                      cases lo with
                      | none => simp [optV] at hl; subst hl; simp [Instr.sliceBounds, run_boundV hm, run_boundV hhi]
                      | some lo => simp only [optV] at hl; simp [Instr.sliceBounds, run_boundV hm, run_boundV hl, run_boundV hhi]
                simp [Instr.sliceAt, Instr.slice, run_underlying' hu, hb, sizeOf, typeInfo, hi']
      | _ => simp [hu] at h
  | _ => simp at h
theorem run_idxV {T : Nat} {x i : Value} {v : Value} (h : idxV P T x i = some v) (w : World) : (Instr.indexAt T x i).run P w = .ok v w := by
  unfold idxV at h
  cases x with
  | slice a len cap =>
    cases a with
    | none => simp at h
    | some a =>
      cases i with
      | int k i =>
        simp only [slK] at h
        cases hu : P.underlying T with
        | none => simp [hu] at h
        | some d =>
          cases d with
          | slice E =>
            cases hi' : P.info? E with
            | none => simp [hu, hi'] at h
            | some inf =>
              simp only [hu, hi', Option.map_some] at h
              split at h
              · rename_i hc
                simp at h; subst h
                simp [Instr.indexAt, asIntOf, run_underlying' hu, hc, sizeOf, typeInfo, hi']
              · simp at h
          | _ => simp [hu] at h
      | _ => simp at h
  | pointer a =>
    cases a with
    | none => simp at h
    | some a =>
      cases i with
      | int k i =>
        simp only [arK] at h
        cases hu : P.underlying T with
        | none => simp [hu] at h
        | some d =>
          cases d with
          | array n E =>
            cases hi' : P.info? E with
            | none => simp [hu, hi'] at h
            | some inf =>
              simp only [hu, hi', Option.map_some] at h
              split at h
              · rename_i hc
                simp at h; subst h
                simp [Instr.indexAt, Instr.sureAddr, asIntOf, run_underlying' hu, hc, sizeOf, typeInfo, hi']
              · simp at h
          | _ => simp [hu] at h
      | _ => simp at h
  | _ => cases i <;> simp at h
theorem run_part {T : Nat} {k : Option Nat} {cs : Array Value} {o : Nat} {v : Value} (hk : ldK P T = some k)
    (h : partV cs o k = some v) (w : World) : (part T cs o).run P w = .ok v w := by
  unfold ldK at hk
  cases hu : P.underlying T with
  | none => simp [hu] at hk
  | some d =>
    cases hi : P.info? T with
    | none => simp [Program.underlying, hi] at hu
    | some i =>
      cases k with
      | none => cases d <;> simp [hu, hi] at hk <;> simp only [partV] at h <;> simp [part, isAgg, underlying, hu, h]
      | some n =>
        simp [partV] at h; subst h
        cases d <;> simp [hu, hi] at hk <;> subst hk <;> simp [part, isAgg, underlying, hu, sizeOf, typeInfo, hi]
theorem run_ixV {T : Nat} {x i : Value} {v : Value} (h : ixV P T x i = some v) (w : World) : (Instr.index T x i).run P w = .ok v w := by
  unfold ixV at h
  cases x with
  | string s =>
    cases i with
    | int k i =>
      cases hu : P.underlying T with
      | none => simp [hu] at h
      | some d =>
        cases d with
        | string =>
          simp only [hu, if_true] at h
          cases hb : (if 0 ≤ i then s[i.toNat]? else none) with
          | none => simp [hb] at h
          | some b =>
            simp only [hb, Option.some.injEq] at h
            subst h
            simp [Instr.index, asIntOf, run_underlying' hu, hb]
        | _ => simp [hu] at h
    | _ => simp at h
  | _ => simp at h
theorem run_fldV {T f : Nat} {x v : Value} (h : fldV P T x f = some v) (w : World) : (Instr.field T x f).run P w = .ok v w := by
  unfold fldV at h
  cases x with
  | agg cs =>
    cases hf : fldK P T f with
    | none => simp [hf] at h
    | some p =>
      obtain ⟨o, k⟩ := p
      unfold fldK at hf
      cases hu : P.underlying T with
      | none => simp [hu] at hf
      | some d =>
        cases d with
        | struct fs =>
          simp only [hu] at hf
          cases hfd : fs[f]? with
          | none => simp [hfd] at hf
          | some fd =>
            simp [hfd] at hf
            obtain ⟨hk', rfl⟩ := hf
            have h' : partV cs fd.offset k = some v := by simpa [fldK, hu, hfd, hk'] using h
            simp [Instr.field, run_underlying' hu, hfd, asAgg, run_part hk' h']
        | _ => simp [hu] at hf
  | _ => simp at h
theorem run_lenV {T : Nat} {x v : Value} {ty : Nat} (h : lenV P T x = some v) (w : World) : (Builtin.len_ #[T] ty #[x]).run P w = .ok v w := by
  unfold lenV at h
  cases x with
  | slice a n c =>
    simp only [slK] at h
    cases hu : P.underlying T with
    | none => simp [hu] at h
    | some d =>
      cases d with
      | slice E => simp [hu] at h; obtain ⟨_, rfl⟩ := h; simp [Builtin.len_, run_underlying' hu, goInt]
      | _ => simp [hu] at h
  | string s =>
    cases hu : P.underlying T with
    | none => simp [hu] at h
    | some d =>
      cases d with
      | string => simp [hu] at h; subst h; simp [Builtin.len_, run_underlying' hu, goInt]
      | _ => simp [hu] at h
  | _ => simp at h
theorem run_capV {T : Nat} {x v : Value} {ty : Nat} (h : capV P T x = some v) (w : World) : (Builtin.cap_ #[T] ty #[x]).run P w = .ok v w := by
  unfold capV at h
  cases x with
  | slice a n c =>
    simp only [slK] at h
    cases hu : P.underlying T with
    | none => simp [hu] at h
    | some d =>
      cases d with
      | slice E => simp [hu] at h; obtain ⟨_, rfl⟩ := h; simp [Builtin.cap_, run_underlying' hu, goInt]
      | _ => simp [hu] at h
  | _ => simp at h
theorem run_tasV {x v : Value} {xT T : Nat} {ok : Bool} (h : tasV P x T ok = some v) (w : World) : (Instr.typeAssert x xT T ok).run P w = .ok v w := by
  unfold tasV at h
  cases x with
  | iface t y =>
    simp only at h
    split at h
    · rename_i hc
      simp only [coK] at hc
      cases hu : P.underlying T with
      | none => simp [hu] at hc
      | some d =>
        cases d <;> simp [hu] at hc <;> simp at h <;> subst h <;> subst hc <;> simp [Instr.typeAssert, run_underlying' hu] <;> rfl
    · split at h
      · rename_i hok
        subst hok
        unfold laK at h
        cases hu : P.underlying T with
        | none => simp [hu] at h
        | some d =>
          cases d with
          | interface want =>
            simp only [hu] at h
            split at h
            · rename_i hl
              simp only [Option.map_eq_some_iff] at h
              obtain ⟨z, hz, rfl⟩ := h
              refine run_typeAssert_lacksB hu hl ?_ y xT w
              cases hi : P.info? T with
              | none => simp [hi] at hz
              | some i => simp [hi] at hz; simp [hz]
            · simp at h
          | _ => simp [hu] at h
      · simp at h
  | _ => simp at h
theorem run_sizeOf {T : Nat} {i : TypeInfo} (hi : P.info? T = some i) (w : World) : (sizeOf T).run P w = .ok i.size w := by simp [sizeOf, typeInfo, hi]
theorem run_places {fs : List Field} (h : ∀ f ∈ fs, (P.info? f.type).isSome = true) (w : World) :
    (fs.mapM (m := Sem) fun f => Prod.mk f.offset <$> sizeOf f.type).run P w = .ok (fs.map fun f => (f.offset, P.cellsOf f.type)) w := by
  induction fs with
  | nil => simp
  | cons f fs ih =>
    have h1 := h f (by simp)
    obtain ⟨i, hi⟩ := Option.isSome_iff_exists.1 h1
    have ih' := ih fun g hg => h g (by simp [hg])
    have hc : P.cellsOf f.type = i.size := by simp [Program.cellsOf, hi]
    simp only [List.mapM_cons, Sem.run_bind, Sem.run_map, run_sizeOf hi, ih', Result.andThen_ok, Sem.run_pure, List.map_cons, hc]
theorem run_buildV {T : Nat} {parts : Array (Nat × Value)} {v : Value} (h : buildV P T parts.toList = some v) (w : World) : (Instr.build T parts).run P w = .ok v w := by
  unfold buildV at h
  cases hi : P.info? T with
  | none => simp [hi] at h
  | some i =>
    cases hz : i.zero with
    | none => simp [hi, hz] at h
    | some z =>
      cases hu : P.underlying T with
      | none => simp [hi, hz, hu] at h
      | some d =>
        cases d with
        | struct fs =>
          simp [hi, hz, hu] at h
          obtain ⟨hall, cs, hcs, rfl⟩ := h
          have hp := run_places (P := P) (fs := fs.toList) (fun f hf => by
            obtain ⟨j, hj, rfl⟩ := List.mem_iff_getElem.1 hf
            exact hall j (by simpa using hj)) w
          have hpa : (fs.mapM (m := Sem) fun f => Prod.mk f.offset <$> sizeOf f.type).run P w = .ok ((fs.toList.map fun f => (f.offset, P.cellsOf f.type)).toArray) w := by
            rw [Array.mapM_eq_mapM_toList, Sem.run_map, hp]; rfl
          simp [Instr.build, zeroValue, typeInfo, hi, hz, run_underlying' hu, hpa, hcs]
        | _ => simp [hi, hz, hu] at h

theorem boc_some (h : bocAll P = true) {T k : Nat} (hT : T < P.types.size) (hk : k < P.cellsOf T) : ∃ n, byteOfCell P P.depth T k = some n := by
  simp only [bocAll, List.all_eq_true, List.mem_range] at h
  exact Option.isSome_iff_exists.1 (h T hT k hk)
theorem run_byteOf0 {w' : World} {b o : Nat} (h : bocAll P = true) (hc : tyOk P w' b = true) : ∃ n, (byteOf ⟨b, o, none⟩).run P w' = .ok n w' := by
  have hs : ∃ T n, w'.shape? b = some (T, n) ∧ T < P.types.size := by
    simp only [tyOk] at hc
    split at hc
    · rename_i c T f hb; exact ⟨T, c.size, by simp [World.shape?, hb], by simpa using hc⟩
    · cases hc
  obtain ⟨T, n, hs, hT⟩ := hs
  by_cases h0 : P.cellsOf T = 0
  · exact ⟨0, by simp [byteOf, noView, viewAt, hs, h0]⟩
  · obtain ⟨m, hm⟩ := boc_some (P := P) h hT (k := o % P.cellsOf T) (Nat.mod_lt _ (by omega))
    exact ⟨o / P.cellsOf T * P.bytesOf T + m, by simp [byteOf, noView, viewAt, hs, h0, hm]⟩
theorem run_partAt0 {w' : World} {b o : Nat} (h : bocAll P = true) (hc : tyOk P w' b = true) : (partAt ⟨b, o, none⟩ 0 0).run P w' = .ok ⟨b, o, none⟩ w' := by
  obtain ⟨n, hn⟩ := run_byteOf0 (o := o) h hc
  simp [partAt, hn]

/-- THE MODEL'S RUN AGREES, in every world that keeps what may be read. -/
theorem tk_sound {o : Oper} {v : Value} (h : tkOp P H e w o.op = some v) (hk : ∀ b, readsB H b = true → w'.heap[b]? = w.heap[b]?) :
    (execOp (ev e) o).run P w' = .ok (.value v) w' := by
  obtain ⟨dst, op, type, pos, after, guard⟩ := o
  cases op with
  | move x => simp [tkOp] at h; subst h; simp [execOp]
  | assign x => simp [tkOp] at h; subst h; simp [execOp]
  | pick c a b =>
    simp only [tkOp, pickG] at h
    cases hc : ev e c with
    | bool t => simp [hc] at h; subst h; simp [execOp, hc, asBool]
    | _ => simp [hc] at h
  | load T x =>
    simp only [tkOp, ldG] at h
    cases hx : ev e x with
    | pointer a =>
      cases a with
      | none => simp [hx] at h
      | some a =>
        cases hl : ldK P T with
        | none => simp [hx, hl] at h
        | some k =>
          simp [hx, hl] at h
          obtain ⟨hr, hv⟩ := h
          rw [← loadV_of_heap (hk _ hr)] at hv
          simp [execOp, hx, Instr.loadAt, Instr.sureAddr, run_loadVar hl hv]
    | _ => simp [hx] at h
  | nilCheck x =>
    simp only [tkOp, nilG] at h
    cases hx : ev e x with
    | pointer a => cases a with
      | none => simp [hx] at h
      | some a => simp [hx] at h; subst h; simp [execOp, hx]
    | func f a b => cases f with
      | func f => simp [hx] at h; subst h; simp [execOp, hx]
      | _ => simp [hx] at h
    | _ => simp [hx] at h
  | binOp op T x y yT =>
    simp only [tkOp] at h
    have := run_binV (x := x) (y := y) h w'
    simp only [execOp, Sem.run_bind] at this ⊢
    rw [this]; rfl
  | unOp op T x =>
    cases op with
    | not =>
      simp only [tkOp, notG] at h
      cases hx : ev e x with
      | bool b => simp [hx] at h; subst h; simp [execOp, hx, Op.unary]
      | _ => simp [hx] at h
    | _ => simp [tkOp] at h
  | convert src dst' x =>
    simp only [tkOp, cvG] at h
    cases hx : ev e x with
    | int k n =>
      simp only [hx, cvK] at h
      cases hs : P.underlying src with
      | none => simp [hs] at h
      | some ds =>
        cases hu : P.underlying dst' with
        | none => simp [hu] at h
        | some d =>
          cases d with
          | int kd => simp [hs, hu] at h; subst h; simp [execOp, hx, convert, underlying, hu, hs, Conv.intToInt]
          | _ => simp [hs, hu] at h
    | _ => simp [hx] at h
  | makeFunc fn first captured => simp [tkOp] at h; subst h; simp [execOp, Instr.makeFunc]
  | slice T x lo hi mx => simp only [tkOp] at h; simp [execOp, run_sliceV h]
  | fieldAddr T x f =>
    simp only [tkOp, foZ] at h
    cases hu : P.underlying T with
    | none => simp [fOff, hu, fZero, fzG] at h
    | some d =>
      cases d with
      | struct fs =>
        cases hf : fs[f]? with
        | none => simp [fOff, hu, hf, fZero, fzG] at h
        | some fd =>
          cases hi : P.info? fd.type with
          | none => simp [fOff, hu, hf, hi, fZero, fzG] at h
          | some i =>
            by_cases hz : i.size = 0
            · simp only [fOff, hu, hf, hi, hz, fZero, if_true] at h
              cases hx : ev e x with
              | pointer a =>
                cases a with
                | none => simp [hx, fzG] at h
                | some a =>
                  obtain ⟨b, o, sp⟩ := a
                  cases sp with
                  | some sp => simp [hx, fzG] at h
                  | none =>
                    by_cases hc : (0 == 0 && fd.offset == 0 && fd.byteOffset == 0 && bocAll P) = true
                    · rw [hc] at h
                      simp only [hx, fzG] at h
                      by_cases hr : readsB H b = true
                      · rw [if_pos hr] at h
                        by_cases hty : tyOk P w b = true
                        · rw [if_pos hty, Option.some.injEq] at h
                          subst h
                          simp only [beq_self_eq_true, Bool.true_and, Bool.and_eq_true, beq_iff_eq] at hc
                          obtain ⟨⟨h1, h2⟩, h3⟩ := hc
                          have hty' : tyOk P w' b = true := by simp only [tyOk] at hty ⊢; rw [hk b hr]; exact hty
                          simp [execOp, Instr.fieldAt, run_underlying' hu, hf, Instr.sureAddr, hx, fieldPlace, sizeOf, typeInfo, hi, hz, h1, h2, run_partAt0 h3 hty']
                        · rw [if_neg hty] at h; cases h
                      · rw [if_neg hr] at h; cases h
                    · rw [Bool.not_eq_true] at hc; rw [hc] at h; simp [fzG] at h
              | _ => simp [hx, fzG] at h
            · simp only [fOff, hu, hf, hi, hz, if_false, foG] at h
              cases hx : ev e x with
              | pointer a =>
                cases a with
                | none => simp [hx] at h
                | some a =>
                  simp [hx] at h; subst h
                  simp [execOp, hx, Instr.fieldAt, run_underlying' hu, hf, Instr.sureAddr, fieldPlace, sizeOf, typeInfo, hi, hz]
              | _ => simp [hx] at h
      | _ => simp [fOff, hu, fZero, fzG] at h
  | field T x f => simp only [tkOp] at h; simp [execOp, run_fldV h]
  | indexAddr T x i => simp only [tkOp] at h; simp [execOp, run_idxV h]
  | index T x i => simp only [tkOp] at h; simp [execOp, run_ixV h]
  | build T parts =>
    simp only [tkOp] at h
    have : (parts.map fun (i, x) => (i, ev e x)).toList = parts.toList.map fun p => (p.1, ev e p.2) := by simp
    rw [← this] at h
    simp [execOp, run_buildV h]
  | extract x i =>
    simp only [tkOp, exG] at h
    cases hx : ev e x with
    | tuple vs => simp only [hx] at h; simp [execOp, hx, Instr.extract, h]
    | _ => simp [hx] at h
  | makeInterface T x =>
    simp only [tkOp, coK] at h
    cases hu : P.underlying T with
    | none => simp [hu] at h
    | some d => cases d <;> simp [hu] at h <;> subst h <;> simp [execOp, Instr.makeInterface, run_underlying' hu]
  | typeAssert x xT T ok => simp only [tkOp] at h; simp [execOp, run_tasV h]
  | call c =>
    obtain ⟨callee, ⟨args⟩, ⟨tys⟩⟩ := c
    match callee, args, tys, h with
    | .builtin .len, [x], [T], h =>
      have h' : lenV P T (ev e x) = some v := h
      simp [execOp, resolve, invoke, builtin, run_lenV h']
    | .builtin .cap, [x], [T], h =>
      have h' : capV P T (ev e x) = some v := h
      simp [execOp, resolve, invoke, builtin, run_capV h']
  | _ => simp [tkOp] at h
end
end Go.Proofs.Ytdffddiaoheklaa
