/-
  Functions: from a walk of the body to a contract; calls inside a region; memory as cells: what a write changes. For whatever program. No condition.
-/
import Derived.Test.YtdffddiaoheklaaPlan
set_option linter.unusedSimpArgs false
set_option linter.unusedVariables false
namespace Go.Proofs.Ytdffddiaoheklaa
open Go

/-! ### A function's end -/
def resOne (P : Program) (e : Env) (w : World) : ResultVar → Option Value
  | .tmp t => some (e t)
  | .cell a T => match e a, ldK P T with
    | .pointer (some a), some k => loadV w a k
    | _, _ => none
def resAll (P : Program) (e : Env) (w : World) : List ResultVar → Option (List Value)
  | [] => some []
  | r :: rs => match resOne P e w r, resAll P e w rs with
    | some v, some vs => some (v :: vs)
    | _, _ => none
def resVal : List Value → Value
  | [v] => v
  | vs => .tuple vs.toArray
def endQ (P : Program) (rs : List ResultVar) (R : Value → World → Prop) : Post
  | .normal, e, w => bindO ((resAll P e w rs).map resVal) fun v => R v w
  | .ret, e, w => bindO ((resAll P e w rs).map resVal) fun v => R v w
  | _, _, _ => False
/-- A contract's ending: it returns. -/
def Ret (R : Value → World → Prop) : Ending → World → Prop := fun x w => ∃ v, x = .returned v ∧ R v w

section
variable {P : Program} {n : Nat} {e : Env} {w : World} {R : Value → World → Prop}

def resSem (tmps : Array Value) : ResultVar → Sem Value
  | .tmp t => pure (tmps.getD t undef)
  | .cell a t => do loadVar t (← asAddr (tmps.getD a undef))
theorem results_eq (fn : Func) (tmps : Array Value) : results fn tmps = (fn.results.mapM (resSem tmps)).bind fun vs => Sem.pure (if h : vs.size = 1 then vs[0] else .tuple vs) := by
  unfold results
  have : (fun x : ResultVar => match x with
    | .tmp t => (pure (tmps.getD t undef) : Sem Value)
    | .cell a t => do loadVar t (← asAddr (tmps.getD a undef))) = resSem tmps := by funext x; cases x <;> rfl
  rw [← this]; rfl
theorem run_resOne {a : Act} (ha : Fr n e a) {r : ResultVar} {v : Value} (h1 : resOne P e w r = some v) : (resSem a.tmps r).run P w = .ok v w := by
  cases r with
  | tmp t => simp only [resOne, Option.some.injEq] at h1; rw [← h1, ← ha.get t]; rfl
  | cell c T =>
    simp only [resOne] at h1
    cases hc : e c with
    | pointer p =>
      cases p with
      | none => simp [hc] at h1
      | some p =>
        cases hl : ldK P T with
        | none => simp [hc, hl] at h1
        | some k =>
          simp only [hc, hl] at h1
          simp only [resSem, Sem.run_bind, ha.get c, hc, asAddr, Sem.run_pure, Result.andThen_ok, run_loadVar hl h1]
    | _ => simp [hc] at h1
theorem run_resAll {a : Act} (ha : Fr n e a) : ∀ (rs : List ResultVar) (vs : List Value), resAll P e w rs = some vs →
    (rs.mapM (resSem a.tmps)).run P w = .ok vs w
  | [], vs, h => by simp [resAll] at h; subst h; simp
  | r :: rs, vs, h => by
    simp only [resAll] at h
    cases h1 : resOne P e w r with
    | none => simp [h1] at h
    | some v =>
      cases h2 : resAll P e w rs with
      | none => simp [h1, h2] at h
      | some vs' =>
        simp [h1, h2] at h; subst h
        simp only [List.mapM_cons, Sem.run_bind, run_resOne ha h1, run_resAll ha rs vs' h2, Result.andThen_ok, Sem.run_pure]
theorem run_results {fn : Func} {rs : List ResultVar} (hr : fn.results = rs.toArray) {a : Act} (ha : Fr n e a) {vs : List Value} (h : resAll P e w rs = some vs) :
    (results fn a.tmps).run P w = .ok (resVal vs) w := by
  have h2 : (rs.toArray.mapM (resSem a.tmps)).run P w = .ok vs.toArray w := by
    rw [Array.mapM_eq_mapM_toList, Sem.run_map, run_resAll ha rs vs h]; rfl
  rw [results_eq, hr, Sem.run_bind', h2]
  match vs with
  | [] => rfl
  | [v] => rfl
  | a :: b :: l =>
    simp only [Result.andThen_ok, Sem.run_pure']
    rw [dif_neg (by simp)]
    rfl

/-- FROM THE BODY'S WALK TO THE CONTRACT. -/
theorem calls_of_W {f : FuncId} {fn : Func} {c : Code} (rs : List ResultVar) {args : List Value} (hf : P.funcs[f]? = some fn) (hb : fn.body = some c) (hn : fn.ntmps = n)
    (hr : fn.results = rs.toArray) (hlen : args.length ≤ n)
    (h : ∀ e : Env, (∀ i v, args[i]? = some v → e i = v) → W P n c (endQ P rs R) e w) : Calls P f args.toArray w (Ret R) := by
  refine calls_of_wp hf hb ?_
  rw [hn]
  let a : Act := { tmps := args.toArray ++ Array.replicate (n - args.toArray.size) undef, defers := [] }
  let e : Env := fun t => a.tmps.getD t undef
  have ha : Fr n e a := ⟨rfl, by simp [a]; omega, fun _ => rfl⟩
  have := h e (fun i v hi => by
    have hlt : i < args.length := (List.getElem?_eq_some_iff.1 hi).1
    have hv : args[i] = v := by rw [List.getElem?_eq_getElem hlt] at hi; exact Option.some.inj hi
    show a.tmps.getD i undef = v
    have h1 : i < a.tmps.size := by simp [a]; omega
    simp only [Array.getD, h1, dite_true]
    show (args.toArray ++ _)[i] = v
    rw [Array.getElem_append_left (by simpa using hlt)]
    simpa using hv) a ha
  refine wp_mono this fun ex a' w' ⟨e', hf', hx, hq⟩ => ?_
  cases ex with
  | normal =>
    obtain ⟨v, hv, hR⟩ := hq
    simp only [Option.map_eq_some_iff] at hv
    obtain ⟨vs, hvs, rfl⟩ := hv
    exact ⟨hf'.defers, _, run_results hr hf' hvs, _, rfl, hR⟩
  | ret =>
    obtain ⟨v, hv, hR⟩ := hq
    simp only [Option.map_eq_some_iff] at hv
    obtain ⟨vs, hvs, rfl⟩ := hv
    exact ⟨hf'.defers, _, run_results hr hf' hvs, _, rfl, hR⟩
  | _ => exact hq.elim

theorem endQ_0 (h : R (.tuple #[]) w) : endQ P [] R .ret e w := ⟨.tuple #[], rfl, h⟩
theorem endQ_0n (h : R (.tuple #[]) w) : endQ P [] R .normal e w := ⟨.tuple #[], rfl, h⟩
theorem endQ_1 {t : Nat} {v : Value} (ht : e t = v) (h : R v w) : endQ P [.tmp t] R .ret e w := ⟨v, by simp [resAll, resOne, ht, resVal], h⟩
theorem endQ_2 {t u : Nat} {v x : Value} (ht : e t = v) (hu : e u = x) (h : R (.tuple #[v, x]) w) : endQ P [.tmp t, .tmp u] R .ret e w :=
  ⟨.tuple #[v, x], by simp [resAll, resOne, ht, hu, resVal], h⟩
theorem endQ_3 {t u s : Nat} {v x y : Value} (ht : e t = v) (hu : e u = x) (hs : e s = y) (h : R (.tuple #[v, x, y]) w) : endQ P [.tmp t, .tmp u, .tmp s] R .ret e w :=
  ⟨.tuple #[v, x, y], by simp [resAll, resOne, ht, hu, hs, resVal], h⟩
theorem endQ_c {a T : Nat} {k : Option Nat} {ad : Addr} {v : Value} (ha : e a = .pointer (some ad)) (hl : ldK P T = some k) (hv : loadV w ad k = some v) (h : R v w) :
    endQ P [.cell a T] R .ret e w := ⟨v, by simp [resAll, resOne, ha, hl, hv, resVal], h⟩
theorem endQ_tc {t a T : Nat} {k : Option Nat} {ad : Addr} {x v : Value} (ht : e t = x) (ha : e a = .pointer (some ad)) (hl : ldK P T = some k) (hv : loadV w ad k = some v) (h : R (.tuple #[x, v]) w) :
    endQ P [.tmp t, .cell a T] R .ret e w := ⟨.tuple #[x, v], by simp [resAll, resOne, ht, ha, hl, hv, resVal], h⟩
theorem endQ_ct {t a T : Nat} {k : Option Nat} {ad : Addr} {x v : Value} (ha : e a = .pointer (some ad)) (ht : e t = x) (hl : ldK P T = some k) (hv : loadV w ad k = some v) (h : R (.tuple #[v, x]) w) :
    endQ P [.cell a T, .tmp t] R .ret e w := ⟨.tuple #[v, x], by simp [resAll, resOne, ht, ha, hl, hv, resVal], h⟩
theorem endQ_ctt {t u a T : Nat} {k : Option Nat} {ad : Addr} {x y v : Value} (ha : e a = .pointer (some ad)) (ht : e t = x) (hu : e u = y) (hl : ldK P T = some k) (hv : loadV w ad k = some v) (h : R (.tuple #[v, x, y]) w) :
    endQ P [.cell a T, .tmp t, .tmp u] R .ret e w := ⟨.tuple #[v, x, y], by simp [resAll, resOne, ht, hu, ha, hl, hv, resVal], h⟩
/-! ### Calls -/
def isFn (P : Program) (f : Nat) : Bool :=
  match P.funcs[f]? with
  | some fn => !(fn.name == "runtime.NumGoroutine") && fn.body.isSome
  | none => false
theorem run_callFunc {f : Nat} (h : isFn P f = true) (args : Array Value) (w : World) : (callFunc f args).run P w = .ok (.enter f args) w := by
  unfold isFn at h
  cases hf : P.funcs[f]? with
  | none => simp [hf] at h
  | some fn =>
    simp only [hf, Bool.and_eq_true, Bool.not_eq_true'] at h
    have h2 : fn.body.isNone = false := by cases hb : fn.body with
      | none => rw [hb] at h; cases h.2
      | some c => rfl
    unfold callFunc
    simp only [Sem.run_bind, run_program, Result.andThen_ok, hf, h.1, h2, Bool.false_eq_true, if_false, Sem.run_pure]
def CallK (P : Program) (f : Nat) (args : Array Value) (w : World) (K : Value → World → Prop) : Prop := Calls P f args w (Ret K)
theorem CallK_mono {f : Nat} {args : Array Value} {K K' : Value → World → Prop} (h : CallK P f args w K) (hk : ∀ v w', K v w' → K' v w') : CallK P f args w K' :=
  Calls.mono h fun _ _ ⟨v, hx, hv⟩ => ⟨v, hx, hk _ _ hv⟩
theorem DoOp_callf {d : Option Nat} {f : Nat} {args : Array Operand} {tys : Array Nat} {ty : Nat} {pos : String} {af : Array Edge} {g : Option (Nat × Bool)} {K : Value → World → Prop} (hf : isFn P f = true) :
    DoOp P e w ⟨d, .call ⟨.value (.func f), args, tys⟩, ty, pos, af, g⟩ K = CallK P f (args.map (ev e)) w K := by
  simp [DoOp, execOp, resolve, Deferred.ofValue, ev, invoke, run_callFunc hf, CallK]
  rfl
/-- A call of a function value. -/
def CallV (P : Program) (x : Value) (args : Array Value) (w : World) (K : Value → World → Prop) : Prop :=
  match x with
  | .func (.func f) first captured => isFn P f = true ∧ CallK P f (first ++ args ++ captured) w K
  | _ => False
theorem DoOp_callv {d : Option Nat} {t : Nat} {args : Array Operand} {tys : Array Nat} {ty : Nat} {pos : String} {af : Array Edge} {g : Option (Nat × Bool)} {K : Value → World → Prop}
    (h : CallV P (e t) (args.map (ev e)) w K) : DoOp P e w ⟨d, .call ⟨.value (.tmp t), args, tys⟩, ty, pos, af, g⟩ K := by
  unfold CallV at h
  cases he : e t with
  | func fn first captured =>
    rw [he] at h
    cases fn with
    | func f =>
      obtain ⟨hf, h⟩ := h
      simp [DoOp, execOp, resolve, Deferred.ofValue, ev, he, invoke, run_callFunc hf]
      rw [← Array.append_assoc]; exact h
    | _ => exact h.elim
  | _ => rw [he] at h; exact h.elim
end
end Go.Proofs.Ytdffddiaoheklaa
