/-
  The tree laws' rows: closed facts of the program, and how the arguments are read. No condition.
-/
import Derived.Test.YtdffddiaoheklaaTop
import Derived.Test.YtdffddiaoheklaaGMake
import Derived.Test.YtdffddiaoheklaaMEq
import Derived.Test.YtdffddiaoheklaaRows
import Derived.ChangeArms
set_option linter.unusedSimpArgs false
set_option linter.unusedVariables false
namespace Go.Proofs.Ytdffddiaoheklaa
open Go Go.Proofs Go.ChangeShapes Go.WideShapes Go.ChangeAt Go.RowKit
theorem own : ownKnob Try.prog.godebug = none := by kernel_rfl
theorem laidOut : laidOutB Try.prog = true := by kernel_rfl
theorem item_td : ∃ f0 f1 : Field, Try.prog.underlying 38 = some (.struct #[f0, f1]) ∧ f0.offset = 0 ∧ f1.offset = 1 ∧ Try.prog.cellsOf f0.type = 1 ∧ Try.prog.cellsOf f1.type = 1 ∧
    Try.prog.underlying f0.type = some (.int .i64) ∧ Try.prog.underlying f1.type = some (.int .i64) := ⟨_, _, Try.underlying38, by kernel_rfl, by kernel_rfl, by kernel_rfl, by kernel_rfl, by kernel_rfl, by kernel_rfl⟩
theorem make_td : ∃ f0 f1 f2 : Field, Try.prog.underlying 24 = some (.struct #[f0, f1, f2]) ∧ f0.offset = 0 ∧ f1.offset = 1 ∧ f2.offset = 2 ∧ Try.prog.cellsOf f0.type = 1 ∧ Try.prog.cellsOf f1.type = 1 ∧ Try.prog.cellsOf f2.type = 1 ∧
    f0.type = 22 ∧ Try.prog.underlying f1.type = some (.int .i64) ∧ Try.prog.underlying f2.type = some .bool ∧ Try.prog.cellsOf 24 = 3 :=
  ⟨_, _, _, Try.underlying24, by kernel_rfl, by kernel_rfl, by kernel_rfl, by kernel_rfl, by kernel_rfl, by kernel_rfl, by kernel_rfl, by kernel_rfl, by kernel_rfl, by kernel_rfl⟩
theorem make_ts : Try.prog.cellTypes Try.prog.depth 24 = some [22, 3, 4] := by kernel_rfl
set_option maxRecDepth 100000
section
variable {H : Type} {enc : TypeId × Value → H}
theorem open_items {w : World} {base : Nat} {v : Value} {d : DataW H} {ps : List MemPlace} (hok : Value.okWide Try.prog w .any base 25 v)
    (h : DataW.Trod enc Try.prog w 0 (fun _ => true) true 25 v d ps) (hz : ∀ b o, MemPlace.cell b o ∈ ps → w.frozen? ⟨b, o, none⟩ = false) : ∃ l : List It, SlI w v l := by
  obtain ⟨f0, f1, he, o0, o1, c0, c1, u0, u1⟩ := item_td
  have hce : Try.prog.cellsOf 38 = Ei.sz := by kernel_rfl
  have hel : ∀ n cs x, DataW.trod enc Try.prog w 0 (fun _ => true) true n 38 cs = some x → cs.length = Ei.sz → ∃ a : It, cs = Ei.cel a := elem_int2 he o0 o1 c0 c1 u0 u1
  exact open_arg (enc := enc) Ei Try.underlying25 hce hel hok h hz
theorem flat_En (l : List Int) : flat En l = ints l := by
  induction l with
  | nil => rfl
  | cons x l ih => rw [flat_cons, ih]; rfl
theorem open_nums {w : World} {base : Nat} {v : Value} {d : DataW H} {ps : List MemPlace} (hok : Value.okWide Try.prog w .any base 22 v)
    (h : DataW.Trod enc Try.prog w 0 (fun _ => true) true 22 v d ps) (hz : ∀ b o, MemPlace.cell b o ∈ ps → w.frozen? ⟨b, o, none⟩ = false) : ∃ l : List Int, SlV w 1 v l.length (flat En l) := by
  have hce : Try.prog.cellsOf 3 = En.sz := by kernel_rfl
  have hel : ∀ n cs x, DataW.trod enc Try.prog w 0 (fun _ => true) true n 3 cs = some x → cs.length = En.sz → ∃ a : Int, cs = En.cel a := elem_int Try.underlying3
  exact open_arg (enc := enc) En Try.underlying22 hce hel hok h hz
theorem open_item {w : World} {base : Nat} {v : Value} {d : DataW H} {ps : List MemPlace} (hok : Value.okWide Try.prog w .any base 38 v)
    (h : DataW.Trod enc Try.prog w 0 (fun _ => true) true 38 v d ps) : ∃ x : It, v = itV x := by
  obtain ⟨f0, f1, he, o0, o1, c0, c1, u0, u1⟩ := item_td
  have hce : Try.prog.cellsOf 38 = 2 := by kernel_rfl
  unfold Value.okWide at hok
  simp only [he] at hok
  obtain ⟨cs, rfl, hs, -⟩ := hok
  obtain ⟨fuel, h⟩ := h
  obtain ⟨x, hx⟩ := elem_int2 he o0 o1 c0 c1 u0 u1 _ _ _ h (by rw [hce] at hs; simpa [Value.cells] using hs)
  refine ⟨x, ?_⟩
  have : cs.toList = [.int .i64 x.1, .int .i64 x.2] := hx
  rw [itV, ← Array.toArray_toList (xs := cs), this]
theorem open_make {w : World} {base : Nat} {v : Value} {d : DataW H} {ps : List MemPlace} (hok : Value.okWide Try.prog w .any base 24 v)
    (h : DataW.Trod enc Try.prog w 0 (fun _ => true) true 24 v d ps) (hz : ∀ b o, MemPlace.cell b o ∈ ps → w.frozen? ⟨b, o, none⟩ = false) :
    ∃ (sv : Value) (d : Int) (nl : Bool) (ord : List Int), v = .agg #[sv, .int .i64 d, .bool nl] ∧ SlInt w sv ord := by
  obtain ⟨f0, f1, f2, he, o0, o1, o2, c0, c1, c2, u0, u1, u2, hce⟩ := make_td
  unfold Value.okWide at hok
  simp only [he] at hok
  obtain ⟨cs, rfl, hs, ts, hts, -, hrow⟩ := hok
  rw [make_ts] at hts
  obtain rfl := (Option.some.inj hts).symm
  obtain ⟨fuel, h⟩ := h
  have hlen : cs.toList.length = 3 := by rw [hce] at hs; simpa using hs
  obtain ⟨xs, k, _, hx, _, hxl, hf⟩ := DataW.trod_struct he h
  match hc : cs.toList, hlen with
  | [v0, v1, v2], _ =>
    match xs, hxl with
    | [y0, y1, y2], _ =>
      have hcl : (Value.agg cs).cells.toList = [v0, v1, v2] := hc
      have g0 := hf 0 f0 rfl
      have g1 := hf 1 f1 rfl
      have g2 := hf 2 f2 rfl
      rw [hcl] at g0 g1 g2
      simp [o0, o1, o2, c0, c1, c2] at g0 g1 g2
      obtain ⟨a, h1, _, _⟩ := DataW.trod_int u1 g1
      obtain ⟨b, h2, _⟩ := DataW.trod_bool u2 g2
      simp only [List.cons.injEq, and_true] at h1 h2
      subst h1 h2
      obtain ⟨u, hu, hok0⟩ := hrow 0 v0 (by rw [← Array.getElem?_toList, hc]; rfl)
      have hu' : u = 22 := by simpa using hu.symm
      subst hu'
      have hok1 : Cell.ok Try.prog w .any base 22 v0 := by
        unfold Cell.okWide at hok0
        simp only [Try.underlying22] at hok0
        exact hok0
      rw [u0] at g0
      have hcen : Try.prog.cellsOf 3 = En.sz := by kernel_rfl
      have hel : ∀ n cs x, DataW.trod enc Try.prog w 0 (fun _ => true) true n 3 cs = some x → cs.length = En.sz → ∃ a : Int, cs = En.cel a := elem_int Try.underlying3
      simp only [Prod.mk.injEq] at hx
      obtain ⟨l, hl⟩ := open_enc (enc := enc) En Try.underlying22 hcen hel hok1 g0 fun b o hm => hz b o (by rw [hx.2]; simp [hm])
      refine ⟨v0, a, b, l, ?_, by rw [flat_En] at hl; exact hl⟩
      rw [← Array.toArray_toList (xs := cs), hc]
end
end Go.Proofs.Ytdffddiaoheklaa
