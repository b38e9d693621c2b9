/-
  'Rows.FnAddRangeSetsExactlyTheSpanSaid', PROVED. The frame: after the kit's worked row over an array by value, turned to this program.
-/
import Derived.Test.Qxb6603436aRows
import Derived.Test.Qxb6603436aAddRange3
import Derived.WalkKit
import Derived.ProofKit
import Derived.OpenShut
import Derived.ShutString
import Derived.ChangeOld
import Derived.Below
import Derived.Laws.IdiomArrays
namespace Go.Proofs.Qxb6603436a.fnAddRangeSetsExactlyTheSpan
open Go.ChangeShapes Go.WideShapes Go.ChangeAt Go.RowKit
set_option linter.unusedVariables false

theorem own : ownKnob Try.prog.godebug = none := by kernel_rfl
theorem cells25 : Try.prog.cellsOf 25 = 1 := by kernel_rfl
theorem cells29 : Try.prog.cellsOf 29 = 4 := by kernel_rfl

theorem list4 {α : Type} (l : List α) (h : (⟨l⟩ : Array α).size = 4) : ∃ a b c d, l = [a, b, c, d] := by
  match l, h with
  | [a, b, c, d], _ => exact ⟨a, b, c, d, rfl⟩

/-- lo or hi outside the members: true at once. -/
theorem span_out (c0 c1 c2 c3 : Int) (lo hi : Int) (h : lo < 0 ∨ 255 < lo ∨ hi < 0 ∨ 255 < hi) (w : World) :
    Calls Try.prog 5 #[.agg #[.int .u64 c0, .int .u64 c1, .int .u64 c2, .int .u64 c3], .int .i64 lo, .int .i64 hi] w fun e w' =>
      e = .returned (.bool true) ∧ Below w.heap.size w w' := by
  by_cases h1 : lo < 0
  · go_enter Try.func5, Try.ntmps5
    go_wp2
    go_ret
    exact ⟨rfl, (Below.refl _ _).alloc (Nat.le_refl _) _⟩
  · by_cases h2 : 255 < lo
    · go_enter Try.func5, Try.ntmps5
      go_wp2
      go_ret
      exact ⟨rfl, (Below.refl _ _).alloc (Nat.le_refl _) _⟩
    · by_cases h3 : hi < 0
      · go_enter Try.func5, Try.ntmps5
        go_wp2
        go_ret
        exact ⟨rfl, (Below.refl _ _).alloc (Nat.le_refl _) _⟩
      · have h4 : 255 < hi := by omega
        clear h
        go_enter Try.func5, Try.ntmps5
        go_wp2
        go_ret
        exact ⟨rfl, (Below.refl _ _).alloc (Nat.le_refl _) _⟩

theorem walk (x0 x1 x2 x3 lo hi : Int) (w0 : (Lit.int .u64 x0).wf = true) (w1 : (Lit.int .u64 x1).wf = true) (w2 : (Lit.int .u64 x2).wf = true) (w3 : (Lit.int .u64 x3).wf = true) (w : World) :
    Calls Try.prog 5 #[.agg #[.int .u64 x0, .int .u64 x1, .int .u64 x2, .int .u64 x3], .int .i64 lo, .int .i64 hi] w fun e w' =>
      e = .returned (.bool true) ∧ Below w.heap.size w w' := by
  by_cases h : lo < 0 ∨ 255 < lo ∨ hi < 0 ∨ 255 < hi
  · exact span_out x0 x1 x2 x3 lo hi h w
  · have b0 := bounds_u64 w0
    have b1 := bounds_u64 w1
    have b2 := bounds_u64 w2
    have b3 := bounds_u64 w3
    obtain ⟨L, rfl⟩ := Int.eq_ofNat_of_zero_le (show 0 ≤ lo by omega)
    obtain ⟨U, rfl⟩ := Int.eq_ofNat_of_zero_le (show 0 ≤ hi by omega)
    obtain ⟨s0, rfl⟩ := Int.eq_ofNat_of_zero_le b0.1
    obtain ⟨s1, rfl⟩ := Int.eq_ofNat_of_zero_le b1.1
    obtain ⟨s2, rfl⟩ := Int.eq_ofNat_of_zero_le b2.1
    obtain ⟨s3, rfl⟩ := Int.eq_ofNat_of_zero_le b3.1
    exact span_in L U (by omega) (by omega) s0 s1 s2 s3 (by omega) (by omega) (by omega) (by omega) w

set_option maxHeartbeats 400000 in
set_option maxRecDepth 100000 in
theorem lifted (os : Os) (started : os.Started) (H : Type) (enc : TypeId × Value → H) :
    ReturnsInHanded {} Try.checked os 5 .any (Rows.fnAddRangeSetsExactlyTheSpanSpec.pre6 enc Try.prog Try.f5 Rows.fnAddRangeSetsExactlyTheSpanRow.domain false) (Rows.fnAddRangeSetsExactlyTheSpanSpec.post enc Try.prog Try.f5 false true false false) := by
  refine returnsInHanded_of_change (C := Try.checked) own started (by kernel_rfl) Try.func5
    (ChangeSpec.witness6 (enc := enc) (C := Try.checked) false ⟨#[], #[.agg #[.int .u64 0, .int .u64 0, .int .u64 0, .int .u64 0], .int .i64 0, .int .i64 0], []⟩ 8 (by kernel_rfl) (by kernel_rfl) (by kernel_rfl) (by kernel_rfl)) ?_
  intro W base args ds gs before hval0 hW hcnd _
  have hval : ∀ (j : Nat) t v, Try.f5.params[j]? = some t → args[j]? = some v → Value.okWide Try.prog W .any base t v := hval0
  have hW' := hW
  obtain ⟨p, q, hA0, hV, rfl, hfz, hnd⟩ := hW
  have hA : DataW.TrodAll enc Try.prog W 0 (fun _ => true) true Try.f5.params.toList args.toList ds p := hA0
  rw [Try.params5] at hA hval
  obtain ⟨v0, vs0, d0, ds0, p0, q0, hargs, rfl, rfl, h0, r0⟩ := trodAll_cons hA
  obtain ⟨v1, vs1, d1, ds1, p1, q1, rfl, rfl, rfl, h1, r1⟩ := trodAll_cons r0
  obtain ⟨v2, vs2, d2, ds2, p2, q2, rfl, rfl, rfl, h2, r2⟩ := trodAll_cons r1
  obtain ⟨rfl, rfl, rfl⟩ := trodAll_nil r2
  obtain rfl : args = #[v0, v1, v2] := by cases args; simp_all
  obtain ⟨rfl, rfl⟩ := trodVars_none hV
  obtain ⟨cs, rfl, hsz, _⟩ : ∃ cs, v0 = .agg cs ∧ cs.size = Try.prog.cellsOf 29 ∧ Row.okWide Try.prog W .any base 29 cs := by
    have := hval 0 29 v0 rfl rfl
    simpa [Value.okWide, Try.underlying29] using this
  rw [cells29] at hsz
  obtain ⟨l⟩ := cs
  obtain ⟨c0, c1, c2, c3, rfl⟩ := list4 l hsz
  obtain ⟨fuel, hf⟩ := h0
  obtain ⟨y0, y1, y2, y3, m, hx, hy0, hy1, hy2, hy3⟩ := trod_array4 Try.underlying29 cells25 hf
  obtain ⟨x0, e0, rfl, w0⟩ := DataW.trod_int Try.underlying25 hy0
  obtain ⟨x1, e1, rfl, w1⟩ := DataW.trod_int Try.underlying25 hy1
  obtain ⟨x2, e2, rfl, w2⟩ := DataW.trod_int Try.underlying25 hy2
  obtain ⟨x3, e3, rfl, w3⟩ := DataW.trod_int Try.underlying25 hy3
  simp at e0 e1 e2 e3
  subst e0 e1 e2 e3
  simp only [Prod.mk.injEq] at hx
  obtain ⟨rfl, rfl⟩ := hx
  obtain ⟨a1, rfl, rfl, rfl, wa1⟩ := open_int Try.underlying3 (hval 1 3 v1 rfl rfl) h1
  obtain ⟨a2, rfl, rfl, rfl, wa2⟩ := open_int Try.underlying3 (hval 2 3 v2 rfl rfl) h2
  clear hA0 hval0
  refine (walk x0 x1 x2 x3 a1 a2 w0 w1 w2 w3 W).mono fun e W' ⟨he, bel⟩ => ?_
  subst he
  have rdA : ∀ sp : Nat → Bool, DataW.Trod enc Try.prog W' 0 sp true 29 (.agg #[.int .u64 x0, .int .u64 x1, .int .u64 x2, .int .u64 x3]) (DataW.agg [.lit (.int .u64 x0), .lit (.int .u64 x1), .lit (.int .u64 x2), .lit (.int .u64 x3)]) [] := fun sp => ⟨2, by simp [DataW.trod, Value.cells, Try.underlying29, Try.underlying25, cells29, cells25, w0, w1, w2, w3, show List.range 4 = [0, 1, 2, 3] from rfl]⟩
  exact ⟨_, rfl, _, _, _, [], _, [], hW', trodAll_mk1 (shut_bool Try.underlying4 _), (trodAll_cons_mk (rdA _) (trodAll_cons_mk (shut_int Try.underlying3 wa1) (trodAll_cons_mk (shut_int Try.underlying3 wa2) trodAll_mk0))), rfl, bel.frame _, fun h => by cases h⟩

theorem over : Rows.fnAddRangeSetsExactlyTheSpanRow.holds Try.pinned (OpenSpec.ofChange Rows.fnAddRangeSetsExactlyTheSpanSpec) :=
  OpenClaim.holds_of_wide 5 Try.f5 rfl rfl rfl rfl rfl rfl rfl ⟨rfl, rfl, rfl, rfl, rfl⟩ rfl rfl rfl rfl rfl (by kernel_rfl) Try.func5 (by kernel_rfl)
    (of_decide_eq_true (by kernel_rfl)) (by unfold Func.isWrapper; first | (rw [if_pos (by decide +kernel)]; kernel_rfl) | (rw [if_neg (by decide +kernel)]; exact ⟨rfl, rfl⟩))
    (fun os started H enc _ => lifted os started H enc)

/-- THE STATEMENT -/
theorem proved : Rows.FnAddRangeSetsExactlyTheSpanSaid := over
#print axioms proved
end Go.Proofs.Qxb6603436a.fnAddRangeSetsExactlyTheSpan
