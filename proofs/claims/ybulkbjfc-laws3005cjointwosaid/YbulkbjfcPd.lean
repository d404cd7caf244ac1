import Derived.Test.YbulkbjfcWd7
import Derived.ProofKit
import Derived.OpenShut
import Derived.ChangeOld
import Derived.Below
import Derived.Deep.Slices
import Derived.Lib.SmallJoins
namespace Go.Proofs.Ybulkbjfc.TC
open Go.ChangeShapes Go.WideShapes Go.ChangeAt Go.RowKit

theorem ownD : ownKnob Yba.prog.godebug = none := by kernel_rfl
theorem laidOutD : laidOutB Yba.prog = true := by kernel_rfl

theorem low_i64 {n : Int} (h : (Lit.int .i64 n).wf = true) : -9223372036854775808 ≤ n := by
  simp [Lit.wf, IntKind.min, IntKind.max, IntKind.signed, IntKind.bits] at h
  omega

set_option maxRecDepth 100000 in
/-- a mark (uint64, int64, uint64) that came in, by value -/
theorem open_mark {H : Type} {enc : TypeId × Value → H} {W : World} {r : Reach} {b0 : Nat} {v : Value} {d : DataW H} {p : List MemPlace}
    (hv : Value.okWide Yba.prog W r b0 53 v) (h : DataW.Trod enc Yba.prog W 0 (fun _ => true) true 53 v d p) :
    ∃ q t x : Int, v = .agg #[.int .u64 q, .int .i64 t, .int .u64 x] ∧ -9223372036854775808 ≤ t := by
  obtain ⟨v0, v1, v2, y0, y1, y2, n, rfl, _, _, g0, g1, g2⟩ := Joins.open_agg3 Yba.underlying53 (by kernel_rfl) (by kernel_rfl) hv h
  obtain ⟨x0, k0, _, wx0⟩ := DataW.trod_int Yba.underlying22 g0
  obtain ⟨x1, k1, _, wx1⟩ := DataW.trod_int Yba.underlying2 g1
  obtain ⟨x2, k2, _, wx2⟩ := DataW.trod_int Yba.underlying22 g2
  simp at k0 k1 k2
  subst k0 k1 k2
  exact ⟨x0, x1, x2, rfl, low_i64 wx1⟩

set_option maxRecDepth 100000 in
theorem join_lifted (os : Os) (started : os.Started) (H : Type) (enc : TypeId × Value → H) :
    ReturnsInHanded {} Yba.checked os 7 .any (Rows.lawS3005CJoinTwoSpec.pre6 enc Yba.prog Yba.f7 Rows.lawS3005CJoinTwoRow.domain false) (Rows.lawS3005CJoinTwoSpec.post enc Yba.prog Yba.f7 false true false false) := by
  refine returnsInHanded_of_change (C := Yba.checked) ownD started (by kernel_rfl) Yba.func7
    (ChangeSpec.witness6 (enc := enc) (C := Yba.checked) false ⟨#[], #[.agg #[.int .u64 0, .int .i64 0, .int .u64 0], .agg #[.int .u64 0, .int .i64 0, .int .u64 0], .bool false], []⟩ 8 (by kernel_rfl) (by kernel_rfl) (by kernel_rfl) (by kernel_rfl)) ?_
  intro W base args ds gs before hval0 hW hcnd _
  have hval : ∀ (j : Nat) t v, Yba.f7.params[j]? = some t → args[j]? = some v → Value.okWide Yba.prog W .any base t v := hval0
  have hW' := hW
  obtain ⟨p, q, hA0, hV, rfl, hfz, hnd⟩ := hW
  have hA : DataW.TrodAll enc Yba.prog W 0 (fun _ => true) true Yba.f7.params.toList args.toList ds p := hA0
  rw [Yba.params7] at hA hval
  obtain ⟨v0, vs0, d0, ds0, p0, q0, hargs, rfl, rfl, h0, r0⟩ := trodAll_cons hA
  obtain ⟨v1, vs1, d1, ds1, p1, q1, rfl, rfl, rfl, h1, r1⟩ := trodAll_cons r0
  obtain ⟨v2, vs2, d2, ds2, p2, q2, rfl, rfl, rfl, h2, r2⟩ := trodAll_cons r1
  obtain ⟨rfl, rfl, rfl⟩ := trodAll_nil r2
  obtain rfl : args = #[v0, v1, v2] := by cases args; simp_all
  obtain ⟨rfl, rfl⟩ := trodVars_none hV
  have lt0 : ∀ x ∈ p0, x.block < W.heap.size := by obtain ⟨m, hm⟩ := h0; exact DataW.trod_lt m _ _ _ hm
  have lt1 : ∀ x ∈ p1, x.block < W.heap.size := by obtain ⟨m, hm⟩ := h1; exact DataW.trod_lt m _ _ _ hm
  obtain ⟨aq, ad, ap, rfl, la⟩ := open_mark (hval 0 53 v0 rfl rfl) h0
  obtain ⟨bq, bd, bp, rfl, lb⟩ := open_mark (hval 1 53 v1 rfl rfl) h1
  obtain ⟨b, rfl, rfl, rfl⟩ := open_bool Yba.underlying4 (hval 2 4 v2 rfl rfl) h2
  clear hA0 hval0
  have key : Calls Yba.prog 7 #[.agg #[.int .u64 aq, .int .i64 ad, .int .u64 ap], .agg #[.int .u64 bq, .int .i64 bd, .int .u64 bp], .bool b] W fun e w' => e = .returned (.bool true) ∧ Below W.heap.size W w' := by
    cases b
    · exact join_same aq ad ap bq bd bp W la lb
    · exact join_other aq ad ap bq bd bp W
  refine key.mono fun e W' ⟨he, bel⟩ => ?_
  subst he
  exact ⟨_, rfl, _, _, _, [], _, [], hW', trodAll_mk1 (shut_bool Yba.underlying4 _), (trodAll_cons_mk (Below.trod laidOutD (by kernel_rfl) (of_decide_eq_true (by kernel_rfl)) h0 bel lt0) (trodAll_cons_mk (Below.trod laidOutD (by kernel_rfl) (of_decide_eq_true (by kernel_rfl)) h1 bel lt1) (trodAll_cons_mk (shut_bool Yba.underlying4 _) trodAll_mk0))), rfl, bel.frame _, fun h => by cases h⟩

theorem join_said : Rows.LawS3005CJoinTwoSaid :=
  OpenClaim.holds_of_wide 7 Yba.f7 rfl rfl rfl rfl rfl rfl rfl ⟨rfl, rfl, rfl, rfl, rfl⟩ rfl rfl rfl rfl rfl (by kernel_rfl) Yba.func7 (by kernel_rfl)
    (of_decide_eq_true (by kernel_rfl)) (by unfold Func.isWrapper; first | (rw [if_pos (by decide +kernel)]; kernel_rfl) | (rw [if_neg (by decide +kernel)]; exact ⟨rfl, rfl⟩))
    (fun os started H enc _ => join_lifted os started H enc)

end Go.Proofs.Ybulkbjfc.TC
namespace Go.Proofs.Ybulkbjfc
theorem cjointwo_said : Rows.LawS3005CJoinTwoSaid := TC.join_said
end Go.Proofs.Ybulkbjfc
