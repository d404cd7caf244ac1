import Derived.Test.YbulkbjfcWc9
import Derived.ProofKit
import Derived.OpenShut
import Derived.ChangeOld
import Derived.Below
import Derived.Deep.Slices
import Derived.Deep.Strs
namespace Go.Proofs.Ybulkbjfc.TC
open Go.ChangeShapes Go.WideShapes Go.ChangeAt Go.RowKit

theorem own : ownKnob Yba.prog.godebug = none := by kernel_rfl
theorem laidOut : laidOutB Yba.prog = true := by kernel_rfl

theorem bd_u8 {n : Int} (h : (Lit.int .u8 n).wf = true) : 0 ≤ n ∧ n ≤ 255 := by
  simp [Lit.wf, IntKind.min, IntKind.max, IntKind.signed, IntKind.bits] at h
  omega

theorem list3 {l : List Value} (h : l.length = 3) : ∃ a b c, l = [a, b, c] := by
  match l, h with
  | [a, b, c], _ => exact ⟨a, b, c, rfl⟩

/-- a slice of rows (uint8, uint64, int64) that came in -/
theorem open_raw {H : Type} {enc : TypeId × Value → H} {W : World} {a : Option Addr} {len cap : Nat} {d : DataW H} {p : List MemPlace}
    (h : DataW.Trod enc Yba.prog W 0 (fun _ => true) true 91 (.slice a len cap) d p) :
    ∃ X Q T : Nat → Int, RawAt W a len X Q T ∧ ∀ i, i < len → 0 ≤ X i ∧ X i ≤ 255 := by
  obtain ⟨fuel, hf⟩ := h
  rcases Deep.open_slice Yba.underlying91 hf with ⟨hcs, _⟩ | ⟨x, l, c, m, n, D, Pl, hcs, _, hl, hm, hmm, hx, hcell⟩
  · simp [Value.cells] at hcs
    obtain ⟨rfl, rfl, rfl⟩ := hcs
    exact ⟨fun _ => 0, fun _ => 0, fun _ => 0, .inl rfl, fun i hi => by omega⟩
  · simp [Value.cells] at hcs
    obtain ⟨rfl, rfl, rfl⟩ := hcs
    simp only [if_true] at hmm
    subst hmm
    have ce : Yba.prog.cellsOf 103 = 3 := by kernel_rfl
    have c5 : Yba.prog.cellsOf 5 = 1 := by kernel_rfl
    have c22 : Yba.prog.cellsOf 22 = 1 := by kernel_rfl
    have c2 : Yba.prog.cellsOf 2 = 1 := by kernel_rfl
    have each : ∀ i, i < len → ∃ q : Int × Int × Int, W.cell? (x.add (i * 3)) = some (.int .u8 q.1) ∧ W.cell? (x.add (i * 3 + 1)) = some (.int .u64 q.2.1) ∧ W.cell? (x.add (i * 3 + 2)) = some (.int .i64 q.2.2) ∧ 0 ≤ q.1 ∧ q.1 ≤ 255 := by
      intro i hi
      obtain ⟨cs', h1, h2⟩ := hcell i (by omega)
      rw [ce] at h1
      obtain ⟨_, hlen, hc⟩ := World.cells?_some h1
      obtain ⟨y0, y1, y2, k, _, _, g0, g1, g2⟩ := Deep.trod_struct3 Yba.underlying103 h2
      obtain ⟨v0, v1, v2, rfl⟩ := list3 hlen
      simp [c5, c22, c2] at g0 g1 g2
      have e0 := hc 0 (by omega)
      have e1 := hc 1 (by omega)
      have e2 := hc 2 (by omega)
      rw [Deep.add_add] at e0 e1 e2
      obtain ⟨x0, k0, _, wx0⟩ := DataW.trod_int Yba.underlying5 g0
      obtain ⟨x1, k1, _, wx1⟩ := DataW.trod_int Yba.underlying22 g1
      obtain ⟨x2, k2, _, wx2⟩ := DataW.trod_int Yba.underlying2 g2
      simp at k0 k1 k2
      subst k0 k1 k2
      exact ⟨(x0, x1, x2), by simpa using e0, by simpa using e1, by simpa using e2, bd_u8 wx0⟩
    by_cases h0 : len = 0
    · exact ⟨fun _ => 0, fun _ => 0, fun _ => 0, .inl h0, fun i hi => by omega⟩
    obtain ⟨q, hq⟩ := Deep.choose_lt each
    obtain ⟨b, off, spot⟩ := x
    have hspot : spot = none := by simpa [Addr.add] using World.cell?_spot (hq 0 (by omega)).1
    subst hspot
    exact ⟨fun i => (q i).1, fun i => (q i).2.1, fun i => (q i).2.2, .inr ⟨b, off, rfl, fun i hi => by
      obtain ⟨e0, e1, e2, _⟩ := hq i hi
      rw [add_plain] at e0 e1 e2
      exact ⟨e0, e1, e2⟩⟩, fun i hi => (hq i hi).2.2.2⟩

set_option maxRecDepth 100000 in
theorem steps_lifted (os : Os) (started : os.Started) (H : Type) (enc : TypeId × Value → H) :
    ReturnsInHanded {} Yba.checked os 8 .any (Rows.lawS3005CStepsSpec.pre6 enc Yba.prog Yba.f8 Rows.lawS3005CStepsRow.domain false) (Rows.lawS3005CStepsSpec.post enc Yba.prog Yba.f8 false true false false) := by
  refine returnsInHanded_of_change (C := Yba.checked) own started (by kernel_rfl) Yba.func8
    (ChangeSpec.witness6 (enc := enc) (C := Yba.checked) false ⟨#[], #[.int .u64 0, .int .i64 0, .int .u64 0, .slice none 0 0], []⟩ 8 (by kernel_rfl) (by kernel_rfl) (by kernel_rfl) (by kernel_rfl)) ?_
  intro W base args ds gs before hval0 hW hcnd _
  have hval : ∀ (j : Nat) t v, Yba.f8.params[j]? = some t → args[j]? = some v → Value.okWide Yba.prog W .any base t v := hval0
  have hW' := hW
  obtain ⟨p, q, hA0, hV, rfl, hfz, hnd⟩ := hW
  have hA : DataW.TrodAll enc Yba.prog W 0 (fun _ => true) true Yba.f8.params.toList args.toList ds p := hA0
  rw [Yba.params8] at hA hval
  obtain ⟨v0, vs0, d0, ds0, p0, q0, hargs, rfl, rfl, h0, r0⟩ := trodAll_cons hA
  obtain ⟨v1, vs1, d1, ds1, p1, q1, rfl, rfl, rfl, h1, r1⟩ := trodAll_cons r0
  obtain ⟨v2, vs2, d2, ds2, p2, q2, rfl, rfl, rfl, h2, r2⟩ := trodAll_cons r1
  obtain ⟨v3, vs3, d3, ds3, p3, q3, rfl, rfl, rfl, h3, r3⟩ := trodAll_cons r2
  obtain ⟨rfl, rfl, rfl⟩ := trodAll_nil r3
  obtain rfl : args = #[v0, v1, v2, v3] := by cases args; simp_all
  obtain ⟨rfl, rfl⟩ := trodVars_none hV
  obtain ⟨a0, rfl, rfl, rfl, w0⟩ := open_int Yba.underlying22 (hval 0 22 v0 rfl rfl) h0
  obtain ⟨a1, rfl, rfl, rfl, w1⟩ := open_int Yba.underlying2 (hval 1 2 v1 rfl rfl) h1
  obtain ⟨a2, rfl, rfl, rfl, w2⟩ := open_int Yba.underlying22 (hval 2 22 v2 rfl rfl) h2
  obtain ⟨a3, len3, cap3, rfl⟩ := okWide_slice Yba.underlying91 (hval 3 91 v3 rfl rfl)
  have lt3 : ∀ x ∈ p3, x.block < W.heap.size := by obtain ⟨m, hm⟩ := h3; exact DataW.trod_lt m _ _ _ hm
  obtain ⟨X, Q, T, hR, hX⟩ := open_raw h3
  clear hA0 hval0
  have key : Calls Yba.prog 8 #[.int .u64 a0, .int .i64 a1, .int .u64 a2, .slice a3 len3 cap3] W fun e w' => e = .returned (.bool true) ∧ Below W.heap.size W w' := by
    by_cases hn : 1024 < len3
    · exact steps_big a0 a1 a2 a3 len3 cap3 W hn
    · exact steps_on a0 a1 a2 a3 len3 cap3 X Q T W (by omega) hR hX
  refine key.mono fun e W' ⟨he, bel⟩ => ?_
  subst he
  exact ⟨_, rfl, _, _, _, [], _, [], hW', trodAll_mk1 (shut_bool Yba.underlying4 _), (trodAll_cons_mk (shut_int Yba.underlying22 w0) (trodAll_cons_mk (shut_int Yba.underlying2 w1) (trodAll_cons_mk (shut_int Yba.underlying22 w2) (trodAll_cons_mk (Below.trod laidOut (by kernel_rfl) (of_decide_eq_true (by kernel_rfl)) h3 bel lt3) trodAll_mk0)))), rfl, bel.frame _, fun h => by cases h⟩

theorem steps_said : Rows.LawS3005CStepsSaid :=
  OpenClaim.holds_of_wide 8 Yba.f8 rfl rfl rfl rfl rfl rfl rfl ⟨rfl, rfl, rfl, rfl, rfl⟩ rfl rfl rfl rfl rfl (by kernel_rfl) Yba.func8 (by kernel_rfl)
    (of_decide_eq_true (by kernel_rfl)) (by unfold Func.isWrapper; first | (rw [if_pos (by decide +kernel)]; kernel_rfl) | (rw [if_neg (by decide +kernel)]; exact ⟨rfl, rfl⟩))
    (fun os started H enc _ => steps_lifted os started H enc)

end Go.Proofs.Ybulkbjfc.TC
namespace Go.Proofs.Ybulkbjfc
theorem csteps_said : Rows.LawS3005CStepsSaid := TC.steps_said
end Go.Proofs.Ybulkbjfc
