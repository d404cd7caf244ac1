import Derived.Test.YbulkbjfcWb4
import Derived.ProofKit
import Derived.OpenShut
import Derived.ChangeOld
import Derived.Below
import Derived.Deep.SlicePairs
namespace Go.Proofs.Ybulkbjfc
open Go.ChangeShapes Go.WideShapes Go.ChangeAt Go.RowKit

theorem Yba.own : ownKnob Yba.prog.godebug = none := by kernel_rfl
theorem Yba.laidOut : laidOutB Yba.prog = true := by kernel_rfl

/-- a slice of pairs (uint64, int64) that came in: nil, empty, or its cells -/
def IsPairs (w : World) (a : Option Addr) (len cap : Nat) (Q T : Nat → Int) : Prop :=
  (a = none ∧ len = 0 ∧ cap = 0) ∨ (∃ x, a = some x ∧ len = 0) ∨
  ∃ b off, a = some ⟨b, off, none⟩ ∧ b < w.heap.size ∧ (∀ i, i < len → w.cell? ⟨b, off + i * 2, none⟩ = some (.int .u64 (Q i))) ∧ (∀ i, i < len → w.cell? ⟨b, off + i * 2 + 1, none⟩ = some (.int .i64 (T i))) ∧ (∀ i, i < len → 0 ≤ Q i)

theorem bmodel_walk (dq dd : Int) (a : Option Addr) (n c : Nat) (Q T : Nat → Int) (w : World) (h : IsPairs w a n c Q T) :
    Calls Yba.prog 5 #[.int .u64 dq, .int .i64 dd, .slice a n c] w fun e w' => e = .returned (.bool true) ∧ Below w.heap.size w w' := by
  by_cases hn : 1024 < n
  · exact bmodel_big dq dd a n c w hn
  rcases h with ⟨rfl, rfl, rfl⟩ | ⟨x, rfl, rfl⟩ | ⟨b, off, rfl, hb, h0, h1, hQ⟩
  · exact bmodel_nil dq dd w
  · exact bmodel_empty dq dd x c w
  · exact bmodel_some dq dd b off n c Q T w (by omega) hb h0 h1 hQ

theorem bd_u64 {n : Int} (h : (Lit.int .u64 n).wf = true) : 0 ≤ n ∧ n ≤ 18446744073709551615 := by
  simp [Lit.wf, IntKind.min, IntKind.max, IntKind.signed, IntKind.bits] at h
  omega

theorem isPairs_of {H : Type} {enc : TypeId × Value → H} {W : World} {a : Option Addr} {len cap : Nat} {d : DataW H} {p : List MemPlace}
    (h : DataW.Trod enc Yba.prog W 0 (fun _ => true) true 40 (.slice a len cap) d p) : ∃ Q T, IsPairs W a len cap Q T := by
  obtain ⟨fuel, hf⟩ := h
  rcases Deep.open_slice_pairs Yba.underlying40 Yba.underlying47 (by kernel_rfl) rfl rfl (by kernel_rfl) (by kernel_rfl) hf with ⟨hcs, _⟩ | ⟨x, l, c, m, n, V0, V1, D0, D1, P0, P1, hcs, _, hl, hm, hmm, hx, hcell⟩
  · simp [Value.cells] at hcs
    obtain ⟨rfl, rfl, rfl⟩ := hcs
    exact ⟨fun _ => 0, fun _ => 0, .inl ⟨rfl, rfl, rfl⟩⟩
  · simp [Value.cells] at hcs
    obtain ⟨rfl, rfl, rfl⟩ := hcs
    by_cases h0 : len = 0
    · exact ⟨fun _ => 0, fun _ => 0, .inr (.inl ⟨x, rfl, h0⟩)⟩
    simp only [if_true] at hmm
    subst hmm
    obtain ⟨b, off, spot⟩ := x
    have hspot : spot = none := by simpa [Addr.add] using World.cell?_spot (hcell 0 (by omega)).1
    subst hspot
    have hb : b < W.heap.size := by have := World.block_lt_of_cell? _ _ (hcell 0 (by omega)).1; simpa [Addr.add] using this
    have each : ∀ i, i < len → ∃ q : Int × Int, W.cell? ⟨b, off + i * 2, none⟩ = some (.int .u64 q.1) ∧ W.cell? ⟨b, off + i * 2 + 1, none⟩ = some (.int .i64 q.2) ∧ 0 ≤ q.1 := by
      intro i hi
      obtain ⟨e0, e1, t0, t1⟩ := hcell i (by omega)
      obtain ⟨x0, k0, _, wx0⟩ := DataW.trod_int Yba.underlying22 t0
      obtain ⟨x1, k1, _, wx1⟩ := DataW.trod_int Yba.underlying2 t1
      simp at k0 k1
      rw [k0] at e0
      rw [k1] at e1
      rw [add_plain] at e0 e1
      exact ⟨(x0, x1), e0, e1, by have := bd_u64 wx0; omega⟩
    obtain ⟨q, hq⟩ := Deep.choose_lt each
    exact ⟨fun i => (q i).1, fun i => (q i).2, .inr (.inr ⟨b, off, rfl, hb, fun i hi => (hq i hi).1, fun i hi => (hq i hi).2.1, fun i hi => (hq i hi).2.2⟩)⟩

set_option maxRecDepth 100000 in
theorem bmodel_lifted (os : Os) (started : os.Started) (H : Type) (enc : TypeId × Value → H) :
    ReturnsInHanded {} Yba.checked os 5 .any (Rows.lawS3005BModelSpec.pre6 enc Yba.prog Yba.f5 Rows.lawS3005BModelRow.domain false) (Rows.lawS3005BModelSpec.post enc Yba.prog Yba.f5 false true false false) := by
  refine returnsInHanded_of_change (C := Yba.checked) Yba.own started (by kernel_rfl) Yba.func5
    (ChangeSpec.witness6 (enc := enc) (C := Yba.checked) false ⟨#[], #[.int .u64 0, .int .i64 0, .slice none 0 0], []⟩ 8 (by kernel_rfl) (by kernel_rfl) (by kernel_rfl) (by kernel_rfl)) ?_
  intro W base args ds gs before hval0 hW hcnd _
  have hval : ∀ (j : Nat) t v, Yba.f5.params[j]? = some t → args[j]? = some v → Value.okWide Yba.prog W .any base t v := hval0
  have hW' := hW
  obtain ⟨p, q, hA0, hV, rfl, hfz, hnd⟩ := hW
  have hA : DataW.TrodAll enc Yba.prog W 0 (fun _ => true) true Yba.f5.params.toList args.toList ds p := hA0
  rw [Yba.params5] at hA hval
  obtain ⟨v0, vs0, d0, ds0, p0, q0, hargs, rfl, rfl, h0, r0⟩ := trodAll_cons hA
  obtain ⟨v1, vs1, d1, ds1, p1, q1, rfl, rfl, rfl, h1, r1⟩ := trodAll_cons r0
  obtain ⟨v2, vs2, d2, ds2, p2, q2, rfl, rfl, rfl, h2, r2⟩ := trodAll_cons r1
  obtain ⟨rfl, rfl, rfl⟩ := trodAll_nil r2
  obtain rfl : args = #[v0, v1, v2] := by cases args; simp_all
  obtain ⟨rfl, rfl⟩ := trodVars_none hV
  obtain ⟨a0, rfl, rfl, rfl, w0⟩ := open_int Yba.underlying22 (hval 0 22 v0 rfl rfl) h0
  obtain ⟨a1, rfl, rfl, rfl, w1⟩ := open_int Yba.underlying2 (hval 1 2 v1 rfl rfl) h1
  obtain ⟨a2, len2, cap2, rfl⟩ := okWide_slice Yba.underlying40 (hval 2 40 v2 rfl rfl)
  have lt2 : ∀ x ∈ p2, x.block < W.heap.size := by obtain ⟨m, hm⟩ := h2; exact DataW.trod_lt m _ _ _ hm
  obtain ⟨Q, T, hP⟩ := isPairs_of h2
  clear hA0 hval0
  refine (bmodel_walk a0 a1 a2 len2 cap2 Q T W hP).mono fun e W' ⟨he, bel⟩ => ?_
  subst he
  exact ⟨_, rfl, _, _, _, [], _, [], hW', trodAll_mk1 (shut_bool Yba.underlying4 _), (trodAll_cons_mk (shut_int Yba.underlying22 w0) (trodAll_cons_mk (shut_int Yba.underlying2 w1) (trodAll_cons_mk (Below.trod Yba.laidOut (by kernel_rfl) (of_decide_eq_true (by kernel_rfl)) h2 bel lt2) trodAll_mk0))), rfl, bel.frame _, fun h => by cases h⟩

theorem bmodel_said : Rows.LawS3005BModelSaid :=
  OpenClaim.holds_of_wide 5 Yba.f5 rfl rfl rfl rfl rfl rfl rfl ⟨rfl, rfl, rfl, rfl, rfl⟩ rfl rfl rfl rfl rfl (by kernel_rfl) Yba.func5 (by kernel_rfl)
    (of_decide_eq_true (by kernel_rfl)) (by unfold Func.isWrapper; first | (rw [if_pos (by decide +kernel)]; kernel_rfl) | (rw [if_neg (by decide +kernel)]; exact ⟨rfl, rfl⟩))
    (fun os started H enc _ => bmodel_lifted os started H enc)
end Go.Proofs.Ybulkbjfc
