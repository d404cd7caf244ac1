import Derived.Test.YbulkbjfcWa8
import Derived.ProofKit
import Derived.OpenShut
import Derived.ShutString
import Derived.ChangeOld
import Derived.Below
import Derived.SizedLaws
import Derived.Deep.Slices
namespace Go.Proofs.Ybulkbjfc.TA
open Go.ChangeShapes Go.WideShapes Go.ChangeAt Go.RowKit
open Go.ChangeMaps (open_string shut_string)

theorem own : ownKnob Yba.prog.godebug = none := by kernel_rfl
theorem laidOut : laidOutB Yba.prog = true := by kernel_rfl

theorem mem_weightsAll {H : Type} {P : Program} {e : TypeId} {d : DataW H} : ∀ {l : List (DataW H)}, d ∈ l → ∀ n ∈ d.weights P e, n ∈ DataW.weightsAll P e l
  | x :: r, hd, n, hn => by
    rw [DataW.weightsAll, List.mem_append]
    rcases List.mem_cons.1 hd with rfl | h
    · exact .inl hn
    · exact .inr (mem_weightsAll h n hn)

/-- a slice of strings that came in -/
theorem open_strs_row {H : Type} {enc : TypeId × Value → H} {W : World} {a : Option Addr} {len cap : Nat} {d : DataW H} {p : List MemPlace}
    (h : DataW.Trod enc Yba.prog W 0 (fun _ => true) true 23 (.slice a len cap) d p) (hw : ∀ n ∈ d.weights Yba.prog 23, n ≤ reachBytes) :
    ∃ S : Nat → ByteArray, RowAt W a len (fun i => .string (S i)) ∧ ∀ i, i < len → (S i).size ≤ 140737488351232 := by
  obtain ⟨fuel, hf⟩ := h
  rcases Deep.open_slice1 Yba.underlying23 (by kernel_rfl) hf with ⟨hcs, _⟩ | ⟨x, l, c, m, n, V, D, Pl, hcs, _, hl, hm, hmm, hx, hcell⟩
  · simp [Value.cells] at hcs
    obtain ⟨rfl, rfl, rfl⟩ := hcs
    exact ⟨fun _ => ByteArray.empty, .inl rfl, fun i hi => by omega⟩
  · simp [Value.cells] at hcs
    obtain ⟨rfl, rfl, rfl⟩ := hcs
    by_cases h0 : len = 0
    · exact ⟨fun _ => ByteArray.empty, .inl h0, fun i hi => by omega⟩
    simp only [if_true] at hmm
    subst hmm
    obtain ⟨b, off, spot⟩ := x
    have hspot : spot = none := by simpa [Addr.add] using World.cell?_spot (hcell 0 (by omega)).1
    subst hspot
    simp only [Prod.mk.injEq] at hx
    have each : ∀ i, i < len → ∃ s : ByteArray, W.cell? ⟨b, off + i, none⟩ = some (.string s) ∧ s.size ≤ 140737488351232 := by
      intro i hi
      obtain ⟨e0, t0⟩ := hcell i (by omega)
      obtain ⟨s, k0, k1, _⟩ := DataW.trod_string Yba.underlying9 t0
      simp at k0
      rw [k0] at e0
      rw [add_plain] at e0
      refine ⟨s, e0, ?_⟩
      have hd : D i = .lit (.string s.data.toList) := by simpa using congrArg Prod.fst k1
      have hmem : s.data.toList.length ∈ d.weights Yba.prog 23 := by
        rw [hx.1, DataW.weights]
        simp only [Yba.underlying23]
        refine List.mem_cons_of_mem _ (List.mem_append_left _ (mem_weightsAll (d := D i) ?_ _ ?_))
        · exact List.mem_map.2 ⟨i, List.mem_range.2 hi, rfl⟩
        · rw [hd, DataW.weights]; simp
      have h2 := hw _ hmem
      have h3 : s.data.toList.length = s.size := by simp
      rw [h3] at h2
      exact h2
    obtain ⟨S, hS⟩ := Deep.choose_lt (α := ByteArray) each
    exact ⟨S, .inr ⟨b, off, rfl, fun i hi => (hS i hi).1⟩, fun i hi => (hS i hi).2⟩

/-- a slice of uint64 that came in -/
theorem open_u64_row {H : Type} {enc : TypeId × Value → H} {W : World} {a : Option Addr} {len cap : Nat} {d : DataW H} {p : List MemPlace}
    (h : DataW.Trod enc Yba.prog W 0 (fun _ => true) true 24 (.slice a len cap) d p) :
    ∃ D : Nat → Nat, RowAt W a len (fun i => .int .u64 (D i)) ∧ ∀ i, i < len → D i < 18446744073709551616 := by
  obtain ⟨fuel, hf⟩ := h
  rcases Deep.open_slice1 Yba.underlying24 (by kernel_rfl) hf with ⟨hcs, _⟩ | ⟨x, l, c, m, n, V, D, Pl, hcs, _, hl, hm, hmm, hx, hcell⟩
  · simp [Value.cells] at hcs
    obtain ⟨rfl, rfl, rfl⟩ := hcs
    exact ⟨fun _ => 0, .inl rfl, fun i hi => by omega⟩
  · simp [Value.cells] at hcs
    obtain ⟨rfl, rfl, rfl⟩ := hcs
    by_cases h0 : len = 0
    · exact ⟨fun _ => 0, .inl h0, fun i hi => by omega⟩
    simp only [if_true] at hmm
    subst hmm
    obtain ⟨b, off, spot⟩ := x
    have hspot : spot = none := by simpa [Addr.add] using World.cell?_spot (hcell 0 (by omega)).1
    subst hspot
    have each : ∀ i, i < len → ∃ s : Nat, W.cell? ⟨b, off + i, none⟩ = some (.int .u64 s) ∧ s < 18446744073709551616 := by
      intro i hi
      obtain ⟨e0, t0⟩ := hcell i (by omega)
      obtain ⟨s, k0, _, wx⟩ := DataW.trod_int Yba.underlying22 t0
      simp at k0
      rw [k0] at e0
      rw [add_plain] at e0
      have hb := bounds_u64 wx
      exact ⟨s.toNat, by rw [e0, Int.toNat_of_nonneg hb.1], by omega⟩
    obtain ⟨S, hS⟩ := Deep.choose_lt each
    exact ⟨S, .inr ⟨b, off, rfl, fun i hi => (hS i hi).1⟩, fun i hi => (hS i hi).2⟩

set_option maxRecDepth 100000 in
theorem thr_lifted (os : Os) (started : os.Started) (H : Type) (enc : TypeId × Value → H) :
    ReturnsInHanded {} Yba.checked os 4 .any (Rows.lawS3005AThresholdSpec.pre6 enc Yba.prog Yba.f4 Rows.lawS3005AThresholdRow.domain false) (Rows.lawS3005AThresholdSpec.post enc Yba.prog Yba.f4 false true false false) := by
  refine returnsInHanded_of_change_sized (C := Yba.checked) own started (by kernel_rfl) Yba.func4
    (ChangeSpec.witness6 (enc := enc) (C := Yba.checked) false ⟨#[], #[.string ⟨#[]⟩, .int .u64 0, .int .u64 0, .slice none 0 0, .slice none 0 0], []⟩ 8 (by kernel_rfl) (by kernel_rfl) (by kernel_rfl) (by kernel_rfl)) ?_
  intro W base args ds gs before hval0 hW hcnd hsz0 _
  have hsz : (DataW.weightsEach Yba.prog (Yba.f4.params.toList ++ Rows.lawS3005AThresholdSpec.plain.varTypes Yba.prog) (ds ++ gs)).all (· ≤ reachBytes) = true := hsz0
  clear hsz0
  have hval : ∀ (j : Nat) t v, Yba.f4.params[j]? = some t → args[j]? = some v → Value.okWide Yba.prog W .any base t v := hval0
  have hW' := hW
  obtain ⟨p, q, hA0, hV, rfl, hfz, hnd⟩ := hW
  have hA : DataW.TrodAll enc Yba.prog W 0 (fun _ => true) true Yba.f4.params.toList args.toList ds p := hA0
  rw [Yba.params4] at hA hval hsz
  obtain ⟨v0, vs0, d0, ds0, p0, q0, hargs, rfl, rfl, h0, r0⟩ := trodAll_cons hA
  obtain ⟨v1, vs1, d1, ds1, p1, q1, rfl, rfl, rfl, h1, r1⟩ := trodAll_cons r0
  obtain ⟨v2, vs2, d2, ds2, p2, q2, rfl, rfl, rfl, h2, r2⟩ := trodAll_cons r1
  obtain ⟨v3, vs3, d3, ds3, p3, q3, rfl, rfl, rfl, h3, r3⟩ := trodAll_cons r2
  obtain ⟨v4, vs4, d4, ds4, p4, q4, rfl, rfl, rfl, h4, r4⟩ := trodAll_cons r3
  obtain ⟨rfl, rfl, rfl⟩ := trodAll_nil r4
  obtain rfl : args = #[v0, v1, v2, v3, v4] := by cases args; simp_all
  obtain ⟨rfl, rfl⟩ := trodVars_none hV
  obtain ⟨a0, rfl, rfl, rfl, w0⟩ := open_string Yba.underlying9 (hval 0 9 v0 rfl rfl) h0
  obtain ⟨a1, rfl, rfl, rfl, w1⟩ := open_int Yba.underlying22 (hval 1 22 v1 rfl rfl) h1
  obtain ⟨a2, rfl, rfl, rfl, w2⟩ := open_int Yba.underlying22 (hval 2 22 v2 rfl rfl) h2
  obtain ⟨a3, len3, cap3, rfl⟩ := okWide_slice Yba.underlying23 (hval 3 23 v3 rfl rfl)
  obtain ⟨a4, len4, cap4, rfl⟩ := okWide_slice Yba.underlying24 (hval 4 24 v4 rfl rfl)
  have lt3 : ∀ x ∈ p3, x.block < W.heap.size := by obtain ⟨m, hm⟩ := h3; exact DataW.trod_lt m _ _ _ hm
  have lt4 : ∀ x ∈ p4, x.block < W.heap.size := by obtain ⟨m, hm⟩ := h4; exact DataW.trod_lt m _ _ _ hm
  have hw3 : ∀ n ∈ d3.weights Yba.prog 23, n ≤ reachBytes := fun n hn => by
    have := List.all_eq_true.1 hsz _ (DataW.weights_mem_each (j := 3) (t := 23) (d := d3) rfl rfl n hn)
    simpa using this
  obtain ⟨S, hS, hSl⟩ := open_strs_row h3 hw3
  obtain ⟨D, hD, hDl⟩ := open_u64_row h4
  clear hA0 hval0 hsz
  have key : Calls Yba.prog 4 #[.string a0, .int .u64 a1, .int .u64 a2, .slice a3 len3 cap3, .slice a4 len4 cap4] W fun e w' => e = .returned (.bool true) ∧ Below W.heap.size W w' := by
    cases hbig : tooBig S len3 with
    | true => exact thr_big a0 a1 a2 a3 a4 len3 len4 cap3 cap4 S W hS hSl hbig
    | false => exact thr_some a0 a1 a2 a3 a4 len3 len4 cap3 cap4 S D W hS hSl hD hDl hbig
  refine key.mono fun e W' ⟨he, bel⟩ => ?_
  subst he
  exact ⟨_, rfl, _, _, _, [], _, [], hW', trodAll_mk1 (shut_bool Yba.underlying4 _), (trodAll_cons_mk (shut_string Yba.underlying9 w0) (trodAll_cons_mk (shut_int Yba.underlying22 w1) (trodAll_cons_mk (shut_int Yba.underlying22 w2) (trodAll_cons_mk (Below.trod laidOut (by kernel_rfl) (of_decide_eq_true (by kernel_rfl)) h3 bel lt3) (trodAll_cons_mk (Below.trod laidOut (by kernel_rfl) (of_decide_eq_true (by kernel_rfl)) h4 bel lt4) trodAll_mk0))))), rfl, bel.frame _, fun h => by cases h⟩

theorem thr_said : Rows.LawS3005AThresholdSaid :=
  OpenClaim.holds_of_wide 4 Yba.f4 rfl rfl rfl rfl rfl rfl rfl ⟨rfl, rfl, rfl, rfl, rfl⟩ rfl rfl rfl rfl rfl (by kernel_rfl) Yba.func4 (by kernel_rfl)
    (of_decide_eq_true (by kernel_rfl)) (by unfold Func.isWrapper; first | (rw [if_pos (by decide +kernel)]; kernel_rfl) | (rw [if_neg (by decide +kernel)]; exact ⟨rfl, rfl⟩))
    (fun os started H enc _ => thr_lifted os started H enc)

end Go.Proofs.Ybulkbjfc.TA
namespace Go.Proofs.Ybulkbjfc
theorem athreshold_said : Rows.LawS3005AThresholdSaid := TA.thr_said
end Go.Proofs.Ybulkbjfc
