import Derived.Test.YbulkbjlaWt
import Derived.ProofKit
import Derived.OpenShut
import Derived.ShutString
import Derived.ChangeOld
import Derived.Below
import Derived.SizedLaws
import Derived.Deep.Slices
namespace Go.Proofs.Ybulkbjla
open Go.ChangeShapes Go.WideShapes Go.ChangeAt Go.RowKit

theorem own : ownKnob Yba.prog.godebug = none := by kernel_rfl
theorem laidOut : laidOutB Yba.prog = true := by kernel_rfl

theorem mem_weightsAll {H : Type} {P : Program} {e : TypeId} {d : DataW H} : ∀ {l : List (DataW H)}, d ∈ l → ∀ n ∈ d.weights P e, n ∈ DataW.weightsAll P e l
  | x :: r, hd, n, hn => by
    rw [DataW.weightsAll, List.mem_append]
    rcases List.mem_cons.1 hd with rfl | h
    · exact .inl hn
    · exact .inr (mem_weightsAll h n hn)

/-- a slice of strings that came in -/
theorem open_strs_row {H : Type} {enc : TypeId × Value → H} {W : World} {a : Option Addr} {len cap : Nat} {d : DataW H} {p : List MemPlace}
    (h : DataW.Trod enc Yba.prog W 0 (fun _ => true) true 22 (.slice a len cap) d p) (hw : ∀ n ∈ d.weights Yba.prog 22, n ≤ reachBytes) :
    ∃ S : Nat → ByteArray, RowAt W a len (fun i => .string (S i)) ∧ ∀ i, i < len → (S i).size ≤ 140737488351232 := by
  obtain ⟨fuel, hf⟩ := h
  rcases Deep.open_slice1 Yba.underlying22 (by kernel_rfl) hf with ⟨hcs, _⟩ | ⟨x, l, c, m, n, V, D, Pl, hcs, _, hl, hm, hmm, hx, hcell⟩
  · simp [Value.cells] at hcs
    obtain ⟨rfl, rfl, rfl⟩ := hcs
    exact ⟨fun _ => ByteArray.empty, .inl rfl, fun i hi => by omega⟩
  · simp [Value.cells] at hcs
    obtain ⟨rfl, rfl, rfl⟩ := hcs
    by_cases h0 : len = 0
    · exact ⟨fun _ => ByteArray.empty, .inl h0, fun i hi => by omega⟩
    simp only [if_true] at hmm
    subst hmm
    obtain ⟨b, off, spot⟩ := x
    have hspot : spot = none := by simpa [Addr.add] using World.cell?_spot (hcell 0 (by omega)).1
    subst hspot
    simp only [Prod.mk.injEq] at hx
    have each : ∀ i, i < len → ∃ s : ByteArray, W.cell? ⟨b, off + i, none⟩ = some (.string s) ∧ s.size ≤ 140737488351232 := by
      intro i hi
      obtain ⟨e0, t0⟩ := hcell i (by omega)
      obtain ⟨s, k0, k1, _⟩ := DataW.trod_string Yba.underlying9 t0
      simp at k0
      rw [k0] at e0
      rw [add_plain] at e0
      refine ⟨s, e0, ?_⟩
      have hd : D i = .lit (.string s.data.toList) := by simpa using congrArg Prod.fst k1
      have hmem : s.data.toList.length ∈ d.weights Yba.prog 22 := by
        rw [hx.1, DataW.weights]
        simp only [Yba.underlying22]
        refine List.mem_cons_of_mem _ (List.mem_append_left _ (mem_weightsAll (d := D i) ?_ _ ?_))
        · exact List.mem_map.2 ⟨i, List.mem_range.2 hi, rfl⟩
        · rw [hd, DataW.weights]; simp
      have h2 := hw _ hmem
      have h3 : s.data.toList.length = s.size := by simp
      rw [h3] at h2
      exact h2
    obtain ⟨S, hS⟩ := Deep.choose_lt (α := ByteArray) each
    exact ⟨S, .inr ⟨b, off, rfl, fun i hi => (hS i hi).1⟩, fun i hi => (hS i hi).2⟩

end Go.Proofs.Ybulkbjla
