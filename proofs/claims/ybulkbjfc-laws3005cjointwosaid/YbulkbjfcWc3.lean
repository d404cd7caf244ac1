import Derived.Test.YbulkbjfcWc2
import Derived.Deep.QuietTactic
import Derived.BigQuiet
namespace Go.Proofs.Ybulkbjfc.TC
open Go.RowKit

/-- a slice of steps: empty, or its cells -/
def StepsAt (w : World) (ao : Option Addr) (n : Nat) (S : Nat → ByteArray) (Q T : Nat → Int) : Prop :=
  n = 0 ∨ ∃ g o, ao = some ⟨g, o, none⟩ ∧ ∀ i, i < n → w.cell? ⟨g, o + i * 3, none⟩ = some (.string (S i)) ∧ w.cell? ⟨g, o + i * 3 + 1, none⟩ = some (.int .u64 (Q i)) ∧ w.cell? ⟨g, o + i * 3 + 1 + 1, none⟩ = some (.int .i64 (T i))
theorem StepsAt.get {w : World} {ao : Option Addr} {n : Nat} {S : Nat → ByteArray} {Q T : Nat → Int} (h : StepsAt w ao n S Q T) {k : Nat} (hk : k < n) :
    ∃ g o, ao = some ⟨g, o, none⟩ ∧ ∀ i, i < n → w.cell? ⟨g, o + i * 3, none⟩ = some (.string (S i)) ∧ w.cell? ⟨g, o + i * 3 + 1, none⟩ = some (.int .u64 (Q i)) ∧ w.cell? ⟨g, o + i * 3 + 1 + 1, none⟩ = some (.int .i64 (T i)) := by
  rcases h with h | h
  · omega
  · exact h
theorem StepsAt.mono {w w' : World} {ao : Option Addr} {n : Nat} {S : Nat → ByteArray} {Q T : Nat → Int} (h : StepsAt w ao n S Q T) (hc : ∀ a v, w.cell? a = some v → w'.cell? a = some v) : StepsAt w' ao n S Q T := by
  rcases h with h | ⟨g, o, h1, h2⟩
  · exact .inl h
  · exact .inr ⟨g, o, h1, fun i hi => ⟨hc _ _ (h2 i hi).1, hc _ _ (h2 i hi).2.1, hc _ _ (h2 i hi).2.2⟩⟩
theorem below_cells {w w' : World} (hb : Below w.heap.size w w') : ∀ a v, w.cell? a = some v → w'.cell? a = some v :=
  fun a _ h => (hb.cell (World.block_lt_of_cell? w a h)).trans h

set_option maxHeartbeats 400000 in
theorem equal_len (ao bo : Option Addr) (n m c1 c2 : Nat) (w : World) (h : n ≠ m) :
    Calls Yba.prog 19 #[.slice ao n c1, .slice bo m c2] w fun e w' => e = .returned (.bool false) ∧ w' = w := by
  have h1 : ((n : Int) != (m : Int)) = true := by simp; omega
  go_enter Yba.func19, Yba.ntmps19
  go_wp2
  go_ret
  exact ⟨rfl, rfl⟩

set_option maxRecDepth 4000 in
set_option maxHeartbeats 400000 in
theorem equal_same (ao bo : Option Addr) (n c1 c2 : Nat) (S : Nat → ByteArray) (Q T : Nat → Int) (w : World) (hn : n ≤ 1024) (ha : StepsAt w ao n S Q T) (hb : StepsAt w bo n S Q T) :
    Calls Yba.prog 19 #[.slice ao n c1, .slice bo n c2] w fun e w' => e = .returned (.bool true) ∧ ∃ q, w' = w.drewN q := by
  go_enter Yba.func19, Yba.ntmps19
  go_wp2
  go_loopw [13] (fun x wr => ∃ k q : Nat, k ≤ n ∧ x = .int .i64 k ∧ wr = w.drewN q) (fun x _ => n - (intOf x).toNat)
  case atStart => exact ⟨0, 0, Nat.zero_le _, rfl, rfl⟩
  case round =>
    obtain ⟨k, q, hk, rfl, rfl⟩ := hrel
    by_cases hlt : k < n
    · obtain ⟨g, o, rfl, ha'⟩ := ha.get hlt
      obtain ⟨g', o', rfl, hb'⟩ := hb.get hlt
      obtain ⟨a0, a1, a2⟩ := ha' k hlt
      obtain ⟨b0, b1, b2⟩ := hb' k hlt
      clear ha' hb' ha hb
      have hli : (k : Int) < (n : Int) := by omega
      go_wp2
      go_quiet (fail)
      clear a0 a1 a2 b0 b1 b2
      go_wp2
      go_roundw
      case rel => exact ⟨k + 1, _, by omega, by go_num, rfl⟩
      case measure => simp [intOf]; omega
    · go_wp2
      go_ret
      exact ⟨rfl, q, rfl⟩

set_option maxRecDepth 4000 in
set_option maxHeartbeats 400000 in
theorem csrc_any (x : Int) (w : World) (h0 : 0 ≤ x) (h1 : x ≤ 255) : Calls Yba.prog 26 #[.int .u8 x] w fun e w' => e = .returned (.string (if x % 2 = 0 then sX else sY)) ∧ w' = w := by
  by_cases h : x % 2 = 0
  · rw [if_pos h]
    have h2 : (x % 2 == 0) = true := by simpa using h
    go_enter Yba.func26, Yba.ntmps26
    go_wp2
    go_ret
    exact ⟨rfl, rfl⟩
  · rw [if_neg h]
    have h2 : (x % 2 == 0) = false := by simpa using h
    go_enter Yba.func26, Yba.ntmps26
    go_wp2
    go_ret
    exact ⟨rfl, rfl⟩

end Go.Proofs.Ybulkbjfc.TC
