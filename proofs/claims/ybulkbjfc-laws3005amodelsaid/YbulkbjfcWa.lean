import Derived.Test.YbulkbjfcRows
import Derived.Test.YbulkbjfcA1
import Derived.WalkKit
import Derived.WalkSpells
import Derived.WalkLawsBesides
namespace Go.Proofs.Ybulkbjfc.TA
open Go.RowKit

/-- a slice's cells: the slice is empty, or it leads to n cells (one a place) -/
def RowAt (w : World) (ao : Option Addr) (n : Nat) (f : Nat → Value) : Prop :=
  n = 0 ∨ ∃ g o, ao = some ⟨g, o, none⟩ ∧ ∀ i, i < n → w.cell? ⟨g, o + i, none⟩ = some (f i)

theorem RowAt.get {w : World} {ao : Option Addr} {n : Nat} {f : Nat → Value} (h : RowAt w ao n f) {k : Nat} (hk : k < n) :
    ∃ g o, ao = some ⟨g, o, none⟩ ∧ ∀ i, i < n → w.cell? ⟨g, o + i, none⟩ = some (f i) := by
  rcases h with h | h
  · omega
  · exact h
theorem RowAt.mono {w w' : World} {ao : Option Addr} {n : Nat} {f : Nat → Value} (h : RowAt w ao n f) (hc : ∀ a v, w.cell? a = some v → w'.cell? a = some v) : RowAt w' ao n f := by
  rcases h with h | ⟨g, o, h1, h2⟩
  · exact .inl h
  · exact .inr ⟨g, o, h1, fun i hi => hc _ _ (h2 i hi)⟩
theorem below_cells {w w' : World} (hb : Below w.heap.size w w') : ∀ a v, w.cell? a = some v → w'.cell? a = some v :=
  fun a _ h => (hb.cell (World.block_lt_of_cell? w a h)).trans h

theorem ret_int {k : IntKind} {a b : Int} (h : a = b) : Ending.returned (.int k a) = .returned (.int k b) := by rw [h]
theorem ret_bool {a b : Bool} (h : a = b) : Ending.returned (.bool a) = .returned (.bool b) := by rw [h]

set_option maxHeartbeats 400000 in
theorem alookup_any (ao bo : Option Addr) (n c1 c2 : Nat) (U : Nat → ByteArray) (D : Nat → Nat) (src : ByteArray) (w : World) (hn : n ≤ 256)
    (hu : RowAt w ao n fun i => .string (U i)) (hd : RowAt w bo n fun i => .int .u64 (D i)) :
    Calls Yba.prog 11 #[.slice ao n c1, .slice bo n c2, .string src] w fun e w' => e = .returned (.int .u64 (look U D n src)) ∧ w' = w := by
  go_enter Yba.func11, Yba.ntmps11
  go_wp2
  go_loop [7] (fun i => ∃ k : Nat, k ≤ n ∧ i = .int .i64 k ∧ ff (fun i => !((U i).toList == src.toList)) k = -1) (fun i => n - (intOf i).toNat)
  case atStart => exact ⟨0, Nat.zero_le _, rfl, rfl⟩
  case round =>
    obtain ⟨k, hk, rfl, hff⟩ := hrel
    by_cases hlt : k < n
    · obtain ⟨g, o, rfl, hu'⟩ := hu.get hlt
      obtain ⟨g', o', rfl, hd'⟩ := hd.get hlt
      have a0 := hu' k hlt
      have a1 := hd' k hlt
      go_wp2
      · have he : ((U k).toList == src.toList) = true := by assumption
        go_ret
        refine ⟨ret_int ?_, rfl⟩
        have h2 := ff_no (n := n) hff (by simp only [he]; rfl) hlt
        unfold look
        rw [h2, if_neg (by omega)]
        rfl
      · have he : ((U k).toList == src.toList) = false := by assumption
        go_round
        case rel => exact ⟨k + 1, by omega, by go_num, ff_yes hff (by simp only [he]; rfl)⟩
        case measure => simp [intOf]; omega
    · go_wp2
      go_ret
      have : k = n := by omega
      subst this
      refine ⟨ret_int ?_, rfl⟩
      unfold look
      rw [hff, if_pos rfl]
      rfl

def tooBig (S : Nat → ByteArray) (n : Nat) : Bool := decide (256 < n) || decide (1048576 < sumLen S n)

set_option maxHeartbeats 400000 in
theorem toobig_any (ao : Option Addr) (n c : Nat) (S : Nat → ByteArray) (w : World) (hs : RowAt w ao n fun i => .string (S i)) (hlen : ∀ i, i < n → (S i).size ≤ 140737488351232) :
    Calls Yba.prog 9 #[.slice ao n c] w fun e w' => e = .returned (.bool (tooBig S n)) ∧ w' = w := by
  by_cases hn : 256 < n
  · have hni : (256 : Int) < (n : Int) := by omega
    go_enter Yba.func9, Yba.ntmps9
    go_wp2
    go_ret
    exact ⟨ret_bool (by simp [tooBig, hn]), rfl⟩
  · have hni : ¬ (256 : Int) < (n : Int) := by omega
    go_enter Yba.func9, Yba.ntmps9
    go_wp2
    go_loop [3, 4] (fun t i => ∃ k : Nat, k ≤ n ∧ i = .int .i64 k ∧ t = .int .i64 (sumLen S k) ∧ sumLen S k ≤ 1048576) (fun _ i => n - (intOf i).toNat)
    case atStart => exact ⟨0, Nat.zero_le _, rfl, rfl, by simp [sumLen]⟩
    case round =>
      obtain ⟨k, hk, rfl, rfl, hsm⟩ := hrel
      by_cases hlt : k < n
      · obtain ⟨g, o, rfl, hs'⟩ := hs.get hlt
        have a0 := hs' k hlt
        have hl := hlen k hlt
        have hsum : sumLen S (k + 1) = sumLen S k + (S k).size := rfl
        have HS : Hid (sumLen S (k + 1) = sumLen S k + (S k).size) := hsum
        clear hsum
        go_wp2
        · have h1 : (1048576 : Int) < (sumLen S k : Int) + ((S k).size : Int) := by assumption
          go_ret
          refine ⟨ret_bool ?_, rfl⟩
          have h2 := sumLen_mono S (show k + 1 ≤ n by omega)
          have h3 := HS.out
          have h4 : 1048576 < sumLen S n := by omega
          simp [tooBig, h4]
        · have h1 : ¬ (1048576 : Int) < (sumLen S k : Int) + ((S k).size : Int) := by omega
          go_round
          case rel => exact ⟨k + 1, by omega, by go_num, by rw [HS.out]; go_num, by rw [HS.out]; omega⟩
          case measure => simp [intOf]; omega
      · go_wp2
        go_ret
        have : k = n := by omega
        subst this
        refine ⟨ret_bool ?_, rfl⟩
        simp [tooBig]
        omega

end Go.Proofs.Ybulkbjfc.TA
