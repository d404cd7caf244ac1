import Derived.Test.YbulkbjfcWa2
namespace Go.Proofs.Ybulkbjfc.TA
open Go.RowKit

/-- how a search ends: at the first place whose element does not precede the target -/
def SearchPost (n : Nat) (C : Nat → Int) (w : World) (e : Ending) (w' : World) : Prop :=
  ∃ (i : Nat) (f : Bool), e = .returned (.tuple #[.int .i64 i, .bool f]) ∧ i ≤ n ∧ f = (decide (i < n) && decide (C i = 0)) ∧ (∀ a, a < i → C a < 0) ∧ (∀ a, i ≤ a → a < n → 0 ≤ C a) ∧ Below w.heap.size w w'

set_option maxRecDepth 4000 in
set_option maxHeartbeats 400000 in
theorem search_any (n sc tb : Nat) (so : Option Addr) (P : Nat → Nat) (C : Nat → Int) (src : ByteArray) (w : World) (hn : n ≤ 256)
    (hs : RowAt w so n fun i => .int .u32 (P i))
    (hcmp : ∀ W, Below w.heap.size w W → ∀ a, a < n → Calls Yba.prog 28 #[.int .u32 (P a), .string src, .pointer (some ⟨tb, 0, none⟩)] W fun e w' => e = .returned (.int .i64 (C a)) ∧ Below W.heap.size W w')
    (hmono : ∀ a b, a ≤ b → b < n → C b < 0 → C a < 0) :
    Calls Yba.prog 27 #[.slice so n sc, .string src, .func (.func 28) #[] #[.pointer (some ⟨tb, 0, none⟩)]] w (SearchPost n C w) := by
  have HC : Hid (∀ W, Below w.heap.size w W → ∀ a, a < n → Calls Yba.prog 28 #[.int .u32 (P a), .string src, .pointer (some ⟨tb, 0, none⟩)] W fun e w' => e = .returned (.int .i64 (C a)) ∧ Below W.heap.size W w') := hcmp
  have HM : Hid (∀ a b, a ≤ b → b < n → C b < 0 → C a < 0) := hmono
  clear hcmp hmono
  go_enter Yba.func27, Yba.ntmps27
  go_wp2
  go_loopw [9, 10] (fun x y wr => ∃ i j : Nat, x = .int .i64 i ∧ y = .int .i64 j ∧ i ≤ j ∧ j ≤ n ∧ Hid (∀ a, a < i → C a < 0) ∧ Hid (∀ a, j ≤ a → a < n → 0 ≤ C a) ∧ Below w.heap.size w wr)
    (fun x y _ => (intOf y).toNat - (intOf x).toNat)
  case atStart => exact ⟨0, n, rfl, rfl, Nat.zero_le _, Nat.le_refl _, (fun a ha => by omega : ∀ a, a < 0 → C a < 0), (fun a h1 h2 => by omega : ∀ a, n ≤ a → a < n → 0 ≤ C a), Below.refl _ _⟩
  case round =>
    obtain ⟨i, j, rfl, rfl, hij, hjn, hA, hB, hbel⟩ := hrel
    by_cases hlt : i < j
    · obtain ⟨g, o, rfl, hs'⟩ := hs.get (show i < n by omega)
      have hhn : (i + j) / 2 < n := by omega
      have a0 : wr.cell? ⟨g, o + (i + j) / 2, none⟩ = some (.int .u32 (P ((i + j) / 2))) := (hbel.cell (World.block_lt_of_cell? _ _ (hs' _ hhn))).trans (hs' _ hhn)
      have e0 : (((i : Int) + (j : Int)) / 2).toNat = (i + j) / 2 := by omega
      go_wp2_with fail
      refine (HC.out _ hbel _ hhn).mono ?_
      rintro e w1 ⟨rfl, hb1⟩
      have hbel1 := hbel.trans (hb1.mono hbel.size)
      clear a0 hb1 hbel
      by_cases hc : C ((i + j) / 2) < 0
      · go_wp2
        go_roundw
        case rel =>
          exact ⟨(i + j) / 2 + 1, j, by go_num, rfl, by omega, hjn, (fun a ha => HM.out a ((i + j) / 2) (by omega) hhn hc : ∀ a, a < (i + j) / 2 + 1 → C a < 0), hB, hbel1⟩
        case measure => simp [intOf]; omega
      · go_wp2
        go_roundw
        case rel =>
          exact ⟨i, (i + j) / 2, rfl, by go_num, by omega, by omega, hA, (fun a h1 h2 => by have h3 := HM.out _ a h1 h2; omega : ∀ a, (i + j) / 2 ≤ a → a < n → 0 ≤ C a), hbel1⟩
        case measure => simp [intOf]; omega
    · obtain rfl : i = j := by omega
      by_cases hin : i < n
      · obtain ⟨g, o, rfl, hs'⟩ := hs.get hin
        have a0 : wr.cell? ⟨g, o + i, none⟩ = some (.int .u32 (P i)) := (hbel.cell (World.block_lt_of_cell? _ _ (hs' _ hin))).trans (hs' _ hin)
        go_wp2_with fail
        refine (HC.out _ hbel _ hin).mono ?_
        rintro e w1 ⟨rfl, hb1⟩
        go_wp2
        go_ret2
        exact ⟨i, (C i == 0), rfl, hjn, by simp only [hin, decide_true, Bool.true_and]; rfl, hA.out, hB.out, hbel.trans (hb1.mono hbel.size)⟩
      · go_wp2
        go_ret2
        exact ⟨i, false, rfl, hjn, by simp [hin], hA.out, hB.out, hbel⟩

end Go.Proofs.Ybulkbjfc.TA
