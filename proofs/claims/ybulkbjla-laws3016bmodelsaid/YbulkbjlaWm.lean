import Derived.Test.YbulkbjlaWt
namespace Go.Proofs.Ybulkbjla
open Go.RowKit

set_option maxHeartbeats 400000 in
theorem model_off (ao : Option Addr) (n c : Nat) (iu b : Int) (w : World) (hn : n = 0 ∨ 1024 < n) :
    Calls Yba.prog 3 #[.slice ao n c, .int .u64 iu, .int .i64 b] w fun e w' => e = .returned (.bool true) ∧ Below w.heap.size w w' := by
  go_enter Yba.func3, Yba.ntmps3
  rcases hn with rfl | hn
  · go_wp2
    go_ret
    exact ⟨rfl, Below.refl _ _⟩
  · have h0 : ¬ n = 0 := by omega
    go_wp2
    go_ret
    exact ⟨rfl, Below.refl _ _⟩

set_option maxHeartbeats 400000 in
theorem model_neg (ao : Option Addr) (n c iu : Nat) (b : Int) (S : Nat → ByteArray) (w : World) (h0 : 0 < n) (hn : n ≤ 1024) (hiu : iu < 18446744073709551616) (hb : b < 0)
    (hs : RowAt w ao n fun i => .string (S i)) :
    Calls Yba.prog 3 #[.slice ao n c, .int .u64 iu, .int .i64 b] w fun e w' => e = .returned (.bool true) ∧ Below w.heap.size w w' := by
  have h1 : ¬ n = 0 := by omega
  have h2 : ¬ (1024 : Int) < (n : Int) := by omega
  obtain ⟨i, hi, ei⟩ : ∃ i : Nat, i < n ∧ (iu : Int) % (n : Int) = (i : Int) := ⟨iu % n, Nat.mod_lt _ h0, by simp⟩
  go_enter Yba.func3, Yba.ntmps3
  go_wp2_with fail
  refine (toks_any _ n c S w hn hs).mono ?_
  rintro e w1 ⟨rfl, hb1, z1, _⟩
  have hz : Hid (Below w.heap.size w w1) := hb1
  clear hb1
  go_wp2_with fail
  refine (outranks_neg w1.heap.size i b _ hb).mono ?_
  rintro e w2 ⟨rfl, rfl⟩
  go_wp2
  go_ret
  exact ⟨rfl, hz.out.alloc (by omega) _⟩

set_option maxHeartbeats 400000 in
theorem model_pos (ao : Option Addr) (n c iu b : Nat) (S : Nat → ByteArray) (w : World) (h0 : 0 < n) (hn : n ≤ 1024) (hiu : iu < 18446744073709551616) (hb : b ≤ 9223372036854775807)
    (hs : RowAt w ao n fun i => .string (S i)) (hl : ∀ i, i < n → (S i).size ≤ 140737488351232) :
    Calls Yba.prog 3 #[.slice ao n c, .int .u64 iu, .int .i64 b] w fun e w' => e = .returned (.bool true) ∧ Below w.heap.size w w' := by
  have h1 : ¬ n = 0 := by omega
  have h2 : ¬ (1024 : Int) < (n : Int) := by omega
  obtain ⟨i, hi, ei⟩ : ∃ i : Nat, i < n ∧ (iu : Int) % (n : Int) = (i : Int) := ⟨iu % n, Nat.mod_lt _ h0, by simp⟩
  obtain ⟨j, hj, ej⟩ : ∃ j : Nat, j < n ∧ (b : Int) % (n : Int) = (j : Int) := ⟨b % n, Nat.mod_lt _ h0, by simp⟩
  obtain ⟨g, o, rfl, hg⟩ := hs.get h0
  go_enter Yba.func3, Yba.ntmps3
  go_wp2_with fail
  refine (toks_any _ n c S w hn hs).mono ?_
  rintro e w1 ⟨rfl, hb1, z1, ht⟩
  have gi := below_cells hb1 _ _ (hg i hi)
  have gj := below_cells hb1 _ _ (hg j hj)
  have hz : Hid (Below w.heap.size w w1) := hb1
  have ht' : Hid (∀ i, i < n → w1.cell? ⟨w.heap.size, i * 2, none⟩ = some (.string (S i))) := ht
  clear hb1 ht hg
  go_wp2_with fail
  refine (outranks_all _ w.heap.size n i j S _ hi (by omega) hl (by simp) ?_).mono ?_
  · intro k hk
    rw [World.cell?_alloc_lt _ _ _ z1]
    exact ht'.out k hk
  rintro e w2 ⟨rfl, hb2⟩
  have ki := below_cells hb2 _ _ ((World.cell?_alloc_lt _ _ _ (World.block_lt_of_cell? _ _ gi)).trans gi)
  have kj := below_cells hb2 _ _ ((World.cell?_alloc_lt _ _ _ (World.block_lt_of_cell? _ _ gj)).trans gj)
  have hz2 : Hid (Below w.heap.size w w2) := (hz.out.alloc (by omega) _).trans (hb2.mono (by simp; omega))
  have l0 := hl i hi
  have l1 := hl j hj
  clear hb2 hl gi gj hs
  have q1 : (i : Int) < (n : Int) := by omega
  have q2 : (j : Int) < (n : Int) := by omega
  have ho : Hid (outr S i j = (decide ((S j).size < (S i).size) || (decide ((S i).size = (S j).size) && decide (i < j)))) := by
    have hj0 : ¬ (j : Int) < 0 := by omega
    show outr S i j = _
    simp only [outr, Int.toNat_natCast, hj0]
    simp
  go_wp2
  all_goals
    go_ret
    refine ⟨ret_bool ?_, hz2.out⟩
    rw [ho.out]
    first
      | (rw [beq_iff_eq, Bool.eq_iff_iff]; simp; omega)
      | (simp; omega)

end Go.Proofs.Ybulkbjla
