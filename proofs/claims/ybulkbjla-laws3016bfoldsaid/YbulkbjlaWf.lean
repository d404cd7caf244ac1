import Derived.Test.YbulkbjlaWt
namespace Go.Proofs.Ybulkbjla
open Go.RowKit

/-- the best of the first k tokens, as the law folds 'outranks' -/
def bestOf (S : Nat → ByteArray) : Nat → Int
  | 0 => -1
  | k + 1 => if outr S k (bestOf S k) then k else bestOf S k
/-- the greatest length of the first k texts, -1 where there is none -/
def maxOf (S : Nat → ByteArray) (k : Nat) : Int := if bestOf S k < 0 then -1 else ((S (bestOf S k).toNat).size : Int)
theorem bestOf_lt (S : Nat → ByteArray) : ∀ k, bestOf S k < k
  | 0 => by simp [bestOf]
  | k + 1 => by
    have := bestOf_lt S k
    unfold bestOf
    split <;> omega
theorem outr_iff (S : Nat → ByteArray) (k : Nat) : outr S k (bestOf S k) = decide (maxOf S k < ((S k).size : Int)) := by
  have h := bestOf_lt S k
  unfold outr maxOf
  rw [Bool.eq_iff_iff]
  by_cases hb : bestOf S k < 0
  · simp [hb]; omega
  · simp [hb]; omega
theorem best_yes {S : Nat → ByteArray} {k : Nat} (h : maxOf S k < ((S k).size : Int)) : bestOf S (k + 1) = k ∧ maxOf S (k + 1) = ((S k).size : Int) := by
  have e : bestOf S (k + 1) = k := by
    rw [bestOf, outr_iff]; simp [h]
  refine ⟨e, ?_⟩
  unfold maxOf
  rw [e]
  simp
theorem best_no {S : Nat → ByteArray} {k : Nat} (h : ¬ maxOf S k < ((S k).size : Int)) : bestOf S (k + 1) = bestOf S k ∧ maxOf S (k + 1) = maxOf S k := by
  have e : bestOf S (k + 1) = bestOf S k := by
    rw [bestOf, outr_iff]; simp [h]
  exact ⟨e, by unfold maxOf; rw [e]⟩

set_option maxHeartbeats 400000 in
theorem fold_big (ao : Option Addr) (n c : Nat) (w : World) (hn : 1024 < n) :
    Calls Yba.prog 4 #[.slice ao n c] w fun e w' => e = .returned (.bool true) ∧ Below w.heap.size w w' := by
  have h : (1024 : Int) < (n : Int) := by omega
  go_enter Yba.func4, Yba.ntmps4
  go_wp2
  go_ret
  exact ⟨rfl, Below.refl _ _⟩

/-- the catalogue in memory, the texts, and nothing old turned -/
structure Cat (ao : Option Addr) (n cb tb : Nat) (S : Nat → ByteArray) (w w' : World) : Prop where
  box : w'.cell? ⟨cb, 2, none⟩ = some (.slice (some ⟨tb, 0, none⟩) n n)
  toks : ∀ i, i < n → w'.cell? ⟨tb, i * 2, none⟩ = some (.string (S i))
  row : RowAt w' ao n fun i => .string (S i)
  bel : Below w.heap.size w w'
theorem Cat.on {ao : Option Addr} {n cb tb : Nat} {S : Nat → ByteArray} {w w' w'' : World} (h : Cat ao n cb tb S w w') (hb : Below w'.heap.size w' w'') : Cat ao n cb tb S w w'' :=
  ⟨below_cells hb _ _ h.box, fun i hi => below_cells hb _ _ (h.toks i hi), h.row.mono (below_cells hb), h.bel.trans (hb.mono h.bel.size)⟩

set_option maxHeartbeats 400000 in
theorem fold_on (ao : Option Addr) (n c : Nat) (S : Nat → ByteArray) (w : World) (hn : n ≤ 1024)
    (hs : RowAt w ao n fun i => .string (S i)) (hl : ∀ i, i < n → (S i).size ≤ 140737488351232) :
    Calls Yba.prog 4 #[.slice ao n c] w fun e w' => e = .returned (.bool true) ∧ Below w.heap.size w w' := by
  have h2 : ¬ (1024 : Int) < (n : Int) := by omega
  go_enter Yba.func4, Yba.ntmps4
  go_wp2_with fail
  refine (toks_any _ n c S w hn hs).mono ?_
  rintro e w1 ⟨rfl, hb1, z1, ht⟩
  have hcat : Cat ao n w1.heap.size w.heap.size S w (w1.alloc (.cells #[.slice none 0 0, .slice none 0 0, .slice (some ⟨w.heap.size, 0, none⟩) n n, .pointer none] 31)) := by
    have hk : ∀ a v, w1.cell? a = some v → (w1.alloc (.cells #[.slice none 0 0, .slice none 0 0, .slice (some ⟨w.heap.size, 0, none⟩) n n, .pointer none] 31)).cell? a = some v := fun a v h => by
      rw [World.cell?_alloc_lt _ _ _ (World.block_lt_of_cell? _ _ h)]; exact h
    exact ⟨by simp, fun i hi => hk _ _ (ht i hi), (hs.mono (below_cells hb1)).mono hk, hb1.alloc (by omega) _⟩
  clear hb1 ht
  go_wp2
  go_loopw [4, 5] (fun best i wr => ∃ k : Nat, k ≤ n ∧ i = .int .i64 k ∧ best = .int .i64 (bestOf S k) ∧ Cat ao n w1.heap.size w.heap.size S w wr) (fun _ i _ => n - (intOf i).toNat)
  case atStart => exact ⟨0, Nat.zero_le _, rfl, rfl, hcat⟩
  case round =>
    obtain ⟨k, hk, rfl, rfl, hcr⟩ := hrel
    clear hcat
    by_cases hlt : k < n
    · have hli : (k : Int) < (n : Int) := by omega
      have hbl := bestOf_lt S k
      go_wp2_with fail
      refine (outranks_all _ w.heap.size n k _ S _ hlt (by omega) hl hcr.box hcr.toks).mono ?_
      rintro e w2 ⟨rfl, hb2⟩
      have hc2 := hcr.on hb2
      cases ho : outr S k (bestOf S k) with
      | true =>
        go_wp2
        go_roundw
        case rel => exact ⟨k + 1, by omega, by go_num, by simp [bestOf, ho], hc2⟩
        case measure => simp [intOf]; omega
      | false =>
        go_wp2
        go_roundw
        case rel => exact ⟨k + 1, by omega, by go_num, by simp [bestOf, ho], hc2⟩
        case measure => simp [intOf]; omega
    · have : k = n := by omega
      subst this
      have hrow := hcr.row
      have hbel : Hid (Below w.heap.size w wr) := hcr.bel
      clear hcr
      go_wp2
      go_loop [6, 7, 8] (fun want ml i => ∃ j : Nat, j ≤ k ∧ i = .int .i64 j ∧ want = .int .i64 (bestOf S j) ∧ ml = .int .i64 (maxOf S j)) (fun _ _ i => k - (intOf i).toNat)
      case atStart => exact ⟨0, Nat.zero_le _, rfl, rfl, rfl⟩
      case round =>
        obtain ⟨j, hj, rfl, rfl, rfl⟩ := hrel
        by_cases hjt : j < k
        · obtain ⟨g, o, rfl, hg⟩ := hrow.get hjt
          have a0 := hg j hjt
          have l0 := hl j hjt
          have hji : (j : Int) < (k : Int) := by omega
          by_cases hm : maxOf S j < ((S j).size : Int)
          · go_wp2
            go_round
            case rel => exact ⟨j + 1, by omega, by go_num, by rw [(best_yes hm).1], by rw [(best_yes hm).2]⟩
            case measure => simp [intOf]; omega
          · go_wp2
            go_round
            case rel => exact ⟨j + 1, by omega, by go_num, by rw [(best_no hm).1], by rw [(best_no hm).2]⟩
            case measure => simp [intOf]; omega
        · have : j = k := by omega
          subst this
          go_wp2
          go_ret
          exact ⟨ret_bool (by simp), hbel.out⟩

end Go.Proofs.Ybulkbjla
