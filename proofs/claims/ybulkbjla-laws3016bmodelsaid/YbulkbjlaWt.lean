import Derived.Test.YbulkbjlaRows
import Derived.WalkKit
import Derived.WalkSpells
import Derived.WalkLawsBesides
import Derived.RegionTactic
import Derived.BigRegion
import Derived.Lib.SliceRun
namespace Go.Proofs.Ybulkbjla
open Go.RowKit

/-- a slice's cells: the slice is empty, or it leads to n cells (one a place) -/
def RowAt (w : World) (ao : Option Addr) (n : Nat) (f : Nat → Value) : Prop :=
  n = 0 ∨ ∃ g o, ao = some ⟨g, o, none⟩ ∧ ∀ i, i < n → w.cell? ⟨g, o + i, none⟩ = some (f i)
theorem RowAt.get {w : World} {ao : Option Addr} {n : Nat} {f : Nat → Value} (h : RowAt w ao n f) {k : Nat} (hk : k < n) :
    ∃ g o, ao = some ⟨g, o, none⟩ ∧ ∀ i, i < n → w.cell? ⟨g, o + i, none⟩ = some (f i) := by
  rcases h with h | h
  · omega
  · exact h
theorem RowAt.mono {w w' : World} {ao : Option Addr} {n : Nat} {f : Nat → Value} (h : RowAt w ao n f) (hc : ∀ a v, w.cell? a = some v → w'.cell? a = some v) : RowAt w' ao n f := by
  rcases h with h | ⟨g, o, h1, h2⟩
  · exact .inl h
  · exact .inr ⟨g, o, h1, fun i hi => hc _ _ (h2 i hi)⟩
theorem below_cells {w w' : World} (hb : Below w.heap.size w w') : ∀ a v, w.cell? a = some v → w'.cell? a = some v :=
  fun a _ h => (hb.cell (World.block_lt_of_cell? w a h)).trans h
theorem ret_bool {a b : Bool} (h : a = b) : Ending.returned (.bool a) = .returned (.bool b) := by rw [h]

theorem Yba.info36 : (Yba.prog.info? 36).map (fun i => (i.zero, i.size, i.bytes)) = some (some (.agg #[.string ⟨#[]⟩, .int .i64 0]), 2, 24) := by kernel_rfl
/-- the cells of a new row of n zero tokens -/
def zeroToks (n : Nat) : Array Value := madeCells #[.string ⟨#[]⟩, .int .i64 0] (n * 2)
theorem make_toks (n : Nat) (hn : n ≤ 1024) (w : World) :
    (Instr.makeSlice 25 (.int .i64 (n : Int)) (.int .i64 (n : Int))).run Yba.prog w = .ok (.slice (some ⟨w.heap.size, 0, none⟩) n n) (w.alloc (.cells (zeroToks n) 36)) := by
  obtain ⟨i, hi, hzz⟩ := Option.map_eq_some_iff.1 Yba.info36
  simp only [Prod.mk.injEq] at hzz
  obtain ⟨hz, hs, hb⟩ := hzz
  have hr := run_make (P := Yba.prog) w 25 36 i _ Yba.underlying25 hi hz .i64 .i64 n n (by omega) (Int.le_refl _) (by rw [hb]; omega) (by omega)
  simp only [Int.toNat_natCast, hs] at hr
  exact hr
theorem zeroToks_size (n : Nat) : (zeroToks n).size = n * 2 := by simp [zeroToks, size_madeCells]

theorem two_cells {wr : World} {N m : Nat} {v0 v1 : Value} (h0 : ∃ v, wr.cell? ⟨N, m, none⟩ = some v) (h1 : ∃ v, wr.cell? ⟨N, m + 1, none⟩ = some v) :
    (∀ o, o < m ∨ m + 1 < o → ((wr.setCell ⟨N, m, none⟩ v0).setCell ⟨N, m + 1, none⟩ v1).cell? ⟨N, o, none⟩ = wr.cell? ⟨N, o, none⟩) ∧
    ((wr.setCell ⟨N, m, none⟩ v0).setCell ⟨N, m + 1, none⟩ v1).cell? ⟨N, m, none⟩ = some v0 ∧
    ((wr.setCell ⟨N, m, none⟩ v0).setCell ⟨N, m + 1, none⟩ v1).cell? ⟨N, m + 1, none⟩ = some v1 := by
  obtain ⟨u0, h0⟩ := h0
  obtain ⟨u1, h1⟩ := h1
  refine ⟨fun o ho => ?_, ?_, ?_⟩
  · rw [World.cell?_setCell_other, World.cell?_setCell_other] <;> (simp; try omega)
  · rw [World.cell?_setCell_other, World.cell?_setCell_same _ _ _ h0] <;> simp
  · rw [World.cell?_setCell_same (u := u1)]
    rw [World.cell?_setCell_other, h1] <;> simp

set_option maxHeartbeats 400000 in
theorem toks_any (ao : Option Addr) (n c : Nat) (S : Nat → ByteArray) (w : World) (hn : n ≤ 1024) (hs : RowAt w ao n fun i => .string (S i)) :
    Calls Yba.prog 5 #[.slice ao n c] w fun e w' => e = .returned (.slice (some ⟨w.heap.size, 0, none⟩) n n) ∧ Below w.heap.size w w' ∧ w.heap.size < w'.heap.size ∧
      (∀ i, i < n → w'.cell? ⟨w.heap.size, i * 2, none⟩ = some (.string (S i))) := by
  have hmk := make_toks n hn
  go_enter Yba.func5, Yba.ntmps5
  go_wp2
  go_loopw [4] (fun i wr => ∃ k : Nat, k ≤ n ∧ i = .int .i64 k ∧ Below w.heap.size w wr ∧ w.heap.size < wr.heap.size ∧ (∀ o, o < n * 2 → ∃ v, wr.cell? ⟨w.heap.size, o, none⟩ = some v) ∧ (∀ o, o < n * 2 → wr.frozen? ⟨w.heap.size, o, none⟩ = false) ∧
      (∀ i, i < k → wr.cell? ⟨w.heap.size, i * 2, none⟩ = some (.string (S i))))
    (fun i _ => n - (intOf i).toNat)
  case atStart =>
    refine ⟨0, Nat.zero_le _, rfl, (Below.refl _ _).alloc (Nat.le_refl _) _, by simp, ?_, ?_, by omega⟩
    · intro o ho
      have hs := zeroToks_size n
      simp [ho, hs]
    · intro o ho
      simp
  case round =>
    obtain ⟨k, hk, rfl, hbel, hsz, hex, hfr, g0⟩ := hrel
    by_cases hlt : k < n
    · obtain ⟨g, o, rfl, hs'⟩ := (hs.mono (below_cells hbel)).get hlt
      have c0 := hs' k hlt
      clear hs'
      obtain ⟨v0, e0⟩ := hex (k * 2) (by omega)
      obtain ⟨v1, e1⟩ := hex (k * 2 + 1) (by omega)
      have f0 := hfr (k * 2) (by omega)
      have f1 := hfr (k * 2 + 1) (by omega)
      have hli : (k : Int) < (n : Int) := by omega
      go_wp2
      clear e0 e1 f0 f1 c0
      go_roundw
      case rel =>
        have R := two_cells (wr := wr) (N := w.heap.size) (m := k * 2) (v0 := .string (S k)) (v1 := .int .i64 k) (hex _ (by omega)) (hex _ (by omega))
        obtain ⟨r0, r1, r2⟩ := R
        refine ⟨k + 1, by omega, by go_num, ((hbel.setCell (Nat.le_refl _) _).setCell (Nat.le_refl _) _), by simpa using hsz, ?_, ?_, ?_⟩
        · intro o ho
          by_cases q1 : o = k * 2
          · subst q1; exact ⟨_, r1⟩
          by_cases q2 : o = k * 2 + 1
          · subst q2; exact ⟨_, r2⟩
          obtain ⟨v, hv⟩ := hex o ho
          exact ⟨v, (r0 o (by omega)).trans hv⟩
        · intro o ho
          simpa using hfr o ho
        · intro i hi
          by_cases q1 : i = k
          · subst q1; exact r1
          exact (r0 _ (by omega)).trans (g0 i (by omega))
      case measure => simp [intOf]; omega
    · go_wp2
      go_ret
      have : k = n := by omega
      subst this
      exact ⟨rfl, hbel, hsz, g0⟩

/-- what 'outranks' answers -/
def outr (S : Nat → ByteArray) (i : Nat) (best : Int) : Bool :=
  decide (best < 0) || (decide ((S best.toNat).size < (S i).size) || (decide ((S i).size = (S best.toNat).size) && decide ((i : Int) < best)))

set_option maxHeartbeats 400000 in
theorem outranks_neg (cb i : Nat) (best : Int) (w : World) (hb : best < 0) :
    Calls Yba.prog 6 #[.pointer (some ⟨cb, 0, none⟩), .int .i64 i, .int .i64 best] w fun e w' => e = .returned (.bool true) ∧ w' = w := by
  go_enter Yba.func6, Yba.ntmps6
  go_wp2
  go_ret
  exact ⟨rfl, rfl⟩

set_option maxHeartbeats 400000 in
theorem outranks_any (cb tb n i j : Nat) (S : Nat → ByteArray) (w : World) (hi : i < n) (hj : j < n)
    (hl : ∀ i, i < n → (S i).size ≤ 140737488351232)
    (hc : w.cell? ⟨cb, 2, none⟩ = some (.slice (some ⟨tb, 0, none⟩) n n)) (ht : ∀ i, i < n → w.cell? ⟨tb, i * 2, none⟩ = some (.string (S i))) :
    Calls Yba.prog 6 #[.pointer (some ⟨cb, 0, none⟩), .int .i64 i, .int .i64 j] w fun e w' => e = .returned (.bool (outr S i j)) ∧ w' = w.drew := by
  have t0 := ht i hi
  have t1 := ht j hj
  have l0 := hl i hi
  have l1 := hl j hj
  clear ht hl
  have h1 : (i : Int) < (n : Int) := by omega
  have h2 : (j : Int) < (n : Int) := by omega
  go_enter Yba.func6, Yba.ntmps6
  go_wp2
  go_region
  go_wp2
  all_goals
    go_ret
    refine ⟨ret_bool ?_, rfl⟩
    simp only [outr, Int.toNat_natCast]
    rw [Bool.eq_iff_iff]
    simp
    omega

/-- 'outranks' over a catalogue at block cb whose tokens are the texts S: the answer -/
theorem outranks_all (cb tb n i : Nat) (best : Int) (S : Nat → ByteArray) (w : World) (hi : i < n) (hj : best < n)
    (hl : ∀ i, i < n → (S i).size ≤ 140737488351232)
    (hc : w.cell? ⟨cb, 2, none⟩ = some (.slice (some ⟨tb, 0, none⟩) n n)) (ht : ∀ i, i < n → w.cell? ⟨tb, i * 2, none⟩ = some (.string (S i))) :
    Calls Yba.prog 6 #[.pointer (some ⟨cb, 0, none⟩), .int .i64 i, .int .i64 best] w fun e w' => e = .returned (.bool (outr S i best)) ∧ Below w.heap.size w w' := by
  by_cases hb : best < 0
  · refine (outranks_neg cb i best w hb).mono ?_
    rintro e w' ⟨rfl, rfl⟩
    exact ⟨ret_bool (by simp [outr, hb]), Below.refl _ _⟩
  · obtain ⟨j, rfl⟩ := Int.eq_ofNat_of_zero_le (Int.not_lt.1 hb)
    refine (outranks_any cb tb n i j S w hi (by omega) hl hc ht).mono ?_
    rintro e w' ⟨rfl, rfl⟩
    exact ⟨rfl, (Below.refl _ _).drew⟩

end Go.Proofs.Ybulkbjla
