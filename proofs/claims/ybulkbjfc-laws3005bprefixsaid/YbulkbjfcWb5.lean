import Derived.Test.YbulkbjfcWb4
import Derived.Deep.QuietTactic
import Derived.BigQuiet
import Derived.Deep.RegionWith
namespace Go.Proofs.Ybulkbjfc
open Go.RowKit

theorem ff_cases (F : Nat → Bool) (n : Nat) : ff F n = -1 ∨ ∃ k : Nat, k < n ∧ ff F n = k ∧ ff F k = -1 ∧ ff F (k + 1) = k := by
  induction n with
  | zero => exact .inl rfl
  | succ n ih =>
    rcases ih with h | ⟨k, hk, h1, h2, h3⟩
    · by_cases e : F n = true
      · exact .inl (ff_yes h e)
      · have e' : F n = false := by simpa using e
        exact .inr ⟨n, by omega, ff_no h e' (by omega), h, ff_no h e' (by omega)⟩
    · exact .inr ⟨k, by omega, by rw [ff_stay F n (n + 1) (by rw [h1]; omega) (by omega), h1], h2, h3⟩

theorem wrap_small (j : Nat) (h : j ≤ 1024) : wrap64 ((j : Int) + 1) = (j : Int) + 1 := by unfold wrap64; omega
theorem wrap_small' (j : Nat) (h : j ≤ 1024) : IntKind.i64.wrap ((j : Int) + 1) = (j : Int) + 1 := by rw [IntKind.wrap_i64]; omega

set_option maxHeartbeats 400000 in
theorem bprefix_big (dq dd : Int) (a : Option Addr) (n c : Nat) (w : World) (hn : 1024 < n) :
    Calls Yba.prog 6 #[.int .u64 dq, .int .i64 dd, .slice a n c] w fun e w' => e = .returned (.bool true) ∧ Below w.heap.size w w' := by
  have h : (1024 : Int) < (n : Int) := by omega
  go_enter Yba.func6, Yba.ntmps6
  go_wp2
  go_ret
  exact ⟨rfl, Below.refl _ _⟩

set_option maxHeartbeats 400000 in
theorem bprefix_nil (dq dd : Int) (w : World) :
    Calls Yba.prog 6 #[.int .u64 dq, .int .i64 dd, .slice none 0 0] w fun e w' => e = .returned (.bool true) ∧ Below w.heap.size w w' := by
  go_enter Yba.func6, Yba.ntmps6
  go_wp2_with (go_at_call 13; refine (bbuild_nil _).mono ?_; rintro e w' ⟨rfl, rfl⟩)
  refine (firstMisfit_zero _ _ _ _ _ _ _).mono ?_
  rintro e w1 ⟨rfl, hb1⟩
  go_wp2
  refine wp_loop_rounds 1 ?_
  rw [rounds_succ]
  go_wp2
  go_ret
  exact ⟨rfl, ((Below.refl _ _).alloc (Nat.le_refl _) _).trans (hb1.mono (by simp))⟩

set_option maxHeartbeats 400000 in
theorem bprefix_empty (dq dd : Int) (a : Addr) (c : Nat) (w : World) :
    Calls Yba.prog 6 #[.int .u64 dq, .int .i64 dd, .slice (some a) 0 c] w fun e w' => e = .returned (.bool true) ∧ Below w.heap.size w w' := by
  go_enter Yba.func6, Yba.ntmps6
  go_wp2_with fail
  refine (bbuild_empty _ _ _).mono ?_
  rintro e w1 ⟨rfl, hb1⟩
  obtain ⟨hc, hf⟩ := bcell hb1
  go_wp2_with fail
  refine (firstMisfit_zero _ _ _ _ _ _ _).mono ?_
  rintro e w2 ⟨rfl, hb2⟩
  go_wp2
  refine wp_loop_rounds 1 ?_
  rw [rounds_succ]
  go_wp2
  go_ret
  have hs := hb1.size
  simp at hs
  exact ⟨rfl, (((Below.refl _ _).alloc (Nat.le_refl _) _).trans (hb1.mono (by simp))).trans (hb2.mono (by omega))⟩

set_option maxHeartbeats 400000 in
theorem bprefix_some (dq dd : Int) (b off n c : Nat) (Q T : Nat → Int) (w : World) (hn : n ≤ 1024) (hb : b < w.heap.size)
    (h0 : ∀ i, i < n → w.cell? ⟨b, off + i * 2, none⟩ = some (.int .u64 (Q i))) (h1 : ∀ i, i < n → w.cell? ⟨b, off + i * 2 + 1, none⟩ = some (.int .i64 (T i))) :
    Calls Yba.prog 6 #[.int .u64 dq, .int .i64 dd, .slice (some ⟨b, off, none⟩) n c] w fun e w' => e = .returned (.bool true) ∧ Below w.heap.size w w' := by
  have h : ¬ (1024 : Int) < (n : Int) := by omega
  go_enter Yba.func6, Yba.ntmps6
  go_wp2_with fail
  refine (bbuild_any b off n c Q T _ hn (by simp; omega) ?_ ?_).mono ?_
  · intro i hi; rw [World.cell?_alloc_lt _ _ _ hb]; exact h0 i hi
  · intro i hi; rw [World.cell?_alloc_lt _ _ _ hb]; exact h1 i hi
  rintro e w1 ⟨rfl, hb1, z1, g0, g1, g2⟩
  obtain ⟨hc, hf⟩ := bcell hb1
  have z0 : w.heap.size < w1.heap.size := by simp at z1; omega
  have d0 : w1.cell? ⟨w.heap.size, 0, none⟩ = some (.string strA) := by rw [hc _ _ (by simp)]; simp; rfl
  have d1 : w1.cell? ⟨w.heap.size, 1, none⟩ = some (.int .u64 dq) := by rw [hc _ _ (by simp)]; simp
  have d2 : w1.cell? ⟨w.heap.size, 2, none⟩ = some (.int .i64 dd) := by rw [hc _ _ (by simp)]; simp
  have d3 : w1.cell? ⟨w.heap.size, 3, none⟩ = some (.int .u64 0) := by rw [hc _ _ (by simp)]; simp
  have r0 : ∀ i, i < n → w1.cell? ⟨b, off + i * 2, none⟩ = some (.int .u64 (Q i)) := fun i hi => by rw [hc _ _ (by simp; omega), World.cell?_alloc_lt _ _ _ hb]; exact h0 i hi
  have r1 : ∀ i, i < n → w1.cell? ⟨b, off + i * 2 + 1, none⟩ = some (.int .i64 (T i)) := fun i hi => by rw [hc _ _ (by simp; omega), World.cell?_alloc_lt _ _ _ hb]; exact h1 i hi
  have hbel : Below w.heap.size w w1 := ((Below.refl _ _).alloc (Nat.le_refl _) _).trans (hb1.mono (by simp))
  simp only [World.size_alloc] at z1 g0 g1 g2
  clear hc hf hb1
  have G0 : Hid (∀ i, i < n → w1.cell? ⟨w.heap.size + 1, 0 + i * 3, none⟩ = some (.string strA)) := g0
  have G1 : Hid (∀ i, i < n → w1.cell? ⟨w.heap.size + 1, 0 + i * 3 + 1, none⟩ = some (.int .u64 (Q i))) := g1
  have G2 : Hid (∀ i, i < n → w1.cell? ⟨w.heap.size + 1, 0 + i * 3 + 1 + 1, none⟩ = some (.int .i64 (T i))) := g2
  clear g0 g1 g2
  go_wp2_with fail
  refine (firstMisfit_any strA dq dd 0 (w.heap.size + 1) 0 n n (fun _ => strA) Q T w1 hn z1 G0.out G1.out G2.out).mono ?_
  rintro e w2 ⟨rfl, hb2⟩
  have z2 : w.heap.size + 1 < w2.heap.size := by have := hb2.size; omega
  have cc : ∀ b o v, w1.cell? ⟨b, o, none⟩ = some v → w2.cell? ⟨b, o, none⟩ = some v := fun b o v h => (hb2.cell (World.block_lt_of_cell? _ _ h)).trans h
  have e0 := cc _ _ _ d0
  have e1 := cc _ _ _ d1
  have e2 := cc _ _ _ d2
  have e3 := cc _ _ _ d3
  have t0 : ∀ i, i < n → w2.cell? ⟨b, off + i * 2, none⟩ = some (.int .u64 (Q i)) := fun i hi => cc _ _ _ (r0 i hi)
  have t1 : ∀ i, i < n → w2.cell? ⟨b, off + i * 2 + 1, none⟩ = some (.int .i64 (T i)) := fun i hi => cc _ _ _ (r1 i hi)
  have s0 : ∀ i, i < n → w2.cell? ⟨w.heap.size + 1, 0 + i * 3, none⟩ = some (.string strA) := fun i hi => cc _ _ _ (G0.out i hi)
  have s1 : ∀ i, i < n → w2.cell? ⟨w.heap.size + 1, 0 + i * 3 + 1, none⟩ = some (.int .u64 (Q i)) := fun i hi => cc _ _ _ (G1.out i hi)
  have s2 : ∀ i, i < n → w2.cell? ⟨w.heap.size + 1, 0 + i * 3 + 1 + 1, none⟩ = some (.int .i64 (T i)) := fun i hi => cc _ _ _ (G2.out i hi)
  have hbel2 : Below w.heap.size w w2 := hbel.trans (hb2.mono (by omega))
  clear G0 G1 G2 cc d0 d1 d2 d3 r0 r1 hbel hb2 z1
  obtain ⟨R, hR⟩ : ∃ R, R = ff (fitAt dq dd Q T) n := ⟨_, rfl⟩
  have HR : Hid (R = ff (fitAt dq dd Q T) n) := hR
  have hRl : -1 ≤ R := by rcases ff_cases (fitAt dq dd Q T) n with h | ⟨k, hk, h1, _, _⟩ <;> omega
  have hRu : R < n := by rcases ff_cases (fitAt dq dd Q T) n with h | ⟨k, hk, h1, _, _⟩ <;> omega
  rw [← hR]
  clear hR
  have S0 : Hid (∀ i, i < n → w2.cell? ⟨w.heap.size + 1, 0 + i * 3, none⟩ = some (.string strA)) := s0
  have S1 : Hid (∀ i, i < n → w2.cell? ⟨w.heap.size + 1, 0 + i * 3 + 1, none⟩ = some (.int .u64 (Q i))) := s1
  have S2 : Hid (∀ i, i < n → w2.cell? ⟨w.heap.size + 1, 0 + i * 3 + 1 + 1, none⟩ = some (.int .i64 (T i))) := s2
  have T0 : Hid (∀ i, i < n → w2.cell? ⟨b, off + i * 2, none⟩ = some (.int .u64 (Q i))) := t0
  have T1 : Hid (∀ i, i < n → w2.cell? ⟨b, off + i * 2 + 1, none⟩ = some (.int .i64 (T i))) := t1
  clear s0 s1 s2 t0 t1
  go_wp2
  go_loopw [10] (fun i wr => ∃ k m : Nat, k ≤ n ∧ i = .int .i64 k ∧ wr = w2.drewN m) (fun i _ => n - (intOf i).toNat)
  case atStart => exact ⟨0, 0, Nat.zero_le _, rfl, rfl⟩
  case round =>
    obtain ⟨k, m, hk, rfl, rfl⟩ := hrel
    by_cases hlt : k < n
    · have p0 : w2.cell? ⟨w.heap.size + 1, k * 3, none⟩ = some (.string ⟨#[97]⟩) := by have := S0.out k hlt; rw [Nat.zero_add] at this; exact this
      have p1 : w2.cell? ⟨w.heap.size + 1, k * 3 + 1, none⟩ = some (.int .u64 (Q k)) := by simpa using S1.out k hlt
      have p2 : w2.cell? ⟨w.heap.size + 1, k * 3 + 1 + 1, none⟩ = some (.int .i64 (T k)) := by simpa using S2.out k hlt
      have q0 := T0.out k hlt
      have q1 := T1.out k hlt
      have hli : (k : Int) < (n : Int) := by omega
      go_wp2
      go_quiet (fail)
      clear p0 p1 p2 q0 q1
      go_wp2
      go_roundw
      case rel => exact ⟨k + 1, _, by omega, by go_num, rfl⟩
      case measure => simp [intOf]; omega
    · rcases ff_cases (fitAt dq dd Q T) n with h | ⟨j, hj, h1, h2, h3⟩
      · obtain rfl : R = -1 := by have := HR.out; omega
        go_wp2
        go_ret
        exact ⟨rfl, below_drewN hbel2 _⟩
      · obtain rfl : R = (j : Int) := by have := HR.out; omega
        have H2 : Hid (ff (fitAt dq dd Q T) j = -1) := h2
        have H3 : Hid (ff (fitAt dq dd Q T) (j + 1) = j) := h3
        clear h1 h2 h3 HR
        have hji : ((j : Int) == -1) = false := by simp
        go_wp2
        have call : ∀ (W : World) (jj : Nat), Below w2.heap.size w2 W → jj ≤ n → Calls Yba.prog 14 #[.agg #[.string strA, .int .u64 dq, .int .i64 dd, .int .u64 0], .slice (some ⟨w.heap.size + 1, 0, none⟩) jj n] W
            fun e w' => e = .returned (.int .i64 (ff (fitAt dq dd Q T) jj)) ∧ Below w2.heap.size w2 w' := fun W jj hW hjj =>
          (firstMisfit_any strA dq dd 0 (w.heap.size + 1) 0 jj n (fun _ => strA) Q T W (by omega) (by have := hW.size; omega) (fun i hi => (hW.cell z2).trans (S0.out i (by omega))) (fun i hi => (hW.cell z2).trans (S1.out i (by omega))) (fun i hi => (hW.cell z2).trans (S2.out i (by omega)))).mono
            fun e w' h => ⟨h.1, hW.trans (h.2.mono hW.size)⟩
        go_region_with (go_at_call 14; refine (call _ _ (below_drewN (Below.refl _ _) _) (by omega)).mono ?_; rintro e w3 ⟨rfl, hb3⟩; rw [H2.out])
        all_goals
          rename_i w3 hb3
          have y0 := (hb3.cell (p := ⟨w.heap.size, 0, none⟩) (by show w.heap.size < _; omega)).trans e0
          have y1 := (hb3.cell (p := ⟨w.heap.size, 1, none⟩) (by show w.heap.size < _; omega)).trans e1
          have y2 := (hb3.cell (p := ⟨w.heap.size, 2, none⟩) (by show w.heap.size < _; omega)).trans e2
          have y3 := (hb3.cell (p := ⟨w.heap.size, 3, none⟩) (by show w.heap.size < _; omega)).trans e3
          go_wp2
          have hj1 : (j : Int) + 1 ≤ (n : Int) := by omega
          have hj3 : (0 : Int) ≤ (j : Int) + 1 := by omega
          have hj4 := wrap_small j (by omega)
          have hj5 := wrap_small' j (by omega)
          go_region_with (go_at_call 14; refine (call _ _ hb3.drew (by omega)).mono ?_; rintro e w4 ⟨rfl, hb4⟩; rw [H3.out])
          all_goals
            rename_i w4 hb4
            go_wp2
            go_ret
            exact ⟨ret_bool (by simp), hbel2.trans (hb4.mono (by omega))⟩

end Go.Proofs.Ybulkbjfc
