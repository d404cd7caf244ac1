import Derived.Test.YbulkbjfcWb
namespace Go.Proofs.Ybulkbjfc
open Go.RowKit

/-- the value before place k, or 0 -/
def prevI (Q : Nat → Int) (k : Nat) : Int := if k = 0 then 0 else Q (k - 1)
def prevS (S : Nat → ByteArray) (k : Nat) : ByteArray := if k = 0 then ByteArray.empty else S (k - 1)
theorem prevI_succ (Q : Nat → Int) (k : Nat) : prevI Q (k + 1) = Q k := by simp [prevI]
theorem prevS_succ (S : Nat → ByteArray) (k : Nat) : prevS S (k + 1) = S k := by simp [prevS]

/-- whether the step at place k fits -/
def fitAt (dq dd : Int) (Q T : Nat → Int) (k : Nat) : Bool := fitsB dq dd (prevI Q k) (prevI T k) (Q k) (T k)

/-- the first place below n where F is false, or -1 -/
def ff (F : Nat → Bool) : Nat → Int
  | 0 => -1
  | n + 1 => if ff F n = -1 then (if F n then -1 else n) else ff F n
theorem ff_stay (F : Nat → Bool) (m n : Nat) (h : ff F m ≠ -1) (hmn : m ≤ n) : ff F n = ff F m := by
  induction n with
  | zero => have : m = 0 := by omega
            subst this; rfl
  | succ n ih =>
    by_cases e : m = n + 1
    · rw [e]
    · have := ih (by omega)
      simp [ff, this, h]
theorem ff_yes {F : Nat → Bool} {k : Nat} (h : ff F k = -1) (hF : F k = true) : ff F (k + 1) = -1 := by simp [ff, h, hF]
theorem ff_no {F : Nat → Bool} {k n : Nat} (h : ff F k = -1) (hF : F k = false) (hn : k < n) : ff F n = k := by
  have h1 : ff F (k + 1) = k := by simp [ff, h, hF]
  rw [ff_stay F (k + 1) n (by rw [h1]; omega) (by omega), h1]

theorem bcell {W w1 : World} (hb : Below W.heap.size W w1) : (∀ b o, b < W.heap.size → w1.cell? ⟨b, o, none⟩ = W.cell? ⟨b, o, none⟩) ∧ (∀ b o, b < W.heap.size → w1.frozen? ⟨b, o, none⟩ = W.frozen? ⟨b, o, none⟩) :=
  ⟨fun b o h => hb.cell (p := ⟨b, o, none⟩) h, fun b o h => hb.frozen (p := ⟨b, o, none⟩) h⟩

theorem ret_int {k : IntKind} {a b : Int} (h : a = b) : Ending.returned (.int k a) = .returned (.int k b) := by rw [h]

set_option maxHeartbeats 400000 in
theorem firstMisfit_any (s0 : ByteArray) (dq dd dp : Int) (b off n c : Nat) (S : Nat → ByteArray) (Q T : Nat → Int) (w : World) (hn : n ≤ 1024) (hb : b < w.heap.size)
    (h0 : ∀ i, i < n → w.cell? ⟨b, off + i * 3, none⟩ = some (.string (S i))) (h1 : ∀ i, i < n → w.cell? ⟨b, off + i * 3 + 1, none⟩ = some (.int .u64 (Q i)))
    (h2 : ∀ i, i < n → w.cell? ⟨b, off + i * 3 + 1 + 1, none⟩ = some (.int .i64 (T i))) :
    Calls Yba.prog 14 #[.agg #[.string s0, .int .u64 dq, .int .i64 dd, .int .u64 dp], .slice (some ⟨b, off, none⟩) n c] w
      fun e w' => e = .returned (.int .i64 (ff (fitAt dq dd Q T) n)) ∧ Below w.heap.size w w' := by
  go_enter Yba.func14, Yba.ntmps14
  go_wp2
  go_loopw [10] (fun i wr => ∃ k : Nat, k ≤ n ∧ i = .int .i64 k ∧ ff (fitAt dq dd Q T) k = -1 ∧ Below w.heap.size w wr ∧ w.heap.size + 2 ≤ wr.heap.size ∧
      wr.cell? ⟨w.heap.size, 0, none⟩ = some (.string s0) ∧ wr.cell? ⟨w.heap.size, 1, none⟩ = some (.int .u64 dq) ∧ wr.cell? ⟨w.heap.size, 2, none⟩ = some (.int .i64 dd) ∧ wr.cell? ⟨w.heap.size, 3, none⟩ = some (.int .u64 dp) ∧
      wr.cell? ⟨w.heap.size + 1, 0, none⟩ = some (.string (prevS S k)) ∧ wr.cell? ⟨w.heap.size + 1, 1, none⟩ = some (.int .u64 (prevI Q k)) ∧ wr.cell? ⟨w.heap.size + 1, 2, none⟩ = some (.int .i64 (prevI T k)) ∧
      wr.frozen? ⟨w.heap.size + 1, 0, none⟩ = false ∧ wr.frozen? ⟨w.heap.size + 1, 1, none⟩ = false ∧ wr.frozen? ⟨w.heap.size + 1, 2, none⟩ = false)
    (fun i _ => n - (intOf i).toNat)
  case atStart => 
    refine ⟨0, Nat.zero_le _, rfl, rfl, ((Below.refl _ _).alloc (Nat.le_refl _) _).alloc (by simp) _, by simp, ?_⟩
    simp [prevI, prevS]
    rfl
  case round =>
    obtain ⟨k, hk, rfl, hff, hbel, hsz, d0, d1, d2, d3, a0, a1, a2, f0, f1, f2⟩ := hrel
    by_cases hlt : k < n
    · have c0 : wr.cell? ⟨b, off + k * 3, none⟩ = some (.string (S k)) := (hbel.cell (p := ⟨b, _, none⟩) hb).trans (h0 k hlt)
      have c1 : wr.cell? ⟨b, off + k * 3 + 1, none⟩ = some (.int .u64 (Q k)) := (hbel.cell (p := ⟨b, _, none⟩) hb).trans (h1 k hlt)
      have c2 : wr.cell? ⟨b, off + k * 3 + 1 + 1, none⟩ = some (.int .i64 (T k)) := (hbel.cell (p := ⟨b, _, none⟩) hb).trans (h2 k hlt)
      have z0 : w.heap.size < wr.heap.size := by omega
      have z1 : w.heap.size + 1 < wr.heap.size := by omega
      go_wp2_with fail
      by_cases hF : fitAt dq dd Q T k = true
      · refine (stepFits_yes _ _ _ _ _ _ _ _ _ _ _ hF).mono ?_
        rintro e w1 ⟨rfl, hb1⟩
        obtain ⟨hc, hf⟩ := bcell hb1
        have z2 : w.heap.size + 1 < w1.heap.size := by have := hb1.size; simp at this; omega
        have z3 : wr.heap.size < w1.heap.size := by have := hb1.size; simp at this; omega
        go_wp2
        go_roundw
        case rel => 
          refine ⟨k + 1, by omega, by go_num, ff_yes hff hF, ((((hbel.alloc (by omega) _).trans (hb1.mono (by simp; omega))).setCell (by simp) _).setCell (by simp) _).setCell (by simp) _, by simp; omega, ?_⟩
          rw [prevI_succ, prevI_succ, prevS_succ]
          go_simp
        case measure => simp [intOf]; omega
      · have hF' : fitAt dq dd Q T k = false := by simpa using hF
        refine (stepFits_no _ _ _ _ _ _ _ _ _ _ _ hF').mono ?_
        rintro e w1 ⟨rfl, hb1⟩
        obtain ⟨hc, hf⟩ := bcell hb1
        go_wp2
        go_ret
        exact ⟨ret_int (ff_no hff hF' hlt).symm, (hbel.alloc (by omega) _).trans (hb1.mono (by simp; omega))⟩
    · go_wp2
      go_ret
      have : k = n := by omega
      subst this
      exact ⟨ret_int hff.symm, hbel⟩

end Go.Proofs.Ybulkbjfc
