import Derived.Test.YbulkbjfcWd4
import Derived.Test.YbulkbjfcWc8
namespace Go.Proofs.Ybulkbjfc.TC
open Go.RowKit
open Go.ChangeMaps (setBlock)

/-- the join of two entries without steps: its mark, and how many steps (0 or 1) -/
def jq2 (aq bq : Int) : Int := if aq = 0 then bq else max aq bq
def jx2 (aq a b : Int) : Int := if aq = 0 then b else max a b
def jn2 (aq ad bq bd : Int) : Nat := if aq = 0 ∨ (bq ≤ aq ∧ bd ≤ ad) ∨ (aq ≤ bq ∧ ad ≤ bd) then 0 else 1

theorem joined_two (src : ByteArray) (fq fd fp kq kd kp : Int) (fo ko : Option Addr) (fc kc : Nat) (w : World) (hf : -9223372036854775808 ≤ fd) (hk : -9223372036854775808 ≤ kd) :
    Calls Yba.prog 24 #[.string src, .agg #[.int .u64 fq, .int .i64 fd, .int .u64 fp, .slice fo 0 fc], .agg #[.int .u64 kq, .int .i64 kd, .int .u64 kp, .slice ko 0 kc]] w
      (EPost (jq2 fq kq) (jx2 fq fd kd) (jx2 fq fp kp) (jn2 fq fd kq kd) (fun _ => src) (fun _ => min fq kq) (fun _ => min fd kd) w) := by
  by_cases h0 : fq = 0
  · subst h0
    simp only [jq2, jx2, jn2, if_true, true_or]
    exact (joined_zero src fd fp kq kd kp fo ko 0 fc 0 kc w).mono fun e w' ⟨h1, h2⟩ => ⟨ko, kc, h1, .inl rfl, h2⟩
  · simp only [jq2, jx2, jn2, h0, if_false, false_or]
    by_cases h1 : kq ≤ fq ∧ kd ≤ fd
    · rw [if_pos (.inl h1), Int.max_eq_left h1.1, Int.max_eq_left h1.2]
      exact (joined_f src fq fd fp kq kd kp fo ko fc kc w h0 h1.1 h1.2).mono fun e w' ⟨h1, h2⟩ => ⟨fo, fc, h1, .inl rfl, h2⟩
    · by_cases h2 : fq ≤ kq ∧ fd ≤ kd
      · rw [if_pos (.inr h2), Int.max_eq_right h2.1, Int.max_eq_right h2.2]
        exact (joined_k src fq fd fp kq kd kp fo ko fc kc w h0 h1 h2.1 h2.2).mono fun e w' ⟨h1, h2⟩ => ⟨ko, kc, h1, .inl rfl, h2⟩
      · rw [if_neg (by omega)]
        by_cases h3 : kq < fq
        · rw [Int.max_eq_left (by omega), Int.max_eq_right (by omega), Int.min_eq_right (by omega), Int.min_eq_left (by omega)]
          exact joined_A src fq fd fp kq kd kp fo ko fc kc w h0 h3 (by omega) hf
        · rw [Int.max_eq_right (by omega), Int.max_eq_left (by omega), Int.min_eq_left (by omega), Int.min_eq_right (by omega)]
          exact joined_B src fq fd fp kq kd kp fo ko fc kc w h0 (by omega) (by omega) hk

/-- 'mergeEarlier' of an entry without steps of the one source that the map holds, without steps -/
theorem merge_same (q d p aq ad ap : Int) (oo : Option Addr) (oc : Nat) (zc : Nat) (nb mb B : Nat) (w : World) (ha : -9223372036854775808 ≤ ad) (hd : -9223372036854775808 ≤ d)
    (hcell : w.cell? ⟨nb, 17, none⟩ = some (.map (some mb))) (hmap : w.heap[mb]? = some (.map #[⟨.string sX, .agg #[.int .u64 aq, .int .i64 ad, .int .u64 ap, .slice oo 0 oc], 0⟩] 1)) (hB : B ≤ mb) :
    Calls Yba.prog 16 #[.pointer (some ⟨nb, 0, none⟩), .agg #[.string sX, .int .u64 q, .int .i64 d, .int .u64 p, .slice none 0 zc]] w
      (MPost (chg true (jq2 aq q) (jx2 aq ad d) (jx2 aq ap p) (jn2 aq ad q d) aq ad ap) mb (fun v => #[⟨.string sX, v, 0⟩]) 1 (jq2 aq q) (jx2 aq ad d) (jx2 aq ap p) (jn2 aq ad q d) (fun _ => sX) (fun _ => min aq q) (fun _ => min ad d) B w) :=
  merge_core sX q d p none 0 zc aq ad ap oo oc true 0 (fun _ => sX) (fun _ => 0) (fun _ => 0) _ _ _ _ _ _ _ nb mb B _ 1 (fun v => #[⟨.string sX, v, 0⟩]) 1 w hcell hmap hB
    (fun _ => ⟨rfl, rfl⟩) (look_run _ mb _ 1 sX (heap_keep hmap _) _ (findXX _ _) true)
    (fun W _ => (entry_any sX q d p none 0 zc (fun _ => sX) (fun _ => 0) (fun _ => 0) W (by omega) (.inl rfl)).mono fun e w' ⟨ko, kc, h1, _, h3, _⟩ => ⟨ko, kc, h1, .inl rfl, h3⟩)
    (fun W ko kc _ => joined_two sX aq ad ap q d p oo ko oc kc W ha hd)
    (fun W v hW => upd_one W mb _ v 0 1 hW)

end Go.Proofs.Ybulkbjfc.TC
