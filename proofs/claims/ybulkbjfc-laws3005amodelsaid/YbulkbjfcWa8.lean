import Derived.Test.YbulkbjfcWa5
import Derived.Test.YbulkbjfcWa7
import Derived.Deep.RegionHeld3
namespace Go.Proofs.Ybulkbjfc.TA
open Go.RowKit

theorem tooBig_no {S : Nat → ByteArray} {n : Nat} (h : tooBig S n = false) : n ≤ 256 ∧ sumLen S n ≤ 1048576 := by
  simp [tooBig] at h
  omega

/-- 'lacks' of the table that a build made, at one of its own sources that is not the numbering own id -/
theorem lacks_at {K : List (ByteArray × Nat)} {eo so : Option Addr} {ec sc : Nat} {P O : Nat → Nat} {W : World} (hT : ∃ g, eo = some ⟨g, 0, none⟩ ∧ Tab W g (encAll K).length ec so K.length (encAll K) P O (keyAt K) (numAt K))
    (id src : ByteArray) (first earlier seq : Int) (W' : World) (hb : Below W.heap.size W W') :
    Calls Yba.prog 12 #[.agg #[.string id, .int .u64 first, .int .u64 earlier, .slice eo (encAll K).length ec, .slice so K.length sc], .agg #[.string src, .int .u64 seq]] W'
      fun e w' => e = .returned (.bool (lacksB id first earlier src seq (look (keyAt K) (numAt K) K.length src))) ∧ Below W.heap.size W w' ∧ ∀ a v, W'.cell? a = some v → w'.cell? a = some v := by
  obtain ⟨g, rfl, T⟩ := hT
  refine (lacks_any id src first earlier seq _ _ so _ ec K.length sc W' (fun V hV => ?_)).mono fun e w' h => ⟨h.1, hb.trans (h.2.mono hb.size), below_cells h.2⟩
  have T2 := T.mono (below_cells hb)
  exact get_some (T2.mono (below_cells hV)) sc src

set_option maxHeartbeats 400000 in
theorem thr_big (id : ByteArray) (first earlier : Int) (ao bo : Option Addr) (n m c1 c2 : Nat) (S : Nat → ByteArray) (w : World)
    (hs : RowAt w ao n fun i => .string (S i)) (hlen : ∀ i, i < n → (S i).size ≤ 140737488351232) (hbig : tooBig S n = true) :
    Calls Yba.prog 4 #[.string id, .int .u64 first, .int .u64 earlier, .slice ao n c1, .slice bo m c2] w fun e w' => e = .returned (.bool true) ∧ Below w.heap.size w w' := by
  have hc := toobig_any ao n c1 S w hs hlen
  rw [hbig] at hc
  clear hs hlen hbig
  go_enter Yba.func4, Yba.ntmps4
  go_wp2_with (go_at_call 9; refine hc.mono ?_; rintro e w' ⟨rfl, rfl⟩)
  go_ret
  exact ⟨rfl, Below.refl _ _⟩

theorem d_succ (d : Nat) (h : d < 18446744073709551616) (hm : ((d : Int) != 18446744073709551615) = true) : IntKind.u64.wrap ((d : Int) + 1) = (d : Int) + 1 := by
  have h1 : (d : Int) ≠ 18446744073709551615 := by simpa using hm
  have e : IntKind.u64.wrap ((d : Int) + 1) = ((d : Int) + 1) % 18446744073709551616 := by simp [IntKind.wrap, IntKind.bits, IntKind.signed]
  rw [e]
  omega
theorem d_succ' (d : Nat) : decide ((d : Int) < (d : Int) + 1) = true := decide_eq_true (by omega)

set_option maxRecDepth 4000 in
set_option maxHeartbeats 1000000 in
theorem thr_some (id : ByteArray) (first earlier : Int) (ao bo : Option Addr) (n m c1 c2 : Nat) (S : Nat → ByteArray) (D : Nat → Nat) (w : World)
    (hs : RowAt w ao n fun i => .string (S i)) (hlen : ∀ i, i < n → (S i).size ≤ 140737488351232) (hd : RowAt w bo m fun i => .int .u64 (D i)) (hD : ∀ i, i < m → D i < 18446744073709551616) (hbig : tooBig S n = false) :
    Calls Yba.prog 4 #[.string id, .int .u64 first, .int .u64 earlier, .slice ao n c1, .slice bo m c2] w fun e w' => e = .returned (.bool true) ∧ Below w.heap.size w w' := by
  have hc := toobig_any ao n c1 S w hs hlen
  rw [hbig] at hc
  obtain ⟨hn, hsum⟩ := tooBig_no hbig
  have hB := abuild_any ao bo n m c1 c2 S D (fun i => if i < m then D i else 0) w hn hsum hs hd hD (fun _ => rfl)
  clear hs hlen hbig hd hD
  go_enter Yba.func4, Yba.ntmps4
  go_wp2_with (first | (go_at_call 9; refine hc.mono ?_; rintro e w' ⟨rfl, rfl⟩) | (go_at_call 10; refine hB.mono ?_))
  clear hc hB
  rintro e w1 ⟨K, eo, so, uo, vo, ec, sc, uc, vc, P, O, hK, rfl, hu, hv, hT, hb1⟩
  have hKn : K.length ≤ 256 := by rw [hK]; exact Nat.le_trans (kept_len _ _ _) hn
  have hdist : Dist K := by rw [hK]; exact kept_dist _ _ _
  clear hK
  obtain ⟨N, hN⟩ : ∃ N, N = K.length := ⟨_, rfl⟩
  obtain ⟨L, hL⟩ : ∃ L, L = (encAll K).length := ⟨_, rfl⟩
  have HT : Hid (0 < N → ∀ (src : ByteArray) (seq : Int) (W' : World), Below w1.heap.size w1 W' →
      Calls Yba.prog 12 #[.agg #[.string id, .int .u64 first, .int .u64 earlier, .slice eo L ec, .slice so N sc], .agg #[.string src, .int .u64 seq]] W'
      fun e w' => e = .returned (.bool (lacksB id first earlier src seq (look (keyAt K) (numAt K) N src))) ∧ Below w1.heap.size w1 w' ∧ ∀ a v, W'.cell? a = some v → w'.cell? a = some v) := by
    show 0 < N → _
    rw [hN, hL]
    intro h0 src seq W' hW'
    exact lacks_at (hT h0) id src first earlier seq W' hW'
  have HDi : Hid (Dist K) := hdist
  have HNum : Hid (∀ a, a < N → numAt K a < 18446744073709551616) := by
    show ∀ a, a < N → _
    rw [hN]
    intro a ha
    obtain ⟨g, _, T⟩ := hT (by omega)
    exact T.hD a ha
  rw [← hN] at hu hv hKn
  have HN : Hid (N = K.length) := hN
  rw [← hN, ← hL]
  clear hT hdist hN hL
  go_wp2
  go_loopw [15] (fun x wr => ∃ k : Nat, k ≤ N ∧ x = .int .i64 k ∧ Below w1.heap.size w1 wr ∧ w1.heap.size + 1 < wr.heap.size ∧ wr.cell? ⟨w1.heap.size + 1, 0, none⟩ = some (.string id) ∧ wr.cell? ⟨w1.heap.size + 1, 1, none⟩ = some (.int .u64 first) ∧
      wr.cell? ⟨w1.heap.size + 1, 2, none⟩ = some (.int .u64 earlier) ∧ wr.cell? ⟨w1.heap.size + 1, 3, none⟩ = some (.slice eo L ec) ∧ wr.cell? ⟨w1.heap.size + 1, 4, none⟩ = some (.slice so N sc)) (fun x _ => N - (intOf x).toNat)
  case atStart => exact ⟨0, Nat.zero_le _, rfl, two_below _ _ _, by simp, by simp, by simp, by simp, by simp, by simp⟩
  case round =>
    obtain ⟨k, hk, rfl, hbel, hz, q0, q1, q2, q3, q4⟩ := hrel
    by_cases hkn : k < N
    · obtain ⟨gu, ou, rfl, hu'⟩ := hu.get hkn
      obtain ⟨gv, ov, rfl, hv'⟩ := hv.get hkn
      have u0 := below_cells hbel _ _ (hu' k hkn)
      have v0 := below_cells hbel _ _ (hv' k hkn)
      clear hu' hv'
      have hlook : look (keyAt K) (numAt K) N (keyAt K k) = numAt K k := look_some (fun a b ha hb => HDi.out a b (by rw [← HN.out]; exact ha) (by rw [← HN.out]; exact hb)) hkn rfl
      have hnum := HNum.out k hkn
      have cL0 := HT.out (by omega) (keyAt K k)
      rw [hlook] at cL0
      clear hlook
      generalize keyAt K k = u at *
      generalize numAt K k = d at *
      by_cases hown : (u.toList == id.toList) = true ∧ 0 < first
      · obtain ⟨h1, h2⟩ := hown
        clear cL0
        go_wp2
        go_roundw
        case rel => exact ⟨k + 1, by omega, by go_num, hbel, hz, q0, q1, q2, q3, q4⟩
        case measure => simp [intOf]; omega
      · have cL : Hid (∀ (seq : Int) (b : Bool) (W' : World), decide ((d : Int) < seq) = b → Below w1.heap.size w1 W' →
            Calls Yba.prog 12 #[.agg #[.string id, .int .u64 first, .int .u64 earlier, .slice eo L ec, .slice so N sc], .agg #[.string u, .int .u64 seq]] W'
            fun e w' => e = .returned (.bool b) ∧ Below w1.heap.size w1 w' ∧ ∀ a v, W'.cell? a = some v → w'.cell? a = some v) := by
          intro seq b W' hb hW'
          have := cL0 seq W' hW'
          rw [lacksB, if_neg hown, hb] at this
          exact this
        have hd : (u.toList == id.toList) = false ∨ ((u.toList == id.toList) = true ∧ ¬ 0 < first) := by
          cases e : (u.toList == id.toList) with
          | false => exact .inl rfl
          | true => exact .inr ⟨rfl, fun h5 => hown ⟨e, h5⟩⟩
        clear hown cL0
        have hki : (k : Int) < (N : Int) := by omega
        rcases hd with h1 | ⟨h1, h2⟩
        · go_wp2
          go_region_held3 (fun W => W.cell? ⟨w1.heap.size + 1, 0, none⟩ = some (.string id) ∧ W.cell? ⟨w1.heap.size + 1, 1, none⟩ = some (.int .u64 first) ∧ W.cell? ⟨w1.heap.size + 1, 2, none⟩ = some (.int .u64 earlier) ∧ W.cell? ⟨w1.heap.size + 1, 3, none⟩ = some (.slice eo L ec) ∧ W.cell? ⟨w1.heap.size + 1, 4, none⟩ = some (.slice so N sc) ∧ W.cell? ⟨gu, ou + k, none⟩ = some (.string u) ∧ W.cell? ⟨gv, ov + k, none⟩ = some (.int .u64 d)) (go_keep)
            (first | (go_at_call 12; refine (cL.out _ false _ (by simp) hbel.drew).mono ?_; rintro e w2 ⟨rfl, hb2, hc⟩; have y0 := hc _ _ q0; have y1 := hc _ _ q1; have y2 := hc _ _ q2; have y3 := hc _ _ q3; have y4 := hc _ _ q4; have y5 := hc _ _ u0; have y6 := hc _ _ v0; clear hc hbel q0 q1 q2 q3 q4 u0 v0))
          go_wp2
          go_region_held3 (fun W => W.cell? ⟨w1.heap.size + 1, 0, none⟩ = some (.string id) ∧ W.cell? ⟨w1.heap.size + 1, 1, none⟩ = some (.int .u64 first) ∧ W.cell? ⟨w1.heap.size + 1, 2, none⟩ = some (.int .u64 earlier) ∧ W.cell? ⟨w1.heap.size + 1, 3, none⟩ = some (.slice eo L ec) ∧ W.cell? ⟨w1.heap.size + 1, 4, none⟩ = some (.slice so N sc) ∧ W.cell? ⟨gu, ou + k, none⟩ = some (.string u) ∧ W.cell? ⟨gv, ov + k, none⟩ = some (.int .u64 d)) (go_keep)
            (first | (go_at_call 12; refine (cL.out _ false _ (by simp) hb2.drew).mono ?_; rintro e w3 ⟨rfl, hb3, hc⟩; have r0 := hc _ _ y0; have r1 := hc _ _ y1; have r2 := hc _ _ y2; have r3 := hc _ _ y3; have r4 := hc _ _ y4; have r5 := hc _ _ y5; have r6 := hc _ _ y6; clear hc hb2 y0 y1 y2 y3 y4 y5 y6))
          cases hmax : ((d : Int) != 18446744073709551615) with
          | true =>
            have hd1 := d_succ d hnum hmax
            have hd2 := d_succ' d
            go_wp2
            go_region_held3 (fun W => W.cell? ⟨w1.heap.size + 1, 0, none⟩ = some (.string id) ∧ W.cell? ⟨w1.heap.size + 1, 1, none⟩ = some (.int .u64 first) ∧ W.cell? ⟨w1.heap.size + 1, 2, none⟩ = some (.int .u64 earlier) ∧ W.cell? ⟨w1.heap.size + 1, 3, none⟩ = some (.slice eo L ec) ∧ W.cell? ⟨w1.heap.size + 1, 4, none⟩ = some (.slice so N sc) ∧ W.cell? ⟨gu, ou + k, none⟩ = some (.string u) ∧ W.cell? ⟨gv, ov + k, none⟩ = some (.int .u64 d)) (go_keep)
              (first | (go_at_call 12; refine (cL.out _ true _ hd2 hb3.drew).mono ?_; rintro e w4 ⟨rfl, hb4, hc⟩; have s0 := hc _ _ r0; have s1 := hc _ _ r1; have s2 := hc _ _ r2; have s3 := hc _ _ r3; have s4 := hc _ _ r4; have s5 := hc _ _ r5; have s6 := hc _ _ r6; clear hc hb3 r0 r1 r2 r3 r4 r5 r6))
            clear hmax hd1 hd2
            go_wp2
            go_roundw
            case rel => exact ⟨k + 1, by omega, by go_num, hb4, World.block_lt_of_cell? _ _ s0, s0, s1, s2, s3, s4⟩
            case measure => simp [intOf]; omega
          | false =>
            go_wp2
            go_quiet (fail)
            clear hmax
            go_wp2
            go_roundw
            case rel => exact ⟨k + 1, by omega, by go_num, below_drewN hb3 _, World.block_lt_of_cell? _ _ r0, r0, r1, r2, r3, r4⟩
            case measure => simp [intOf]; omega
        · go_wp2
          go_region_held3 (fun W => W.cell? ⟨w1.heap.size + 1, 0, none⟩ = some (.string id) ∧ W.cell? ⟨w1.heap.size + 1, 1, none⟩ = some (.int .u64 first) ∧ W.cell? ⟨w1.heap.size + 1, 2, none⟩ = some (.int .u64 earlier) ∧ W.cell? ⟨w1.heap.size + 1, 3, none⟩ = some (.slice eo L ec) ∧ W.cell? ⟨w1.heap.size + 1, 4, none⟩ = some (.slice so N sc) ∧ W.cell? ⟨gu, ou + k, none⟩ = some (.string u) ∧ W.cell? ⟨gv, ov + k, none⟩ = some (.int .u64 d)) (go_keep)
            (first | (go_at_call 12; refine (cL.out _ false _ (by simp) hbel.drew).mono ?_; rintro e w2 ⟨rfl, hb2, hc⟩; have y0 := hc _ _ q0; have y1 := hc _ _ q1; have y2 := hc _ _ q2; have y3 := hc _ _ q3; have y4 := hc _ _ q4; have y5 := hc _ _ u0; have y6 := hc _ _ v0; clear hc hbel q0 q1 q2 q3 q4 u0 v0))
          go_wp2
          go_region_held3 (fun W => W.cell? ⟨w1.heap.size + 1, 0, none⟩ = some (.string id) ∧ W.cell? ⟨w1.heap.size + 1, 1, none⟩ = some (.int .u64 first) ∧ W.cell? ⟨w1.heap.size + 1, 2, none⟩ = some (.int .u64 earlier) ∧ W.cell? ⟨w1.heap.size + 1, 3, none⟩ = some (.slice eo L ec) ∧ W.cell? ⟨w1.heap.size + 1, 4, none⟩ = some (.slice so N sc) ∧ W.cell? ⟨gu, ou + k, none⟩ = some (.string u) ∧ W.cell? ⟨gv, ov + k, none⟩ = some (.int .u64 d)) (go_keep)
            (first | (go_at_call 12; refine (cL.out _ false _ (by simp) hb2.drew).mono ?_; rintro e w3 ⟨rfl, hb3, hc⟩; have r0 := hc _ _ y0; have r1 := hc _ _ y1; have r2 := hc _ _ y2; have r3 := hc _ _ y3; have r4 := hc _ _ y4; have r5 := hc _ _ y5; have r6 := hc _ _ y6; clear hc hb2 y0 y1 y2 y3 y4 y5 y6))
          cases hmax : ((d : Int) != 18446744073709551615) with
          | true =>
            have hd1 := d_succ d hnum hmax
            have hd2 := d_succ' d
            go_wp2
            go_region_held3 (fun W => W.cell? ⟨w1.heap.size + 1, 0, none⟩ = some (.string id) ∧ W.cell? ⟨w1.heap.size + 1, 1, none⟩ = some (.int .u64 first) ∧ W.cell? ⟨w1.heap.size + 1, 2, none⟩ = some (.int .u64 earlier) ∧ W.cell? ⟨w1.heap.size + 1, 3, none⟩ = some (.slice eo L ec) ∧ W.cell? ⟨w1.heap.size + 1, 4, none⟩ = some (.slice so N sc) ∧ W.cell? ⟨gu, ou + k, none⟩ = some (.string u) ∧ W.cell? ⟨gv, ov + k, none⟩ = some (.int .u64 d)) (go_keep)
              (first | (go_at_call 12; refine (cL.out _ true _ hd2 hb3.drew).mono ?_; rintro e w4 ⟨rfl, hb4, hc⟩; have s0 := hc _ _ r0; have s1 := hc _ _ r1; have s2 := hc _ _ r2; have s3 := hc _ _ r3; have s4 := hc _ _ r4; have s5 := hc _ _ r5; have s6 := hc _ _ r6; clear hc hb3 r0 r1 r2 r3 r4 r5 r6))
            clear hmax hd1 hd2
            go_wp2
            go_roundw
            case rel => exact ⟨k + 1, by omega, by go_num, hb4, World.block_lt_of_cell? _ _ s0, s0, s1, s2, s3, s4⟩
            case measure => simp [intOf]; omega
          | false =>
            go_wp2
            go_quiet (fail)
            clear hmax
            go_wp2
            go_roundw
            case rel => exact ⟨k + 1, by omega, by go_num, below_drewN hb3 _, World.block_lt_of_cell? _ _ r0, r0, r1, r2, r3, r4⟩
            case measure => simp [intOf]; omega
    · go_wp2
      go_ret
      exact ⟨rfl, hb1.trans (hbel.mono hb1.size)⟩

end Go.Proofs.Ybulkbjfc.TA
