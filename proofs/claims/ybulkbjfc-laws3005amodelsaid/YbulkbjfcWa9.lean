import Derived.Test.YbulkbjfcWa8
import Derived.Deep.DeepCutAuto
import Derived.Deep.CutBlock
namespace Go.Proofs.Ybulkbjfc.TA
open Go.RowKit

set_option maxHeartbeats 400000 in
theorem mod_big (id qsrc : ByteArray) (first earlier pick ss qseq : Int) (ao bo : Option Addr) (n m c1 c2 : Nat) (S : Nat → ByteArray) (w : World)
    (hs : RowAt w ao n fun i => .string (S i)) (hlen : ∀ i, i < n → (S i).size ≤ 140737488351232) (hbig : tooBig S n = true) :
    Calls Yba.prog 3 #[.string id, .int .u64 first, .int .u64 earlier, .slice ao n c1, .slice bo m c2, .int .u8 pick, .string qsrc, .int .u8 ss, .int .u64 qseq] w fun e w' => e = .returned (.bool true) ∧ Below w.heap.size w w' := by
  have hc := toobig_any ao n c1 S w hs hlen
  rw [hbig] at hc
  clear hs hlen hbig
  go_enter Yba.func3, Yba.ntmps3
  go_wp2_with (go_at_call 9; refine hc.mono ?_; rintro e w' ⟨rfl, rfl⟩)
  go_ret
  exact ⟨rfl, Below.refl _ _⟩

set_option maxRecDepth 4000 in
set_option maxHeartbeats 1000000 in
theorem mod_some (id qsrc : ByteArray) (first earlier pick ss qseq : Int) (ao bo : Option Addr) (n m c1 c2 : Nat) (S : Nat → ByteArray) (D : Nat → Nat) (w : World)
    (hs : RowAt w ao n fun i => .string (S i)) (hlen : ∀ i, i < n → (S i).size ≤ 140737488351232) (hd : RowAt w bo m fun i => .int .u64 (D i)) (hD : ∀ i, i < m → D i < 18446744073709551616) (hbig : tooBig S n = false)
    (hp0 : 0 ≤ pick) (hp1 : pick ≤ 255) (hs0 : 0 ≤ ss) (hs1 : ss ≤ 255) :
    Calls Yba.prog 3 #[.string id, .int .u64 first, .int .u64 earlier, .slice ao n c1, .slice bo m c2, .int .u8 pick, .string qsrc, .int .u8 ss, .int .u64 qseq] w fun e w' => e = .returned (.bool true) ∧ Below w.heap.size w w' := by
  have hc := toobig_any ao n c1 S w hs hlen
  rw [hbig] at hc
  obtain ⟨hn, hsum⟩ := tooBig_no hbig
  have hB := abuild_any ao bo n m c1 c2 S D (fun i => if i < m then D i else 0) w hn hsum hs hd hD (fun _ => rfl)
  clear hs hlen hbig hd hD
  go_enter Yba.func3, Yba.ntmps3
  go_wp2_with (first | (go_at_call 9; refine hc.mono ?_; rintro e w' ⟨rfl, rfl⟩) | (go_at_call 10; refine hB.mono ?_))
  clear hc hB
  rintro e w1 ⟨K, eo, so, uo, vo, ec, sc, uc, vc, P, O, hK, rfl, hu, hv, hT, hb1⟩
  have hKn : K.length ≤ 256 := by rw [hK]; exact Nat.le_trans (kept_len _ _ _) hn
  clear hK
  obtain ⟨N, hN⟩ : ∃ N, N = K.length := ⟨_, rfl⟩
  obtain ⟨L, hL⟩ : ∃ L, L = (encAll K).length := ⟨_, rfl⟩
  have HT : Hid (∀ (src : ByteArray) (seq : Int) (W' : World), Below w1.heap.size w1 W' →
      Calls Yba.prog 12 #[.agg #[.string id, .int .u64 first, .int .u64 earlier, .slice eo L ec, .slice so N sc], .agg #[.string src, .int .u64 seq]] W'
      fun e w' => e = .returned (.bool (lacksB id first earlier src seq (look (keyAt K) (numAt K) N src))) ∧ Below w1.heap.size w1 w') := by
    show ∀ (src : ByteArray), _
    rw [hN, hL]
    intro src seq W' hW'
    by_cases h0 : 0 < K.length
    · exact (lacks_at (hT h0) id src first earlier seq W' hW').mono fun e w' h => ⟨h.1, h.2.1⟩
    · have e0 : K.length = 0 := by omega
      rw [e0, look_none (fun i hi => by omega)]
      exact (lacks_any id src first earlier seq _ _ so _ ec 0 sc W' (fun V hV => get_zero _ so sc src V ⟨_, _, _, rfl⟩)).mono fun e w' h => ⟨h.1, hW'.trans (h.2.mono hW'.size)⟩
  have HA : Hid (∀ (src : ByteArray) (W' : World), Below w1.heap.size w1 W' → Calls Yba.prog 11 #[.slice uo N uc, .slice vo N vc, .string src] W' fun e w' => e = .returned (.int .u64 (look (keyAt K) (numAt K) N src)) ∧ w' = W') := by
    show ∀ (src : ByteArray), _
    rw [hN]
    intro src W' hW'
    exact alookup_any uo vo K.length uc vc (keyAt K) (numAt K) src W' hKn (hu.mono (below_cells hW')) (hv.mono (below_cells hW'))
  rw [← hN] at hu hv hKn
  rw [← hN, ← hL]
  clear hT hN hL hv
  obtain ⟨p, hp⟩ : ∃ p : Nat, pick % ((N : Int) + 2) = (p : Int) := ⟨(pick % ((N : Int) + 2)).toNat, by
    have := Int.emod_nonneg pick (show (N : Int) + 2 ≠ 0 by omega)
    omega⟩
  go_upto_if 53 with fail
  go_cut [25] from 30 (fun s wx => (∃ src, s = .string src) ∧ Below w1.heap.size w1 wx ∧ w1.heap.size + 1 < wx.heap.size ∧ wx.cell? ⟨w1.heap.size + 1, 0, none⟩ = some (.string id) ∧ wx.cell? ⟨w1.heap.size + 1, 1, none⟩ = some (.int .u64 first) ∧ wx.cell? ⟨w1.heap.size + 1, 2, none⟩ = some (.int .u64 earlier) ∧ wx.cell? ⟨w1.heap.size + 1, 3, none⟩ = some (.slice eo L ec) ∧ wx.cell? ⟨w1.heap.size + 1, 4, none⟩ = some (.slice so N sc))
  case first =>
    by_cases hpn : p < N
    · obtain ⟨gu, ou, rfl, hu'⟩ := hu.get hpn
      have u0 := below_cells (two_below w1 (.cells #[.slice eo L ec, .slice so N sc] 29) (.cells #[.string id, .int .u64 first, .int .u64 earlier, .slice eo L ec, .slice so N sc] 33)) _ _ (hu' p hpn)
      clear hu' hu
      go_wp2
      go_meet
      exact ⟨⟨_, rfl⟩, two_below _ _ _, by simp, by simp, by simp, by simp, by simp, by simp⟩
    · go_wp2
      all_goals
        go_meet
        exact ⟨⟨_, rfl⟩, two_below _ _ _, by simp, by simp, by simp, by simp, by simp, by simp⟩
  case rest =>
    obtain ⟨⟨src, rfl⟩, hbel, hz, q0, q1, q2, q3, q4⟩ := hcut
    clear hu
    have ca := HA.out src wc hbel
    have cL := HT.out src
    go_wp2_with fail
    refine ca.mono ?_
    rintro e w2 ⟨rfl, rfl⟩
    clear ca HA HT
    generalize look (keyAt K) (numAt K) N src = lk at *
    go_upto_block 0 with fail
    go_cut [27] from 30 (fun s wx => (∃ seq : Int, s = .int .u64 seq) ∧ wx = w2)
    case first =>
      go_wp2
      all_goals
        go_meet
        exact ⟨⟨_, rfl⟩, rfl⟩
    case rest =>
      obtain ⟨⟨seq, rfl⟩, rfl⟩ := hcut
      have cM := cL seq wc hbel
      clear cL
      have fin : ∀ w3, Below w1.heap.size w1 w3 → Below w'.heap.size w' w3 := fun w3 h3 => hb1.trans (h3.mono hb1.size)
      by_cases hown : (src.toList == id.toList) = true ∧ 0 < first
      · rw [lacksB, if_pos hown] at cM
        obtain ⟨h1, h2⟩ := hown
        by_cases h3 : earlier < seq
        · have e3 : decide (earlier < seq) = true := decide_eq_true h3
          rw [e3, Bool.true_and] at cM
          go_wp2_with (go_at_call 12; refine cM.mono ?_; rintro e w3 ⟨rfl, hb3⟩)
          go_ret
          exact ⟨rfl, fin _ (by assumption)⟩
        · have e3 : decide (earlier < seq) = false := decide_eq_false h3
          rw [e3, Bool.false_and] at cM
          go_wp2_with (go_at_call 12; refine cM.mono ?_; rintro e w3 ⟨rfl, hb3⟩)
          go_ret
          exact ⟨rfl, fin _ (by assumption)⟩
      · rw [lacksB, if_neg hown] at cM
        have hd : (src.toList == id.toList) = false ∨ ((src.toList == id.toList) = true ∧ ¬ 0 < first) := by
          cases e : (src.toList == id.toList) with
          | false => exact .inl rfl
          | true => exact .inr ⟨rfl, fun h5 => hown ⟨e, h5⟩⟩
        clear hown
        rcases hd with h1 | ⟨h1, h2⟩
        · go_wp2_with (go_at_call 12; refine cM.mono ?_; rintro e w3 ⟨rfl, hb3⟩)
          go_ret
          exact ⟨rfl, fin _ (by assumption)⟩
        · go_wp2_with (go_at_call 12; refine cM.mono ?_; rintro e w3 ⟨rfl, hb3⟩)
          go_ret
          exact ⟨rfl, fin _ (by assumption)⟩

end Go.Proofs.Ybulkbjfc.TA
