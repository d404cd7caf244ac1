import Derived.Test.YbulkbjfcWd2
namespace Go.Proofs.Ybulkbjfc.TC
open Go.RowKit

theorem idx_0 (fo ko : Option Addr) (fc kc : Nat) (W : World) : (Instr.index 114 (.agg #[.slice fo 0 fc, .slice ko 0 kc]) (.int .i64 0)).run Yba.prog W = .ok (.slice fo 0 fc) W := by kernel_rfl
theorem idx_1 (fo ko : Option Addr) (fc kc : Nat) (W : World) : (Instr.index 114 (.agg #[.slice fo 0 fc, .slice ko 0 kc]) (.int .i64 1)).run Yba.prog W = .ok (.slice ko 0 kc) W := by kernel_rfl

theorem reach_past (q d p r : Int) (so : Option Addr) (sc : Nat) (w : World) (h : q ≤ r) :
    Calls Yba.prog 34 #[.agg #[.int .u64 q, .int .i64 d, .int .u64 p, .slice so 0 sc], .int .u64 r] w fun e w' => e = .returned (.int .i64 (-9223372036854775808)) ∧ Below w.heap.size w w' := by
  have := reach_none q d p r so sc w
  rw [if_pos h] at this
  exact this
theorem reach_not (q d p r : Int) (so : Option Addr) (sc : Nat) (w : World) (h : ¬ q ≤ r) :
    Calls Yba.prog 34 #[.agg #[.int .u64 q, .int .i64 d, .int .u64 p, .slice so 0 sc], .int .u64 r] w fun e w' => e = .returned (.int .i64 d) ∧ Below w.heap.size w w' := by
  have := reach_none q d p r so sc w
  rw [if_neg h] at this
  exact this

/-- the one appended step, where it lies -/
theorem own_one {w : World} {B : Nat} {vo : Option Addr} {vc : Nat} {s : ByteArray} {q d : Int} (h : w.ownsRow B 51 3 (.slice vo 1 vc) 1 [.string s, .int .u64 q, .int .i64 d]) :
    ∃ g, vo = some ⟨g, 0, none⟩ ∧ B ≤ g ∧ w.cell? ⟨g, 0, none⟩ = some (.string s) ∧ w.cell? ⟨g, 1, none⟩ = some (.int .u64 q) ∧ w.cell? ⟨g, 2, none⟩ = some (.int .i64 d) := by
  rcases h.2 with ⟨h1, _⟩ | ⟨g, cap, cur, hv, hg, _⟩
  · cases h1
  · simp at hv
    obtain ⟨rfl, rfl⟩ := hv
    exact ⟨g, rfl, hg, by rw [h.cellAt 0 (by omega)]; rfl, by rw [h.cellAt 1 (by omega)]; rfl, by rw [h.cellAt 2 (by omega)]; rfl⟩
/-- the five stores at the end of 'joined' leave the new step alone -/
theorem steps_five {w : World} {g N M : Nat} {s : ByteArray} {q d : Int} {a b c e f : Value} (hN : N ≠ g) (hM : M ≠ g) (h0 : w.cell? ⟨g, 0, none⟩ = some (.string s)) (h1 : w.cell? ⟨g, 1, none⟩ = some (.int .u64 q)) (h2 : w.cell? ⟨g, 2, none⟩ = some (.int .i64 d)) :
    StepsAt (((((w.setCell ⟨N, 3, none⟩ a).setCell ⟨M, 0, none⟩ b).setCell ⟨M, 1, none⟩ c).setCell ⟨M, 2, none⟩ e).setCell ⟨M, 3, none⟩ f) (some ⟨g, 0, none⟩) 1 (fun _ => s) (fun _ => q) (fun _ => d) := by
  have hk : ∀ o, (((((w.setCell ⟨N, 3, none⟩ a).setCell ⟨M, 0, none⟩ b).setCell ⟨M, 1, none⟩ c).setCell ⟨M, 2, none⟩ e).setCell ⟨M, 3, none⟩ f).cell? ⟨g, o, none⟩ = w.cell? ⟨g, o, none⟩ := fun o => by
    rw [World.cell?_setCell_other, World.cell?_setCell_other, World.cell?_setCell_other, World.cell?_setCell_other, World.cell?_setCell_other] <;> (simp; try omega)
  refine .inr ⟨g, 0, rfl, fun i hi => ?_⟩
  obtain rfl : i = 0 := by omega
  exact ⟨(hk 0).trans h0, (hk 1).trans h1, (hk 2).trans h2⟩

set_option maxRecDepth 8000 in
set_option maxHeartbeats 800000 in
theorem joined_A (src : ByteArray) (fq fd fp kq kd kp : Int) (fo ko : Option Addr) (fc kc : Nat) (w : World) (h0 : ¬ fq = 0) (g1 : kq < fq) (g2 : fd < kd) (hd : -9223372036854775808 ≤ fd) :
    Calls Yba.prog 24 #[.string src, .agg #[.int .u64 fq, .int .i64 fd, .int .u64 fp, .slice fo 0 fc], .agg #[.int .u64 kq, .int .i64 kd, .int .u64 kp, .slice ko 0 kc]] w
      (EPost fq kd (max fp kp) 1 (fun _ => src) (fun _ => kq) (fun _ => fd) w) := by
  obtain ⟨jp, hjp⟩ : ∃ jp, jp = max fp kp := ⟨_, rfl⟩
  rw [← hjp]
  go_enter Yba.func24, Yba.ntmps24
  go_upto_region 3 with fail
  go_cut [7] from 8 (fun t7 wc => t7 = .pointer (some ⟨w.heap.size + 1 + 1 + 1, 0, none⟩) ∧ wc = (((w.alloc (.cells #[.int .u64 fq, .int .i64 fd, .int .u64 fp, .slice fo 0 fc] 64)).alloc (.cells #[.int .u64 kq, .int .i64 kd, .int .u64 kp, .slice ko 0 kc] 64)).alloc (.cells #[.int .u64 0, .int .i64 0, .int .u64 0, .slice none 0 0] 64)).alloc (.cells #[.int .u64 fq, .int .i64 kd, .int .u64 jp, .slice none 0 0] 64))
  case first =>
    have HJP : Hid (jp = max fp kp) := hjp
    clear hjp
    go_wp2_with fail
    all_goals go_meet
    all_goals
      refine ⟨rfl, ?_⟩
      rw [HJP.out]
      first
        | rw [Int.max_eq_left (by omega)]
        | rw [Int.max_eq_right (by omega)]
  case rest =>
    obtain ⟨rfl, rfl⟩ := hcut
    clear hjp
    go_wp2_with fail
    refine (stands_none _ _ fp _ _ kp fo ko fc kc _).mono ?_
    rintro e w1 ⟨rfl, hb⟩
    rw [and_false' (by omega)]
    have HB : Hid (Below w.heap.size w w1) := (below4 w _ _ _ _).trans (hb.mono (by simp; omega))
    have z3 : w.heap.size + 1 + 1 + 1 < w1.heap.size := by have := hb.size; simp at this; omega
    have z2 : w.heap.size + 1 + 1 < w1.heap.size := by omega
    have z1 : w.heap.size + 1 < w1.heap.size := by omega
    have z0 : w.heap.size < w1.heap.size := by omega
    obtain ⟨hc, hf⟩ := bcell hb
    clear hb
    go_wp2_with fail
    refine (stands_none _ _ kp _ _ fp ko fo kc fc _).mono ?_
    rintro e w2 ⟨rfl, hb⟩
    rw [and_false' (by omega)]
    have HB2 : Hid (Below w.heap.size w w2) := HB.out.trans (hb.mono (by omega))
    have y3 : w.heap.size + 1 + 1 + 1 < w2.heap.size := by have := hb.size; omega
    have y2 : w.heap.size + 1 + 1 < w2.heap.size := by omega
    have y1 : w.heap.size + 1 < w2.heap.size := by omega
    have y0 : w.heap.size < w2.heap.size := by omega
    obtain ⟨hc', hf'⟩ := bcell hb
    clear hb
    go_wp2
    go_region
    go_wp2
    have i0 := idx_0 fo ko fc kc
    have i1 := idx_1 fo ko fc kc
    refine wp_loop_rounds 3 ?_
    rw [rounds_succ]
    go_wp2
    refine wp_loop_rounds 1 ?_
    rw [rounds_succ]
    go_wp2
    rw [rounds_succ]
    go_wp2
    refine wp_loop_rounds 1 ?_
    rw [rounds_succ]
    go_wp2
    rw [rounds_succ]
    clear i0 i1
    go_wp2_with fail
    refine (sort_two w2.heap.size 8 fq kq w2.heap.size _ (Nat.le_refl _) (by simp) (by simp) (by simp) (by simp)).mono ?_
    rintro e w3 ⟨rfl, s0, s1, sc, sf, ssz, sb⟩
    rw [Int.min_eq_right (by omega)] at s0
    rw [Int.max_eq_left (by omega)] at s1
    have hc3 : ∀ b o, b < w2.heap.size → w3.cell? ⟨b, o, none⟩ = w2.cell? ⟨b, o, none⟩ := fun b o h => by
      rw [sc _ (by show b ≠ w2.heap.size; omega), World.cell?_drew, World.cell?_alloc_lt _ _ _ (by simp; omega), World.cell?_alloc_lt _ _ _ h]
    have hf3 : ∀ b o, b < w2.heap.size → w3.frozen? ⟨b, o, none⟩ = w2.frozen? ⟨b, o, none⟩ := fun b o h => by
      rw [sf _ (by show b ≠ w2.heap.size; omega)]
      go_simp
    have x3 : w2.heap.size + 2 ≤ w3.heap.size := by rw [ssz]; simp
    have HB3 : Hid (Below w.heap.size w w3) := (((HB2.out.alloc (by omega) _).alloc (by simp; omega) _).drew).trans (sb.mono (by omega))
    clear sc sf ssz sb
    go_wp2
    refine wp_loop_rounds 2 ?_
    rw [rounds_succ]
    go_upto_region 27 with fail
    clear s0
    go_cut [17] from 109 to 130 (fun t17 wc => t17 = .int .i64 fd ∧ Below w3.heap.size w3 wc)
    case first =>
      have f0 : w3.cell? ⟨w.heap.size, 0, none⟩ = some (.int .u64 fq) := by rw [hc3 _ _ y0, hc' _ _ z0, hc _ _ (by simp; try omega)]; go_simp
      have f1 : w3.cell? ⟨w.heap.size, 1, none⟩ = some (.int .i64 fd) := by rw [hc3 _ _ y0, hc' _ _ z0, hc _ _ (by simp; try omega)]; go_simp
      have f2 : w3.cell? ⟨w.heap.size, 2, none⟩ = some (.int .u64 fp) := by rw [hc3 _ _ y0, hc' _ _ z0, hc _ _ (by simp; try omega)]; go_simp
      have f3 : w3.cell? ⟨w.heap.size, 3, none⟩ = some (.slice fo 0 fc) := by rw [hc3 _ _ y0, hc' _ _ z0, hc _ _ (by simp; try omega)]; go_simp
      have k0 : w3.cell? ⟨w.heap.size + 1, 0, none⟩ = some (.int .u64 kq) := by rw [hc3 _ _ y1, hc' _ _ z1, hc _ _ (by simp; try omega)]; go_simp
      have k1 : w3.cell? ⟨w.heap.size + 1, 1, none⟩ = some (.int .i64 kd) := by rw [hc3 _ _ y1, hc' _ _ z1, hc _ _ (by simp; try omega)]; go_simp
      have k2 : w3.cell? ⟨w.heap.size + 1, 2, none⟩ = some (.int .u64 kp) := by rw [hc3 _ _ y1, hc' _ _ z1, hc _ _ (by simp; try omega)]; go_simp
      have k3 : w3.cell? ⟨w.heap.size + 1, 3, none⟩ = some (.slice ko 0 kc) := by rw [hc3 _ _ y1, hc' _ _ z1, hc _ _ (by simp; try omega)]; go_simp
      clear hc3 hf3 hc' hf' hc hf
      go_region_with
        (first
          | (go_at_call 34
             refine (reach_past _ _ _ _ _ _ _ (by omega)).mono ?_
             rintro e w4 ⟨rfl, hbp⟩
             have hAp : Below w3.heap.size w3 w4 := by first | exact (Below.refl _ _).drew.trans (hbp.mono (by simp)) | exact hAn.trans (hbp.mono hAn.size)
             have f0p := below_cells hAp _ _ f0
             have f1p := below_cells hAp _ _ f1
             have f2p := below_cells hAp _ _ f2
             have f3p := below_cells hAp _ _ f3
             have k0p := below_cells hAp _ _ k0
             have k1p := below_cells hAp _ _ k1
             have k2p := below_cells hAp _ _ k2
             have k3p := below_cells hAp _ _ k3
             clear hbp)
          | (go_at_call 34
             refine (reach_not _ _ _ _ _ _ _ (by omega)).mono ?_
             rintro e w5 ⟨rfl, hbn⟩
             have hAn : Below w3.heap.size w3 w5 := by first | exact (Below.refl _ _).drew.trans (hbn.mono (by simp)) | exact hAp.trans (hbn.mono hAp.size)
             have f0n := below_cells hAn _ _ f0
             have f1n := below_cells hAn _ _ f1
             have f2n := below_cells hAn _ _ f2
             have f3n := below_cells hAn _ _ f3
             have k0n := below_cells hAn _ _ k0
             have k1n := below_cells hAn _ _ k1
             have k2n := below_cells hAn _ _ k2
             have k3n := below_cells hAn _ _ k3
             clear hbn))
      all_goals (go_wp2_with fail; go_meet)
      all_goals first
        | exact ⟨rfl, hAp⟩
        | exact ⟨rfl, hAn⟩
    case rest =>
      obtain ⟨rfl, hb6⟩ := hcut
      obtain ⟨i51, hi51, hz51, hs51, hb51⟩ := info_parts Yba.info51
      have p3 : w.heap.size + 1 + 1 + 1 < w3.heap.size := by omega
      have p2 : w.heap.size + 1 + 1 < w3.heap.size := by omega
      have e1 : w2.heap.size < w3.heap.size := by omega
      have HB6 : Hid (Below w.heap.size w wc) := HB3.out.trans (hb6.mono (by omega))
      have hz6 := hb6.size
      have r3 : w.heap.size + 1 + 1 + 1 < wc.heap.size := by omega
      have r2 : w.heap.size + 1 + 1 < wc.heap.size := by omega
      have hown : wc.ownsRow wc.heap.size 51 3 (.slice none 0 0) 0 [] := World.ownsRow_nil _ _ _ _
      obtain ⟨hc6, hf6⟩ := bcell hb6
      have s1' : wc.cell? ⟨w2.heap.size, 1, none⟩ = some (.int .u64 fq) := (hc6 _ _ e1).trans s1
      clear hb6
      go_wp2_with (at_builtin; refine wpList_append_own _ rfl _ _ 44 rfl wc.heap.size 51 i51 (.agg #[.string ⟨#[]⟩, .int .u64 0, .int .i64 0]) 3 32 Yba.underlying44 hi51 hz51 hs51 hb51 rfl (by decide) _ _ _ rfl (hown.alloc _) ⟨wc.heap.size, 0, none⟩ 1 1 [.string src, .int .u64 kq, .int .i64 fd] rfl rfl (three_new _ _ _ _ _) (three_one _ _ _) (by unfold maxLen; omega) (by omega) (by simp) ?_)
      intro v' w7 own' grow' _
      obtain ⟨vo', vc', rfl⟩ := ownsRow_shape own'
      have hb7 : Below wc.heap.size wc w7 := ((Below.refl _ _).alloc (Nat.le_refl _) _).grown grow' (by simp) (fun b hb => by cases hb)
      obtain ⟨gg, rfl, hgg, c0, c1, c2⟩ := own_one own'
      have C0 : Hid _ := c0
      have C1 : Hid _ := c1
      have C2 : Hid _ := c2
      clear c0 c1 c2
      have hz7 := hb7.size
      have t3 : w.heap.size + 1 + 1 + 1 < w7.heap.size := by omega
      have t2 : w.heap.size + 1 + 1 < w7.heap.size := by omega
      have HB7 : Hid (Below w.heap.size w w7) := HB6.out.trans (hb7.mono HB6.out.size)
      obtain ⟨hc7, hf7⟩ := bcell hb7
      have s1'' : w7.cell? ⟨w2.heap.size, 1, none⟩ = some (.int .u64 fq) := (hc7 _ _ (by omega)).trans s1'
      have e7 : ¬ w2.heap.size = w.heap.size + 1 + 1 + 1 := by omega
      clear hb7 own' grow' hown s1' s1
      go_wp2
      rw [rounds_succ]
      go_wp2
      refine bodyPost_ret (v := .agg #[.int .u64 fq, .int .i64 kd, .int .u64 jp, .slice (some ⟨gg, 0, none⟩) 1 vc']) (by simp [results, Yba.results24]; go_simp) rfl ⟨some ⟨gg, 0, none⟩, vc', rfl, ?_, ?_⟩
      · exact steps_five (by omega) (by omega) C0.out C1.out C2.out
      · exact ((((HB7.out.setCell (by simp; omega) _).setCell (by simp; omega) _).setCell (by simp; omega) _).setCell (by simp; omega) _).setCell (by simp; omega) _

end Go.Proofs.Ybulkbjfc.TC
