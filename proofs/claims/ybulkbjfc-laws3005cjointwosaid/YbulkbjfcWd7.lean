import Derived.Test.YbulkbjfcWd6
import Derived.Deep.DeepCutAuto
namespace Go.Proofs.Ybulkbjfc.TC
open Go.RowKit
open Go.ChangeMaps (setBlock)

/-- behind the law's own reckoning: the mark that it expects, in the block right behind W, and the steps that it expects -/
def JRel (aq ad ap bq bd bp : Int) (W : World) (t16 : Value) (wc : World) : Prop :=
  ∃ (wo : Option Addr) (c : Nat), t16 = .slice wo (jn2 aq ad bq bd) c ∧ StepsAt wc wo (jn2 aq ad bq bd) (fun _ => sX) (fun _ => min aq bq) (fun _ => min ad bd) ∧
    wc.cell? ⟨W.heap.size, 0, none⟩ = some (.int .u64 (jq2 aq bq)) ∧ wc.cell? ⟨W.heap.size, 1, none⟩ = some (.int .i64 (jx2 aq ad bd)) ∧ wc.cell? ⟨W.heap.size, 2, none⟩ = some (.int .u64 (jx2 aq ap bp)) ∧ Below W.heap.size W wc

theorem jrel0 {aq ad ap bq bd bp q d p : Int} (W : World) (hn : jn2 aq ad bq bd = 0) (hq : q = jq2 aq bq) (hd : d = jx2 aq ad bd) (hp : p = jx2 aq ap bp) :
    JRel aq ad ap bq bd bp W (.slice none 0 0) (W.alloc (.cells #[.int .u64 q, .int .i64 d, .int .u64 p] 61)) := by
  subst hq hd hp
  unfold JRel
  rw [hn]
  exact ⟨none, 0, rfl, .inl rfl, by simp, by simp, by simp, (Below.refl _ _).alloc (Nat.le_refl _) _⟩

theorem jrel1 {aq ad ap bq bd bp q d p s t : Int} (W : World) {N : Nat} (hN : W.heap.size + 1 + 1 + 1 = N) (o1 o2 : Obj) (k : Nat) (hn : jn2 aq ad bq bd = 1) (hq : q = jq2 aq bq) (hd : d = jx2 aq ad bd) (hp : p = jx2 aq ap bp) (hs : s = min aq bq) (ht : t = min ad bd) :
    JRel aq ad ap bq bd bp W (.slice (some ⟨N, 0, none⟩) 1 1) (((((W.alloc (.cells #[.int .u64 q, .int .i64 d, .int .u64 p] 61)).alloc o1).alloc o2).alloc (.cells #[.string ⟨#[120]⟩, .int .u64 s, .int .i64 t] 51)).drewN k) := by
  subst hq hd hp hs ht hN
  have H : ∀ (i : Nat) (v : Value), (#[.int .u64 (jq2 aq bq), .int .i64 (jx2 aq ad bd), .int .u64 (jx2 aq ap bp)] : Array Value)[i]? = some v → ((((W.alloc (.cells #[.int .u64 (jq2 aq bq), .int .i64 (jx2 aq ad bd), .int .u64 (jx2 aq ap bp)] 61)).alloc o1).alloc o2).alloc (.cells #[.string ⟨#[120]⟩, .int .u64 (min aq bq), .int .i64 (min ad bd)] 51)).cell? ⟨W.heap.size, i, none⟩ = some v := fun i v h => by
    rw [World.cell?_alloc_lt _ _ _ (by simp; omega), World.cell?_alloc_lt _ _ _ (by simp; omega), World.cell?_alloc_lt _ _ _ (by simp)]
    exact node_cell rfl _ h
  unfold JRel
  rw [hn]
  refine ⟨_, 1, rfl, .inr ⟨_, 0, rfl, fun i hi => ?_⟩, ?_, ?_, ?_, below_drewN (((((Below.refl _ _).alloc (Nat.le_refl _) _).alloc (by simp) _).alloc (by simp; omega) _).alloc (by simp; omega) _) k⟩
  · obtain rfl : i = 0 := by omega
    exact ⟨node_cell (i := 0) (by simp) _ rfl, node_cell (i := 1) (by simp) _ rfl, node_cell (i := 2) (by simp) _ rfl⟩
  · exact H 0 _ rfl
  · exact H 1 _ rfl
  · exact H 2 _ rfl

set_option maxRecDepth 8000 in
set_option maxHeartbeats 4000000 in
theorem join_same (aq ad ap bq bd bp : Int) (w : World) (ha : -9223372036854775808 ≤ ad) (hb : -9223372036854775808 ≤ bd) :
    Calls Yba.prog 7 #[.agg #[.int .u64 aq, .int .i64 ad, .int .u64 ap], .agg #[.int .u64 bq, .int .i64 bd, .int .u64 bp], .bool false] w fun e w' => e = .returned (.bool true) ∧ Below w.heap.size w w' := by
  go_enter Yba.func7, Yba.ntmps7
  go_wp2_with fail
  refine (blank_any _ _).mono ?_
  rintro e w1 ⟨nb, mb, rfl, hnode, hmp, hm1, hm2, hb1⟩
  have J1 : JPre aq ad ap bq bd bp nb mb (.map #[] 0) w w1 := JPre.start hnode hmp hb1 (by simp at hm1; omega)
  have a0 := J1.a0
  have a1 := J1.a1
  have a2 := J1.a2
  clear hnode hmp hm1 hm2 hb1
  go_wp2_with fail
  clear a0 a1 a2
  refine (centry_any _ aq ad ap _).mono ?_
  rintro e w2 ⟨rfl, hb2⟩
  have J2 := J1.on hb2
  clear J1 hb2
  go_wp2_with fail
  refine (merge_new sX aq ad ap none 0 0 (fun _ => sX) (fun _ => 0) (fun _ => 0) nb mb w.heap.size #[] 0 w2 (by omega) (.inl rfl) J2.node J2.map J2.low (find0 _)).mono ?_
  rintro e w3 ⟨rfl, hb3, hc3, jo, jc, hmap3, _⟩
  have J3 : JPre aq ad ap bq bd bp nb mb (.map #[⟨.string sX, eV aq ad ap jo 0 jc, 0⟩] 1) w w3 := J2.merged hb3 hc3 hmap3
  clear J2 hb3 hc3 hmap3
  have b0 := J3.b0
  have b1 := J3.b1
  have b2 := J3.b2
  go_wp2_with fail
  clear b0 b1 b2
  refine (centry_any _ bq bd bp _).mono ?_
  rintro e w4 ⟨rfl, hb4⟩
  have J4 := J3.on hb4
  clear J3 hb4
  go_wp2_with fail
  refine (merge_same bq bd bp aq ad ap jo jc 0 nb mb w.heap.size w4 ha hb J4.node J4.map J4.low).mono ?_
  rintro e w5 ⟨rfl, hb5, hc5, ko, kc, hmap5, hst5⟩
  have J5 : JPre aq ad ap bq bd bp nb mb (.map #[⟨.string sX, eV (jq2 aq bq) (jx2 aq ad bd) (jx2 aq ap bp) ko (jn2 aq ad bq bd) kc, 0⟩] 1) w w5 := J4.merged hb5 hc5 hmap5
  clear J4 hb5 hc5 hmap5
  have a0 := J5.a0
  have a1 := J5.a1
  have a2 := J5.a2
  go_wp2_with fail
  clear a0 a1 a2
  refine (cmark_any aq ad ap _).mono ?_
  rintro e w6 ⟨rfl, hb6⟩
  have J6 := J5.on hb6
  have hst6 := (hst5.mono (below_cells hb6)).mono (below_cells ((Below.refl _ _).alloc (Nat.le_refl _) (.cells #[.int .u64 aq, .int .i64 ad, .int .u64 ap] 61)))
  clear J5 hb6 hst5
  have J6' := J6.alloc (.cells #[.int .u64 aq, .int .i64 ad, .int .u64 ap] 61)
  have b0 := J6'.b0
  have b1 := J6'.b1
  have b2 := J6'.b2
  go_wp2_with fail
  clear b0 b1 b2 J6
  refine (cmark_any bq bd bp _).mono ?_
  rintro e w7 ⟨rfl, hb7⟩
  have J7 := J6'.on hb7
  have HST : Hid (StepsAt w7 ko (jn2 aq ad bq bd) (fun _ => sX) (fun _ => min aq bq) (fun _ => min ad bd)) := hst6.mono (below_cells hb7)
  clear hst6
  have m0 := below_cells hb7 ⟨w6.heap.size, 0, none⟩ (.int .u64 aq) (by simp)
  have m1 := below_cells hb7 ⟨w6.heap.size, 1, none⟩ (.int .i64 ad) (by simp)
  have m2 := below_cells hb7 ⟨w6.heap.size, 2, none⟩ (.int .u64 ap) (by simp)
  have z6 : w6.heap.size < w7.heap.size := by have := hb7.size; simp at this; omega
  clear hb7 J6'
  have n0 := J7.node
  have zn : nb < w7.heap.size := World.block_lt_of_cell? _ _ n0
  have A0 := J7.a0
  have zA : w.heap.size < w7.heap.size := World.block_lt_of_cell? _ _ A0
  have zA1 : w.heap.size < w7.heap.size + 1 := by omega
  have zm1 : w6.heap.size < w7.heap.size + 1 := by omega
  have H7 : Hid (JPre aq ad ap bq bd bp nb mb (.map #[⟨.string sX, eV (jq2 aq bq) (jx2 aq ad bd) (jx2 aq ap bp) ko (jn2 aq ad bq bd) kc, 0⟩] 1) w w7) := J7
  clear J7
  go_upto_if 86 with fail
  go_cut [16] from 84 to 149 (fun t16 wc => JRel aq ad ap bq bd bp (w7.alloc (.cells #[.int .u64 bq, .int .i64 bd, .int .u64 bp] 61)) t16 wc)
  case first =>
    by_cases h0 : aq = 0
    · subst h0
      go_wp2
      go_meet
      exact jrel0 _ (by simp [jn2]) (by simp [jq2]) (by simp [jx2]) (by simp [jx2])
    · by_cases h1 : bq ≤ aq ∧ bd ≤ ad
      · obtain ⟨h1, h2⟩ := h1
        go_wp2
        all_goals go_meet
        all_goals exact jrel0 _ (by simp [jn2, h1, h2]) (by simp only [jq2, h0, if_false]; omega) (by simp only [jx2, h0, if_false]; omega) (by simp only [jx2, h0, if_false]; omega)
      · by_cases h2 : aq ≤ bq ∧ ad ≤ bd
        · have h3 : (aq < bq ∧ ad < bd) ∨ (aq = bq ∧ ad < bd) ∨ (aq < bq ∧ ad = bd) := by omega
          clear h1
          obtain ⟨h2a, h2b⟩ := h2
          rcases h3 with ⟨g1, g2⟩ | ⟨rfl, g2⟩ | ⟨g1, rfl⟩
          all_goals go_wp2
          all_goals go_meet
          all_goals exact jrel0 _ (by simp only [jn2]; rw [if_pos (by omega)]) (by simp only [jq2, h0, if_false]; omega) (by simp only [jx2, h0, if_false]; omega) (by simp only [jx2, h0, if_false]; omega)
        · have zm2 : w6.heap.size < w7.heap.size + 1 + 1 := by omega
          have zm3 : w6.heap.size < w7.heap.size + 1 + 1 + 1 := by omega
          have zm4 : w6.heap.size < w7.heap.size + 1 + 1 + 1 + 1 := by omega
          by_cases h3 : bq < aq
          · have h4 : ad < bd := by omega
            have h5 : bq ≤ aq := by omega
            have h7 : ¬ bd ≤ ad := by omega
            have h8 : ¬ aq ≤ bq := by omega
            clear h1 h2
            go_wp2
            all_goals go_region
            all_goals go_wp2
            all_goals go_region
            all_goals go_wp2
            all_goals go_meet
            all_goals exact jrel1 _ (by simp) _ _ 2 (by simp only [jn2]; rw [if_neg (by omega)]) (by simp only [jq2, h0, if_false]; omega) (by simp only [jx2, h0, if_false]; omega) (by simp only [jx2, h0, if_false]; omega) (by omega) (by omega)
          · have h4 : bd < ad := by omega
            have h5 : aq < bq := by omega
            have h6 : aq ≤ bq := by omega
            have h7 : ¬ ad ≤ bd := by omega
            have h8 : ¬ bq ≤ aq := by omega
            clear h1 h2 h3
            go_wp2
            all_goals go_region
            all_goals go_wp2
            all_goals go_meet
            all_goals exact jrel1 _ (by simp) _ _ 1 (by simp only [jn2]; rw [if_neg (by omega)]) (by simp only [jq2, h0, if_false]; omega) (by simp only [jx2, h0, if_false]; omega) (by simp only [jx2, h0, if_false]; omega) (by omega) (by omega)
  case rest =>
    obtain ⟨wo, c16, rfl, hws, q0, q1, q2, hbc⟩ := hcut
    simp only [World.size_alloc] at q0 q1 q2
    have keep : ∀ a v, w7.cell? a = some v → wc.cell? a = some v := fun a v h => below_cells hbc a v (by rw [World.cell?_alloc_lt _ _ _ (World.block_lt_of_cell? _ _ h)]; exact h)
    have JC := (H7.out.alloc _).on hbc
    have n1 := JC.node
    have y0 := keep _ _ m0
    have y1 := keep _ _ m1
    have y2 := keep _ _ m2
    have zn' : nb < wc.heap.size := World.block_lt_of_cell? _ _ n1
    have zy : w6.heap.size < wc.heap.size := World.block_lt_of_cell? _ _ y0
    have zq : w7.heap.size + 1 < wc.heap.size := World.block_lt_of_cell? _ _ q0
    have hl : (Instr.lookup 67 (.map (some mb)) (.string ⟨#[120]⟩) false).run Yba.prog wc = .ok (.agg #[.int .u64 (jq2 aq bq), .int .i64 (jx2 aq ad bd), .int .u64 (jx2 aq ap bp), .slice ko (jn2 aq ad bq bd) kc]) wc := look_run _ mb _ 1 sX JC.map _ (findXX _ _) false
    have hlen : ∀ o1 : Obj, (Builtin.len_ #[67] 3 #[.map (some mb)]).run Yba.prog (wc.alloc o1) = .ok (.int .i64 1) (wc.alloc o1) := fun o1 => run_len_map _ 67 3 mb _ 1 (by kernel_rfl) (heap_keep JC.map o1)
    have HS1 : Hid (StepsAt wc ko (jn2 aq ad bq bd) (fun _ => sX) (fun _ => min aq bq) (fun _ => min ad bd)) := HST.out.mono keep
    have HS2 : Hid (StepsAt wc wo (jn2 aq ad bq bd) (fun _ => sX) (fun _ => min aq bq) (fun _ => min ad bd)) := hws
    have HBC : Hid (Below w.heap.size w wc) := JC.bel
    have hjn : jn2 aq ad bq bd ≤ 1 := by unfold jn2; split <;> omega
    clear hws hbc keep JC m0 m1 m2 n0 A0 HST H7
    obtain ⟨JQ, hJQ⟩ : ∃ x, x = jq2 aq bq := ⟨_, rfl⟩
    obtain ⟨JD, hJD⟩ : ∃ x, x = jx2 aq ad bd := ⟨_, rfl⟩
    obtain ⟨JP, hJP⟩ : ∃ x, x = jx2 aq ap bp := ⟨_, rfl⟩
    obtain ⟨JN, hJN⟩ : ∃ x, x = jn2 aq ad bq bd := ⟨_, rfl⟩
    rw [← hJQ] at q0 hl
    rw [← hJD] at q1 hl
    rw [← hJP] at q2 hl
    rw [← hJN] at hl HS1 HS2 hjn
    rw [← hJQ, ← hJD, ← hJP, ← hJN]
    clear hJQ hJD hJP hJN
    have al : ∀ (o : Obj) a v, wc.cell? a = some v → (wc.alloc o).cell? a = some v := fun o a v h => by
      rw [World.cell?_alloc_lt _ _ _ (World.block_lt_of_cell? _ _ h)]; exact h
    have AL : Hid (∀ (o : Obj) a v, wc.cell? a = some v → (wc.alloc o).cell? a = some v) := al
    clear al
    have hcs : (JQ = aq ∧ JD = ad ∧ JP = ap ∧ JN = 0) ∨ (JQ = aq ∧ JD = ad ∧ JP = ap ∧ JN = 1) ∨ (¬ JQ = aq) ∨ (JQ = aq ∧ ¬ JD = ad) ∨ (JQ = aq ∧ JD = ad ∧ ¬ JP = ap) := by omega
    rcases hcs with ⟨rfl, rfl, rfl, rfl⟩ | ⟨rfl, rfl, rfl, rfl⟩ | hj | ⟨rfl, hj⟩ | ⟨rfl, rfl, hj⟩
    · rw [show chg true JQ JD JP 0 JQ JD JP = false from by simp [chg]]
      go_wp2_with fail
      refine (equal_same ko wo _ kc c16 _ _ _ _ (by omega) (HS1.out.mono (AL.out _)) (HS2.out.mono (AL.out _))).mono ?_
      rintro e w9 ⟨rfl, q9, rfl⟩
      go_wp2
      go_ret
      exact ⟨rfl, below_drewN (HBC.out.alloc HBC.out.size _) _⟩
    · rw [show chg true JQ JD JP 1 JQ JD JP = true from by simp [chg]]
      go_wp2_with fail
      refine (equal_same ko wo _ kc c16 _ _ _ _ (by omega) (HS1.out.mono (AL.out _)) (HS2.out.mono (AL.out _))).mono ?_
      rintro e w9 ⟨rfl, q9, rfl⟩
      go_wp2
      go_ret
      exact ⟨rfl, below_drewN (HBC.out.alloc HBC.out.size _) _⟩
    all_goals
      rw [show chg true _ _ _ _ _ _ _ = true from by simp [chg, hj]]
      go_wp2_with fail
      refine (equal_same ko wo _ kc c16 _ _ _ _ (by omega) (HS1.out.mono (AL.out _)) (HS2.out.mono (AL.out _))).mono ?_
      rintro e w9 ⟨rfl, q9, rfl⟩
      go_wp2
      go_ret
      exact ⟨rfl, below_drewN (HBC.out.alloc HBC.out.size _) _⟩

end Go.Proofs.Ybulkbjfc.TC
