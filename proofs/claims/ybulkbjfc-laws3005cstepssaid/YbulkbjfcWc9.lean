import Derived.Test.YbulkbjfcWc8
namespace Go.Proofs.Ybulkbjfc.TC
open Go.RowKit
open Go.ChangeMaps (setBlock)

set_option maxHeartbeats 400000 in
theorem steps_big (q d p : Int) (ao : Option Addr) (n c : Nat) (w : World) (hn : 1024 < n) :
    Calls Yba.prog 8 #[.int .u64 q, .int .i64 d, .int .u64 p, .slice ao n c] w fun e w' => e = .returned (.bool true) ∧ Below w.heap.size w w' := by
  have h : (1024 : Int) < (n : Int) := by omega
  go_enter Yba.func8, Yba.ntmps8
  go_wp2
  go_ret
  exact ⟨rfl, Below.refl _ _⟩

/-- what stands when the law's own loop begins: the map's one entry, the built steps, the rows that came in -/
structure SPre (q d p : Int) (ao : Option Addr) (n : Nat) (X Q T : Nat → Int) (io : Option Addr) (nb mb : Nat) (w W : World) : Prop where
  bel : Below w.heap.size w W
  raw : RawAt W ao n X Q T
  ins : StepsAt W io n (srcOf X) Q T
  node : W.cell? ⟨nb, 17, none⟩ = some (.map (some mb))
  map : ∃ jo jc, W.heap[mb]? = some (.map #[⟨.string sX, .agg #[.int .u64 q, .int .i64 d, .int .u64 p, .slice jo (kst sX q d (srcOf X) Q T n).1.length jc], 0⟩] 1) ∧
    StepsAt W jo (kst sX q d (srcOf X) Q T n).1.length (fun i => srcOf X ((kst sX q d (srcOf X) Q T n).1.getD i 0)) (fun i => Q ((kst sX q d (srcOf X) Q T n).1.getD i 0)) (fun i => T ((kst sX q d (srcOf X) Q T n).1.getD i 0))
theorem SPre.on {q d p : Int} {ao : Option Addr} {n : Nat} {X Q T : Nat → Int} {io : Option Addr} {nb mb : Nat} {w W W' : World} (h : SPre q d p ao n X Q T io nb mb w W) (hb : Below W.heap.size W W') : SPre q d p ao n X Q T io nb mb w W' := by
  obtain ⟨jo, jc, h1, h2⟩ := h.map
  exact ⟨h.bel.trans (hb.mono h.bel.size), h.raw.mono (below_cells hb), h.ins.mono (below_cells hb), below_cells hb _ _ h.node, jo, jc, below_heap hb h1, h2.mono (below_cells hb)⟩

/-- the law's own loop at its head: nothing older has turned; the row of the steps kept so far -/
structure SInv (X Q T : Nat → Int) (W : World) (st : List Nat × Int × Int) (vo : Option Addr) (vc : Nat) (wr : World) : Prop where
  bel : Below W.heap.size W wr
  own : wr.ownsRow W.heap.size 51 3 (.slice vo st.1.length vc) st.1.length (stepCells (srcOf X) Q T st.1)
theorem SInv.keep {X Q T : Nat → Int} {W : World} {st : List Nat × Int × Int} {vo : Option Addr} {vc : Nat} {wr : World} (I : SInv X Q T W st vo vc wr) (o : Obj) : SInv X Q T W st vo vc (wr.alloc o) :=
  ⟨I.bel.alloc I.bel.size _, I.own.alloc _⟩
theorem list_xx : ((⟨#[120]⟩ : ByteArray).toList == sX.toList) = true := by kernel_rfl
theorem list_yx : ((⟨#[121]⟩ : ByteArray).toList == sX.toList) = false := by kernel_rfl
theorem srcOf_x {X : Nat → Int} {k : Nat} (h : X k % 2 = 0) : srcOf X k = ⟨#[120]⟩ := by simp [srcOf, h, sX]
theorem srcOf_y {X : Nat → Int} {k : Nat} (h : ¬ X k % 2 = 0) : srcOf X k = ⟨#[121]⟩ := by simp [srcOf, h, sY]

set_option maxRecDepth 4000 in
set_option maxHeartbeats 1600000 in
theorem steps_on (q d p : Int) (ao : Option Addr) (n c : Nat) (X Q T : Nat → Int) (w : World) (hn : n ≤ 1024) (hs : RawAt w ao n X Q T) (hX : ∀ i, i < n → 0 ≤ X i ∧ X i ≤ 255) :
    Calls Yba.prog 8 #[.int .u64 q, .int .i64 d, .int .u64 p, .slice ao n c] w fun e w' => e = .returned (.bool true) ∧ Below w.heap.size w w' := by
  have h : ¬ (1024 : Int) < (n : Int) := by omega
  go_enter Yba.func8, Yba.ntmps8
  go_wp2_with fail
  refine (cbuild_any ao n c X Q T _ hn hs hX).mono ?_
  rintro e w1 ⟨io, ic, rfl, hin1, hb1⟩
  have HIN : Hid (StepsAt w1 io n (srcOf X) Q T) := hin1
  have HB1 : Hid (Below w.heap.size w w1) := hb1
  clear hin1 hb1
  go_wp2_with fail
  refine (blank_any _ _).mono ?_
  rintro e w2 ⟨nb, mb, rfl, hnode, hmp, hmb1, hmb2, hb2⟩
  obtain ⟨hc2, hf2⟩ := bcell hb2
  have HB2 : Hid (Below (w1.alloc (.cells #[.string ⟨#[120]⟩, .int .u64 q, .int .i64 d, .int .u64 p, .slice io n ic] 58)).heap.size (w1.alloc (.cells #[.string ⟨#[120]⟩, .int .u64 q, .int .i64 d, .int .u64 p, .slice io n ic] 58)) w2) := hb2
  clear hb2
  go_wp2_with fail
  have hb02 : Below w.heap.size w w2 := by
    have z1 := HB1.out.size
    exact (HB1.out.alloc z1 _).trans (HB2.out.mono (by simp; omega))
  have hin2 : StepsAt w2 io n (srcOf X) Q T := (HIN.out.mono (fun a v h => by rw [World.cell?_alloc_lt _ _ _ (World.block_lt_of_cell? _ _ h)]; exact h)).mono (below_cells HB2.out)
  refine (merge_new sX q d p io n ic (srcOf X) Q T nb mb w.heap.size #[] 0 w2 hn hin2 hnode hmp (by have := HB1.out.size; simp at hmb1; omega) (find0 _)).mono ?_
  rintro e W ⟨rfl, hb3, hc3, jo, jc, hmap3, hst3⟩
  have hP : SPre q d p ao n X Q T io nb mb w W := ⟨hb02.trans hb3, hs.mono (fun a v h => hc3 a v (below_cells hb02 a v h)), hin2.mono hc3, hc3 _ _ hnode, jo, jc, hmap3, hst3⟩
  clear hb3 hc3 hmap3 hst3 hb02 hin2 hnode hmp hmb1 hmb2 hc2 hf2 HB2 HIN HB1
  obtain ⟨i51, hi51, hz51, hs51, hb51⟩ := info_parts Yba.info51
  go_wp2
  go_loopw [13, 14, 15, 40] (fun v a b x wr => ∃ (k : Nat) (vo : Option Addr) (vc : Nat), k ≤ n ∧ x = .int .i64 k ∧ a = .int .u64 (kst sX q d (srcOf X) Q T k).2.1 ∧ b = .int .i64 (pdl d (kst sX q d (srcOf X) Q T k)) ∧ v = .slice vo (kst sX q d (srcOf X) Q T k).1.length vc ∧ SInv X Q T W (kst sX q d (srcOf X) Q T k) vo vc wr) (fun _ _ _ x _ => n - (intOf x).toNat)
  case atStart =>
    exact ⟨0, none, 0, Nat.zero_le _, rfl, rfl, rfl, rfl, ⟨Below.refl _ _, World.ownsRow_nil _ _ _ _⟩⟩
  case round =>
    obtain ⟨k, vo, vc, hk, rfl, rfl, rfl, rfl, I⟩ := hrel
    have hkl := kst_len sX q d (srcOf X) Q T k
    by_cases hlt : k < n
    · obtain ⟨g, o, rfl, hs'⟩ := (hP.ins.mono (below_cells I.bel)).get hlt
      obtain ⟨u0, u1, u2⟩ := hs' k hlt
      have PP : Hid (SPre q d p ao n X Q T (some ⟨g, o, none⟩) nb mb w W) := hP
      clear hs' hP hs hX
      have hli : (k : Int) < (n : Int) := by omega
      obtain ⟨st, hst⟩ : ∃ st, st = kst sX q d (srcOf X) Q T k := ⟨_, rfl⟩
      rw [← hst] at I hkl ⊢
      have HST : Hid (st = kst sX q d (srcOf X) Q T k) := hst
      clear hst
      have hsz := I.bel.size
      by_cases hx : X k % 2 = 0
      · rw [srcOf_x hx] at u0
        have HX : Hid (X k % 2 = 0) := hx
        clear hx
        by_cases hfit : st.2.1 < Q k ∧ Q k < q ∧ T k < pdl d st
        · obtain ⟨f1, f2, f3⟩ := hfit
          go_wp2_with (at_builtin; refine wpList_append_own _ rfl _ _ 44 rfl W.heap.size 51 i51 (.agg #[.string ⟨#[]⟩, .int .u64 0, .int .i64 0]) 3 32 Yba.underlying44 hi51 hz51 hs51 hb51 rfl (by decide) _ _ _ rfl ((I.own.alloc _).alloc _) ⟨wr.heap.size + 1, 0, none⟩ 1 1 [.string ⟨#[120]⟩, .int .u64 (Q k), .int .i64 (T k)] rfl rfl (three_new' (w := wr.alloc (.cells #[.string ⟨#[120]⟩, .int .u64 (Q k), .int .i64 (T k)] 51)) (by simp) _ _ _ _) (three_one _ _ _) (by unfold maxLen; omega) (by omega) (by simp; omega) ?_)
          intro v' w2 own' grow' _
          obtain ⟨vo', vc', rfl⟩ := ownsRow_shape own'
          have hne : some wr.heap.size ≠ (Value.slice vo st.1.length vc).ownBlock := fun e => by have := (I.own.lt _ e.symm).2; omega
          have y1 : w2.cell? ⟨wr.heap.size, 1, none⟩ = some (.int .u64 (Q k)) := grow'.cell (by simp) hne
          have y2 : w2.cell? ⟨wr.heap.size, 2, none⟩ = some (.int .i64 (T k)) := grow'.cell (by simp) hne
          have GROW : Hid _ := grow'
          have OWN : Hid _ := own'
          clear hne grow' own'
          go_wp2
          go_roundw
          case rel =>
            have e1 := kst_yes (src := sX) (q := q) (d := d) (S := srcOf X) (Q := Q) (T := T) (k := k) (by rw [srcOf_x HX.out]; exact list_xx) (by rw [← HST.out]; exact f1) f2 (by rw [← HST.out]; exact f3)
            refine ⟨k + 1, vo', vc', by omega, by go_num, ?_⟩
            rw [e1.2, e1.1, ← HST.out]
            refine ⟨rfl, rfl, by simp, ⟨((I.keep _).keep _).bel.grown GROW.out (by simp; omega) (fun b hb => (I.own.lt b hb).1), ?_⟩⟩
            rw [stepCells_snoc, srcOf_x HX.out, List.length_append]
            exact OWN.out
          case measure => simp [intOf]; omega
        · have HF : Hid (¬ (st.2.1 < Q k ∧ Q k < q ∧ T k < pdl d st)) := hfit
          clear hfit
          go_wp2
          all_goals
            first
              | exact absurd ⟨by assumption, by assumption, by assumption⟩ HF.out
              | (go_roundw
                 case rel =>
                   refine ⟨k + 1, vo, vc, by omega, by go_num, ?_⟩
                   have e1 : kst sX q d (srcOf X) Q T (k + 1) = st := by
                     rw [HST.out]
                     refine kst_no fun h => ?_
                     rw [← HST.out] at h
                     exact HF.out h.2
                   rw [e1]
                   exact ⟨rfl, rfl, rfl, I.keep _⟩
                 case measure => simp [intOf]; omega)
      · rw [srcOf_y hx] at u0
        have HX : Hid (¬ X k % 2 = 0) := hx
        clear hx
        go_wp2
        go_roundw
        case rel =>
          refine ⟨k + 1, vo, vc, by omega, by go_num, ?_⟩
          have e1 : kst sX q d (srcOf X) Q T (k + 1) = st := by
            rw [HST.out]
            refine kst_no fun h => ?_
            rw [srcOf_y HX.out] at h
            rw [list_yx] at h
            exact absurd h.1 (by decide)
          rw [e1]
          exact ⟨rfl, rfl, rfl, I.keep _⟩
        case measure => simp [intOf]; omega
    · have : k = n := by omega
      subst this
      have hws := ownsRow_steps I.own
      have PW := hP.on I.bel
      obtain ⟨jo, jc, hm, hjs⟩ := PW.map
      have n0 := PW.node
      have hnb : nb < wr.heap.size := World.block_lt_of_cell? _ _ n0
      have hl := look_run wr mb _ 1 sX hm _ (findXX _ _) true
      have hl' : (Instr.lookup 67 (.map (some mb)) (.string ⟨#[120]⟩) true).run Yba.prog wr = .ok (.tuple #[.agg #[.int .u64 q, .int .i64 d, .int .u64 p, .slice jo (kst sX q d (srcOf X) Q T k).1.length jc], .bool true]) wr := hl
      have HM : Hid (wr.heap[mb]? = some (.map #[⟨.string sX, .agg #[.int .u64 q, .int .i64 d, .int .u64 p, .slice jo (kst sX q d (srcOf X) Q T k).1.length jc], 0⟩] 1)) := hm
      have HJS : Hid (StepsAt wr jo (kst sX q d (srcOf X) Q T k).1.length (fun i => srcOf X ((kst sX q d (srcOf X) Q T k).1.getD i 0)) (fun i => Q ((kst sX q d (srcOf X) Q T k).1.getD i 0)) (fun i => T ((kst sX q d (srcOf X) Q T k).1.getD i 0))) := hjs
      have HWS : Hid (StepsAt wr vo (kst sX q d (srcOf X) Q T k).1.length (fun i => srcOf X ((kst sX q d (srcOf X) Q T k).1.getD i 0)) (fun i => Q ((kst sX q d (srcOf X) Q T k).1.getD i 0)) (fun i => T ((kst sX q d (srcOf X) Q T k).1.getD i 0))) := hws
      have HPW : Hid (SPre q d p ao k X Q T io nb mb w wr) := PW
      have hlen : ∀ o1 o2 : Obj, (Builtin.len_ #[67] 3 #[.map (some mb)]).run Yba.prog ((wr.alloc o1).alloc o2) = .ok (.int .i64 1) ((wr.alloc o1).alloc o2) := fun o1 o2 => run_len_map _ 67 3 mb _ 1 (by kernel_rfl) (heap_keep (heap_keep hm o1) o2)
      clear hl hm hjs hws PW hP hs
      go_wp2_with fail
      clear hlen hl' n0
      have two : ∀ o1 o2 : Obj, Below wr.heap.size wr ((wr.alloc o1).alloc o2) := fun o1 o2 => ((Below.refl _ _).alloc (Nat.le_refl _) _).alloc (by simp) _
      refine (equal_same jo vo _ jc vc _ _ _ _ (by omega) (HJS.out.mono (below_cells (two _ _))) (HWS.out.mono (below_cells (two _ _)))).mono ?_
      rintro e w5 ⟨rfl, q5, rfl⟩
      have P5 := HPW.out.on (below_drewN (two (.cells #[.int .u64 q, .int .i64 d, .int .u64 p, .slice jo (kst sX q d (srcOf X) Q T k).1.length jc] 64) (.cells #[.int .u64 q, .int .i64 d, .int .u64 p] 61)) q5)
      clear two
      go_wp2_with fail
      refine (cbuild_any ao k c X Q T _ hn P5.raw hX).mono ?_
      rintro e w6 ⟨bo, bc, rfl, hbs, hb6⟩
      have P6 := P5.on hb6
      clear P5 hb6
      go_wp2_with fail
      refine (equal_same io bo k ic bc _ _ _ _ hn P6.ins hbs).mono ?_
      rintro e w7 ⟨rfl, q7, rfl⟩
      go_wp2
      go_ret
      exact ⟨rfl, below_drewN P6.bel q7⟩

end Go.Proofs.Ybulkbjfc.TC
