import Derived.Test.YbulkbjfcWc5
namespace Go.Proofs.Ybulkbjfc.TC
open Go.RowKit
open Go.ChangeMaps (setBlock)

theorem cell_setBlock {w : World} {b : Nat} {es es' : Array MapEntry} {cl cl' : Nat} (hb : w.heap[b]? = some (.map es cl)) (a : Addr) : (setBlock w b (.map es' cl')).cell? a = w.cell? a := by
  unfold World.cell?
  by_cases e : a.block = b
  · rw [e, Go.ChangeMaps.heap_setBlock_same hb, hb]
  · rw [Go.ChangeMaps.heap_setBlock_other hb _ e]
theorem below_setBlock {B : Nat} {a w : World} (h : Below B a w) {b : Nat} {es es' : Array MapEntry} {cl cl' : Nat} (hb : w.heap[b]? = some (.map es cl)) (hB : B ≤ b) : Below B a (setBlock w b (.map es' cl')) :=
  h.trans ⟨rfl, rfl, rfl, by simp [setBlock], fun k hk => Go.ChangeMaps.heap_setBlock_other hb _ (by omega)⟩

section
variable {oq od op : Int} {oo : Option Addr} {on oc : Nat} {jq jd jp : Int} {jn : Nat} {JS : Nat → ByteArray} {JQ JT : Nat → Int} {w w2 w3 : World} {jo : Option Addr} {jc : Nat} {o58 : Obj}
/-- the world behind region 2: the entry's box and the variable 'old' -/
def wOld (w : World) (o58 : Obj) (oq od op : Int) (oo : Option Addr) (on oc : Nat) : World := (w.alloc o58).alloc (.cells #[.int .u64 oq, .int .i64 od, .int .u64 op, .slice oo on oc] 64)
theorem wOld_size : (wOld w o58 oq od op oo on oc).heap.size = w.heap.size + 1 + 1 := by simp [wOld]
theorem wOld_below : Below w.heap.size w (wOld w o58 oq od op oo on oc) := ((Below.refl _ _).alloc (Nat.le_refl _) _).alloc (by simp) _
theorem wOld_cells (h : Below (wOld w o58 oq od op oo on oc).heap.size (wOld w o58 oq od op oo on oc) w3) : w3.cell? ⟨w.heap.size + 1, 0, none⟩ = some (.int .u64 oq) ∧ w3.cell? ⟨w.heap.size + 1, 1, none⟩ = some (.int .i64 od) ∧ w3.cell? ⟨w.heap.size + 1, 2, none⟩ = some (.int .u64 op) ∧ w3.cell? ⟨w.heap.size + 1, 3, none⟩ = some (.slice oo on oc) :=
  ⟨below_cells h _ _ (by simp [wOld]), below_cells h _ _ (by simp [wOld]), below_cells h _ _ (by simp [wOld]), below_cells h _ _ (by simp [wOld])⟩
theorem kA (hst : StepsAt w3 jo jn JS JQ JT) (h2 : Below (wOld w o58 oq od op oo on oc).drew.heap.size (wOld w o58 oq od op oo on oc).drew w2) (h3 : Below w2.heap.size w2 w3) :
    KRel oq od op oo on oc jq jd jp jn JS JQ JT w (.pointer (some ⟨w3.heap.size, 0, none⟩)) (w3.alloc (.cells #[.int .u64 jq, .int .i64 jd, .int .u64 jp, .slice jo jn jc] 64)) := by
  have z2 := h2.size
  have z3 := h3.size
  simp only [World.size_drew, wOld_size] at z2
  have hX : Below (wOld w o58 oq od op oo on oc).heap.size (wOld w o58 oq od op oo on oc) w3 := ((Below.refl _ _).drew.trans (h2.mono (by simp))).trans (h3.mono (by rw [wOld_size]; omega))
  obtain ⟨c0, c1, c2, c3⟩ := wOld_cells hX
  exact kRelA hst (wOld_below.trans (hX.mono (by rw [wOld_size]; omega))) (by omega) c0 c1 c2 c3
theorem kB (hst : StepsAt w3 jo jn JS JQ JT) (h2 : Below (wOld w o58 oq od op oo on oc).drew.heap.size (wOld w o58 oq od op oo on oc).drew w2) (h3 : Below (w2.alloc boxZ).heap.size (w2.alloc boxZ) w3) :
    KRel oq od op oo on oc jq jd jp jn JS JQ JT w (.pointer (some ⟨w2.heap.size, 0, none⟩)) ((((w3.setCell ⟨w2.heap.size, 0, none⟩ (.int .u64 jq)).setCell ⟨w2.heap.size, 1, none⟩ (.int .i64 jd)).setCell ⟨w2.heap.size, 2, none⟩ (.int .u64 jp)).setCell ⟨w2.heap.size, 3, none⟩ (.slice jo jn jc)) := by
  have z2 := h2.size
  have z3 := h3.size
  simp only [World.size_drew, wOld_size] at z2
  simp only [World.size_alloc] at z3
  have hX : Below (wOld w o58 oq od op oo on oc).heap.size (wOld w o58 oq od op oo on oc) w3 := (((Below.refl _ _).drew.trans (h2.mono (by simp))).alloc (by rw [wOld_size]; omega) boxZ).trans (h3.mono (by rw [wOld_size]; simp; omega))
  obtain ⟨c0, c1, c2, c3⟩ := wOld_cells hX
  exact kRelS hst (wOld_below.trans (hX.mono (by rw [wOld_size]; omega))) (below_heap h3 (heap_alloc_new _ _)) (by omega) c0 c1 c2 c3
theorem kC (hst : StepsAt w3 jo jn JS JQ JT) (h2 : Below ((wOld w o58 oq od op oo on oc).alloc boxZ).drew.heap.size ((wOld w o58 oq od op oo on oc).alloc boxZ).drew w2) (h3 : Below w2.heap.size w2 w3) :
    KRel oq od op oo on oc jq jd jp jn JS JQ JT w (.pointer (some ⟨w.heap.size + 1 + 1, 0, none⟩)) ((((w3.setCell ⟨w.heap.size + 1 + 1, 0, none⟩ (.int .u64 jq)).setCell ⟨w.heap.size + 1 + 1, 1, none⟩ (.int .i64 jd)).setCell ⟨w.heap.size + 1 + 1, 2, none⟩ (.int .u64 jp)).setCell ⟨w.heap.size + 1 + 1, 3, none⟩ (.slice jo jn jc)) := by
  have z2 := h2.size
  have z3 := h3.size
  simp only [World.size_drew, World.size_alloc, wOld_size] at z2
  have hX : Below (wOld w o58 oq od op oo on oc).heap.size (wOld w o58 oq od op oo on oc) w3 := ((((Below.refl _ _).alloc (Nat.le_refl _) boxZ).drew).trans (h2.mono (by simp))).trans (h3.mono (by rw [wOld_size]; omega))
  obtain ⟨c0, c1, c2, c3⟩ := wOld_cells hX
  refine kRelS hst (wOld_below.trans (hX.mono (by rw [wOld_size]; omega))) (below_heap h3 (below_heap h2 ?_)) (by omega) c0 c1 c2 c3
  have := wOld_size (w := w) (o58 := o58) (oq := oq) (od := od) (op := op) (oo := oo) (on := on) (oc := oc)
  show ((wOld w o58 oq od op oo on oc).heap.push boxZ)[w.heap.size + 1 + 1]? = _
  rw [← this]
  simp
/-- the three, as the walk says them -/
theorem kA' {c58 : Array Value} (hst : StepsAt w3 jo jn JS JQ JT) (h2 : Below ((w.alloc (.cells c58 58)).alloc (.cells #[.int .u64 oq, .int .i64 od, .int .u64 op, .slice oo on oc] 64)).drew.heap.size ((w.alloc (.cells c58 58)).alloc (.cells #[.int .u64 oq, .int .i64 od, .int .u64 op, .slice oo on oc] 64)).drew w2) (h3 : Below w2.heap.size w2 w3) :
    KRel oq od op oo on oc jq jd jp jn JS JQ JT w (.pointer (some ⟨w3.heap.size, 0, none⟩)) (w3.alloc (.cells #[.int .u64 jq, .int .i64 jd, .int .u64 jp, .slice jo jn jc] 64)) :=
  kA (o58 := .cells c58 58) hst h2 h3
theorem kB' {c58 : Array Value} (hst : StepsAt w3 jo jn JS JQ JT) (h2 : Below ((w.alloc (.cells c58 58)).alloc (.cells #[.int .u64 oq, .int .i64 od, .int .u64 op, .slice oo on oc] 64)).drew.heap.size ((w.alloc (.cells c58 58)).alloc (.cells #[.int .u64 oq, .int .i64 od, .int .u64 op, .slice oo on oc] 64)).drew w2) (h3 : Below (w2.alloc (.cells #[.int .u64 0, .int .i64 0, .int .u64 0, .slice none 0 0] 64)).heap.size (w2.alloc (.cells #[.int .u64 0, .int .i64 0, .int .u64 0, .slice none 0 0] 64)) w3) :
    KRel oq od op oo on oc jq jd jp jn JS JQ JT w (.pointer (some ⟨w2.heap.size, 0, none⟩)) ((((w3.setCell ⟨w2.heap.size, 0, none⟩ (.int .u64 jq)).setCell ⟨w2.heap.size, 1, none⟩ (.int .i64 jd)).setCell ⟨w2.heap.size, 2, none⟩ (.int .u64 jp)).setCell ⟨w2.heap.size, 3, none⟩ (.slice jo jn jc)) :=
  kB (o58 := .cells c58 58) hst h2 h3
theorem kC' {c58 : Array Value} (hst : StepsAt w3 jo jn JS JQ JT) (h2 : Below (((w.alloc (.cells c58 58)).alloc (.cells #[.int .u64 oq, .int .i64 od, .int .u64 op, .slice oo on oc] 64)).alloc (.cells #[.int .u64 0, .int .i64 0, .int .u64 0, .slice none 0 0] 64)).drew.heap.size (((w.alloc (.cells c58 58)).alloc (.cells #[.int .u64 oq, .int .i64 od, .int .u64 op, .slice oo on oc] 64)).alloc (.cells #[.int .u64 0, .int .i64 0, .int .u64 0, .slice none 0 0] 64)).drew w2) (h3 : Below w2.heap.size w2 w3) :
    KRel oq od op oo on oc jq jd jp jn JS JQ JT w (.pointer (some ⟨w.heap.size + 1 + 1, 0, none⟩)) ((((w3.setCell ⟨w.heap.size + 1 + 1, 0, none⟩ (.int .u64 jq)).setCell ⟨w.heap.size + 1 + 1, 1, none⟩ (.int .i64 jd)).setCell ⟨w.heap.size + 1 + 1, 2, none⟩ (.int .u64 jp)).setCell ⟨w.heap.size + 1 + 1, 3, none⟩ (.slice jo jn jc)) :=
  kC (o58 := .cells c58 58) hst h2 h3
end

/-- what a call of Entry.entry answers -/
def EPost (q d p : Int) (kn : Nat) (KS : Nat → ByteArray) (KQ KT : Nat → Int) (W : World) (e : Ending) (w' : World) : Prop :=
  ∃ (ko : Option Addr) (kc : Nat), e = .returned (.agg #[.int .u64 q, .int .i64 d, .int .u64 p, .slice ko kn kc]) ∧ StepsAt w' ko kn KS KQ KT ∧ Below W.heap.size W w'

/-- what 'mergeEarlier' leaves: the joined entry in the map -/
def MPost (r : Bool) (mb : Nat) (ES : Value → Array MapEntry) (CL : Nat) (jq jd jp : Int) (jn : Nat) (JS : Nat → ByteArray) (JQ JT : Nat → Int) (B : Nat) (w : World) (e : Ending) (w' : World) : Prop :=
  e = .returned (.bool r) ∧ Below B w w' ∧ (∀ a v, w.cell? a = some v → w'.cell? a = some v) ∧
    ∃ (jo : Option Addr) (jc : Nat), w'.heap[mb]? = some (.map (ES (.agg #[.int .u64 jq, .int .i64 jd, .int .u64 jp, .slice jo jn jc])) CL) ∧ StepsAt w' jo jn JS JQ JT

/-- whether 'mergeEarlier' reports a change -/
def chg (okb : Bool) (jq jd jp : Int) (jn : Nat) (oq od op : Int) : Bool := !(okb && decide (jq = oq) && decide (jd = od) && decide (jp = op) && decide (jn = 0))

set_option maxRecDepth 4000 in
set_option maxHeartbeats 4000000 in
theorem merge_core (src : ByteArray) (q d p : Int) (zo : Option Addr) (zn zc : Nat) (oq od op : Int) (oo : Option Addr) (oc : Nat) (okb : Bool) (kn : Nat) (KS : Nat → ByteArray) (KQ KT : Nat → Int)
    (jq jd jp : Int) (jn : Nat) (JS : Nat → ByteArray) (JQ JT : Nat → Int) (nb mb B : Nat) (es : Array MapEntry) (clock : Nat) (ES : Value → Array MapEntry) (CL : Nat) (w : World)
    (hcell : w.cell? ⟨nb, 17, none⟩ = some (.map (some mb))) (hmap : Hid (w.heap[mb]? = some (.map es clock))) (hB : B ≤ mb)
    (hes : Hid (okb = true → es = ES (.agg #[.int .u64 oq, .int .i64 od, .int .u64 op, .slice oo 0 oc]) ∧ clock = CL))
    (hlook : (Instr.lookup 67 (.map (some mb)) (.string src) true).run Yba.prog (w.alloc (.cells #[.string src, .int .u64 q, .int .i64 d, .int .u64 p, .slice zo zn zc] 58)) = .ok (.tuple #[.agg #[.int .u64 oq, .int .i64 od, .int .u64 op, .slice oo 0 oc], .bool okb]) (w.alloc (.cells #[.string src, .int .u64 q, .int .i64 d, .int .u64 p, .slice zo zn zc] 58)))
    (HE : Hid (∀ W, Below w.heap.size w W → Calls Yba.prog 25 #[.agg #[.string src, .int .u64 q, .int .i64 d, .int .u64 p, .slice zo zn zc]] W (EPost q d p kn KS KQ KT W)))
    (HJ : Hid (∀ W ko kc, StepsAt W ko kn KS KQ KT → Calls Yba.prog 24 #[.string src, .agg #[.int .u64 oq, .int .i64 od, .int .u64 op, .slice oo 0 oc], .agg #[.int .u64 q, .int .i64 d, .int .u64 p, .slice ko kn kc]] W (EPost jq jd jp jn JS JQ JT W)))
    (HU : Hid (∀ W v, W.heap[mb]? = some (.map es clock) → (Instr.mapUpdate 67 (.map (some mb)) (.string src) v).run Yba.prog W = .ok () (setBlock W mb (.map (ES v) CL)))) :
    Calls Yba.prog 16 #[.pointer (some ⟨nb, 0, none⟩), .agg #[.string src, .int .u64 q, .int .i64 d, .int .u64 p, .slice zo zn zc]] w
      (MPost (chg okb jq jd jp jn oq od op) mb ES CL jq jd jp jn JS JQ JT B w) := by
  have hnb : nb < w.heap.size := World.block_lt_of_cell? _ _ hcell
  have hbX : Hid (Below w.heap.size w ((w.alloc (.cells #[.string src, .int .u64 q, .int .i64 d, .int .u64 p, .slice zo zn zc] 58)).alloc (.cells #[.int .u64 oq, .int .i64 od, .int .u64 op, .slice oo 0 oc] 64))) :=
    ((Below.refl _ _).alloc (Nat.le_refl _) _).alloc (by simp) _
  go_enter Yba.func16, Yba.ntmps16
  go_upto_region 3 with fail
  clear hlook
  go_cut [8] from 9 (fun t8 wc => KRel oq od op oo 0 oc jq jd jp jn JS JQ JT w t8 wc)
  case first =>
    go_region_with
      (first
        | (go_at_call 25
           refine (HE.out _ (by first | exact hbX.out.drew | exact (hbX.out.alloc (by simp; omega) _).drew)).mono ?_
           rintro e w2 ⟨ko, kc, rfl, hst2, hb2⟩
           have hbw2 := hb2
           (try (have zk : w.heap.size + 1 + 1 < w2.heap.size := by (have := hb2.size; simp at this; omega)))
           have zj : w.heap.size + 1 < w2.heap.size := by (have := hb2.size; simp at this; omega)
           obtain ⟨hc2, hf2⟩ := bcell hb2)
        | (go_at_call 24
           refine (HJ.out _ _ _ (by first | exact hst2 | exact hst2.mono (fun a v h => by rw [World.cell?_alloc_lt _ _ _ (World.block_lt_of_cell? _ _ h)]; exact h))).mono ?_
           rintro e w3 ⟨jo, jc, rfl, hst3, hb3⟩
           have hbw3 := hb3
           (try (have zl : w2.heap.size < w3.heap.size := by (have := hb3.size; simp at this; omega)))
           obtain ⟨hc3, hf3⟩ := bcell hb3))
    all_goals (go_wp2_with fail; go_meet)
    all_goals first
      | (have zk' := zk; exact kC' hst3 hbw2 hbw3)
      | (have zl' := zl; exact kB' hst3 hbw2 hbw3)
      | exact kA' hst3 hbw2 hbw3
  case rest =>
    obtain ⟨kb, jo, jc, rfl, k0, k1, k2, k3, hst, hbel, o0, o1, o2, o3⟩ := hcut
    have n0 : wc.cell? ⟨nb, 17, none⟩ = some (.map (some mb)) := below_cells hbel _ _ hcell
    have m0 : wc.heap[mb]? = some (.map es clock) := below_heap hbel hmap.out
    have hu := HU.out wc.drew (.agg #[.int .u64 jq, .int .i64 jd, .int .u64 jp, .slice jo jn jc]) m0
    have hmb : mb < w.heap.size := (Array.getElem?_eq_some_iff.1 hmap.out).1
    have FIN : Hid (∀ r, chg okb jq jd jp jn oq od op = true → r = true → MPost (chg okb jq jd jp jn oq od op) mb ES CL jq jd jp jn JS JQ JT B w (.returned (.bool r)) (setBlock wc.drew mb (.map (ES (.agg #[.int .u64 jq, .int .i64 jd, .int .u64 jp, .slice jo jn jc])) CL))) := by
      intro r h1 h2
      have mm : wc.drew.heap[mb]? = some (.map es clock) := m0
      have kk : ∀ a v, wc.cell? a = some v → (setBlock wc.drew mb (.map (ES (.agg #[.int .u64 jq, .int .i64 jd, .int .u64 jp, .slice jo jn jc])) CL)).cell? a = some v := fun a v h => by rw [cell_setBlock mm, World.cell?_drew]; exact h
      exact ⟨by rw [h1, h2], below_setBlock ((hbel.mono (by omega)).drew) mm hB, fun a v h => kk a v (below_cells hbel a v h), jo, jc, Go.ChangeMaps.heap_setBlock_same mm _, hst.mono kk⟩
    cases okb with
    | false =>
      go_wp2
      go_region
      clear hu
      go_wp2
      go_ret
      exact FIN.out true (by simp [chg]) rfl
    | true =>
      by_cases hj : jq = oq ∧ jd = od ∧ jp = op
      · obtain ⟨rfl, rfl, rfl⟩ := hj
        by_cases hjn : jn = 0
        · subst hjn
          have SAME : Hid (∀ q, MPost (chg true jq jd jp 0 jq jd jp) mb ES CL jq jd jp 0 JS JQ JT B w (.returned (.bool false)) (wc.drewN q)) := by
            intro q
            obtain ⟨e1, e2⟩ := hes.out rfl
            refine ⟨by simp [chg], ?_, fun a v h => ?_, oo, oc, ?_, .inl rfl⟩
            · exact below_drewN (hbel.mono (by omega)) q
            · exact below_cells hbel a v h
            · rw [← e1, ← e2]; exact m0
          clear hu
          go_wp2_with fail
          refine (equal_same jo oo 0 jc oc JS JQ JT _ (by omega) (.inl rfl) (.inl rfl)).mono ?_
          rintro e w9 ⟨rfl, q9, rfl⟩
          go_wp2
          go_ret
          exact SAME.out q9
        · go_wp2_with fail
          refine (equal_len jo oo jn 0 jc oc _ hjn).mono ?_
          rintro e w9 ⟨rfl, rfl⟩
          go_wp2
          go_region
          clear hu
          go_wp2
          go_ret
          exact FIN.out true (by simp [chg, hjn]) rfl
      · have hc : chg true jq jd jp jn oq od op = true := by
          simp only [chg]
          simp
          omega
        have HC : Hid (chg true jq jd jp jn oq od op = true) := hc
        clear hc
        have hj' : (¬ jq = oq) ∨ (jq = oq ∧ ¬ jd = od) ∨ (jq = oq ∧ jd = od ∧ ¬ jp = op) := by omega
        clear hj
        rcases hj' with hj | ⟨rfl, hj⟩ | ⟨rfl, rfl, hj⟩
        all_goals
          go_wp2
          go_region
          clear hu
          go_wp2
          go_ret
          exact FIN.out true HC.out rfl

end Go.Proofs.Ybulkbjfc.TC
