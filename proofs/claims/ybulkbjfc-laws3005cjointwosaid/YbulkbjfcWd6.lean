import Derived.Test.YbulkbjfcWd5
namespace Go.Proofs.Ybulkbjfc.TC
open Go.RowKit
open Go.ChangeMaps (setBlock)

/-- what stands while the law calls: its two arguments' boxes, the node, its map -/
structure JPre (aq ad ap bq bd bp : Int) (nb mb : Nat) (M : Obj) (w W : World) : Prop where
  bel : Below w.heap.size w W
  a0 : W.cell? ⟨w.heap.size, 0, none⟩ = some (.int .u64 aq)
  a1 : W.cell? ⟨w.heap.size, 1, none⟩ = some (.int .i64 ad)
  a2 : W.cell? ⟨w.heap.size, 2, none⟩ = some (.int .u64 ap)
  b0 : W.cell? ⟨w.heap.size + 1, 0, none⟩ = some (.int .u64 bq)
  b1 : W.cell? ⟨w.heap.size + 1, 1, none⟩ = some (.int .i64 bd)
  b2 : W.cell? ⟨w.heap.size + 1, 2, none⟩ = some (.int .u64 bp)
  node : W.cell? ⟨nb, 17, none⟩ = some (.map (some mb))
  map : W.heap[mb]? = some M
  low : w.heap.size ≤ mb
section
variable {aq ad ap bq bd bp : Int} {nb mb : Nat} {M M' : Obj} {w W W' : World}
theorem JPre.on (J : JPre aq ad ap bq bd bp nb mb M w W) (hb : Below W.heap.size W W') : JPre aq ad ap bq bd bp nb mb M w W' :=
  ⟨J.bel.trans (hb.mono J.bel.size), below_cells hb _ _ J.a0, below_cells hb _ _ J.a1, below_cells hb _ _ J.a2, below_cells hb _ _ J.b0, below_cells hb _ _ J.b1, below_cells hb _ _ J.b2, below_cells hb _ _ J.node, below_heap hb J.map, J.low⟩
theorem JPre.alloc (J : JPre aq ad ap bq bd bp nb mb M w W) (o : Obj) : JPre aq ad ap bq bd bp nb mb M w (W.alloc o) := J.on ((Below.refl _ _).alloc (Nat.le_refl _) _)
theorem JPre.merged (J : JPre aq ad ap bq bd bp nb mb M w W) (hb : Below w.heap.size W W') (hc : ∀ a v, W.cell? a = some v → W'.cell? a = some v) (hm : W'.heap[mb]? = some M') : JPre aq ad ap bq bd bp nb mb M' w W' :=
  ⟨J.bel.trans hb, hc _ _ J.a0, hc _ _ J.a1, hc _ _ J.a2, hc _ _ J.b0, hc _ _ J.b1, hc _ _ J.b2, hc _ _ J.node, hm, J.low⟩
theorem JPre.start (hnode : W.cell? ⟨nb, 17, none⟩ = some (.map (some mb))) (hm : W.heap[mb]? = some M) (hb : Below ((w.alloc (.cells #[.int .u64 aq, .int .i64 ad, .int .u64 ap] 53)).alloc (.cells #[.int .u64 bq, .int .i64 bd, .int .u64 bp] 53)).heap.size ((w.alloc (.cells #[.int .u64 aq, .int .i64 ad, .int .u64 ap] 53)).alloc (.cells #[.int .u64 bq, .int .i64 bd, .int .u64 bp] 53)) W) (hl : w.heap.size ≤ mb) : JPre aq ad ap bq bd bp nb mb M w W :=
  ⟨(((Below.refl _ _).alloc (Nat.le_refl _) _).alloc (by simp) _).trans (hb.mono (by simp; omega)), below_cells hb _ _ (by simp), below_cells hb _ _ (by simp), below_cells hb _ _ (by simp), below_cells hb _ _ (by simp), below_cells hb _ _ (by simp), below_cells hb _ _ (by simp), hnode, hm, hl⟩
end

/-- an entry as the map holds it -/
def eV (q d p : Int) (o : Option Addr) (n c : Nat) : Value := .agg #[.int .u64 q, .int .i64 d, .int .u64 p, .slice o n c]

set_option maxRecDepth 8000 in
set_option maxHeartbeats 800000 in
theorem join_other (aq ad ap bq bd bp : Int) (w : World) :
    Calls Yba.prog 7 #[.agg #[.int .u64 aq, .int .i64 ad, .int .u64 ap], .agg #[.int .u64 bq, .int .i64 bd, .int .u64 bp], .bool true] w fun e w' => e = .returned (.bool true) ∧ Below w.heap.size w w' := by
  go_enter Yba.func7, Yba.ntmps7
  go_wp2_with fail
  refine (blank_any _ _).mono ?_
  rintro e w1 ⟨nb, mb, rfl, hnode, hmp, hm1, hm2, hb1⟩
  have J1 : JPre aq ad ap bq bd bp nb mb (.map #[] 0) w w1 := JPre.start hnode hmp hb1 (by simp at hm1; omega)
  have a0 := J1.a0
  have a1 := J1.a1
  have a2 := J1.a2
  clear hnode hmp hm1 hm2 hb1
  go_wp2_with fail
  clear a0 a1 a2
  refine (centry_any _ aq ad ap _).mono ?_
  rintro e w2 ⟨rfl, hb2⟩
  have J2 := J1.on hb2
  clear J1 hb2
  go_wp2_with fail
  refine (merge_new sX aq ad ap none 0 0 (fun _ => sX) (fun _ => 0) (fun _ => 0) nb mb w.heap.size #[] 0 w2 (by omega) (.inl rfl) J2.node J2.map J2.low (find0 _)).mono ?_
  rintro e w3 ⟨rfl, hb3, hc3, jo, jc, hmap3, _⟩
  have J3 : JPre aq ad ap bq bd bp nb mb (.map #[⟨.string sX, eV aq ad ap jo 0 jc, 0⟩] 1) w w3 := J2.merged hb3 hc3 hmap3
  clear J2 hb3 hc3 hmap3
  have b0 := J3.b0
  have b1 := J3.b1
  have b2 := J3.b2
  go_wp2_with fail
  clear b0 b1 b2
  refine (centry_any _ bq bd bp _).mono ?_
  rintro e w4 ⟨rfl, hb4⟩
  have J4 := J3.on hb4
  clear J3 hb4
  go_wp2_with fail
  refine (merge_new sY bq bd bp none 0 0 (fun _ => sY) (fun _ => 0) (fun _ => 0) nb mb w.heap.size _ 1 w4 (by omega) (.inl rfl) J4.node J4.map J4.low (findXY _ _)).mono ?_
  rintro e w5 ⟨rfl, hb5, hc5, ko, kc, hmap5, _⟩
  have J5 : JPre aq ad ap bq bd bp nb mb (.map #[⟨.string sX, eV aq ad ap jo 0 jc, 0⟩, ⟨.string sY, eV bq bd bp ko 0 kc, 1⟩] 2) w w5 := J4.merged hb5 hc5 hmap5
  clear J4 hb5 hc5 hmap5
  have a0 := J5.a0
  have a1 := J5.a1
  have a2 := J5.a2
  go_wp2_with fail
  clear a0 a1 a2
  refine (cmark_any aq ad ap _).mono ?_
  rintro e w6 ⟨rfl, hb6⟩
  have J6 := J5.on hb6
  clear J5 hb6
  have J6' := J6.alloc (.cells #[.int .u64 aq, .int .i64 ad, .int .u64 ap] 61)
  have b0 := J6'.b0
  have b1 := J6'.b1
  have b2 := J6'.b2
  go_wp2_with fail
  clear b0 b1 b2 J6
  refine (cmark_any bq bd bp _).mono ?_
  rintro e w7 ⟨rfl, hb7⟩
  have J7 := J6'.on hb7
  have m0 := below_cells hb7 ⟨w6.heap.size, 0, none⟩ (.int .u64 aq) (by simp)
  have m1 := below_cells hb7 ⟨w6.heap.size, 1, none⟩ (.int .i64 ad) (by simp)
  have m2 := below_cells hb7 ⟨w6.heap.size, 2, none⟩ (.int .u64 ap) (by simp)
  have z6 : w6.heap.size < w7.heap.size := by have := hb7.size; simp at this; omega
  clear hb7 J6'
  have n0 := J7.node
  have zn : nb < w7.heap.size := World.block_lt_of_cell? _ _ n0
  have zn1 : nb < w7.heap.size + 1 := by omega
  have zn2 : nb < w7.heap.size + 1 + 1 := by omega
  have zm1 : w6.heap.size < w7.heap.size + 1 := by omega
  have zm2 : w6.heap.size < w7.heap.size + 1 + 1 := by omega
  have hl1 : ∀ o : Obj, (Instr.lookup 67 (.map (some mb)) (.string ⟨#[120]⟩) false).run Yba.prog (w7.alloc o) = .ok (.agg #[.int .u64 aq, .int .i64 ad, .int .u64 ap, .slice jo 0 jc]) (w7.alloc o) := fun o => look_run _ mb _ 2 sX (heap_keep J7.map o) _ (find2X _ _ _ _) false
  have hl2 : ∀ o o' : Obj, (Instr.lookup 67 (.map (some mb)) (.string ⟨#[121]⟩) false).run Yba.prog ((w7.alloc o).alloc o') = .ok (.agg #[.int .u64 bq, .int .i64 bd, .int .u64 bp, .slice ko 0 kc]) ((w7.alloc o).alloc o') := fun o o' => look_run _ mb _ 2 sY (heap_keep (heap_keep J7.map o) o') _ (find2Y _ _ _ _) false
  have hlen : ∀ o1 o2 o3 : Obj, (Builtin.len_ #[67] 3 #[.map (some mb)]).run Yba.prog (((w7.alloc o1).alloc o2).alloc o3) = .ok (.int .i64 2) (((w7.alloc o1).alloc o2).alloc o3) := fun o1 o2 o3 => run_len_map _ 67 3 mb _ 2 (by kernel_rfl) (heap_keep (heap_keep (heap_keep J7.map o1) o2) o3)
  have HB : Hid (Below w.heap.size w w7) := J7.bel
  clear J7
  go_wp2
  go_ret
  have hz := HB.out.size
  exact ⟨rfl, ((HB.out.alloc hz _).alloc (by simp; omega) _).alloc (by simp; omega) _⟩

end Go.Proofs.Ybulkbjfc.TC
