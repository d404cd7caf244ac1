import Derived.Test.YbulkbjfcWc4
import Derived.Deep.RegionWith
import Derived.Deep.DeepCutAuto
namespace Go.Proofs.Ybulkbjfc.TC
open Go.RowKit
open Go.ChangeMaps (setBlock)

theorem bcell {W w1 : World} (hb : Below W.heap.size W w1) : (∀ b o, b < W.heap.size → w1.cell? ⟨b, o, none⟩ = W.cell? ⟨b, o, none⟩) ∧ (∀ b o, b < W.heap.size → w1.frozen? ⟨b, o, none⟩ = W.frozen? ⟨b, o, none⟩) :=
  ⟨fun b o h => hb.cell (p := ⟨b, o, none⟩) h, fun b o h => hb.frozen (p := ⟨b, o, none⟩) h⟩
theorem below_heap {w w' : World} (hb : Below w.heap.size w w') {k : Nat} {x : Obj} (h : w.heap[k]? = some x) : w'.heap[k]? = some x := by
  have hk : k < w.heap.size := (Array.getElem?_eq_some_iff.1 h).1
  rw [hb.block k hk]; exact h

set_option maxRecDepth 4000 in
set_option maxHeartbeats 400000 in
theorem joined_zero (src : ByteArray) (d0 p0 q d p : Int) (zo ko : Option Addr) (zn zc kn kc : Nat) (w : World) :
    Calls Yba.prog 24 #[.string src, .agg #[.int .u64 0, .int .i64 d0, .int .u64 p0, .slice zo zn zc], .agg #[.int .u64 q, .int .i64 d, .int .u64 p, .slice ko kn kc]] w
      fun e w' => e = .returned (.agg #[.int .u64 q, .int .i64 d, .int .u64 p, .slice ko kn kc]) ∧ Below w.heap.size w w' := by
  go_enter Yba.func24, Yba.ntmps24
  go_wp2
  exact bodyPost_ret (v := .agg #[.int .u64 q, .int .i64 d, .int .u64 p, .slice ko kn kc]) (by simp [results, Yba.results24, go_sem]) rfl ⟨rfl, (((Below.refl _ _).alloc (Nat.le_refl _) _).alloc (by simp) _).alloc (by simp; omega) _⟩

/-- four stores into a box of type 64, as the walk leaves them -/
def set4 (w : World) (b : Nat) (v0 v1 v2 v3 : Value) : World := (((w.setCell ⟨b, 0, none⟩ v0).setCell ⟨b, 1, none⟩ v1).setCell ⟨b, 2, none⟩ v2).setCell ⟨b, 3, none⟩ v3
theorem set4_other {w : World} {b : Nat} {v0 v1 v2 v3 : Value} {a : Addr} (h : a.block ≠ b) : (set4 w b v0 v1 v2 v3).cell? a = w.cell? a := by
  unfold set4
  rw [World.cell?_setCell_other, World.cell?_setCell_other, World.cell?_setCell_other, World.cell?_setCell_other] <;> (intro e; exact h (by rw [← e]))
/-- the zero entry's cells in their box -/
def boxZ : Obj := .cells #[.int .u64 0, .int .i64 0, .int .u64 0, .slice none 0 0] 64
theorem boxZ_cell {w : World} {b : Nat} (h : w.heap[b]? = some boxZ) (o : Nat) (v : Value) (hv : w.cell? ⟨b, o, none⟩ = some v) : ∀ s, v ≠ .string s := by
  intro s e
  subst e
  have : w.cell? ⟨b, o, none⟩ = (#[Value.int .u64 0, .int .i64 0, .int .u64 0, .slice none 0 0])[o]? := by
    simp [World.cell?, h, boxZ]
  rw [this] at hv
  match o, hv with
  | 0, hv => simp at hv
  | 1, hv => simp at hv
  | 2, hv => simp at hv
  | 3, hv => simp at hv
  | o + 4, hv => simp at hv
theorem boxZ_at {w : World} {b : Nat} (h : w.heap[b]? = some boxZ) : w.cell? ⟨b, 0, none⟩ = some (.int .u64 0) ∧ w.cell? ⟨b, 1, none⟩ = some (.int .i64 0) ∧ w.cell? ⟨b, 2, none⟩ = some (.int .u64 0) ∧ w.cell? ⟨b, 3, none⟩ = some (.slice none 0 0) := by
  simp [World.cell?, h, boxZ]
theorem StepsAt.set4 {w : World} {ao : Option Addr} {n b : Nat} {S : Nat → ByteArray} {Q T : Nat → Int} {v0 v1 v2 v3 : Value} (h : StepsAt w ao n S Q T) (hb : w.heap[b]? = some boxZ) : StepsAt (TC.set4 w b v0 v1 v2 v3) ao n S Q T := by
  rcases h with h | ⟨g, o, h1, h2⟩
  · exact .inl h
  · by_cases hn : n = 0
    · exact .inl hn
    have hg : g ≠ b := by
      intro e
      subst e
      exact boxZ_cell hb _ _ (h2 0 (by omega)).1 _ rfl
    exact .inr ⟨g, o, h1, fun i hi => ⟨by rw [set4_other hg]; exact (h2 i hi).1, by rw [set4_other hg]; exact (h2 i hi).2.1, by rw [set4_other hg]; exact (h2 i hi).2.2⟩⟩
theorem set4_cells {w : World} {b : Nat} {v0 v1 v2 v3 : Value} (h : w.heap[b]? = some boxZ) : (set4 w b v0 v1 v2 v3).cell? ⟨b, 0, none⟩ = some v0 ∧ (set4 w b v0 v1 v2 v3).cell? ⟨b, 1, none⟩ = some v1 ∧ (set4 w b v0 v1 v2 v3).cell? ⟨b, 2, none⟩ = some v2 ∧ (set4 w b v0 v1 v2 v3).cell? ⟨b, 3, none⟩ = some v3 := by
  obtain ⟨h0, h1, h2, h3⟩ := boxZ_at h
  unfold set4
  exact ⟨by go_simp, by go_simp, by go_simp, by go_simp⟩

/-- the variables old and k of 'mergeEarlier', behind the statement that joins them -/
def KRel (oq od op : Int) (oo : Option Addr) (on oc : Nat) (jq jd jp : Int) (jn : Nat) (JS : Nat → ByteArray) (JQ JT : Nat → Int) (w : World) (t8 : Value) (wc : World) : Prop :=
  ∃ kb jo jc, t8 = .pointer (some ⟨kb, 0, none⟩) ∧ wc.cell? ⟨kb, 0, none⟩ = some (.int .u64 jq) ∧ wc.cell? ⟨kb, 1, none⟩ = some (.int .i64 jd) ∧ wc.cell? ⟨kb, 2, none⟩ = some (.int .u64 jp) ∧ wc.cell? ⟨kb, 3, none⟩ = some (.slice jo jn jc) ∧
      StepsAt wc jo jn JS JQ JT ∧ Below w.heap.size w wc ∧ wc.cell? ⟨w.heap.size + 1, 0, none⟩ = some (.int .u64 oq) ∧ wc.cell? ⟨w.heap.size + 1, 1, none⟩ = some (.int .i64 od) ∧ wc.cell? ⟨w.heap.size + 1, 2, none⟩ = some (.int .u64 op) ∧ wc.cell? ⟨w.heap.size + 1, 3, none⟩ = some (.slice oo on oc)

section
variable {oq od op : Int} {oo : Option Addr} {on oc : Nat} {jq jd jp : Int} {jn : Nat} {JS : Nat → ByteArray} {JQ JT : Nat → Int} {w w3 : World} {jo : Option Addr} {jc : Nat}
theorem kRelA (hst : StepsAt w3 jo jn JS JQ JT) (hb : Below w.heap.size w w3) (hz : w.heap.size + 1 < w3.heap.size) (o0 : w3.cell? ⟨w.heap.size + 1, 0, none⟩ = some (.int .u64 oq)) (o1 : w3.cell? ⟨w.heap.size + 1, 1, none⟩ = some (.int .i64 od)) (o2 : w3.cell? ⟨w.heap.size + 1, 2, none⟩ = some (.int .u64 op)) (o3 : w3.cell? ⟨w.heap.size + 1, 3, none⟩ = some (.slice oo on oc)) :
    KRel oq od op oo on oc jq jd jp jn JS JQ JT w (.pointer (some ⟨w3.heap.size, 0, none⟩)) (w3.alloc (.cells #[.int .u64 jq, .int .i64 jd, .int .u64 jp, .slice jo jn jc] 64)) := by
  have hk : ∀ a v, w3.cell? a = some v → (w3.alloc (.cells #[.int .u64 jq, .int .i64 jd, .int .u64 jp, .slice jo jn jc] 64)).cell? a = some v := fun a v h => by
    rw [World.cell?_alloc_lt _ _ _ (World.block_lt_of_cell? _ _ h)]; exact h
  exact ⟨w3.heap.size, jo, jc, rfl, by simp, by simp, by simp, by simp, hst.mono hk, hb.alloc (by omega) _, hk _ _ o0, hk _ _ o1, hk _ _ o2, hk _ _ o3⟩
theorem kRelS {kb : Nat} (hst : StepsAt w3 jo jn JS JQ JT) (hb : Below w.heap.size w w3) (hk : w3.heap[kb]? = some boxZ) (hkb : w.heap.size + 1 < kb) (o0 : w3.cell? ⟨w.heap.size + 1, 0, none⟩ = some (.int .u64 oq)) (o1 : w3.cell? ⟨w.heap.size + 1, 1, none⟩ = some (.int .i64 od)) (o2 : w3.cell? ⟨w.heap.size + 1, 2, none⟩ = some (.int .u64 op)) (o3 : w3.cell? ⟨w.heap.size + 1, 3, none⟩ = some (.slice oo on oc)) :
    KRel oq od op oo on oc jq jd jp jn JS JQ JT w (.pointer (some ⟨kb, 0, none⟩)) ((((w3.setCell ⟨kb, 0, none⟩ (.int .u64 jq)).setCell ⟨kb, 1, none⟩ (.int .i64 jd)).setCell ⟨kb, 2, none⟩ (.int .u64 jp)).setCell ⟨kb, 3, none⟩ (.slice jo jn jc)) := by
  have hc := set4_cells (v0 := .int .u64 jq) (v1 := .int .i64 jd) (v2 := .int .u64 jp) (v3 := .slice jo jn jc) hk
  have hne : ∀ o, (set4 w3 kb (.int .u64 jq) (.int .i64 jd) (.int .u64 jp) (.slice jo jn jc)).cell? ⟨w.heap.size + 1, o, none⟩ = w3.cell? ⟨w.heap.size + 1, o, none⟩ := fun o => set4_other (by show w.heap.size + 1 ≠ kb; omega)
  exact ⟨kb, jo, jc, rfl, hc.1, hc.2.1, hc.2.2.1, hc.2.2.2, hst.set4 hk, (((hb.setCell (by show w.heap.size ≤ kb; omega) _).setCell (by show w.heap.size ≤ kb; omega) _).setCell (by show w.heap.size ≤ kb; omega) _).setCell (by show w.heap.size ≤ kb; omega) _,
    (hne 0).trans o0, (hne 1).trans o1, (hne 2).trans o2, (hne 3).trans o3⟩
end

end Go.Proofs.Ybulkbjfc.TC
