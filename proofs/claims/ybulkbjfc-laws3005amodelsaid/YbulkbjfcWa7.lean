import Derived.Test.YbulkbjfcWa4
import Derived.Test.YbulkbjfcWa6
import Derived.Lib.AppendStr
import Derived.Deep.OwnRows
import Derived.Deep.QuietTactic
import Derived.BigQuiet
namespace Go.Proofs.Ybulkbjfc.TA
open Go.RowKit

theorem ownsRow_shape {w : World} {B : Nat} {e : TypeId} {v : Value} {n : Nat} {xs : List Value} (h : w.ownsRow B e 1 v n xs) : ∃ ao c, v = .slice ao n c := by
  rcases h.2 with ⟨rfl, rfl⟩ | ⟨g, cap, cur, rfl, _⟩
  · exact ⟨none, 0, rfl⟩
  · exact ⟨some ⟨g, 0, none⟩, cap, rfl⟩
theorem ownsRow_own {w : World} {B : Nat} {e : TypeId} {ao : Option Addr} {n c : Nat} {xs : List Value} (h : w.ownsRow B e 1 (.slice ao n c) n xs) (f : Nat → Value) (hf : ∀ i, i < n → xs[i]? = some (f i)) (hn : 0 < n) :
    ∃ g, ao = some ⟨g, 0, none⟩ ∧ ∀ i, i < n → w.cell? ⟨g, i, none⟩ = some (f i) := by
  rcases h.2 with ⟨_, h0⟩ | ⟨g, cap, cur, hv, _⟩
  · omega
  · simp at hv
    obtain ⟨rfl, rfl⟩ := hv
    exact ⟨g, rfl, fun i hi => by rw [h.cellAt i (by omega)]; exact hf i hi⟩
theorem ownsRow_row {w : World} {B : Nat} {e : TypeId} {ao : Option Addr} {n c : Nat} {xs : List Value} (h : w.ownsRow B e 1 (.slice ao n c) n xs) (f : Nat → Value) (hf : ∀ i, i < n → xs[i]? = some (f i)) : RowAt w ao n f := by
  by_cases hn : n = 0
  · exact .inl hn
  · obtain ⟨g, h1, h2⟩ := ownsRow_own h f hf (by omega)
    exact .inr ⟨g, 0, h1, fun i hi => by rw [Nat.zero_add]; exact h2 i hi⟩
theorem ownsRow_cap {w : World} {B : Nat} {e : TypeId} {ao : Option Addr} {n c : Nat} {xs : List Value} (h : w.ownsRow B e 1 (.slice ao n c) n xs) : n ≤ c := by
  rcases h.2 with ⟨hv, h0⟩ | ⟨g, cap, cur, hv, _, _, hnc, _⟩
  · omega
  · simp at hv
    obtain ⟨_, rfl⟩ := hv
    exact hnc

/-- the four rows that the build fills -/
structure BRel (B : Nat) (K : List (ByteArray × Nat)) (w : World) (vu vd vp ve : Value) : Prop where
  us : w.ownsRow B 9 1 vu K.length (K.map fun p => .string p.1)
  ud : w.ownsRow B 22 1 vd K.length (K.map fun p => .int .u64 p.2)
  pl : w.ownsRow B 95 1 vp K.length ((List.range K.length).map fun i => .int .u32 (place K i))
  en : w.ownsRow B 5 1 ve (encAll K).length (Lib.byteCells (encAll K))

theorem BRel.nil (B : Nat) (w : World) : BRel B [] w (.slice none 0 0) (.slice none 0 0) (.slice none 0 0) (.slice none 0 0) :=
  ⟨World.ownsRow_nil _ _ _ _, World.ownsRow_nil _ _ _ _, World.ownsRow_nil _ _ _ _, World.ownsRow_nil _ _ _ _⟩

theorem Yba.info9 : (Yba.prog.info? 9).map (fun i => (i.zero, i.size, i.bytes)) = some (some (.string ⟨#[]⟩), 1, 16) := by kernel_rfl
theorem Yba.info22 : (Yba.prog.info? 22).map (fun i => (i.zero, i.size, i.bytes)) = some (some (.int .u64 0), 1, 8) := by kernel_rfl
theorem Yba.info3 : (Yba.prog.info? 3).map (fun i => (i.zero, i.size, i.bytes)) = some (some (.int .i64 0), 1, 8) := by kernel_rfl
theorem Yba.info95 : (Yba.prog.info? 95).map (fun i => (i.zero, i.size, i.bytes)) = some (some (.int .u32 0), 1, 4) := by kernel_rfl

theorem places_snoc (K : List (ByteArray × Nat)) (x : ByteArray × Nat) :
    ((List.range (K ++ [x]).length).map fun i => Value.int .u32 (place (K ++ [x]) i)) = ((List.range K.length).map fun i => Value.int .u32 (place K i)) ++ [.int .u32 (encAll K).length] := by
  rw [List.length_append, List.length_singleton, List.range_succ, List.map_append, List.map_singleton, place_init K x (Nat.le_refl _), place_all]
  congr 1
  refine List.map_congr_left fun i hi => ?_
  rw [place_init K x (by have := List.mem_range.1 hi; omega)]

/-- the rows behind one more source -/
theorem BRel.snoc {B : Nat} {K : List (ByteArray × Nat)} {w : World} {vu vd vp ve : Value} {s : ByteArray} {d : Nat}
    (us : w.ownsRow B 9 1 vu (K.length + 1) ((K.map fun p => Value.string p.1) ++ [.string s]))
    (ud : w.ownsRow B 22 1 vd (K.length + 1) ((K.map fun p => Value.int .u64 p.2) ++ [.int .u64 d]))
    (pl : w.ownsRow B 95 1 vp (K.length + 1) (((List.range K.length).map fun i => Value.int .u32 (place K i)) ++ [.int .u32 (encAll K).length]))
    (en : w.ownsRow B 5 1 ve ((encAll K).length + (Lib.uvarint s.size).length + s.size + (Lib.uvarint d).length) (Lib.byteCells (encAll K) ++ (Lib.byteCells (Lib.uvarint s.size) ++ Lib.strCells s) ++ Lib.byteCells (Lib.uvarint d))) :
    BRel B (K ++ [(s, d)]) w vu vd vp ve where
  us := by simpa using us
  ud := by simpa using ud
  pl := by rw [places_snoc]; simpa using pl
  en := by
    have e1 : (encAll (K ++ [(s, d)])).length = (encAll K).length + (Lib.uvarint s.size).length + s.size + (Lib.uvarint d).length := by
      rw [encAll_snoc, List.length_append, encOne_len]; omega
    have e2 : Lib.byteCells (encAll (K ++ [(s, d)])) = Lib.byteCells (encAll K) ++ (Lib.byteCells (Lib.uvarint s.size) ++ Lib.strCells s) ++ Lib.byteCells (Lib.uvarint d) := by
      rw [encAll_snoc, Lib.strCells_eq]
      simp [Lib.byteCells, encOne]
    rw [e1, e2]
    exact en

theorem argCell {w wr : World} {o : Obj} (hbel : Below (w.heap.size + 1) (w.alloc o) wr) : ∀ a v, w.cell? a = some v → wr.cell? a = some v := fun a _ h => by
  have hb := World.block_lt_of_cell? w a h
  rw [hbel.cell (by omega), World.cell?_alloc_lt _ _ _ hb]
  exact h

theorem one_u32 (x : Int) : ∀ u ∈ [Value.int .u32 x], u.oneCell' = true := by intro u hu; simp at hu; subst hu; rfl
theorem one_u64 (x : Int) : ∀ u ∈ [Value.int .u64 x], u.oneCell' = true := by intro u hu; simp at hu; subst hu; rfl
theorem one_str (x : ByteArray) : ∀ u ∈ [Value.string x], u.oneCell' = true := by intro u hu; simp at hu; subst hu; rfl

def idk (k y : Nat) : Nat := if y < k then y else 0
theorem idk_step (k y : Nat) : (if y = k then Value.int .i64 (k : Int) else .int .i64 (idk k y : Int)) = .int .i64 (idk (k + 1) y : Int) := by
  unfold idk
  by_cases h : y = k
  · subst h; simp
  · by_cases h2 : y < k
    · have : y < k + 1 := by omega
      simp [h, h2, this]
    · have : ¬ y < k + 1 := by omega
      simp [h, h2, this]

theorem rowIs_drewN {w : World} {b : Nat} {t : TypeId} {n : Nat} {f : Nat → Value} (h : w.rowIs b t n f) (q : Nat) : (w.drewN q).rowIs b t n f := h.of_block (by simp)
theorem swp_val (O : Nat → Nat) (j y : Nat) : (if y = j then Value.int .i64 ((O (j + 1) : Nat) : Int) else if y = j + 1 then .int .i64 ((O j : Nat) : Int) else .int .i64 ((O y : Nat) : Int)) = .int .i64 ((swp O (j + 1) y : Nat) : Int) := by
  unfold swp
  simp only [Nat.add_sub_cancel]
  split
  · rfl
  · split <;> rfl
def pll (K : List (ByteArray × Nat)) (O : Nat → Nat) (q y : Nat) : Nat := if y < q then place K (O y) else 0
theorem pll_step (K : List (ByteArray × Nat)) (O : Nat → Nat) (q y : Nat) : (if y = q then Value.int .u32 ((place K (O q) : Nat) : Int) else .int .u32 ((pll K O q y : Nat) : Int)) = .int .u32 ((pll K O (q + 1) y : Nat) : Int) := by
  unfold pll
  by_cases h : y = q
  · subst h; simp
  · by_cases h2 : y < q
    · have : y < q + 1 := by omega
      simp [h, h2, this]
    · have : ¬ y < q + 1 := by omega
      simp [h, h2, this]

/-- what a build hands back -/
def BuildPost (S : Nat → ByteArray) (V : Nat → Nat) (n : Nat) (w : World) (e : Ending) (w' : World) : Prop :=
  ∃ (K : List (ByteArray × Nat)) (eo so uo vo : Option Addr) (ec sc uc vc : Nat) (P O : Nat → Nat), K = kept S V n ∧
    e = .returned (.tuple #[.agg #[.slice eo (encAll K).length ec, .slice so K.length sc], .slice uo K.length uc, .slice vo K.length vc]) ∧
    RowAt w' uo K.length (fun i => .string (keyAt K i)) ∧ RowAt w' vo K.length (fun i => .int .u64 (numAt K i)) ∧
    (0 < K.length → ∃ g, eo = some ⟨g, 0, none⟩ ∧ Tab w' g (encAll K).length ec so K.length (encAll K) P O (keyAt K) (numAt K)) ∧ Below w.heap.size w w'

theorem ownsRow_below {W w' : World} {B : Nat} {e : TypeId} {v : Value} {n : Nat} {xs : List Value} (h : W.ownsRow B e 1 v n xs) (hb : Below W.heap.size W w') : w'.ownsRow B e 1 v n xs := by
  refine ⟨h.1, ?_⟩
  rcases h.2 with h2 | ⟨g, cap, cur, hv, h3, h4, h5⟩
  · exact .inl h2
  · refine .inr ⟨g, cap, cur, hv, h3, ?_, h5⟩
    have hg : g < W.heap.size := by
      by_cases hg : g < W.heap.size
      · exact hg
      · rw [Array.getElem?_eq_none (by omega)] at h4; cases h4
    rw [hb.block g hg]
    exact h4

theorem build_done {S : Nat → ByteArray} {V : Nat → Nat} {n N L uc vc pc ec b2 i4 : Nat} {K : List (ByteArray × Nat)} {w W0 w6 : World} {uo vo po eo : Option Addr} {O : Nat → Nat} {o : Obj} (hK : K = kept S V n) (hN : N = K.length) (hL : L = (encAll K).length)
    (hR : BRel (w.heap.size + 1) K W0 (.slice uo K.length uc) (.slice vo K.length vc) (.slice po K.length pc) (.slice eo L ec)) (hz : w.heap.size + 1 ≤ W0.heap.size) (hb2 : w.heap.size < b2) (hn : N ≤ 256) (hLb : L ≤ 2000000)
    (hD : ∀ a, a < K.length → numAt K a < 18446744073709551616) (hrow : w6.rowIs b2 95 N (fun y => .int .u32 ((pll K O N y : Nat) : Int))) (hinv : SInv (keyAt K) N i4 i4 O) (hi4 : N ≤ i4)
    (hbel : Below (w.heap.size + 1) (w.alloc o) W0) (hb6 : Below W0.heap.size W0 w6) :
    BuildPost S V n w (.returned (.tuple #[.agg #[.slice eo L ec, .slice (some ⟨b2, 0, none⟩) N N], .slice uo N uc, .slice vo N vc]))
      ((w6.setCell ⟨w.heap.size, 0, none⟩ (.slice eo L ec)).setCell ⟨w.heap.size, 1, none⟩ (.slice (some ⟨b2, 0, none⟩) N N)) := by
  subst hN
  subst hL
  have R2 : BRel (w.heap.size + 1) K ((w6.setCell ⟨w.heap.size, 0, none⟩ (.slice eo (encAll K).length ec)).setCell ⟨w.heap.size, 1, none⟩ (.slice (some ⟨b2, 0, none⟩) K.length K.length)) (.slice uo K.length uc) (.slice vo K.length vc) (.slice po K.length pc) (.slice eo (encAll K).length ec) :=
    ⟨ownsRow_setCell_below (ownsRow_setCell_below (ownsRow_below hR.us hb6) (Nat.lt_succ_self _) _) (Nat.lt_succ_self _) _, ownsRow_setCell_below (ownsRow_setCell_below (ownsRow_below hR.ud hb6) (Nat.lt_succ_self _) _) (Nat.lt_succ_self _) _,
      ownsRow_setCell_below (ownsRow_setCell_below (ownsRow_below hR.pl hb6) (Nat.lt_succ_self _) _) (Nat.lt_succ_self _) _, ownsRow_setCell_below (ownsRow_setCell_below (ownsRow_below hR.en hb6) (Nat.lt_succ_self _) _) (Nat.lt_succ_self _) _⟩
  have hrow2 := (hrow.setOther (a := ⟨w.heap.size, 0, none⟩) (by show b2 ≠ w.heap.size; omega) (.slice eo (encAll K).length ec)).setOther (a := ⟨w.heap.size, 1, none⟩) (by show b2 ≠ w.heap.size; omega) (.slice (some ⟨b2, 0, none⟩) K.length K.length)
  refine ⟨K, eo, some ⟨b2, 0, none⟩, uo, vo, ec, K.length, uc, vc, fun a => place K (O a), O, hK, rfl, ?_, ?_, ?_, ?_⟩
  · exact ownsRow_row R2.us _ (fun j hj => by rw [keyAt_eq hj]; simp [hj])
  · exact ownsRow_row R2.ud _ (fun j hj => by rw [numAt_eq hj]; simp [hj])
  · intro h0
    have hpos : 0 < (encAll K).length := by
      obtain ⟨r, hr⟩ := ent_at K h0
      have h1 := congrArg List.length hr
      have h2 := Lib.uvarint_pos (keyAt K 0).size
      simp only [List.length_drop, List.length_append] at h1
      omega
    obtain ⟨g, rfl, hc⟩ := ownsRow_own R2.en (fun j => .int .u8 (((encAll K).getD j 0).toNat : Int)) (fun j hj => by simp [Lib.byteCells, hj]) hpos
    refine ⟨g, rfl, ?_⟩
    exact {
      hE := rfl
      hec := ownsRow_cap R2.en
      hel := by omega
      cells := fun j hj => by rw [hc j hj]; simp [hj]
      row := .inr ⟨b2, 0, rfl, fun a ha => by rw [Nat.zero_add, hrow2.cell ha]; simp [pll, ha]⟩
      hn := hn
      ord := hinv.into
      ent := fun a ha => ent_at K (hinv.into a ha)
      hD := hD
      sorted := fun a b hab hb => hinv.pairs a b hab (by omega) (by omega)
      surj := hinv.surj
      dist := by rw [hK]; exact kept_dist S V n }
  · have h1 : Below w.heap.size w w6 := (((Below.refl _ _).alloc (Nat.le_refl _) _).trans (hbel.mono (by omega))).trans (hb6.mono (by omega))
    exact (h1.setCell (Nat.le_refl _) _).setCell (Nat.le_refl _) _

set_option maxRecDepth 4000 in
set_option maxHeartbeats 1000000 in
theorem abuild_any (ao bo : Option Addr) (n m c1 c2 : Nat) (S : Nat → ByteArray) (D V : Nat → Nat) (w : World) (hn : n ≤ 256) (hsum : sumLen S n ≤ 1048576)
    (hs : RowAt w ao n fun i => .string (S i)) (hd : RowAt w bo m fun i => .int .u64 (D i)) (hD : ∀ i, i < m → D i < 18446744073709551616)
    (hV : ∀ i, V i = if i < m then D i else 0) :
    Calls Yba.prog 10 #[.slice ao n c1, .slice bo m c2] w (BuildPost S V n w) := by
  have hS : ∀ k, k < n → (S k).size ≤ 1048576 := fun k hk => by
    have := sumLen_mono S (show k + 1 ≤ n by omega)
    simp only [sumLen] at this
    omega
  have hVb : ∀ k, V k < 18446744073709551616 := fun k => by
    rw [hV k]; split
    · exact hD k (by assumption)
    · omega
  obtain ⟨i9, hi9, hz9, hs9, hb9⟩ := info_parts Yba.info9
  obtain ⟨i22, hi22, hz22, hs22, hb22⟩ := info_parts Yba.info22
  obtain ⟨i95, hi95, hz95, hs95, hb95⟩ := info_parts Yba.info95
  obtain ⟨i5, hi5, hz5, hs5, hb5⟩ := info_parts Yba.info5
  have HV : Hid (∀ i, V i = if i < m then D i else 0) := hV
  have HS : Hid (∀ k, k < n → (S k).size ≤ 1048576) := hS
  have HB : Hid (∀ k, V k < 18446744073709551616) := hVb
  have HD : Hid (∀ i, i < m → D i < 18446744073709551616) := hD
  clear hV hS hVb hD
  go_enter Yba.func10, Yba.ntmps10
  go_wp2
  go_loopw [7, 8, 9, 10, 11] (fun vu vd vp ve x wr => ∃ i : Nat, i ≤ n ∧ x = .int .i64 i ∧ BRel (w.heap.size + 1) (kept S V i) wr vu vd vp ve ∧ Below (w.heap.size + 1) (w.alloc (.cells #[.slice none 0 0, .slice none 0 0] 29)) wr)
    (fun _ _ _ _ x _ => n - (intOf x).toNat)
  case atStart => exact ⟨0, Nat.zero_le _, rfl, BRel.nil _ _, Below.refl _ _⟩
  case round =>
    obtain ⟨i, hi, rfl, hR, hbel⟩ := hrel
    have hKl := kept_len S V i
    have hKe := kept_enc S V i (fun k hk => ⟨HB.out k, by have := HS.out k (by omega); omega⟩)
    have hsm := sumLen_mono S hi
    obtain ⟨K, hK⟩ : ∃ K, K = kept S V i := ⟨_, rfl⟩
    rw [← hK] at hR hKl hKe
    have HK : Hid (K = kept S V i) := hK
    clear hK
    obtain ⟨L, hL⟩ : ∃ L, L = (encAll K).length := ⟨_, rfl⟩
    have hLb : L ≤ 2000000 := by omega
    have HL : Hid (L = (encAll K).length) := hL
    have hz : w.heap.size + 1 ≤ wr.heap.size := by have := hbel.size; simpa using this
    clear hKe hsm hL
    obtain ⟨uo, uc, rfl⟩ := ownsRow_shape hR.us
    have hen := hR.en
    rw [← HL.out] at hen
    obtain ⟨eo, ec, rfl⟩ := ownsRow_shape hen
    have hu := ownsRow_row hR.us (fun i => .string (keyAt K i)) (fun j hj => by rw [keyAt_eq hj]; simp [hj])
    have HA : Hid (∀ a v, w.cell? a = some v → wr.cell? a = some v) := argCell hbel
    by_cases hlt : i < n
    · obtain ⟨g, o, rfl, hs'⟩ := hs.get hlt
      have a0 := HA.out _ _ (hs' i hlt)
      clear hs' hs
      have hKn : K.length ≤ 256 := by omega
      go_wp2
      go_loop [13, 14] (fun x y => ∃ k : Nat, k ≤ K.length ∧ y = .int .i64 k ∧ x = .bool false ∧ Hid (∀ a, a < k → (keyAt K a).toList ≠ (S i).toList)) (fun _ y => K.length - (intOf y).toNat)
      case atStart => exact ⟨0, Nat.zero_le _, rfl, rfl, (fun a ha => by omega : ∀ a, a < 0 → (keyAt K a).toList ≠ (S i).toList)⟩
      case round =>
        obtain ⟨k, hk, rfl, rfl, hne⟩ := hrel
        by_cases hkl : k < K.length
        · obtain ⟨g', o', rfl, hu'⟩ := hu.get hkl
          have b0 := hu' k hkl
          clear hu'
          by_cases heq : ((keyAt K k).toList == (S i).toList) = true
          · go_wp2
            go_roundw
            case rel =>
              have e1 : kept S V (i + 1) = K := by
                show kstep (kept S V i) (S i) (V i) = K
                rw [← HK.out]
                exact kstep_old hkl (by simpa using heq)
              refine ⟨i + 1, by omega, by go_num, ?_, hbel⟩
              rw [e1]
              exact ⟨hR.us, hR.ud, hR.pl, hR.en⟩
            case measure => simp [intOf]; omega
          · have heq' : ((keyAt K k).toList == (S i).toList) = false := by simpa using heq
            go_wp2
            go_round
            case rel =>
              refine ⟨k + 1, by omega, by go_num, rfl, (?_ : ∀ a, a < k + 1 → (keyAt K a).toList ≠ (S i).toList)⟩
              intro a ha
              by_cases e : a = k
              · subst e; simpa using heq'
              · exact hne.out a (by omega)
            case measure => simp [intOf]; omega
        · obtain rfl : k = K.length := by omega
          have hSi := HS.out i hlt
          have hnew : Hid (kept S V (i + 1) = K ++ [(S i, V i)]) := by
            show kstep (kept S V i) (S i) (V i) = K ++ [(S i, V i)]
            rw [← HK.out]
            exact kstep_new hne.out
          clear hne hu
          by_cases him : i < m
          · have hVi : V i = D i := by rw [HV.out i, if_pos him]
            obtain ⟨gd, od, rfl, hd'⟩ := hd.get him
            have a1 := HA.out _ _ (hd' i him)
            rw [← hVi] at a1
            clear hd' hVi
            go_wp2_with (at_builtin; refine wpList_append_own _ rfl (.tmp 54) (.tmp 58) 27 rfl (w.heap.size + 1) 95 i95 (.int .u32 0) 1 4 Yba.underlying27 hi95 hz95 hs95 hb95 rfl (by decide) _ _ _ rfl (hR.pl.alloc _) ⟨wr.heap.size, 0, none⟩ 1 1 [.int .u32 (L : Int)] rfl rfl (cell_one_new _ _ _) (one_u32 _) (by unfold maxLen; omega) (by omega) (by simp; omega) ?_)
            intro v1 w1 own1 grow1 _
            have k1 : Keeps 95 wr w1 := ((Keeps.refl _ _).alloc _).grown (hR.pl.alloc _) grow1
            have bel1 : Below (w.heap.size + 1) (w.alloc (.cells #[.slice none 0 0, .slice none 0 0] 29)) w1 := (hbel.alloc (by omega) _).grown grow1 (by simp; omega) (fun k hk => (hR.pl.lt k hk).1)
            have us1 := k1 _ _ _ _ _ _ (by decide) hR.us
            have ud1 := k1 _ _ _ _ _ _ (by decide) hR.ud
            have en1 := k1 _ _ _ _ _ _ (by decide) hen
            have z1 : w.heap.size + 1 ≤ w1.heap.size := by have := bel1.size; simpa using this
            clear grow1 k1
            go_wp2_with fail
            refine (append_uvarint (w.heap.size + 1) L (S i).size (by omega) _ _ w1 en1 z1 (by omega)).mono ?_
            rintro e w2 ⟨v2, rfl, own2, bel2, k2⟩
            have us2 := k2 _ _ _ _ _ _ (by decide) us1
            have ud2 := k2 _ _ _ _ _ _ (by decide) ud1
            have pl2 := k2 _ _ _ _ _ _ (by decide) own1
            have bel2' := bel1.trans bel2
            have z2 : w.heap.size + 1 ≤ w2.heap.size := by have := bel2'.size; simpa using this
            have hvl := Lib.uvarint_length64 (show (S i).size < 18446744073709551616 by omega)
            clear bel2 k2 us1 ud1 en1 own1 bel1 z1
            go_wp2_with (at_builtin; refine Lib.wpList_append_own_string _ rfl (.tmp 65) (.tmp 66) 26 9 rfl (w.heap.size + 1) 5 i5 Yba.underlying26 Yba.underlying9 hi5 hz5 hs5 hb5 _ _ _ rfl own2 (S i) rfl (by unfold maxLen; omega) (by omega) z2 ?_)
            intro v3 w3 own3 grow3 _
            have k3 : Keeps 5 w2 w3 := (Keeps.refl _ _).grown own2 grow3
            have bel3 : Below (w.heap.size + 1) (w.alloc (.cells #[.slice none 0 0, .slice none 0 0] 29)) w3 := bel2'.grown grow3 z2 (fun k hk => (own2.lt k hk).1)
            have us3 := k3 _ _ _ _ _ _ (by decide) us2
            have ud3 := k3 _ _ _ _ _ _ (by decide) ud2
            have pl3 := k3 _ _ _ _ _ _ (by decide) pl2
            have z3 : w.heap.size + 1 ≤ w3.heap.size := by have := bel3.size; simpa using this
            clear grow3 k3 us2 ud2 pl2 own2 bel2' z2
            go_wp2_with fail
            refine (append_uvarint (w.heap.size + 1) _ (V i) (HB.out i) _ _ w3 own3 z3 (by omega)).mono ?_
            rintro e w4 ⟨v4, rfl, own4, bel4, k4⟩
            have us4 := k4 _ _ _ _ _ _ (by decide) us3
            have ud4 := k4 _ _ _ _ _ _ (by decide) ud3
            have pl4 := k4 _ _ _ _ _ _ (by decide) pl3
            have bel4' := bel3.trans bel4
            have z4 : w.heap.size + 1 ≤ w4.heap.size := by have := bel4'.size; simpa using this
            clear bel4 k4 us3 ud3 pl3 own3 bel3 z3
            go_wp2_with (at_builtin; refine wpList_append_own _ rfl (.tmp 71) (.tmp 73) 23 rfl (w.heap.size + 1) 9 i9 (.string ⟨#[]⟩) 1 16 Yba.underlying23 hi9 hz9 hs9 hb9 rfl (by decide) _ _ _ rfl (us4.alloc _) ⟨w4.heap.size, 0, none⟩ 1 1 [.string (S i)] rfl rfl (cell_one_new _ _ _) (one_str _) (by unfold maxLen; omega) (by omega) (by simp; omega) ?_)
            intro v5 w5 own5 grow5 _
            have k5 : Keeps 9 w4 w5 := ((Keeps.refl _ _).alloc _).grown (us4.alloc _) grow5
            have bel5 : Below (w.heap.size + 1) (w.alloc (.cells #[.slice none 0 0, .slice none 0 0] 29)) w5 := (bel4'.alloc (by omega) _).grown grow5 (by simp; omega) (fun k hk => (us4.lt k hk).1)
            have ud5 := k5 _ _ _ _ _ _ (by decide) ud4
            have pl5 := k5 _ _ _ _ _ _ (by decide) pl4
            have en5 := k5 _ _ _ _ _ _ (by decide) own4
            have z5 : w.heap.size + 1 ≤ w5.heap.size := by have := bel5.size; simpa using this
            clear grow5 k5 us4 ud4 pl4 own4 bel4' z4
            go_wp2_with (at_builtin; refine wpList_append_own _ rfl (.tmp 75) (.tmp 77) 24 rfl (w.heap.size + 1) 22 i22 (.int .u64 0) 1 8 Yba.underlying24 hi22 hz22 hs22 hb22 rfl (by decide) _ _ _ rfl (ud5.alloc _) ⟨w5.heap.size, 0, none⟩ 1 1 [.int .u64 ((V i : Int))] rfl rfl (cell_one_new _ _ _) (one_u64 _) (by unfold maxLen; omega) (by omega) (by simp; omega) ?_)
            intro v6 w6 own6 grow6 _
            have k6 : Keeps 22 w5 w6 := ((Keeps.refl _ _).alloc _).grown (ud5.alloc _) grow6
            have bel6 : Below (w.heap.size + 1) (w.alloc (.cells #[.slice none 0 0, .slice none 0 0] 29)) w6 := (bel5.alloc (by omega) _).grown grow6 (by simp; omega) (fun k hk => (ud5.lt k hk).1)
            have us6 := k6 _ _ _ _ _ _ (by decide) own5
            have pl6 := k6 _ _ _ _ _ _ (by decide) pl5
            have en6 := k6 _ _ _ _ _ _ (by decide) en5
            clear grow6 k6 ud5 pl5 en5 own5 bel5 z5
            go_wp2
            go_roundw
            case rel =>
              refine ⟨i + 1, by omega, by go_num, ?_, bel6⟩
              rw [hnew.out]
              rw [HL.out] at en6 pl6
              exact BRel.snoc us6 own6 pl6 en6
            case measure => simp [intOf]; omega
          · have hVi : Hid (V i = 0) := by show V i = 0; rw [HV.out i, if_neg him]
            go_wp2_with (at_builtin; refine wpList_append_own _ rfl (.tmp 54) (.tmp 58) 27 rfl (w.heap.size + 1) 95 i95 (.int .u32 0) 1 4 Yba.underlying27 hi95 hz95 hs95 hb95 rfl (by decide) _ _ _ rfl (hR.pl.alloc _) ⟨wr.heap.size, 0, none⟩ 1 1 [.int .u32 (L : Int)] rfl rfl (cell_one_new _ _ _) (one_u32 _) (by unfold maxLen; omega) (by omega) (by simp; omega) ?_)
            intro v1 w1 own1 grow1 _
            have k1 : Keeps 95 wr w1 := ((Keeps.refl _ _).alloc _).grown (hR.pl.alloc _) grow1
            have bel1 : Below (w.heap.size + 1) (w.alloc (.cells #[.slice none 0 0, .slice none 0 0] 29)) w1 := (hbel.alloc (by omega) _).grown grow1 (by simp; omega) (fun k hk => (hR.pl.lt k hk).1)
            have us1 := k1 _ _ _ _ _ _ (by decide) hR.us
            have ud1 := k1 _ _ _ _ _ _ (by decide) hR.ud
            have en1 := k1 _ _ _ _ _ _ (by decide) hen
            have z1 : w.heap.size + 1 ≤ w1.heap.size := by have := bel1.size; simpa using this
            clear grow1 k1
            go_wp2_with fail
            refine (append_uvarint (w.heap.size + 1) L (S i).size (by omega) _ _ w1 en1 z1 (by omega)).mono ?_
            rintro e w2 ⟨v2, rfl, own2, bel2, k2⟩
            have us2 := k2 _ _ _ _ _ _ (by decide) us1
            have ud2 := k2 _ _ _ _ _ _ (by decide) ud1
            have pl2 := k2 _ _ _ _ _ _ (by decide) own1
            have bel2' := bel1.trans bel2
            have z2 : w.heap.size + 1 ≤ w2.heap.size := by have := bel2'.size; simpa using this
            have hvl := Lib.uvarint_length64 (show (S i).size < 18446744073709551616 by omega)
            clear bel2 k2 us1 ud1 en1 own1 bel1 z1
            go_wp2_with (at_builtin; refine Lib.wpList_append_own_string _ rfl (.tmp 65) (.tmp 66) 26 9 rfl (w.heap.size + 1) 5 i5 Yba.underlying26 Yba.underlying9 hi5 hz5 hs5 hb5 _ _ _ rfl own2 (S i) rfl (by unfold maxLen; omega) (by omega) z2 ?_)
            intro v3 w3 own3 grow3 _
            have k3 : Keeps 5 w2 w3 := (Keeps.refl _ _).grown own2 grow3
            have bel3 : Below (w.heap.size + 1) (w.alloc (.cells #[.slice none 0 0, .slice none 0 0] 29)) w3 := bel2'.grown grow3 z2 (fun k hk => (own2.lt k hk).1)
            have us3 := k3 _ _ _ _ _ _ (by decide) us2
            have ud3 := k3 _ _ _ _ _ _ (by decide) ud2
            have pl3 := k3 _ _ _ _ _ _ (by decide) pl2
            have z3 : w.heap.size + 1 ≤ w3.heap.size := by have := bel3.size; simpa using this
            clear grow3 k3 us2 ud2 pl2 own2 bel2' z2
            go_wp2_with fail
            refine (append_uvarint (w.heap.size + 1) _ 0 (by omega) _ _ w3 own3 z3 (by omega)).mono ?_
            rintro e w4 ⟨v4, rfl, own4, bel4, k4⟩
            have us4 := k4 _ _ _ _ _ _ (by decide) us3
            have ud4 := k4 _ _ _ _ _ _ (by decide) ud3
            have pl4 := k4 _ _ _ _ _ _ (by decide) pl3
            have bel4' := bel3.trans bel4
            have z4 : w.heap.size + 1 ≤ w4.heap.size := by have := bel4'.size; simpa using this
            clear bel4 k4 us3 ud3 pl3 own3 bel3 z3
            go_wp2_with (at_builtin; refine wpList_append_own _ rfl (.tmp 71) (.tmp 73) 23 rfl (w.heap.size + 1) 9 i9 (.string ⟨#[]⟩) 1 16 Yba.underlying23 hi9 hz9 hs9 hb9 rfl (by decide) _ _ _ rfl (us4.alloc _) ⟨w4.heap.size, 0, none⟩ 1 1 [.string (S i)] rfl rfl (cell_one_new _ _ _) (one_str _) (by unfold maxLen; omega) (by omega) (by simp; omega) ?_)
            intro v5 w5 own5 grow5 _
            have k5 : Keeps 9 w4 w5 := ((Keeps.refl _ _).alloc _).grown (us4.alloc _) grow5
            have bel5 : Below (w.heap.size + 1) (w.alloc (.cells #[.slice none 0 0, .slice none 0 0] 29)) w5 := (bel4'.alloc (by omega) _).grown grow5 (by simp; omega) (fun k hk => (us4.lt k hk).1)
            have ud5 := k5 _ _ _ _ _ _ (by decide) ud4
            have pl5 := k5 _ _ _ _ _ _ (by decide) pl4
            have en5 := k5 _ _ _ _ _ _ (by decide) own4
            have z5 : w.heap.size + 1 ≤ w5.heap.size := by have := bel5.size; simpa using this
            clear grow5 k5 us4 ud4 pl4 own4 bel4' z4
            go_wp2_with (at_builtin; refine wpList_append_own _ rfl (.tmp 75) (.tmp 77) 24 rfl (w.heap.size + 1) 22 i22 (.int .u64 0) 1 8 Yba.underlying24 hi22 hz22 hs22 hb22 rfl (by decide) _ _ _ rfl (ud5.alloc _) ⟨w5.heap.size, 0, none⟩ 1 1 [.int .u64 (0 : Int)] rfl rfl (cell_one_new _ _ _) (one_u64 _) (by unfold maxLen; omega) (by omega) (by simp; omega) ?_)
            intro v6 w6 own6 grow6 _
            have k6 : Keeps 22 w5 w6 := ((Keeps.refl _ _).alloc _).grown (ud5.alloc _) grow6
            have bel6 : Below (w.heap.size + 1) (w.alloc (.cells #[.slice none 0 0, .slice none 0 0] 29)) w6 := (bel5.alloc (by omega) _).grown grow6 (by simp; omega) (fun k hk => (ud5.lt k hk).1)
            have us6 := k6 _ _ _ _ _ _ (by decide) own5
            have pl6 := k6 _ _ _ _ _ _ (by decide) pl5
            have en6 := k6 _ _ _ _ _ _ (by decide) en5
            clear grow6 k6 ud5 pl5 en5 own5 bel5 z5
            go_wp2
            go_roundw
            case rel =>
              refine ⟨i + 1, by omega, by go_num, ?_, bel6⟩
              rw [hnew.out]
              rw [HL.out] at en6 pl6
              rw [hVi.out]
              exact BRel.snoc us6 own6 pl6 en6
            case measure => simp [intOf]; omega
    · obtain rfl : i = n := by omega
      clear hs hd HS HD HV HA hu hi hlt
      obtain ⟨vo, vc, rfl⟩ := ownsRow_shape hR.ud
      obtain ⟨po, pc, rfl⟩ := ownsRow_shape hR.pl
      have hp := ownsRow_row hR.pl (fun i => .int .u32 (place K i)) (fun j hj => by simp [hj])
      have hu := ownsRow_row hR.us (fun i => .string (keyAt K i)) (fun j hj => by rw [keyAt_eq hj]; simp [hj])
      have hKn : K.length ≤ 256 := by omega
      obtain ⟨N, hN⟩ : ∃ N, N = K.length := ⟨_, rfl⟩
      rw [← hN] at hp hu hKn
      have hmk1 := run_make_row' (P := Yba.prog) 97 3 (.int .i64 0) 8 Yba.underlying97 Yba.info3 rfl .i64 .i64 N (by omega) (by omega)
      have hmk2 := run_make_row' (P := Yba.prog) 27 95 (.int .u32 0) 4 Yba.underlying27 Yba.info95 rfl .i64 .i64 N (by omega) (by omega)
      have HN : Hid (N = K.length) := hN
      obtain ⟨W0, rfl⟩ : ∃ W0 : World, W0 = wr := ⟨_, rfl⟩
      rw [← hN]
      clear hN hKl
      have HP : Hid (RowAt W0 po N fun i => .int .u32 (place K i)) := hp
      have HU : Hid (RowAt W0 uo N fun i => .string (keyAt K i)) := hu
      clear hp hu
      go_wp2
      go_loopw [17] (fun x w3 => ∃ k : Nat, k ≤ N ∧ x = .int .i64 k ∧ w3.rowIs W0.heap.size 3 N (fun y => .int .i64 (idk k y)) ∧ Below W0.heap.size W0 w3) (fun x _ => N - (intOf x).toNat)
      case atStart => exact ⟨0, Nat.zero_le _, rfl, (World.rowIs_made _ _ _ _).congr (fun y _ => by simp [idk]), (Below.refl _ _).alloc (Nat.le_refl _) _⟩
      case round =>
        obtain ⟨k, hk, rfl, hrow, hb3⟩ := hrel
        by_cases hkl : k < N
        · have e0 := hrow.cell hkl
          have f0 := hrow.frozen k
          go_wp2
          go_roundw
          case rel => exact ⟨k + 1, by omega, by go_num, (hrow.set k (.int .i64 k)).congr (fun y _ => idk_step k y), hb3.setCell (Nat.le_refl _) _⟩
          case measure => simp [intOf]; omega
        · obtain rfl : k = N := by omega
          have hrow2 := hrow.congr (g := fun y => .int .i64 ((y : Nat) : Int)) (fun y hy => by simp [idk, hy])
          clear hrow hk hkl
          obtain ⟨W1, rfl⟩ : ∃ W1 : World, W1 = wr := ⟨_, rfl⟩
          go_wp2
          go_loopw [18] (fun x w4 => ∃ (i4 : Nat) (O : Nat → Nat), 1 ≤ i4 ∧ (i4 = 1 ∨ i4 ≤ k) ∧ x = .int .i64 i4 ∧ w4.rowIs W0.heap.size 3 k (fun y => .int .i64 ((O y : Nat) : Int)) ∧ SInv (keyAt K) k i4 i4 O ∧ Below W0.heap.size W0 w4) (fun x _ => k - (intOf x).toNat)
          case atStart => exact ⟨1, fun y => y, Nat.le_refl _, .inl rfl, rfl, hrow2, SInv.start _ _, hb3⟩
          case round =>
            obtain ⟨i4, O4, h41, h42, rfl, hrow4, hinv4, hb4⟩ := hrel
            by_cases hi4 : i4 < k
            · obtain ⟨W4, rfl⟩ : ∃ W4 : World, W4 = wr := ⟨_, rfl⟩
              obtain ⟨gu, ou, rfl, hu'⟩ := HU.out.get hi4
              go_wp2
              go_loopw [19] (fun y w5 => ∃ (j : Nat) (O : Nat → Nat), j ≤ i4 ∧ y = .int .i64 j ∧ w5.rowIs W0.heap.size 3 k (fun y => .int .i64 ((O y : Nat) : Int)) ∧ SInv (keyAt K) k i4 j O ∧ Below W0.heap.size W0 w5) (fun y _ => (intOf y).toNat)
              case atStart => exact ⟨i4, O4, Nat.le_refl _, rfl, hrow4, hinv4, hb4⟩
              case round =>
                obtain ⟨j, O, hj, rfl, hrow5, hinv5, hb5⟩ := hrel
                match j with
                | 0 =>
                  have hd0 : decide ((0 : Int) < 0) = false := by decide
                  go_wp2
                  go_quiet (fail)
                  go_wp2
                  go_roundw
                  case rel => exact ⟨i4 + 1, O, by omega, .inr (by omega), by go_num, rowIs_drewN hrow5 _, hinv5.done hj (.inl rfl), below_drewN hb5 _⟩
                  case measure => simp [intOf]; omega
                | j + 1 =>
                  have g1 := hrow5.cell (show j + 1 < k by omega)
                  have g0 := hrow5.cell (show j < k by omega)
                  have f1 := hrow5.frozen (j + 1)
                  have f0 := hrow5.frozen j
                  have o1 := hinv5.into (j + 1) (by omega)
                  have o0 := hinv5.into j (by omega)
                  have u1 := below_cells hb5 _ _ (hu' _ o1)
                  have u0 := below_cells hb5 _ _ (hu' _ o0)
                  by_cases hless : Op.bytesLess (keyAt K (O (j + 1))).toList (keyAt K (O j)).toList = true
                  · go_wp2
                    go_quiet (fail)
                    go_wp2
                    go_roundw
                    case rel =>
                      refine ⟨j, swp O (j + 1), by omega, rfl, ?_, ?_, ?_⟩
                      · exact (((rowIs_drewN hrow5 _).set (j + 1) _).set j _).congr (fun y _ => swp_val O j y)
                      · exact hinv5.swap (by omega) hj hi4 hless
                      · exact ((below_drewN hb5 _).setCell (Nat.le_refl _) _).setCell (Nat.le_refl _) _
                    case measure => simp [intOf]
                  · have hless' : Op.bytesLess (keyAt K (O (j + 1))).toList (keyAt K (O j)).toList = false := by simpa using hless
                    go_wp2
                    go_quiet (fail)
                    go_wp2
                    go_roundw
                    case rel => exact ⟨i4 + 1, O, by omega, .inr (by omega), by go_num, rowIs_drewN hrow5 _, hinv5.done hj (.inr hless'), below_drewN hb5 _⟩
                    case measure => simp [intOf]; omega
            · obtain ⟨W4, rfl⟩ : ∃ W4 : World, W4 = wr := ⟨_, rfl⟩
              have hz4 : W0.heap.size < W4.heap.size := hrow4.lt
              go_wp2
              go_loopw [22] (fun x w6 => ∃ q : Nat, q ≤ k ∧ x = .int .i64 q ∧ w6.rowIs W4.heap.size 95 k (fun y => .int .u32 ((pll K O4 q y : Nat) : Int)) ∧ w6.rowIs W0.heap.size 3 k (fun y => .int .i64 ((O4 y : Nat) : Int)) ∧ Below W0.heap.size W0 w6) (fun x _ => k - (intOf x).toNat)
              case atStart => exact ⟨0, Nat.zero_le _, rfl, (World.rowIs_made _ _ _ _).congr (fun y _ => by simp [pll]), hrow4.alloc _, hb4.alloc (by omega) _⟩
              case round =>
                obtain ⟨q, hq, rfl, hrow6, hord6, hb6⟩ := hrel
                by_cases hqk : q < k
                · obtain ⟨gp, op, rfl, hp'⟩ := HP.out.get hqk
                  have o0 := hinv4.into q hqk
                  have g0 := hord6.cell hqk
                  have g1 := hrow6.cell hqk
                  have f1 := hrow6.frozen q
                  have p0 := below_cells hb6 _ _ (hp' _ o0)
                  go_wp2
                  go_roundw
                  case rel => exact ⟨q + 1, by omega, by go_num, (hrow6.set q _).congr (fun y _ => pll_step K O4 q y), hord6.setOther (by show W0.heap.size ≠ W4.heap.size; omega) _, hb6.setCell (by show W0.heap.size ≤ W4.heap.size; omega) _⟩
                  case measure => simp [intOf]; omega
                · obtain rfl : q = k := by omega
                  have hbF : Below (w.heap.size + 1) (w.alloc (.cells #[.slice none 0 0, .slice none 0 0] 29)) wr := hbel.trans (hb6.mono hz)
                  have t0 : wr.cell? ⟨w.heap.size, 0, none⟩ = some (.slice none 0 0) := by rw [hbF.cell (by show w.heap.size < _; omega)]; simp
                  have t1 : wr.cell? ⟨w.heap.size, 1, none⟩ = some (.slice none 0 0) := by rw [hbF.cell (by show w.heap.size < _; omega)]; simp
                  have y0 : wr.frozen? ⟨w.heap.size, 0, none⟩ = false := by rw [hbF.frozen (by show w.heap.size < _; omega)]; simp
                  have y1 : wr.frozen? ⟨w.heap.size, 1, none⟩ = false := by rw [hbF.frozen (by show w.heap.size < _; omega)]; simp
                  have z6 : w.heap.size < wr.heap.size := by have := hbF.size; simp at this; omega
                  go_wp2
                  refine bodyPost_ret (v := .tuple #[.agg #[.slice eo L ec, .slice (some ⟨W4.heap.size, 0, none⟩) q q], .slice uo q uc, .slice vo q vc]) (by simp [results, Yba.results10, go_sem, t0, t1]) rfl ?_
                  exact build_done HK.out HN.out HL.out hR hz (by omega) hKn hLb (fun a ha => by rw [HK.out] at ha ⊢; exact kept_num S V i (fun k _ => HB.out k) a ha) hrow6 hinv4 (by omega) hbel hb6

end Go.Proofs.Ybulkbjfc.TA
