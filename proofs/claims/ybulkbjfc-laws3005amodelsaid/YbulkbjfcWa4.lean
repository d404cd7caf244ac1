import Derived.Test.YbulkbjfcWa3
import Derived.RegionTactic
import Derived.BigRegion
import Derived.Deep.RegionWith
namespace Go.Proofs.Ybulkbjfc.TA
open Go.RowKit

/-- a table in memory: its entries' bytes E in block g, its sorted places P; entry a is of source U (O a), number D (O a) -/
structure Tab (w : World) (g el ec : Nat) (so : Option Addr) (n : Nat) (E : List UInt8) (P O : Nat → Nat) (U : Nat → ByteArray) (D : Nat → Nat) : Prop where
  hE : E.length = el
  hec : el ≤ ec
  hel : el ≤ 4194304
  cells : ∀ j (hj : j < E.length), w.cell? ⟨g, j, none⟩ = some (.int .u8 (E[j]).toNat)
  row : RowAt w so n fun i => .int .u32 (P i)
  hn : n ≤ 256
  ord : ∀ a, a < n → O a < n
  ent : ∀ a, a < n → ∃ r, E.drop (P a) = Lib.uvarint (U (O a)).size ++ ((U (O a)).data.toList ++ (Lib.uvarint (D (O a)) ++ r))
  hD : ∀ a, a < n → D a < 18446744073709551616
  sorted : ∀ a b, a < b → b < n → Op.bytesLess (U (O b)).toList (U (O a)).toList = false
  surj : ∀ x, x < n → ∃ a, a < n ∧ O a = x
  dist : ∀ a b, a < n → b < n → (U a).toList = (U b).toList → a = b

theorem addr_add (b o j : Nat) : (⟨b, o, none⟩ : Addr).add j = ⟨b, o + j, none⟩ := by
  unfold Addr.add
  by_cases h : j = 0 <;> simp [h]

section
variable {w : World} {g el ec : Nat} {so : Option Addr} {n : Nat} {E : List UInt8} {P O : Nat → Nat} {U : Nat → ByteArray} {D : Nat → Nat}

theorem Tab.mono {w' : World} (T : Tab w g el ec so n E P O U D) (hc : ∀ a v, w.cell? a = some v → w'.cell? a = some v) : Tab w' g el ec so n E P O U D :=
  { T with cells := fun j hj => hc _ _ (T.cells j hj), row := T.row.mono hc }

/-- lengths of an entry -/
theorem Tab.len (T : Tab w g el ec so n E P O U D) {a : Nat} (ha : a < n) : P a + (Lib.uvarint (U (O a)).size).length + (U (O a)).size < el := by
  obtain ⟨r, hr⟩ := T.ent a ha
  have h1 := congrArg List.length hr
  have h2 := Lib.uvarint_pos (D (O a))
  have h3 := T.hE
  have h4 := Lib.uvarint_pos (U (O a)).size
  have h5 : (U (O a)).data.toList.length = (U (O a)).size := by simp
  simp only [List.length_drop, List.length_append, h5] at h1
  omega
theorem Tab.size_lt (T : Tab w g el ec so n E P O U D) {a : Nat} (ha : a < n) : (U (O a)).size < 18446744073709551616 := by
  have h1 := T.len ha
  have h2 := T.hel
  omega
/-- the byte j behind place p -/
theorem Tab.at (T : Tab w g el ec so n E P O U D) {p j : Nat} {l : List UInt8} (m : Nat) (hl : l = (E.drop p).take m) (hj : j < l.length) : w.cell? ⟨g, p + j, none⟩ = some (.int .u8 (l[j]).toNat) := by
  subst hl
  have h1 : j < m ∧ p + j < E.length := by simp at hj; omega
  have := T.cells (p + j) h1.2
  rw [this]
  simp

theorem Tab.uv (T : Tab w g el ec so n E P O U D) {a : Nat} (ha : a < n) (m c : Nat) (hm : m = el - P a ∨ m = (Lib.uvarint (U (O a)).size).length + (U (O a)).size) {W : World} (hW : Below w.heap.size w W) :
    Calls Yba.prog 30 #[.slice (some ⟨g, P a, none⟩) m c] W fun e w' => e = .returned (.tuple #[.int .u64 (U (O a)).size, .int .i64 (Lib.uvarint (U (O a)).size).length]) ∧ w' = W := by
  obtain ⟨r, hr⟩ := T.ent a ha
  have h3 := T.hE
  have h5 : (U (O a)).data.toList.length = (U (O a)).size := by simp
  have hT := T.mono (below_cells hW)
  have hlen := T.len ha
  have hl : ∃ r', (E.drop (P a)).take m = Lib.uvarint (U (O a)).size ++ r' := by
    rw [hr]
    rcases hm with rfl | rfl
    · refine ⟨(U (O a)).data.toList ++ (Lib.uvarint (D (O a)) ++ r), ?_⟩
      rw [List.take_of_length_le]
      have := congrArg List.length hr
      rw [← this, List.length_drop]
      omega
    · refine ⟨(U (O a)).data.toList, ?_⟩
      rw [← h5, ← List.append_assoc, List.take_append_of_le_length (by simp), List.take_of_length_le (by simp)]
  obtain ⟨r', hl⟩ := hl
  have hlm : ((E.drop (P a)).take m).length = m := by
    simp only [List.length_take, List.length_drop]
    rcases hm with rfl | rfl <;> omega
  have := Yba.binary_Uvarint g (P a) m c ((E.drop (P a)).take m) W hlm (fun j hj => hT.at m rfl hj)
  rw [hl, dec_enc _ (T.size_lt ha)] at this
  exact this

theorem Tab.conv (T : Tab w g el ec so n E P O U D) {a : Nat} (ha : a < n) (c : Nat) {W : World} (hW : Below w.heap.size w W) :
    (convert 26 9 (.slice (some ⟨g, P a + (Lib.uvarint (U (O a)).size).length, none⟩) (U (O a)).size c)).run Yba.prog W = .ok (.string (U (O a))) W := by
  obtain ⟨r, hr⟩ := T.ent a ha
  have h5 : (U (O a)).data.toList.length = (U (O a)).size := by simp
  have hT := T.mono (below_cells hW)
  have hl : (U (O a)).data.toList = (E.drop (P a + (Lib.uvarint (U (O a)).size).length)).take (U (O a)).size := by
    rw [← List.drop_drop, hr, List.drop_left, List.take_append_of_le_length (by simp), List.take_of_length_le (by simp)]
  have := run_convert_bytes_back (P := Yba.prog) W 26 9 5 ⟨g, P a + (Lib.uvarint (U (O a)).size).length, none⟩ c (U (O a)).data.toList Yba.underlying26 Yba.underlying5 Yba.underlying9 (fun j hj => by rw [addr_add]; exact hT.at _ hl hj)
  rw [h5] at this
  rw [this]

theorem Tab.dv (T : Tab w g el ec so n E P O U D) {a : Nat} (ha : a < n) (m c : Nat) (hm : m = el - (P a + ((Lib.uvarint (U (O a)).size).length + (U (O a)).size))) {W : World} (hW : Below w.heap.size w W) :
    Calls Yba.prog 30 #[.slice (some ⟨g, P a + ((Lib.uvarint (U (O a)).size).length + (U (O a)).size), none⟩) m c] W fun e w' => e = .returned (.tuple #[.int .u64 (D (O a)), .int .i64 (Lib.uvarint (D (O a))).length]) ∧ w' = W := by
  obtain ⟨r, hr⟩ := T.ent a ha
  have h3 := T.hE
  have h5 : (U (O a)).data.toList.length = (U (O a)).size := by simp
  have hT := T.mono (below_cells hW)
  have hl : (E.drop (P a + ((Lib.uvarint (U (O a)).size).length + (U (O a)).size))).take m = Lib.uvarint (D (O a)) ++ r := by
    rw [List.take_of_length_le (by simp; omega), ← List.drop_drop, hr, ← List.append_assoc, List.drop_left' (by simp)]
  have hlm : ((E.drop (P a + ((Lib.uvarint (U (O a)).size).length + (U (O a)).size))).take m).length = m := by
    simp only [List.length_take, List.length_drop]
    omega
  have := Yba.binary_Uvarint g _ m c _ W hlm (fun j hj => hT.at m rfl hj)
  rw [hl, dec_enc _ (T.hD _ (T.ord a ha))] at this
  exact this

theorem cmpI_neg (x y : ByteArray) : cmpI x y < 0 ↔ Op.bytesLess x.toList y.toList = true := by
  unfold cmpI
  by_cases h : Op.bytesLess x.toList y.toList = true
  · simp [h]
  · rw [if_neg h]
    split <;> simp [h]
theorem cmpI_zero (x y : ByteArray) : cmpI x y = 0 ↔ x.toList = y.toList := by
  unfold cmpI
  by_cases h : Op.bytesLess x.toList y.toList = true
  · simp [h, bl_ne h]
  · rw [if_neg h]
    split
    · rename_i h2; simpa using h2
    · rename_i h2; simpa using h2

/-- what the search says of the source looked for -/
theorem Tab.found (T : Tab w g el ec so n E P O U D) (src : ByteArray) {i : Nat} {f : Bool} (hf : f = (decide (i < n) && decide (cmpI (U (O i)) src = 0)))
    (hA : ∀ a, a < i → cmpI (U (O a)) src < 0) (hB : ∀ a, i ≤ a → a < n → 0 ≤ cmpI (U (O a)) src) :
    (f = true ∧ i < n ∧ look U D n src = D (O i)) ∨ (f = false ∧ look U D n src = 0) := by
  cases f with
  | true =>
    simp only [Bool.true_eq, Bool.and_eq_true, decide_eq_true_eq] at hf
    exact .inl ⟨rfl, hf.1, look_some T.dist (T.ord i hf.1) ((cmpI_zero _ _).1 hf.2)⟩
  | false =>
    refine .inr ⟨rfl, look_none fun x hx => ?_⟩
    obtain ⟨a, ha, rfl⟩ := T.surj x hx
    by_cases hai : a < i
    · exact bl_ne ((cmpI_neg _ _).1 (hA a hai))
    · intro he
      have hin : i < n := by omega
      have hne : ¬ cmpI (U (O i)) src = 0 := by
        intro h0
        simp [hin, h0] at hf
      have hia : i ≠ a := by
        intro e; subst e
        exact hne ((cmpI_zero _ _).2 he)
      have h1 : Op.bytesLess (U (O a)).toList (U (O i)).toList = false := T.sorted i a (by omega) ha
      have h2 : Op.bytesLess (U (O i)).toList src.toList = false := by
        have h3 := hB i (Nat.le_refl _) hin
        cases e : Op.bytesLess (U (O i)).toList src.toList with
        | false => rfl
        | true => have := (cmpI_neg _ _).2 e; omega
      rw [he] at h1
      exact hne ((cmpI_zero _ _).2 (bl_tri h2 h1))

theorem Tab.mono_cmp (T : Tab w g el ec so n E P O U D) (src : ByteArray) : ∀ a b, a ≤ b → b < n → cmpI (U (O b)) src < 0 → cmpI (U (O a)) src < 0 := by
  intro a b hab hb h
  by_cases e : a = b
  · rw [e]; exact h
  rw [cmpI_neg] at h ⊢
  have h1 := T.sorted a b (by omega) hb
  cases e2 : Op.bytesLess (U (O a)).toList src.toList with
  | true => rfl
  | false =>
    have h3 := bl_le_trans e2 h1
    rw [h] at h3
    exact h3.symm

theorem wrapI (a : Int) (h0 : 0 ≤ a) (h1 : a ≤ 100000000) : IntKind.i64.wrap a = a := by rw [IntKind.wrap_i64]; omega
theorem wrapJ (a : Int) (h0 : 0 ≤ a) (h1 : a ≤ 100000000) : wrap64 a = a := by unfold wrap64; omega

/-- a table without entries -/
theorem get_zero (ev : Value) (so : Option Addr) (sc : Nat) (src : ByteArray) (w : World) (hev : ∃ a l c, ev = .slice a l c) :
    Calls Yba.prog 22 #[.agg #[ev, .slice so 0 sc], .string src] w fun e w' => e = .returned (.int .u64 0) ∧ Below w.heap.size w w' := by
  obtain ⟨a, l, c, rfl⟩ := hev
  go_enter Yba.func22, Yba.ntmps22
  go_wp2_with fail
  refine (search_any 0 sc _ so (fun _ => 0) (fun _ => 0) src _ (by omega) (.inl rfl) (fun W _ a ha => by omega) (fun a b _ hb => by omega)).mono ?_
  rintro e w1 ⟨i, f, rfl, hi, hf, hA, hB, hb⟩
  obtain rfl : f = false := by simpa using hf
  clear hf hA hB
  go_wp2
  go_ret
  exact ⟨rfl, ((Below.refl _ _).alloc (Nat.le_refl _) _).trans (hb.mono (by simp))⟩

set_option maxRecDepth 4000 in
set_option maxHeartbeats 400000 in
theorem get_some (T : Tab w g el ec so n E P O U D) (sc : Nat) (src : ByteArray) :
    Calls Yba.prog 22 #[.agg #[.slice (some ⟨g, 0, none⟩) el ec, .slice so n sc], .string src] w fun e w' => e = .returned (.int .u64 (look U D n src)) ∧ Below w.heap.size w w' := by
  have hn := T.hn
  have hb0 : Below w.heap.size w (w.alloc (Obj.cells #[Value.slice (some { block := g, off := 0 }) el ec, Value.slice so n sc] 29)) := (Below.refl _ _).alloc (Nat.le_refl _) _
  have T0 := T.mono (below_cells hb0)
  go_enter Yba.func22, Yba.ntmps22
  go_wp2_with fail
  refine (search_any n sc w.heap.size so P (fun a => cmpI (U (O a)) src) src _ hn T0.row (fun W hW a ha => ?_) (T.mono_cmp src)).mono ?_
  · have TW := T0.mono (below_cells hW)
    have hlen := T.len ha
    refine get1_core g (P a) el ec _ _ n sc w.heap.size so (U (O a)) src W (by omega) T.hec T.hel hlen ?_ ?_ (fun V hV => TW.uv ha _ _ (.inl rfl) hV) (fun V hV => TW.uv ha _ _ (.inr rfl) hV) (fun V hV => TW.conv ha _ hV)
    · exact below_cells hW _ _ (by simp)
    · exact below_cells hW _ _ (by simp)
  rintro e w1 ⟨i, f, rfl, hi, hf, hA, hB, hb⟩
  rcases T.found src hf hA hB with ⟨rfl, hin, hlk⟩ | ⟨rfl, hlk⟩
  · have HL : Hid (look U D n src = D (O i)) := hlk
    clear hf hA hB hlk
    have T1 := T0.mono (below_cells hb)
    have hlen := T1.len hin
    have hec := T1.hec
    have hel := T1.hel
    have hF : ∀ W, Below w1.heap.size w1 W → Calls Yba.prog 31 #[.agg #[.slice (some ⟨g, 0, none⟩) el ec, .slice so n sc], .int .u32 (P i)] W
        fun e w' => e = .returned (.slice (some ⟨g, P i, none⟩) ((Lib.uvarint (U (O i)).size).length + (U (O i)).size) (ec - P i)) ∧ Below w1.heap.size w1 w' := fun W hW =>
      (sourceField_core g (P i) el ec _ _ n sc so W (by omega) hec hel hlen (fun V hV => (T1.mono (below_cells hW)).uv hin _ _ (.inl rfl) hV)).mono fun e w' h => ⟨h.1, hW.trans (h.2.mono hW.size)⟩
    have hG : ∀ W, Below w1.heap.size w1 W → ∀ c, Calls Yba.prog 30 #[.slice (some ⟨g, P i + ((Lib.uvarint (U (O i)).size).length + (U (O i)).size), none⟩) (el - (P i + ((Lib.uvarint (U (O i)).size).length + (U (O i)).size))) c] W
        fun e w' => e = .returned (.tuple #[.int .u64 (D (O i)), .int .i64 (Lib.uvarint (D (O i))).length]) ∧ w' = W := fun W hW c => T1.dv hin _ c rfl hW
    obtain ⟨gs, os, rfl, hs'⟩ := T1.row.get hin
    have c0 := hs' i hin
    have t0 : w1.cell? ⟨w.heap.size, 0, none⟩ = some (.slice (some ⟨g, 0, none⟩) el ec) := below_cells hb _ _ (by simp)
    have t1 : w1.cell? ⟨w.heap.size, 1, none⟩ = some (.slice (some ⟨gs, os, none⟩) n sc) := below_cells hb _ _ (by simp)
    clear T T0 T1 hs'
    generalize P i = p at *
    generalize D (O i) = d at *
    generalize (U (O i)).size = sz at *
    generalize (Lib.uvarint sz).length = vl at *
    generalize (Lib.uvarint d).length = kd at *
    have hz : w.heap.size < w1.heap.size := by have := hb.size; simp at this; omega
    have hp : p ≤ 4194304 := by omega
    have x4 : (0 : Int) ≤ (p : Int) + ((vl : Int) + (sz : Int)) := by omega
    have x5 : (p : Int) + ((vl : Int) + (sz : Int)) ≤ (el : Int) := by omega
    have x6 : p + (vl + sz) < ec := by omega
    go_wp2
    have x7 : (p : Int) + ((vl : Int) + (sz : Int)) ≤ 100000000 := by omega
    have x8 : (p : Int) ≤ 100000000 := by omega
    have x9 : ((p : Int) + ((vl : Int) + (sz : Int))).toNat = p + (vl + sz) := by omega
    have x10 : ¬ ec = p + (vl + sz) := by omega
    have x1 := wrapI (p : Int) (Int.natCast_nonneg _) x8
    have x2 := wrapI ((p : Int) + ((vl : Int) + (sz : Int))) x4 x7
    clear x7 x8
    go_region_with (first | (go_at_call 31; refine (hF _ (Below.refl _ _).drew).mono ?_; rintro e w2 ⟨rfl, hb2⟩; have y0 := below_cells hb2 _ _ t0; have y1 := below_cells hb2 _ _ t1) | (go_at_call 30; refine (hG _ (by assumption) _).mono ?_; rintro e w3 ⟨rfl, rfl⟩))
    all_goals
      have hb2 := ‹Below w1.heap.size w1 _›
      clear x1 x2 x9
      go_wp2
      go_ret
      exact ⟨ret_int (by rw [HL.out]), (hb0.trans (hb.mono (by simp))).trans (hb2.mono (by omega))⟩
  · have HL : Hid (look U D n src = 0) := hlk
    clear hf hA hB hlk
    go_wp2
    go_ret
    exact ⟨ret_int (by rw [HL.out]; rfl), hb0.trans (hb.mono (by simp))⟩

end
end Go.Proofs.Ybulkbjfc.TA
