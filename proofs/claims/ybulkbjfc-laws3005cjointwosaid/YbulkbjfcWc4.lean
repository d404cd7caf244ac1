import Derived.Test.YbulkbjfcWc3
import Derived.OwnWalk
namespace Go.Proofs.Ybulkbjfc.TC
open Go.RowKit

/-- the places kept among the first k steps, and the number and deadline of the last kept -/
def kst (src : ByteArray) (q d : Int) (S : Nat → ByteArray) (Q T : Nat → Int) : Nat → List Nat × Int × Int
  | 0 => ([], 0, 0)
  | k + 1 => if ((S k).toList == src.toList && fitsB q d (kst src q d S Q T k).2.1 (kst src q d S Q T k).2.2 (Q k) (T k)) = true then ((kst src q d S Q T k).1 ++ [k], Q k, T k) else kst src q d S Q T k
theorem kst_len (src : ByteArray) (q d : Int) (S : Nat → ByteArray) (Q T : Nat → Int) : ∀ k, (kst src q d S Q T k).1.length ≤ k
  | 0 => by simp [kst]
  | k + 1 => by
    have := kst_len src q d S Q T k
    simp only [kst]
    split
    · simp; omega
    · omega
/-- one step's cells -/
def stepCells (S : Nat → ByteArray) (Q T : Nat → Int) (l : List Nat) : List Value := l.flatMap fun i => [.string (S i), .int .u64 (Q i), .int .i64 (T i)]
theorem stepCells_snoc (S : Nat → ByteArray) (Q T : Nat → Int) (l : List Nat) (k : Nat) : stepCells S Q T (l ++ [k]) = stepCells S Q T l ++ [.string (S k), .int .u64 (Q k), .int .i64 (T k)] := by simp [stepCells]
theorem stepCells_at (S : Nat → ByteArray) (Q T : Nat → Int) : ∀ (l : List Nat) (i : Nat), i < l.length → (stepCells S Q T l)[i * 3]? = some (.string (S (l.getD i 0))) ∧ (stepCells S Q T l)[i * 3 + 1]? = some (.int .u64 (Q (l.getD i 0))) ∧ (stepCells S Q T l)[i * 3 + 1 + 1]? = some (.int .i64 (T (l.getD i 0)))
  | [], i, h => by simp at h
  | a :: r, 0, _ => by simp [stepCells]
  | a :: r, i + 1, h => by
    have ih := stepCells_at S Q T r i (by simpa using h)
    have e : ∀ j, (stepCells S Q T (a :: r))[(i + 1) * 3 + j]? = (stepCells S Q T r)[i * 3 + j]? := fun j => by
      rw [show (i + 1) * 3 + j = (i * 3 + j) + 3 by omega]
      simp [stepCells]
    refine ⟨?_, ?_, ?_⟩
    · have := e 0; simp only [Nat.add_zero] at this; rw [this]; simpa using ih.1
    · rw [e 1]; simpa using ih.2.1
    · have := e 2; rw [Nat.add_assoc, this]; simpa using ih.2.2

theorem three_new (w : World) (a b c : Value) (t : TypeId) : ∀ j u, [a, b, c][j]? = some u → (w.alloc (.cells #[a, b, c] t)).cell? ((⟨w.heap.size, 0, none⟩ : Addr).add j) = some u := by
  intro j u hj
  match j, hj with
  | 0, hj => simp at hj; subst hj; simp [Addr.add]
  | 1, hj => simp at hj; subst hj; simp [Addr.add]
  | 2, hj => simp at hj; subst hj; simp [Addr.add]
theorem three_one (s : ByteArray) (q t : Int) : ∀ u ∈ [Value.string s, .int .u64 q, .int .i64 t], u.oneCell' = true := by
  intro u hu
  simp at hu
  rcases hu with rfl | rfl | rfl <;> rfl
theorem ownsRow_below {W w' : World} {B size : Nat} {e : TypeId} {v : Value} {n : Nat} {xs : List Value} (h : W.ownsRow B e size v n xs) (hb : Below W.heap.size W w') : w'.ownsRow B e size v n xs := by
  refine ⟨h.1, ?_⟩
  rcases h.2 with h2 | ⟨g, cap, cur, hv, h3, h4, h5⟩
  · exact .inl h2
  · refine .inr ⟨g, cap, cur, hv, h3, ?_, h5⟩
    have hg : g < W.heap.size := (Array.getElem?_eq_some_iff.1 h4).1
    rw [hb.block g hg]
    exact h4
theorem ownsRow_shape {w : World} {B size : Nat} {e : TypeId} {v : Value} {n : Nat} {xs : List Value} (h : w.ownsRow B e size v n xs) : ∃ ao c, v = .slice ao n c := by
  rcases h.2 with ⟨rfl, rfl⟩ | ⟨g, cap, cur, rfl, _⟩
  · exact ⟨none, 0, rfl⟩
  · exact ⟨some ⟨g, 0, none⟩, cap, rfl⟩
theorem ownsRow_steps {w : World} {B : Nat} {ao : Option Addr} {c : Nat} {S : Nat → ByteArray} {Q T : Nat → Int} {l : List Nat} (h : w.ownsRow B 51 3 (.slice ao l.length c) l.length (stepCells S Q T l)) :
    StepsAt w ao l.length (fun i => S (l.getD i 0)) (fun i => Q (l.getD i 0)) (fun i => T (l.getD i 0)) := by
  rcases h.2 with ⟨_, h0⟩ | ⟨g, cap, cur, hv, _⟩
  · exact .inl h0
  · simp at hv
    obtain ⟨rfl, rfl⟩ := hv
    refine .inr ⟨g, 0, rfl, fun i hi => ?_⟩
    have := stepCells_at S Q T l i hi
    exact ⟨by rw [Nat.zero_add, h.cellAt _ (by omega)]; exact this.1, by rw [Nat.zero_add, h.cellAt _ (by omega)]; exact this.2.1, by rw [Nat.zero_add, h.cellAt _ (by omega)]; exact this.2.2⟩

theorem Yba.info51 : (Yba.prog.info? 51).map (fun i => (i.zero, i.size, i.bytes)) = some (some (.agg #[.string ⟨#[]⟩, .int .u64 0, .int .i64 0]), 3, 32) := by kernel_rfl

/-- what 'entry' hands back -/
def EntryPost (src : ByteArray) (q d p : Int) (n : Nat) (S : Nat → ByteArray) (Q T : Nat → Int) (w : World) (e : Ending) (w' : World) : Prop :=
  ∃ (ko : Option Addr) (kc : Nat), e = .returned (.agg #[.int .u64 q, .int .i64 d, .int .u64 p, .slice ko (kst src q d S Q T n).1.length kc]) ∧
    StepsAt w' ko (kst src q d S Q T n).1.length (fun i => S ((kst src q d S Q T n).1.getD i 0)) (fun i => Q ((kst src q d S Q T n).1.getD i 0)) (fun i => T ((kst src q d S Q T n).1.getD i 0)) ∧ Below w.heap.size w w' ∧ ∀ g o, ko = some ⟨g, o, none⟩ → w.heap.size ≤ g

/-- the loop of 'entry' at its head: what its boxes hold -/
structure EInv (src : ByteArray) (q d p : Int) (ao : Option Addr) (n c : Nat) (w : World) (S : Nat → ByteArray) (Q T : Nat → Int) (st : List Nat × Int × Int) (wr : World) : Prop where
  e0 : wr.cell? ⟨w.heap.size, 0, none⟩ = some (.string src)
  e1 : wr.cell? ⟨w.heap.size, 1, none⟩ = some (.int .u64 q)
  e2 : wr.cell? ⟨w.heap.size, 2, none⟩ = some (.int .i64 d)
  e3 : wr.cell? ⟨w.heap.size, 3, none⟩ = some (.int .u64 p)
  e4 : wr.cell? ⟨w.heap.size, 4, none⟩ = some (.slice ao n c)
  k0 : wr.cell? ⟨w.heap.size + 1 + 1, 0, none⟩ = some (.int .u64 q)
  k1 : wr.cell? ⟨w.heap.size + 1 + 1, 1, none⟩ = some (.int .i64 d)
  k2 : wr.cell? ⟨w.heap.size + 1 + 1, 2, none⟩ = some (.int .u64 p)
  kv : ∃ v, wr.cell? ⟨w.heap.size + 1 + 1, 3, none⟩ = some v ∧ wr.ownsRow (w.heap.size + 4) 51 3 v st.1.length (stepCells S Q T st.1)
  kf : wr.frozen? ⟨w.heap.size + 1 + 1, 3, none⟩ = false
  a0 : ∃ s, wr.cell? ⟨w.heap.size + 1 + 1 + 1, 0, none⟩ = some (.string s)
  a1 : wr.cell? ⟨w.heap.size + 1 + 1 + 1, 1, none⟩ = some (.int .u64 st.2.1)
  a2 : wr.cell? ⟨w.heap.size + 1 + 1 + 1, 2, none⟩ = some (.int .i64 st.2.2)
  f0 : wr.frozen? ⟨w.heap.size + 1 + 1 + 1, 0, none⟩ = false
  f1 : wr.frozen? ⟨w.heap.size + 1 + 1 + 1, 1, none⟩ = false
  f2 : wr.frozen? ⟨w.heap.size + 1 + 1 + 1, 2, none⟩ = false
  r0 : ∃ v, wr.cell? ⟨w.heap.size + 1, 0, none⟩ = some v
  r1 : ∃ v, wr.cell? ⟨w.heap.size + 1, 1, none⟩ = some v
  r2 : ∃ v, wr.cell? ⟨w.heap.size + 1, 2, none⟩ = some v
  r3 : ∃ v, wr.cell? ⟨w.heap.size + 1, 3, none⟩ = some v
  g0 : wr.frozen? ⟨w.heap.size + 1, 0, none⟩ = false
  g1 : wr.frozen? ⟨w.heap.size + 1, 1, none⟩ = false
  g2 : wr.frozen? ⟨w.heap.size + 1, 2, none⟩ = false
  g3 : wr.frozen? ⟨w.heap.size + 1, 3, none⟩ = false
  sz : w.heap.size + 4 ≤ wr.heap.size
  bel : Below w.heap.size w wr

theorem below_cells' {w w' : World} (hb : Below w.heap.size w w') : ∀ a v, w.cell? a = some v → w'.cell? a = some v := below_cells hb

section
variable {src : ByteArray} {q d p : Int} {ao : Option Addr} {n c : Nat} {w : World} {S : Nat → ByteArray} {Q T : Nat → Int} {st : List Nat × Int × Int} {wr wr' : World}
theorem EInv.start (src : ByteArray) (q d p : Int) (ao : Option Addr) (n c : Nat) (w : World) (S : Nat → ByteArray) (Q T : Nat → Int) :
    EInv src q d p ao n c w S Q T (kst src q d S Q T 0) ((((w.alloc (.cells #[.string src, .int .u64 q, .int .i64 d, .int .u64 p, .slice ao n c] 58)).alloc (.cells #[.int .u64 0, .int .i64 0, .int .u64 0, .slice none 0 0] 64)).alloc (.cells #[.int .u64 q, .int .i64 d, .int .u64 p, .slice none 0 0] 64)).alloc (.cells #[.string ⟨#[]⟩, .int .u64 0, .int .i64 0] 51)) where
  e0 := by go_simp
  e1 := by go_simp
  e2 := by go_simp
  e3 := by go_simp
  e4 := by go_simp
  k0 := by go_simp
  k1 := by go_simp
  k2 := by go_simp
  kv := ⟨.slice none 0 0, by go_simp, World.ownsRow_nil _ _ _ _⟩
  kf := by go_simp
  a0 := ⟨⟨#[]⟩, by go_simp⟩
  a1 := by simp only [kst]; go_simp
  a2 := by simp only [kst]; go_simp
  f0 := by go_simp
  f1 := by go_simp
  f2 := by go_simp
  r0 := ⟨.int .u64 0, by go_simp⟩
  r1 := ⟨.int .i64 0, by go_simp⟩
  r2 := ⟨.int .u64 0, by go_simp⟩
  r3 := ⟨.slice none 0 0, by go_simp⟩
  g0 := by go_simp
  g1 := by go_simp
  g2 := by go_simp
  g3 := by go_simp
  sz := by simp
  bel := ((((Below.refl _ _).alloc (Nat.le_refl _) _).alloc (by simp) _).alloc (by simp; omega) _).alloc (by simp; omega) _

theorem EInv.keep (I : EInv src q d p ao n c w S Q T st wr) (hb : Below (w.heap.size + 4) wr wr') (ho : ∀ v n xs, wr.ownsRow (w.heap.size + 4) 51 3 v n xs → wr'.ownsRow (w.heap.size + 4) 51 3 v n xs) : EInv src q d p ao n c w S Q T st wr' := by
  have hc : ∀ b o, b < w.heap.size + 4 → wr'.cell? ⟨b, o, none⟩ = wr.cell? ⟨b, o, none⟩ := fun b o h => hb.cell (p := ⟨b, o, none⟩) h
  have hf : ∀ b o, b < w.heap.size + 4 → wr'.frozen? ⟨b, o, none⟩ = wr.frozen? ⟨b, o, none⟩ := fun b o h => hb.frozen (p := ⟨b, o, none⟩) h
  have h0 : w.heap.size < w.heap.size + 4 := by omega
  have h1 : w.heap.size + 1 < w.heap.size + 4 := by omega
  have h2 : w.heap.size + 1 + 1 < w.heap.size + 4 := by omega
  have h3 : w.heap.size + 1 + 1 + 1 < w.heap.size + 4 := by omega
  obtain ⟨v, hv, hown⟩ := I.kv
  exact {
    e0 := by rw [hc _ _ h0]; exact I.e0
    e1 := by rw [hc _ _ h0]; exact I.e1
    e2 := by rw [hc _ _ h0]; exact I.e2
    e3 := by rw [hc _ _ h0]; exact I.e3
    e4 := by rw [hc _ _ h0]; exact I.e4
    k0 := by rw [hc _ _ h2]; exact I.k0
    k1 := by rw [hc _ _ h2]; exact I.k1
    k2 := by rw [hc _ _ h2]; exact I.k2
    kv := ⟨v, by rw [hc _ _ h2]; exact hv, ho _ _ _ hown⟩
    kf := by rw [hf _ _ h2]; exact I.kf
    a0 := by rw [hc _ _ h3]; exact I.a0
    a1 := by rw [hc _ _ h3]; exact I.a1
    a2 := by rw [hc _ _ h3]; exact I.a2
    f0 := by rw [hf _ _ h3]; exact I.f0
    f1 := by rw [hf _ _ h3]; exact I.f1
    f2 := by rw [hf _ _ h3]; exact I.f2
    r0 := by rw [hc _ _ h1]; exact I.r0
    r1 := by rw [hc _ _ h1]; exact I.r1
    r2 := by rw [hc _ _ h1]; exact I.r2
    r3 := by rw [hc _ _ h1]; exact I.r3
    g0 := by rw [hf _ _ h1]; exact I.g0
    g1 := by rw [hf _ _ h1]; exact I.g1
    g2 := by rw [hf _ _ h1]; exact I.g2
    g3 := by rw [hf _ _ h1]; exact I.g3
    sz := by have := hb.size; have := I.sz; omega
    bel := I.bel.trans (hb.mono (by omega)) }

theorem EInv.push (I : EInv src q d p ao n c w S Q T st wr) (k : Nat) {v' : Value} (hb : Below (w.heap.size + 4) wr wr') (own' : wr'.ownsRow (w.heap.size + 4) 51 3 v' (st.1.length + 1) (stepCells S Q T st.1 ++ [.string (S k), .int .u64 (Q k), .int .i64 (T k)])) :
    EInv src q d p ao n c w S Q T (st.1 ++ [k], Q k, T k) ((((wr'.setCell ⟨w.heap.size + 1 + 1, 3, none⟩ v').setCell ⟨w.heap.size + 1 + 1 + 1, 0, none⟩ (.string (S k))).setCell ⟨w.heap.size + 1 + 1 + 1, 1, none⟩ (.int .u64 (Q k))).setCell ⟨w.heap.size + 1 + 1 + 1, 2, none⟩ (.int .i64 (T k))) := by
  have hc : ∀ b o, b < w.heap.size + 4 → wr'.cell? ⟨b, o, none⟩ = wr.cell? ⟨b, o, none⟩ := fun b o h => hb.cell (p := ⟨b, o, none⟩) h
  have hf : ∀ b o, b < w.heap.size + 4 → wr'.frozen? ⟨b, o, none⟩ = wr.frozen? ⟨b, o, none⟩ := fun b o h => hb.frozen (p := ⟨b, o, none⟩) h
  have h0 : w.heap.size < w.heap.size + 4 := by omega
  have h1 : w.heap.size + 1 < w.heap.size + 4 := by omega
  have h2 : w.heap.size + 1 + 1 < w.heap.size + 4 := by omega
  have h3 : w.heap.size + 1 + 1 + 1 < w.heap.size + 4 := by omega
  obtain ⟨v, hv, hown⟩ := I.kv
  obtain ⟨sa, ha0⟩ := I.a0
  have c0 := (hc _ 0 h0).trans I.e0
  have c1 := (hc _ 1 h0).trans I.e1
  have c2 := (hc _ 2 h0).trans I.e2
  have c3 := (hc _ 3 h0).trans I.e3
  have c4 := (hc _ 4 h0).trans I.e4
  have d0 := (hc _ 0 h2).trans I.k0
  have d1 := (hc _ 1 h2).trans I.k1
  have d2 := (hc _ 2 h2).trans I.k2
  have d3 := (hc _ 3 h2).trans hv
  have b0 := (hc _ 0 h3).trans ha0
  have b1 := (hc _ 1 h3).trans I.a1
  have b2 := (hc _ 2 h3).trans I.a2
  have hs : w.heap.size + 4 ≤ wr'.heap.size := by have := hb.size; have := I.sz; omega
  exact {
    e0 := by clear hc; go_simp
    e1 := by clear hc; go_simp
    e2 := by clear hc; go_simp
    e3 := by clear hc; go_simp
    e4 := by clear hc; go_simp
    k0 := by clear hc; go_simp
    k1 := by clear hc; go_simp
    k2 := by clear hc; go_simp
    kv := ⟨v', by go_simp, by
      rw [stepCells_snoc, List.length_append, List.length_singleton]
      exact ownsRow_setCell_below (ownsRow_setCell_below (ownsRow_setCell_below (ownsRow_setCell_below own' h2 _) h3 _) h3 _) h3 _⟩
    kf := by simpa using (hf _ _ h2).trans I.kf
    a0 := ⟨S k, by go_simp⟩
    a1 := by clear hc; go_simp
    a2 := by clear hc; go_simp
    f0 := by simpa using (hf _ _ h3).trans I.f0
    f1 := by simpa using (hf _ _ h3).trans I.f1
    f2 := by simpa using (hf _ _ h3).trans I.f2
    r0 := by obtain ⟨u, hu⟩ := I.r0; exact ⟨u, by have := (hc _ 0 h1).trans hu; go_simp⟩
    r1 := by obtain ⟨u, hu⟩ := I.r1; exact ⟨u, by have := (hc _ 1 h1).trans hu; go_simp⟩
    r2 := by obtain ⟨u, hu⟩ := I.r2; exact ⟨u, by have := (hc _ 2 h1).trans hu; go_simp⟩
    r3 := by obtain ⟨u, hu⟩ := I.r3; exact ⟨u, by have := (hc _ 3 h1).trans hu; go_simp⟩
    g0 := by simpa using (hf _ _ h1).trans I.g0
    g1 := by simpa using (hf _ _ h1).trans I.g1
    g2 := by simpa using (hf _ _ h1).trans I.g2
    g3 := by simpa using (hf _ _ h1).trans I.g3
    sz := by simpa using hs
    bel := ((((I.bel.trans (hb.mono (by omega))).setCell (by show w.heap.size ≤ w.heap.size + 1 + 1; omega) _).setCell (by show w.heap.size ≤ w.heap.size + 1 + 1 + 1; omega) _).setCell (by show w.heap.size ≤ w.heap.size + 1 + 1 + 1; omega) _).setCell (by show w.heap.size ≤ w.heap.size + 1 + 1 + 1; omega) _ }
end

set_option maxRecDepth 4000 in
set_option maxHeartbeats 1000000 in
theorem entry_any (src : ByteArray) (q d p : Int) (ao : Option Addr) (n c : Nat) (S : Nat → ByteArray) (Q T : Nat → Int) (w : World) (hn : n ≤ 1024) (hs : StepsAt w ao n S Q T) :
    Calls Yba.prog 25 #[.agg #[.string src, .int .u64 q, .int .i64 d, .int .u64 p, .slice ao n c]] w (EntryPost src q d p n S Q T w) := by
  obtain ⟨i51, hi51, hz51, hs51, hb51⟩ := info_parts Yba.info51
  go_enter Yba.func25, Yba.ntmps25
  go_wp2
  go_loopw [22] (fun x wr => ∃ k : Nat, k ≤ n ∧ x = .int .i64 k ∧ EInv src q d p ao n c w S Q T (kst src q d S Q T k) wr) (fun x _ => n - (intOf x).toNat)
  case atStart =>
    exact ⟨0, Nat.zero_le _, rfl, EInv.start _ _ _ _ _ _ _ _ _ _ _⟩
  case round =>
    obtain ⟨k, hk, rfl, I⟩ := hrel
    have hkl := kst_len src q d S Q T k
    by_cases hlt : k < n
    · obtain ⟨g, o, rfl, hs'⟩ := hs.get hlt
      obtain ⟨s0, s1, s2⟩ := hs' k hlt
      have u0 := below_cells' I.bel _ _ s0
      have u1 := below_cells' I.bel _ _ s1
      have u2 := below_cells' I.bel _ _ s2
      clear hs hs' s0 s1 s2
      obtain ⟨st, hst⟩ : ∃ st, st = kst src q d S Q T k := ⟨_, rfl⟩
      rw [← hst] at I hkl
      have HST : Hid (st = kst src q d S Q T k) := hst
      clear hst
      have e0 := I.e0
      have e1 := I.e1
      have e2 := I.e2
      have e3 := I.e3
      have a1 := I.a1
      have a2 := I.a2
      obtain ⟨sa, a0⟩ := I.a0
      have sz := I.sz
      have z0 : w.heap.size < wr.heap.size := by omega
      have z2 : w.heap.size + 1 + 1 < wr.heap.size := by omega
      have z3 : w.heap.size + 1 + 1 + 1 < wr.heap.size := by omega
      by_cases hsrc : ((S k).toList == src.toList) = true
      · by_cases hfit : fitsB q d st.2.1 st.2.2 (Q k) (T k) = true
        · obtain ⟨v, hv0, hown0⟩ := I.kv
          obtain ⟨vo, vc, rfl⟩ := ownsRow_shape hown0
          go_wp2_with fail
          refine (stepFits_yes _ _ _ _ _ _ _ _ _ _ _ hfit).mono ?_
          rintro e w1 ⟨rfl, hb1⟩
          have I1 := I.keep (((Below.refl _ _).alloc (by omega) _).trans (hb1.mono (by simp; omega))) (fun v n xs h => ownsRow_below (h.alloc _) hb1)
          have hown1 := ownsRow_below (hown0.alloc _) hb1
          have hv1 := below_cells hb1 ⟨w.heap.size + 1 + 1, 3, none⟩ (.slice vo st.1.length vc) (by rw [World.cell?_alloc_lt _ _ _ z2]; exact hv0)
          have t0 := below_cells hb1 ⟨wr.heap.size, 0, none⟩ (.string (S k)) (by simp)
          have t1 := below_cells hb1 ⟨wr.heap.size, 1, none⟩ (.int .u64 (Q k)) (by simp)
          have t2 := below_cells hb1 ⟨wr.heap.size, 2, none⟩ (.int .i64 (T k)) (by simp)
          have z1 : wr.heap.size < w1.heap.size := by have := hb1.size; simp at this; omega
          have hlt0 : ∀ b, (Value.slice vo st.1.length vc).ownBlock = some b → b < wr.heap.size := fun b hb => (hown0.lt b hb).2
          clear hb1 e0 e1 e2 e3 a0 a1 a2 u0 u1 u2 hv0 hown0 I
          go_wp2_with (at_builtin; refine wpList_append_own _ rfl _ _ 44 rfl (w.heap.size + 4) 51 i51 (.agg #[.string ⟨#[]⟩, .int .u64 0, .int .i64 0]) 3 32 Yba.underlying44 hi51 hz51 hs51 hb51 rfl (by decide) _ _ _ rfl (hown1.alloc _) ⟨w1.heap.size, 0, none⟩ 1 1 [.string (S k), .int .u64 (Q k), .int .i64 (T k)] rfl rfl (three_new _ _ _ _ _) (three_one _ _ _) (by unfold maxLen; omega) (by omega) (by simp; omega) ?_)
          intro v' w2 own' grow' _
          obtain ⟨vo', vc', rfl⟩ := ownsRow_shape own'
          have I1a := I1.keep ((Below.refl _ _).alloc (by omega) (.cells #[.string (S k), .int .u64 (Q k), .int .i64 (T k)] 51)) (fun v n xs h => h.alloc _)
          have hb2 : Below (w.heap.size + 4) (w1.alloc (.cells #[.string (S k), .int .u64 (Q k), .int .i64 (T k)] 51)) w2 := (Below.refl _ _).grown grow' (by simp; omega) (fun k hk => (hown1.lt k hk).1)
          have hne : some wr.heap.size ≠ (Value.slice vo st.1.length vc).ownBlock := fun e => by have := hlt0 _ e.symm; omega
          have y0 : w2.cell? ⟨wr.heap.size, 0, none⟩ = some (.string (S k)) := grow'.cell (by rw [World.cell?_alloc_lt _ _ _ z1]; exact t0) hne
          have y1 : w2.cell? ⟨wr.heap.size, 1, none⟩ = some (.int .u64 (Q k)) := grow'.cell (by rw [World.cell?_alloc_lt _ _ _ z1]; exact t1) hne
          have y2 : w2.cell? ⟨wr.heap.size, 2, none⟩ = some (.int .i64 (T k)) := grow'.cell (by rw [World.cell?_alloc_lt _ _ _ z1]; exact t2) hne
          have hc : ∀ b o, b < w.heap.size + 4 → w2.cell? ⟨b, o, none⟩ = (w1.alloc (.cells #[.string (S k), .int .u64 (Q k), .int .i64 (T k)] 51)).cell? ⟨b, o, none⟩ := fun b o h => hb2.cell (p := ⟨b, o, none⟩) h
          have hf : ∀ b o, b < w.heap.size + 4 → w2.frozen? ⟨b, o, none⟩ = (w1.alloc (.cells #[.string (S k), .int .u64 (Q k), .int .i64 (T k)] 51)).frozen? ⟨b, o, none⟩ := fun b o h => hb2.frozen (p := ⟨b, o, none⟩) h
          obtain ⟨vv, hvv, _⟩ := I1a.kv
          obtain ⟨sb, hsb⟩ := I1a.a0
          have x3 := (hc _ 3 (show w.heap.size + 1 + 1 < w.heap.size + 4 by omega)).trans hvv
          have x4 := (hf _ 3 (show w.heap.size + 1 + 1 < w.heap.size + 4 by omega)).trans I1a.kf
          have b0 := (hc _ 0 (show w.heap.size + 1 + 1 + 1 < w.heap.size + 4 by omega)).trans hsb
          have b1 := (hc _ 1 (show w.heap.size + 1 + 1 + 1 < w.heap.size + 4 by omega)).trans I1a.a1
          have b2 := (hc _ 2 (show w.heap.size + 1 + 1 + 1 < w.heap.size + 4 by omega)).trans I1a.a2
          have c0 := (hf _ 0 (show w.heap.size + 1 + 1 + 1 < w.heap.size + 4 by omega)).trans I1a.f0
          have c1 := (hf _ 1 (show w.heap.size + 1 + 1 + 1 < w.heap.size + 4 by omega)).trans I1a.f1
          have c2 := (hf _ 2 (show w.heap.size + 1 + 1 + 1 < w.heap.size + 4 by omega)).trans I1a.f2
          have zz : wr.heap.size < w2.heap.size := by have := grow'.size; simp at this; omega
          clear hc hf hvv hsb t0 t1 t2 hv1 grow' hne I1
          go_wp2
          go_roundw
          case rel =>
            refine ⟨k + 1, by omega, by go_num, ?_⟩
            have e1 : kst src q d S Q T (k + 1) = (st.1 ++ [k], Q k, T k) := by
              simp only [kst]
              rw [← HST.out, if_pos (by simp [hfit, hsrc])]
            rw [e1]
            exact I1a.push k hb2 own'
          case measure => simp [intOf]; omega
        · have hfit' : fitsB q d st.2.1 st.2.2 (Q k) (T k) = false := by simpa using hfit
          go_wp2_with fail
          refine (stepFits_no _ _ _ _ _ _ _ _ _ _ _ hfit').mono ?_
          rintro e w1 ⟨rfl, hb1⟩
          clear u0 u1 u2 e0 e1 e2 e3 a0 a1 a2
          go_wp2
          go_roundw
          case rel =>
            refine ⟨k + 1, by omega, by go_num, ?_⟩
            have e1 : kst src q d S Q T (k + 1) = st := by
              simp only [kst]
              rw [← HST.out, if_neg (by simp [hfit'])]
            rw [e1]
            exact I.keep (((Below.refl _ _).alloc (by omega) _).trans (hb1.mono (by simp; omega))) (fun v n xs h => ownsRow_below (h.alloc _) hb1)
          case measure => simp [intOf]; omega
      · have hsrc' : ((S k).toList == src.toList) = false := by simpa using hsrc
        clear a0 a1 a2
        go_wp2
        go_roundw
        case rel =>
          refine ⟨k + 1, by omega, by go_num, ?_⟩
          have e1 : kst src q d S Q T (k + 1) = st := by
            simp only [kst]
            rw [← HST.out, if_neg (by simp [hsrc'])]
          rw [e1]
          exact I.keep ((Below.refl _ _).alloc (by omega) _) (fun v n xs h => h.alloc _)
        case measure => simp [intOf]; omega
    · obtain rfl : k = n := by omega
      obtain ⟨st, hst⟩ : ∃ st, st = kst src q d S Q T k := ⟨_, rfl⟩
      rw [← hst] at I
      have HST : Hid (st = kst src q d S Q T k) := hst
      clear hst hs hkl
      obtain ⟨v, k3, hown⟩ := I.kv
      obtain ⟨vo, vc, rfl⟩ := ownsRow_shape hown
      have k0 := I.k0
      have k1 := I.k1
      have k2 := I.k2
      obtain ⟨_, r0⟩ := I.r0
      obtain ⟨_, r1⟩ := I.r1
      obtain ⟨_, r2⟩ := I.r2
      obtain ⟨_, r3⟩ := I.r3
      have g0 := I.g0
      have g1 := I.g1
      have g2 := I.g2
      have g3 := I.g3
      go_wp2
      refine bodyPost_ret (v := .agg #[.int .u64 q, .int .i64 d, .int .u64 p, .slice vo st.1.length vc]) (by simp [results, Yba.results25, go_sem, r0, r1, r2, r3]) rfl ?_
      rw [HST.out] at hown ⊢
      have hbase : ∀ g o, vo = some ⟨g, o, none⟩ → w.heap.size ≤ g := fun g o hg => by
        subst hg
        have := (hown.lt g rfl).1
        omega
      refine ⟨vo, vc, rfl, ownsRow_steps (ownsRow_setCell_below (ownsRow_setCell_below (ownsRow_setCell_below (ownsRow_setCell_below hown ?_ _) ?_ _) ?_ _) ?_ _), (((I.bel.setCell ?_ _).setCell ?_ _).setCell ?_ _).setCell ?_ _, hbase⟩ <;> (simp; try omega)

end Go.Proofs.Ybulkbjfc.TC
