import Derived.Test.YbulkbjfcA0
namespace Go.Proofs.Ybulkbjfc.TA

/-! ### the sources kept, and their entries -/
def kstep (K : List (ByteArray × Nat)) (s : ByteArray) (d : Nat) : List (ByteArray × Nat) := if K.any (fun p => p.1.toList == s.toList) then K else K ++ [(s, d)]
def kept (S : Nat → ByteArray) (V : Nat → Nat) : Nat → List (ByteArray × Nat)
  | 0 => []
  | i + 1 => kstep (kept S V i) (S i) (V i)
def encOne (p : ByteArray × Nat) : List UInt8 := Lib.uvarint p.1.size ++ (p.1.data.toList ++ Lib.uvarint p.2)
def encAll (K : List (ByteArray × Nat)) : List UInt8 := K.flatMap encOne
def place (K : List (ByteArray × Nat)) (i : Nat) : Nat := (encAll (K.take i)).length
def keyAt (K : List (ByteArray × Nat)) (i : Nat) : ByteArray := (K.getD i (ByteArray.empty, 0)).1
def numAt (K : List (ByteArray × Nat)) (i : Nat) : Nat := (K.getD i (ByteArray.empty, 0)).2

theorem keyAt_eq {K : List (ByteArray × Nat)} {i : Nat} (h : i < K.length) : keyAt K i = (K[i]).1 := by simp [keyAt, List.getD, h]
theorem numAt_eq {K : List (ByteArray × Nat)} {i : Nat} (h : i < K.length) : numAt K i = (K[i]).2 := by simp [numAt, List.getD, h]
theorem keyAt_last (K : List (ByteArray × Nat)) (x : ByteArray × Nat) : keyAt (K ++ [x]) K.length = x.1 := by simp [keyAt, List.getD]
theorem keyAt_init (K : List (ByteArray × Nat)) (x : ByteArray × Nat) {i : Nat} (h : i < K.length) : keyAt (K ++ [x]) i = keyAt K i := by simp [keyAt, List.getD, List.getElem?_append_left h]

theorem encAll_snoc (K : List (ByteArray × Nat)) (x : ByteArray × Nat) : encAll (K ++ [x]) = encAll K ++ encOne x := by simp [encAll]
theorem place_init (K : List (ByteArray × Nat)) (x : ByteArray × Nat) {i : Nat} (h : i ≤ K.length) : place (K ++ [x]) i = place K i := by simp [place, List.take_append_of_le_length h]
theorem place_all (K : List (ByteArray × Nat)) : place K K.length = (encAll K).length := by simp [place]
theorem encOne_len (s : ByteArray) (d : Nat) : (encOne (s, d)).length = (Lib.uvarint s.size).length + s.size + (Lib.uvarint d).length := by
  simp [encOne, Nat.add_assoc]

theorem ent_at (K : List (ByteArray × Nat)) {i : Nat} (h : i < K.length) :
    ∃ r, (encAll K).drop (place K i) = Lib.uvarint (keyAt K i).size ++ ((keyAt K i).data.toList ++ (Lib.uvarint (numAt K i) ++ r)) := by
  have h1 : encAll K = encAll (K.take i) ++ encAll (K.drop i) := by
    rw [encAll, encAll, encAll, ← List.flatMap_append, List.take_append_drop]
  have h2 : encAll (K.drop i) = encOne (K[i]) ++ encAll (K.drop (i + 1)) := by
    rw [List.drop_eq_getElem_cons h, encAll, encAll, List.flatMap_cons]
  refine ⟨encAll (K.drop (i + 1)), ?_⟩
  rw [h1, place, List.drop_left, h2, keyAt_eq h, numAt_eq h]
  simp [encOne]

theorem any_keys {K : List (ByteArray × Nat)} {s : ByteArray} : K.any (fun p => p.1.toList == s.toList) = false ↔ ∀ i, i < K.length → (keyAt K i).toList ≠ s.toList := by
  rw [List.any_eq_false]
  constructor
  · intro h i hi
    rw [keyAt_eq hi]
    have := h (K[i]) (List.getElem_mem hi)
    simpa using this
  · intro h p hp
    obtain ⟨i, hi, rfl⟩ := List.getElem_of_mem hp
    have := h i hi
    rw [keyAt_eq hi] at this
    simpa using this

theorem kstep_old {K : List (ByteArray × Nat)} {s : ByteArray} {d a : Nat} (ha : a < K.length) (h : (keyAt K a).toList = s.toList) : kstep K s d = K := by
  unfold kstep
  rw [if_pos]
  rw [List.any_eq_true]
  exact ⟨K[a], List.getElem_mem ha, by rw [keyAt_eq ha] at h; simpa using h⟩
theorem kstep_new {K : List (ByteArray × Nat)} {s : ByteArray} {d : Nat} (h : ∀ i, i < K.length → (keyAt K i).toList ≠ s.toList) : kstep K s d = K ++ [(s, d)] := by
  unfold kstep
  rw [any_keys.2 h]
  rfl

/-- the keys are distinct -/
def Dist (K : List (ByteArray × Nat)) : Prop := ∀ a b, a < K.length → b < K.length → (keyAt K a).toList = (keyAt K b).toList → a = b
theorem kstep_cases (K : List (ByteArray × Nat)) (s : ByteArray) (d : Nat) : kstep K s d = K ∨ (kstep K s d = K ++ [(s, d)] ∧ ∀ i, i < K.length → (keyAt K i).toList ≠ s.toList) := by
  cases h : K.any (fun p => p.1.toList == s.toList) with
  | true => left; unfold kstep; rw [h]; rfl
  | false => right; exact ⟨kstep_new (any_keys.1 h), any_keys.1 h⟩
theorem Dist.step {K : List (ByteArray × Nat)} (hK : Dist K) (s : ByteArray) (d : Nat) : Dist (kstep K s d) := by
  rcases kstep_cases K s d with h | ⟨h, hn⟩
  · rw [h]; exact hK
  · rw [h]
    intro a b ha hb he
    simp only [List.length_append, List.length_singleton] at ha hb
    by_cases h1 : a < K.length <;> by_cases h2 : b < K.length
    · rw [keyAt_init K _ h1, keyAt_init K _ h2] at he; exact hK a b h1 h2 he
    · have : b = K.length := by omega
      subst this
      rw [keyAt_init K _ h1, keyAt_last] at he
      exact absurd he (hn a h1)
    · have : a = K.length := by omega
      subst this
      rw [keyAt_init K _ h2, keyAt_last] at he
      exact absurd he.symm (hn b h2)
    · omega
theorem kept_dist (S : Nat → ByteArray) (V : Nat → Nat) : ∀ i, Dist (kept S V i)
  | 0 => fun a b ha => by simp [kept] at ha
  | i + 1 => (kept_dist S V i).step _ _

def sumLen (S : Nat → ByteArray) : Nat → Nat
  | 0 => 0
  | k + 1 => sumLen S k + (S k).size
theorem sumLen_mono (S : Nat → ByteArray) {a b : Nat} (h : a ≤ b) : sumLen S a ≤ sumLen S b := by
  induction b with
  | zero => have : a = 0 := by omega
            subst this; exact Nat.le_refl _
  | succ b ih =>
    by_cases e : a = b + 1
    · rw [e]; exact Nat.le_refl _
    · have := ih (by omega); simp only [sumLen]; omega

theorem kept_len (S : Nat → ByteArray) (V : Nat → Nat) : ∀ i, (kept S V i).length ≤ i
  | 0 => by simp [kept]
  | i + 1 => by
    have := kept_len S V i
    show (kstep (kept S V i) (S i) (V i)).length ≤ i + 1
    rcases kstep_cases (kept S V i) (S i) (V i) with h | ⟨h, _⟩
    · rw [h]; omega
    · rw [h, List.length_append, List.length_singleton]; omega
theorem kept_enc (S : Nat → ByteArray) (V : Nat → Nat) : ∀ i, (∀ k, k < i → V k < 18446744073709551616 ∧ (S k).size < 18446744073709551616) → (encAll (kept S V i)).length ≤ sumLen S i + 20 * i
  | 0, _ => by simp [kept, encAll]
  | i + 1, hb => by
    have h1 := kept_enc S V i (fun k hk => hb k (by omega))
    have h2 := hb i (by omega)
    show (encAll (kstep (kept S V i) (S i) (V i))).length ≤ sumLen S i + (S i).size + 20 * (i + 1)
    rcases kstep_cases (kept S V i) (S i) (V i) with h | ⟨h, _⟩
    · rw [h]; omega
    · rw [h, encAll_snoc, List.length_append, encOne_len]
      have h3 := Lib.uvarint_length64 h2.1
      have h4 := Lib.uvarint_length64 h2.2
      omega
theorem kept_num (S : Nat → ByteArray) (V : Nat → Nat) (i : Nat) (hb : ∀ k, k < i → V k < 18446744073709551616) : ∀ a, a < (kept S V i).length → numAt (kept S V i) a < 18446744073709551616 := by
  induction i with
  | zero => intro a ha; simp [kept] at ha
  | succ i ih =>
    intro a
    show a < (kstep (kept S V i) (S i) (V i)).length → numAt (kstep (kept S V i) (S i) (V i)) a < _
    have ih' := ih (fun k hk => hb k (by omega))
    rcases kstep_cases (kept S V i) (S i) (V i) with h | ⟨h, _⟩
    · rw [h]; exact ih' a
    · rw [h]
      intro ha
      by_cases h1 : a < (kept S V i).length
      · have : numAt (kept S V i ++ [(S i, V i)]) a = numAt (kept S V i) a := by simp [numAt, List.getD, List.getElem?_append_left h1]
        rw [this]; exact ih' a h1
      · have : a = (kept S V i).length := by simp at ha; omega
        subst this
        have : numAt (kept S V i ++ [(S i, V i)]) (kept S V i).length = V i := by simp [numAt, List.getD]
        rw [this]
        exact hb i (by omega)

/-! ### the insertion sort -/
def swp (O : Nat → Nat) (j : Nat) : Nat → Nat := fun x => if x = j - 1 then O j else if x = j then O (j - 1) else O x

structure SInv (U : Nat → ByteArray) (n i j : Nat) (O : Nat → Nat) : Prop where
  into : ∀ a, a < n → O a < n
  surj : ∀ x, x < n → ∃ a, a < n ∧ O a = x
  pairs : ∀ a b, a < b → b ≤ i → b ≠ j → Op.bytesLess (U (O b)).toList (U (O a)).toList = false

theorem SInv.start (U : Nat → ByteArray) (n : Nat) : SInv U n 1 1 (fun y => y) where
  into := fun _ h => h
  surj := fun x hx => ⟨x, hx, rfl⟩
  pairs := fun a b _ _ _ => by omega

theorem SInv.swap {U : Nat → ByteArray} {n i j : Nat} {O : Nat → Nat} (h : SInv U n i j O) (hj0 : 0 < j) (hji : j ≤ i) (hin : i < n)
    (hlt : Op.bytesLess (U (O j)).toList (U (O (j - 1))).toList = true) : SInv U n i (j - 1) (swp O j) where
  into := fun a ha => by
    unfold swp
    split
    · exact h.into _ (by omega)
    · split
      · exact h.into _ (by omega)
      · exact h.into a ha
  surj := fun x hx => by
    obtain ⟨a, ha, rfl⟩ := h.surj x hx
    by_cases h1 : a = j
    · exact ⟨j - 1, by omega, by simp [swp, h1]⟩
    · by_cases h2 : a = j - 1
      · refine ⟨j, by omega, ?_⟩
        have : ¬ j = j - 1 := by omega
        simp [swp, h2, this]
      · exact ⟨a, ha, by simp [swp, h1, h2]⟩
  pairs := fun a b hab hbi hb => by
    have e1 : swp O j j = O (j - 1) := by have : ¬ j = j - 1 := by omega
                                          simp [swp, this]
    have e2 : swp O j (j - 1) = O j := by simp [swp]
    have e3 : ∀ x, x ≠ j → x ≠ j - 1 → swp O j x = O x := fun x h1 h2 => by simp [swp, h1, h2]
    by_cases hbj : b = j
    · subst hbj
      rw [e1]
      by_cases ha : a = b - 1
      · subst ha
        rw [e2]
        exact bl_asymm hlt
      · rw [e3 a (by omega) ha]
        exact h.pairs a (b - 1) (by omega) (by omega) (by omega)
    · rw [e3 b hbj hb]
      by_cases ha1 : a = j
      · subst ha1
        rw [e1]
        exact h.pairs (a - 1) b (by omega) hbi hbj
      · by_cases ha2 : a = j - 1
        · subst ha2
          rw [e2]
          exact h.pairs j b (by omega) hbi hbj
        · rw [e3 a ha1 ha2]
          exact h.pairs a b hab hbi hbj

/-- the inner loop's end: all up to i are in order -/
theorem SInv.done {U : Nat → ByteArray} {n i j : Nat} {O : Nat → Nat} (h : SInv U n i j O) (hji : j ≤ i) (he : j = 0 ∨ Op.bytesLess (U (O j)).toList (U (O (j - 1))).toList = false) : SInv U n (i + 1) (i + 1) O where
  into := h.into
  surj := h.surj
  pairs := fun a b hab hbi hb => by
    by_cases hbj : b = j
    · subst hbj
      rcases he with he | he
      · omega
      · by_cases ha : a = b - 1
        · subst ha; exact he
        · exact bl_le_trans (h.pairs a (b - 1) (by omega) (by omega) (by omega)) he
    · exact h.pairs a b hab (by omega) hbj

end Go.Proofs.Ybulkbjfc.TA
