import Derived.Lib.Varint
import Derived.Lib.VarintDec
import Derived.Tactics
namespace Go.Proofs.Ybulkbjfc.TA

/-! ### the order of the strings -/
theorem bl_irrefl : ∀ x : List UInt8, Op.bytesLess x x = false
  | [] => rfl
  | a :: x => by
    have h : (a < a) = False := by simp
    simp [Op.bytesLess, bl_irrefl x]
theorem bl_trans : ∀ {x y z : List UInt8}, Op.bytesLess x y = true → Op.bytesLess y z = true → Op.bytesLess x z = true
  | _, [], _, h, _ => by cases ‹List UInt8› <;> simp [Op.bytesLess] at h
  | _, _ :: _, [], _, h => by simp [Op.bytesLess] at h
  | [], _ :: _, _ :: _, _, _ => by simp [Op.bytesLess]
  | a :: x, b :: y, c :: z, h1, h2 => by
    simp only [Op.bytesLess, Bool.or_eq_true, Bool.and_eq_true, decide_eq_true_eq, beq_iff_eq, UInt8.lt_iff_toNat_lt] at h1 h2 ⊢
    rcases h1 with h1 | ⟨rfl, h1⟩ <;> rcases h2 with h2 | ⟨rfl, h2⟩
    · left; omega
    · left; exact h1
    · left; exact h2
    · right; exact ⟨rfl, bl_trans h1 h2⟩
theorem bl_tri : ∀ {x y : List UInt8}, Op.bytesLess x y = false → Op.bytesLess y x = false → x = y
  | [], [], _, _ => rfl
  | [], _ :: _, h, _ => by simp [Op.bytesLess] at h
  | _ :: _, [], _, h => by simp [Op.bytesLess] at h
  | a :: x, b :: y, h1, h2 => by
    simp only [Op.bytesLess, Bool.or_eq_false_iff, Bool.and_eq_false_iff, decide_eq_false_iff_not, beq_eq_false_iff_ne, UInt8.lt_iff_toNat_lt] at h1 h2
    have e : a = b := UInt8.toNat_inj.1 (by omega)
    subst e
    have h3 : Op.bytesLess x y = false := by rcases h1.2 with h | h; exact absurd rfl h; exact h
    have h4 : Op.bytesLess y x = false := by rcases h2.2 with h | h; exact absurd rfl h; exact h
    rw [bl_tri h3 h4]
theorem bl_asymm {x y : List UInt8} (h : Op.bytesLess x y = true) : Op.bytesLess y x = false := by
  cases e : Op.bytesLess y x with
  | false => rfl
  | true => have := bl_trans h e; rw [bl_irrefl] at this; exact this.symm
/-- 'not greater' is transitive -/
theorem bl_le_trans {x y z : List UInt8} (h1 : Op.bytesLess y x = false) (h2 : Op.bytesLess z y = false) : Op.bytesLess z x = false := by
  cases e : Op.bytesLess z x with
  | false => rfl
  | true =>
    cases f : Op.bytesLess x y with
    | true => have := bl_trans e f; rw [h2] at this; exact this.symm ▸ rfl
    | false => have := bl_tri f h1; subst this; rw [e] at h2; exact h2
theorem bl_lt_of_le {x y z : List UInt8} (h1 : Op.bytesLess x y = true) (h2 : Op.bytesLess z y = false) : Op.bytesLess x z = true := by
  cases e : Op.bytesLess x z with
  | true => rfl
  | false =>
    have h3 := bl_le_trans h2 e
    rw [h1] at h3
    exact h3.symm
theorem bl_ne {x y : List UInt8} (h : Op.bytesLess x y = true) : x ≠ y := by
  intro e; subst e; rw [bl_irrefl] at h; cases h

/-! ### what is encoded is what is decoded -/
theorem dec_from (r : List UInt8) : ∀ (x i acc : Nat), x * 2 ^ (7 * i) < 18446744073709551616 → i ≤ 9 → Lib.uvarintFrom i acc (Lib.uvarint x ++ r) = (acc + x * 2 ^ (7 * i), (i : Int) + (Lib.uvarint x).length) := by
  intro x
  induction x using Nat.strongRecOn with
  | _ x ih =>
    intro i acc hx hi
    by_cases h : x < 128
    · rw [Lib.uvarint_small h]
      have hb : x.toUInt8.toNat = x := by simp; omega
      have h9 : ¬ (i = 9 ∧ 1 < x) := by
        rintro ⟨rfl, h1⟩
        have : 2 * 2 ^ (7 * 9) ≤ x * 2 ^ (7 * 9) := Nat.mul_le_mul_right _ h1
        have e : 2 * 2 ^ (7 * 9) = 18446744073709551616 := by decide
        omega
      simp only [List.singleton_append, Lib.uvarintFrom, hb, if_neg (show ¬ i = 10 by omega), if_pos h, if_neg h9, List.length_singleton]
      rfl
    · have hb : (x % 128 + 128).toUInt8.toNat = x % 128 + 128 := by simp; omega
      have hp : 2 ^ (7 * (i + 1)) = 128 * 2 ^ (7 * i) := by rw [Nat.mul_add, Nat.pow_add]; simp [Nat.mul_comm]
      have hi8 : i ≤ 8 := by
        by_cases e : i ≤ 8
        · exact e
        · have : i = 9 := by omega
          subst this
          have : 2 * 2 ^ (7 * 9) ≤ x * 2 ^ (7 * 9) := Nat.mul_le_mul_right _ (by omega)
          have e : 2 * 2 ^ (7 * 9) = 18446744073709551616 := by decide
          omega
      have hx' : x = x / 128 * 128 + x % 128 := by omega
      have hm : x * 2 ^ (7 * i) = x / 128 * 2 ^ (7 * (i + 1)) + x % 128 * 2 ^ (7 * i) := by
        rw [hp, ← Nat.mul_assoc, ← Nat.add_mul, ← hx']
      have hi1 := ih (x / 128) (by omega) (i + 1) (acc + x % 128 * 2 ^ (7 * i)) (by omega) (by omega)
      rw [Lib.uvarint_big (by omega)]
      simp only [List.cons_append, Lib.uvarintFrom, hb, if_neg (show ¬ i = 10 by omega), if_neg (show ¬ x % 128 + 128 < 128 by omega), List.length_cons]
      rw [show (x % 128 + 128) % 128 = x % 128 by omega, hi1]
      refine Prod.ext ?_ ?_
      · show acc + x % 128 * 2 ^ (7 * i) + x / 128 * 2 ^ (7 * (i + 1)) = acc + x * 2 ^ (7 * i)
        omega
      · show ((i + 1 : Nat) : Int) + _ = (i : Int) + ((_ + 1 : Nat) : Int)
        omega
theorem dec_enc (x : Nat) (hx : x < 18446744073709551616) (r : List UInt8) : Lib.uvarintDec (Lib.uvarint x ++ r) = (x, ((Lib.uvarint x).length : Int)) := by
  have := dec_from r x 0 0 (by simpa using hx) (by omega)
  simpa [Lib.uvarintDec] using this

/-! ### the first place -/
def ff (F : Nat → Bool) : Nat → Int
  | 0 => -1
  | n + 1 => if ff F n = -1 then (if F n then -1 else n) else ff F n
theorem ff_stay (F : Nat → Bool) (m n : Nat) (h : ff F m ≠ -1) (hmn : m ≤ n) : ff F n = ff F m := by
  induction n with
  | zero => have : m = 0 := by omega
            subst this; rfl
  | succ n ih =>
    by_cases e : m = n + 1
    · rw [e]
    · have := ih (by omega)
      simp [ff, this, h]
theorem ff_yes {F : Nat → Bool} {k : Nat} (h : ff F k = -1) (hF : F k = true) : ff F (k + 1) = -1 := by simp [ff, h, hF]
theorem ff_no {F : Nat → Bool} {k n : Nat} (h : ff F k = -1) (hF : F k = false) (hn : k < n) : ff F n = k := by
  have h1 : ff F (k + 1) = k := by simp [ff, h, hF]
  rw [ff_stay F (k + 1) n (by rw [h1]; omega) (by omega), h1]
theorem ff_before {F : Nat → Bool} {n : Nat} (h : ff F n = -1) : ∀ k, k < n → F k = true := by
  induction n with
  | zero => intro k hk; omega
  | succ n ih =>
    have h1 : ff F n = -1 := by
      by_cases e : ff F n = -1
      · exact e
      · simp [ff, e] at h
    have h2 : F n = true := by
      simp only [ff, h1, if_true] at h
      by_cases e : F n = true
      · exact e
      · simp [e] at h
    intro k hk
    by_cases e : k = n
    · rw [e]; exact h2
    · exact ih h1 k (by omega)
theorem ff_all {F : Nat → Bool} {n : Nat} (h : ∀ k, k < n → F k = true) : ff F n = -1 := by
  induction n with
  | zero => rfl
  | succ n ih => exact ff_yes (ih fun k hk => h k (by omega)) (h n (by omega))

/-- the number of src among the first n kept sources, or 0 -/
def look (U : Nat → ByteArray) (D : Nat → Nat) (n : Nat) (src : ByteArray) : Nat :=
  if ff (fun i => !((U i).toList == src.toList)) n = -1 then 0 else D (ff (fun i => !((U i).toList == src.toList)) n).toNat
theorem look_none {U : Nat → ByteArray} {D : Nat → Nat} {n : Nat} {src : ByteArray} (h : ∀ i, i < n → (U i).toList ≠ src.toList) : look U D n src = 0 := by
  unfold look
  rw [if_pos (ff_all (fun k hk => by simpa using h k hk))]
theorem look_some {U : Nat → ByteArray} {D : Nat → Nat} {n x : Nat} {src : ByteArray} (hd : ∀ a b, a < n → b < n → (U a).toList = (U b).toList → a = b) (hx : x < n) (h : (U x).toList = src.toList) : look U D n src = D x := by
  have hb : ff (fun i => !((U i).toList == src.toList)) x = -1 := ff_all fun k hk => by
    have : (U k).toList ≠ src.toList := fun e => by have := hd k x (by omega) hx (e.trans h.symm); omega
    simpa using this
  have hff := ff_no (n := n) hb (by simp [h]) hx
  unfold look
  rw [hff, if_neg (by omega)]
  rfl

end Go.Proofs.Ybulkbjfc.TA
