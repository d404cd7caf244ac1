import Derived.Test.YbulkbjfcWc6
import Derived.Test.YbulkbjfcWc7
namespace Go.Proofs.Ybulkbjfc.TC
open Go.RowKit
open Go.ChangeMaps (setBlock)

/-- 'mergeEarlier' of a source that the map lacks -/
theorem merge_new (src : ByteArray) (q d p : Int) (zo : Option Addr) (zn zc : Nat) (S : Nat → ByteArray) (Q T : Nat → Int) (nb mb B : Nat) (es : Array MapEntry) (clock : Nat) (w : World) (hzn : zn ≤ 1024) (hs : StepsAt w zo zn S Q T)
    (hcell : w.cell? ⟨nb, 17, none⟩ = some (.map (some mb))) (hmap : w.heap[mb]? = some (.map es clock)) (hB : B ≤ mb) (hf : Instr.findNow .string (.string src) es.toList 0 = some none) :
    Calls Yba.prog 16 #[.pointer (some ⟨nb, 0, none⟩), .agg #[.string src, .int .u64 q, .int .i64 d, .int .u64 p, .slice zo zn zc]] w
      (MPost true mb (fun v => es.push ⟨.string src, v, clock⟩) (clock + 1) q d p (kst src q d S Q T zn).1.length (fun i => S ((kst src q d S Q T zn).1.getD i 0)) (fun i => Q ((kst src q d S Q T zn).1.getD i 0)) (fun i => T ((kst src q d S Q T zn).1.getD i 0)) B w) := by
  have h := merge_core src q d p zo zn zc 0 0 0 none 0 false (kst src q d S Q T zn).1.length (fun i => S ((kst src q d S Q T zn).1.getD i 0)) (fun i => Q ((kst src q d S Q T zn).1.getD i 0)) (fun i => T ((kst src q d S Q T zn).1.getD i 0))
    q d p (kst src q d S Q T zn).1.length (fun i => S ((kst src q d S Q T zn).1.getD i 0)) (fun i => Q ((kst src q d S Q T zn).1.getD i 0)) (fun i => T ((kst src q d S Q T zn).1.getD i 0)) nb mb B es clock (fun v => es.push ⟨.string src, v, clock⟩) (clock + 1) w hcell hmap hB
    (fun h => by cases h) (look_run _ mb es clock src (heap_keep hmap _) none hf true)
    (fun W hW => (entry_any src q d p zo zn zc S Q T W hzn (hs.mono (below_cells hW))).mono fun e w' ⟨ko, kc, h1, h2, h3, _⟩ => ⟨ko, kc, h1, h2, h3⟩)
    (fun W ko kc hst => (joined_zero src 0 0 q d p none ko 0 0 _ kc W).mono fun e w' ⟨h1, h2⟩ => ⟨ko, kc, h1, hst.mono (below_cells h2), h2⟩)
    (fun W v hW => upd_new W mb es clock src v hW hf)
  exact h

/-- the law's own loop: the deadline that it compares with -/
def pdl (dl : Int) (st : List Nat × Int × Int) : Int := if st.2.1 = 0 then dl else st.2.2
theorem kst_pos (src : ByteArray) (q d : Int) (S : Nat → ByteArray) (Q T : Nat → Int) : ∀ k, 0 ≤ (kst src q d S Q T k).2.1
  | 0 => by simp [kst]
  | k + 1 => by
    have h := kst_pos src q d S Q T k
    simp only [kst]
    split
    · rename_i h2
      simp [fitsB] at h2
      show 0 ≤ Q k
      omega
    · exact h
theorem kst_yes {src : ByteArray} {q d : Int} {S : Nat → ByteArray} {Q T : Nat → Int} {k : Nat} (hs : ((S k).toList == src.toList) = true) (h1 : (kst src q d S Q T k).2.1 < Q k) (h2 : Q k < q) (h3 : T k < pdl d (kst src q d S Q T k)) :
    kst src q d S Q T (k + 1) = ((kst src q d S Q T k).1 ++ [k], Q k, T k) ∧ pdl d (kst src q d S Q T (k + 1)) = T k := by
  have hp := kst_pos src q d S Q T k
  have e : kst src q d S Q T (k + 1) = ((kst src q d S Q T k).1 ++ [k], Q k, T k) := by
    simp only [kst]
    rw [if_pos]
    unfold pdl at h3
    simp only [hs, fitsB, Bool.true_and]
    simp [h1, h2, h3]
  refine ⟨e, ?_⟩
  rw [e]
  unfold pdl
  rw [if_neg (by show ¬ Q k = 0; omega)]
theorem kst_no {src : ByteArray} {q d : Int} {S : Nat → ByteArray} {Q T : Nat → Int} {k : Nat} (h : ¬ (((S k).toList == src.toList) = true ∧ (kst src q d S Q T k).2.1 < Q k ∧ Q k < q ∧ T k < pdl d (kst src q d S Q T k))) :
    kst src q d S Q T (k + 1) = kst src q d S Q T k := by
  simp only [kst]
  rw [if_neg]
  intro h2
  apply h
  simp [fitsB] at h2
  unfold pdl
  exact ⟨by simpa using h2.1, h2.2.1.1, h2.2.1.2, h2.2.2⟩

end Go.Proofs.Ybulkbjfc.TC
