import Derived.Test.YbulkbjfcWc4
import Derived.Deep.RegionLaw
import Derived.BigCall
import Derived.Deep.AppendLies
namespace Go.Proofs.Ybulkbjfc.TC
open Go.RowKit

/-- the rows that came in: (uint8, uint64, int64) each -/
def RawAt (w : World) (ao : Option Addr) (n : Nat) (X Q T : Nat → Int) : Prop :=
  n = 0 ∨ ∃ g o, ao = some ⟨g, o, none⟩ ∧ ∀ i, i < n → w.cell? ⟨g, o + i * 3, none⟩ = some (.int .u8 (X i)) ∧ w.cell? ⟨g, o + i * 3 + 1, none⟩ = some (.int .u64 (Q i)) ∧ w.cell? ⟨g, o + i * 3 + 2, none⟩ = some (.int .i64 (T i))
theorem RawAt.get {w : World} {ao : Option Addr} {n : Nat} {X Q T : Nat → Int} (h : RawAt w ao n X Q T) {k : Nat} (hk : k < n) :
    ∃ g o, ao = some ⟨g, o, none⟩ ∧ ∀ i, i < n → w.cell? ⟨g, o + i * 3, none⟩ = some (.int .u8 (X i)) ∧ w.cell? ⟨g, o + i * 3 + 1, none⟩ = some (.int .u64 (Q i)) ∧ w.cell? ⟨g, o + i * 3 + 2, none⟩ = some (.int .i64 (T i)) := by
  rcases h with h | h
  · omega
  · exact h
theorem RawAt.mono {w w' : World} {ao : Option Addr} {n : Nat} {X Q T : Nat → Int} (h : RawAt w ao n X Q T) (hc : ∀ a v, w.cell? a = some v → w'.cell? a = some v) : RawAt w' ao n X Q T := by
  rcases h with h | ⟨g, o, h1, h2⟩
  · exact .inl h
  · exact .inr ⟨g, o, h1, fun i hi => ⟨hc _ _ (h2 i hi).1, hc _ _ (h2 i hi).2.1, hc _ _ (h2 i hi).2.2⟩⟩

/-- the source that a row's first number names -/
def srcOf (X : Nat → Int) (i : Nat) : ByteArray := if X i % 2 = 0 then sX else sY

theorem step_csrc {ops : Array Oper} {a : Act} {w : World} {K : Act → World → Prop} {Q : Exit → Act → World → Prop} {E : Prop} {dst : Option Nat} {ty : TypeId} {pos : String} {after : Array Edge}
    (x : Operand) (X : Nat → Int) (i : Nat) (hx : a.eval x = .int .u8 (X i)) (h0 : 0 ≤ X i) (h1 : X i ≤ 255)
    (hK : K (a.put dst (.string (srcOf X i))) w) :
    if Region.wanted { dst := dst, op := Op.call { callee := Callee.value (Operand.func 26), args := #[x], argTypes := #[5] }, type := ty, pos := pos, after := after, guard := none } (yielded ops a.tmps) = true then Oper.wp Yba.prog { dst := dst, op := Op.call { callee := Callee.value (Operand.func 26), args := #[x], argTypes := #[5] }, type := ty, pos := pos, after := after, guard := none } a w K Q else E := by
  rw [if_pos (by simp [Region.wanted])]
  unfold Oper.wp
  rw [show execOp a.eval { dst := dst, op := Op.call { callee := Callee.value (Operand.func 26), args := #[x], argTypes := #[5] }, type := ty, pos := pos, after := after, guard := none } = callFunc 26 #[.int .u8 (X i)] from by rw [execOp_call_go, ← hx]; simp]
  have e : (callFunc 26 #[.int .u8 (X i)] : Sem Next).run Yba.prog w = .ok (.enter 26 #[.int .u8 (X i)]) w := rfl
  rw [e, Oper.upon_enter]
  refine (csrc_any (X i) w h0 h1).mono ?_
  rintro e w' ⟨rfl, rfl⟩
  exact hK

theorem three_new' {w : World} {N : Nat} (hN : w.heap.size = N) (a b c : Value) (t : TypeId) : ∀ j u, [a, b, c][j]? = some u → (w.alloc (.cells #[a, b, c] t)).cell? ((⟨N, 0, none⟩ : Addr).add j) = some u := hN ▸ three_new w a b c t

/-- the loop of 'zzs3005cbuild' at its head -/
structure CInv (X Q T : Nat → Int) (w : World) (k : Nat) (vo : Option Addr) (vc : Nat) (wr : World) : Prop where
  bel : Below w.heap.size w wr
  own : wr.ownsRow w.heap.size 51 3 (.slice vo k vc) k (stepCells (srcOf X) Q T (List.range k))
theorem StepsAt.congr {w : World} {ao : Option Addr} {n : Nat} {S S' : Nat → ByteArray} {Q Q' T T' : Nat → Int} (h : StepsAt w ao n S Q T) (e : ∀ i, i < n → S i = S' i ∧ Q i = Q' i ∧ T i = T' i) : StepsAt w ao n S' Q' T' := by
  rcases h with h | ⟨g, o, h1, h2⟩
  · exact .inl h
  · exact .inr ⟨g, o, h1, fun i hi => by rw [← (e i hi).1, ← (e i hi).2.1, ← (e i hi).2.2]; exact h2 i hi⟩
theorem own_range {w : World} {B n c : Nat} {ao : Option Addr} {S : Nat → ByteArray} {Q T : Nat → Int} (h : w.ownsRow B 51 3 (.slice ao n c) n (stepCells S Q T (List.range n))) : StepsAt w ao n S Q T := by
  have h' : w.ownsRow B 51 3 (.slice ao (List.range n).length c) (List.range n).length (stepCells S Q T (List.range n)) := by rw [List.length_range]; exact h
  have := ownsRow_steps h'
  rw [List.length_range] at this
  exact this.congr fun i hi => by
    have : (List.range n).getD i 0 = i := by rw [List.getD_eq_getElem?_getD, List.getElem?_range hi]; rfl
    rw [this]; exact ⟨rfl, rfl, rfl⟩

set_option maxRecDepth 4000 in
set_option maxHeartbeats 1600000 in
theorem cbuild_any (ao : Option Addr) (n c : Nat) (X Q T : Nat → Int) (w : World) (hn : n ≤ 1024) (hs : RawAt w ao n X Q T) (hX : ∀ i, i < n → 0 ≤ X i ∧ X i ≤ 255) :
    Calls Yba.prog 20 #[.slice ao n c] w fun e w' => ∃ vo vc, e = .returned (.slice vo n vc) ∧ StepsAt w' vo n (srcOf X) Q T ∧ Below w.heap.size w w' := by
  obtain ⟨i51, hi51, hz51, hs51, hb51⟩ := info_parts Yba.info51
  go_enter Yba.func20, Yba.ntmps20
  go_wp2
  go_loopw [3, 8] (fun v x wr => ∃ (k : Nat) (vo : Option Addr) (vc : Nat), k ≤ n ∧ x = .int .i64 k ∧ v = .slice vo k vc ∧ CInv X Q T w k vo vc wr) (fun _ x _ => n - (intOf x).toNat)
  case atStart =>
    exact ⟨0, none, 0, Nat.zero_le _, rfl, rfl, ⟨Below.refl _ _, World.ownsRow_nil _ _ _ _⟩⟩
  case round =>
    obtain ⟨k, vo, vc, hk, rfl, rfl, I⟩ := hrel
    by_cases hlt : k < n
    · obtain ⟨g, o, rfl, hs'⟩ := hs.get hlt
      obtain ⟨s0, s1, s2⟩ := hs' k hlt
      have u0 := below_cells I.bel _ _ s0
      have u1 := below_cells I.bel _ _ s1
      have u2 := below_cells I.bel _ _ s2
      obtain ⟨x0, x1⟩ := hX k hlt
      clear hs hs' s0 s1 s2 hX
      have hli : (k : Int) < (n : Int) := by omega
      have hsz := I.bel.size
      go_wp2
      clear u0 u1 u2
      go_region_law (first
        | (refine step_csrc (.tmp 14) X k (by simp [Act.eval]) x0 x1 ?_)
        | (refine step_append_lies _ rfl (.tmp 12) (.tmp 22) 44 rfl w.heap.size 51 i51 (.agg #[.string ⟨#[]⟩, .int .u64 0, .int .i64 0]) 3 32 Yba.underlying44 hi51 hz51 hs51 hb51 rfl (by decide) (.slice vo k vc) k (stepCells (srcOf X) Q T (List.range k)) (by simp [Act.eval]) (ownsRow_below ((I.own.alloc _).alloc _) (Below.refl _ _).drew) ⟨wr.heap.size + 1, 0, none⟩ 1 1 [.string (srcOf X k), .int .u64 (Q k), .int .i64 (T k)] (by simp [Act.eval]) rfl (three_new' (w := wr.alloc (.cells #[.int .u8 (X k), .int .u64 (Q k), .int .i64 (T k)] 103)) (by simp) _ _ _ _) (three_one _ _ _) (by omega) (by unfold maxLen; omega) (by omega) (by simp; omega) _ rfl ?_
           intro gg cap w2 own' grow' _ _))
      all_goals
        go_wp2
        go_roundw
        case rel =>
          refine ⟨k + 1, some ⟨gg, 0, none⟩, cap, by omega, by go_num, rfl, ⟨?_, ?_⟩⟩
          · exact (((I.bel.alloc hsz _).alloc (by simp; omega) _).drew).grown grow' (by simp; omega) (fun b hb => (I.own.lt b hb).1)
          · rw [List.range_succ, stepCells_snoc]
            exact own'
        case measure => simp [intOf]; omega
    · go_wp2
      go_ret
      have : k = n := by omega
      subst this
      exact ⟨vo, vc, rfl, own_range I.own, I.bel⟩

end Go.Proofs.Ybulkbjfc.TC
