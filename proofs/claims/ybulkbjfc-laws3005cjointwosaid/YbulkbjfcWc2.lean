import Derived.Test.YbulkbjfcWc
import Derived.ChangeMaps5
namespace Go.Proofs.Ybulkbjfc.TC
open Go.RowKit
open Go.ChangeMaps (setBlock)

def zeroE : Value := .agg #[.int .u64 0, .int .i64 0, .int .u64 0, .slice none 0 0]

theorem run_checkKey9 (w : World) (e : Bool) (k : ByteArray) : (Instr.checkKey e 10000 9 (.string k)).run Yba.prog w = .ok () w := by
  have h : (Instr.checkKey e (9999 + 1) 9 (.string k)).run Yba.prog w = .ok () w := by
    unfold Instr.checkKey
    simp [run_underlying Yba.underlying9]
  exact h

theorem run_findKey9 (w : World) (k : ByteArray) (es : List MapEntry) (r : Option (Nat × Value)) (hf : Instr.findNow .string (.string k) es 0 = some r) : (Instr.findKey 9 (.string k) es).run Yba.prog w = .ok r w := by
  unfold Instr.findKey
  simp [run_underlying Yba.underlying9, hf]

theorem look_run (w : World) (b : Nat) (es : Array MapEntry) (clock : Nat) (k : ByteArray) (hb : w.heap[b]? = some (.map es clock)) (r : Option (Nat × Value)) (hf : Instr.findNow .string (.string k) es.toList 0 = some r) (c : Bool) :
    (Instr.lookup 67 (.map (some b)) (.string k) c).run Yba.prog w = .ok (if c then .tuple #[(r.map (·.2)).getD zeroE, .bool r.isSome] else (r.map (·.2)).getD zeroE) w := by
  unfold Instr.lookup
  cases r <;> cases c <;> simp [run_underlying Yba.underlying67, MapKept.run_getObj_map hb, run_checkKey9, run_findKey9 w k es.toList _ hf, zeroE]

theorem upd_new (w : World) (b : Nat) (es : Array MapEntry) (clock : Nat) (k : ByteArray) (v : Value) (hb : w.heap[b]? = some (.map es clock)) (hf : Instr.findNow .string (.string k) es.toList 0 = some none) :
    (Instr.mapUpdate 67 (.map (some b)) (.string k) v).run Yba.prog w = .ok () (setBlock w b (.map (es.push ⟨.string k, v, clock⟩) (clock + 1))) := by
  unfold Instr.mapUpdate
  simp [run_underlying Yba.underlying67, MapKept.run_getObj_map hb, run_checkKey9, run_findKey9 w k es.toList _ hf, MapKept.run_setObj_map _ hb]
  rfl

def sX : ByteArray := ⟨#[120]⟩
def sY : ByteArray := ⟨#[121]⟩
theorem find0 (k : ByteArray) : Instr.findNow .string (.string k) [] 0 = some none := rfl
theorem findXX (v : Value) (b : Nat) : Instr.findNow .string (.string sX) [⟨.string sX, v, b⟩] 0 = some (some (0, v)) := by kernel_rfl
theorem findXY (v : Value) (b : Nat) : Instr.findNow .string (.string sY) [⟨.string sX, v, b⟩] 0 = some none := by kernel_rfl
theorem find2X (v v' : Value) (b b' : Nat) : Instr.findNow .string (.string sX) [⟨.string sX, v, b⟩, ⟨.string sY, v', b'⟩] 0 = some (some (0, v)) := by kernel_rfl
theorem find2Y (v v' : Value) (b b' : Nat) : Instr.findNow .string (.string sY) [⟨.string sX, v, b⟩, ⟨.string sY, v', b'⟩] 0 = some (some (1, v')) := by kernel_rfl
theorem keepX (w : World) : (Instr.keyThatStays (.string sX) (.string sX)).run Yba.prog w = .ok (.string sX) w := by kernel_rfl

theorem upd_one (w : World) (b : Nat) (old v : Value) (born clock : Nat) (hb : w.heap[b]? = some (.map #[⟨.string sX, old, born⟩] clock)) :
    (Instr.mapUpdate 67 (.map (some b)) (.string sX) v).run Yba.prog w = .ok () (setBlock w b (.map #[⟨.string sX, v, born⟩] clock)) := by
  unfold Instr.mapUpdate
  simp [run_underlying Yba.underlying67, MapKept.run_getObj_map hb, run_checkKey9, run_findKey9 w sX _ _ (findXX old born), keepX, MapKept.run_setObj_map _ hb]
  rfl

end Go.Proofs.Ybulkbjfc.TC
