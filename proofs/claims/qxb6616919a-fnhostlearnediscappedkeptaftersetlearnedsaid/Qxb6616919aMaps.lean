/-
  The map of hosts: look-up and store, at keys that are strings, whatever the elements.
-/
import Derived.Test.Qxb6616919aHost
import Derived.MapKept
namespace Go.Proofs.Qxb6616919a
open Go.RowKit Go.MuLone

/-- The entry of a name. -/
def hit (es : Array MapEntry) (s : ByteArray) : Option (Option (Nat × Value)) := Instr.findNow .string (.string s) es.toList 0

theorem run_look_hit {w : World} {mb clock i : Nat} {es : Array MapEntry} {s : ByteArray} {v : Value} (hm : w.heap[mb]? = some (.map es clock)) (hf : hit es s = some (some (i, v))) :
    (Instr.lookup 77 (.map (some mb)) (.string s) true).run Try.prog w = .ok (.tuple #[v, .bool true]) w := by
  have hk : MapKept.IsKey .string (.string s) := by simp [MapKept.IsKey]
  simp [Instr.lookup, run_underlying Try.underlying77, MapKept.run_getObj_map hm, MapKept.run_checkKey Try.underlying9 hk, MapKept.run_findKey Try.underlying9 hf, Result.andThen]

theorem run_look_miss {w : World} {mb clock : Nat} {es : Array MapEntry} {s : ByteArray} (hm : w.heap[mb]? = some (.map es clock)) (hf : hit es s = some none) :
    (Instr.lookup 77 (.map (some mb)) (.string s) true).run Try.prog w = .ok (.tuple #[.pointer none, .bool false]) w := by
  have hk : MapKept.IsKey .string (.string s) := by simp [MapKept.IsKey]
  simp [Instr.lookup, run_underlying Try.underlying77, MapKept.run_getObj_map hm, MapKept.run_checkKey Try.underlying9 hk, MapKept.run_findKey Try.underlying9 hf, Try.zeroValue38, Result.andThen]

theorem run_put_miss {w : World} {mb clock : Nat} {es : Array MapEntry} {s : ByteArray} {v : Value} (hm : w.heap[mb]? = some (.map es clock)) (hf : hit es s = some none) :
    (Instr.mapUpdate 77 (.map (some mb)) (.string s) v).run Try.prog w = .ok () { w with heap := w.heap.setIfInBounds mb (.map (es.push { key := .string s, val := v, born := clock }) (clock + 1)) } := by
  have hk : MapKept.IsKey .string (.string s) := by simp [MapKept.IsKey]
  simp [Instr.mapUpdate, run_underlying Try.underlying77, MapKept.run_getObj_map hm, MapKept.run_checkKey Try.underlying9 hk, MapKept.run_findKey Try.underlying9 hf, MapKept.run_setObj_map _ hm, Result.andThen]
end Go.Proofs.Qxb6616919a
