import Derived.Test.YbulkckhyFmtSmall
import Derived.ChangeMaps5
import Derived.WideMake
import Derived.Maps.OwnSet
namespace Go.Proofs.YbulkckhyFmt
open Go.RowKit Go.Extern.Stop Go.Stop Go.Extern
open Go.ChangeMaps (setBlock)

/-- 'm[s] = v', m a map keyed by strings that holds no entry at s: one entry more. -/
theorem update_new {P : Program} (w : World) (t kt et : TypeId) (r : Nat) (es : Array MapEntry) (clock : Nat) (s : ByteArray) (val : Value)
    (hm : P.underlying t = some (.map kt et)) (hk : P.underlying kt = some .string) (hb : w.heap[r]? = some (.map es clock)) (hf : Instr.findNow .string (.string s) es.toList 0 = some none) :
    (Instr.mapUpdate t (.map (some r)) (.string s) val).run P w = .ok () (setBlock w r (.map (es.push { key := .string s, val := val, born := clock }) (clock + 1))) := by
  have hc : (Instr.checkKey false 10000 kt (.string s)).run P w = .ok () w := MapKept.run_checkKey (k := .string s) hk (by simp [MapKept.IsKey]) false 9999
  simp [Instr.mapUpdate, run_underlying hm, MapKept.run_getObj_map hb, hc, MapKept.run_findKey hk hf, MapKept.run_setObj_map _ hb, Result.andThen, setBlock]

/-- 'v, ok := m[s]'. -/
theorem lookup_at {P : Program} (w : World) (t kt et : TypeId) (r : Nat) (es : Array MapEntry) (clock : Nat) (s : ByteArray) (i : Nat) (v : Value) (c : Bool)
    (hm : P.underlying t = some (.map kt et)) (hk : P.underlying kt = some .string) (hb : w.heap[r]? = some (.map es clock)) (hf : Instr.findNow .string (.string s) es.toList 0 = some (some (i, v))) :
    (Instr.lookup t (.map (some r)) (.string s) c).run P w = .ok (if c then .tuple #[v, .bool true] else v) w := by
  have hc : ∀ e : Bool, (Instr.checkKey e 10000 kt (.string s)).run P w = .ok () w := fun e => MapKept.run_checkKey (k := .string s) hk (by simp [MapKept.IsKey]) e 9999
  cases c <;> simp [Instr.lookup, run_underlying hm, MapKept.run_getObj_map hb, hc, MapKept.run_findKey hk hf, Result.andThen]

theorem lookup_none {P : Program} (w : World) (t kt et : TypeId) (r : Nat) (es : Array MapEntry) (clock : Nat) (s : ByteArray) (z : Value) (c : Bool)
    (hm : P.underlying t = some (.map kt et)) (hk : P.underlying kt = some .string) (hb : w.heap[r]? = some (.map es clock)) (hz : (zeroValue et).run P w = .ok z w) (hf : Instr.findNow .string (.string s) es.toList 0 = some none) :
    (Instr.lookup t (.map (some r)) (.string s) c).run P w = .ok (if c then .tuple #[z, .bool false] else z) w := by
  have hc : ∀ e : Bool, (Instr.checkKey e 10000 kt (.string s)).run P w = .ok () w := fun e => MapKept.run_checkKey (k := .string s) hk (by simp [MapKept.IsKey]) e 9999
  cases c <;> simp [Instr.lookup, run_underlying hm, MapKept.run_getObj_map hb, hc, MapKept.run_findKey hk hf, hz, Result.andThen]
end Go.Proofs.YbulkckhyFmt
