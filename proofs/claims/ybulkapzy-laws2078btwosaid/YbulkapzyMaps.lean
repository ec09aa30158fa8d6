import Derived.Test.YbulkapzyNames
import Derived.MapKept
import Derived.LaidEqlPtr
import Derived.Deep.OwnRows
import Derived.Below
namespace Go.Proofs.Ybulkapzy
open Go.RowKit

/-- The world with block r laid anew. -/
def setB (w : World) (r : Nat) (o : Obj) : World := { w with heap := w.heap.setIfInBounds r o }

theorem setB_size (w : World) (r : Nat) (o : Obj) : (setB w r o).heap.size = w.heap.size := by simp [setB]
theorem setB_same (w : World) (r : Nat) (o : Obj) (h : r < w.heap.size) : (setB w r o).heap[r]? = some o := by simp [setB, h]
theorem setB_other (w : World) (r k : Nat) (o : Obj) (h : k ≠ r) : (setB w r o).heap[k]? = w.heap[k]? := by simp [setB, Ne.symm h]
theorem setB_below {B : Nat} {w w' : World} (h : Below B w w') (r : Nat) (o : Obj) (hr : B ≤ r) : Below B w (setB w' r o) :=
  h.trans ⟨rfl, rfl, rfl, Nat.le_of_eq (setB_size w' r o).symm, fun k hk => setB_other w' r k o (by omega)⟩

section
variable {P : Program} {w : World} {t kt et : TypeId}

theorem look_nil {k z : Value} {d : TypeDesc} (hm : P.underlying t = some (.map kt et)) (hd : P.underlying kt = some d) (hk : MapKept.IsKey d k) (hz : (zeroValue et).run P w = .ok z w) :
    (Instr.lookup t (.map none) k false).run P w = .ok z w := by
  have hf : Instr.findNow d k ([] : List MapEntry) 0 = some none := rfl
  have hc : (Instr.checkKey true 10000 kt k).run P w = .ok () w := MapKept.run_checkKey hd hk true 9999
  simp [Instr.lookup, run_underlying hm, hc, MapKept.run_findKey hd hf, hz, Result.andThen]

theorem look_miss {k z : Value} {d : TypeDesc} {r clock : Nat} {es : Array MapEntry} (hm : P.underlying t = some (.map kt et)) (hd : P.underlying kt = some d) (hk : MapKept.IsKey d k) (hz : (zeroValue et).run P w = .ok z w)
    (hb : w.heap[r]? = some (.map es clock)) (hf : Instr.findNow d k es.toList 0 = some none) :
    (Instr.lookup t (.map (some r)) k false).run P w = .ok z w := by
  have hc : ∀ b, (Instr.checkKey b 10000 kt k).run P w = .ok () w := fun b => MapKept.run_checkKey hd hk b 9999
  simp [Instr.lookup, run_underlying hm, MapKept.run_getObj_map hb, hc, MapKept.run_findKey hd hf, hz, Result.andThen]

theorem look_hit {k v : Value} {d : TypeDesc} {r clock i : Nat} {es : Array MapEntry} (hm : P.underlying t = some (.map kt et)) (hd : P.underlying kt = some d) (hk : MapKept.IsKey d k)
    (hb : w.heap[r]? = some (.map es clock)) (hf : Instr.findNow d k es.toList 0 = some (some (i, v))) :
    (Instr.lookup t (.map (some r)) k false).run P w = .ok v w := by
  have hc : ∀ b, (Instr.checkKey b 10000 kt k).run P w = .ok () w := fun b => MapKept.run_checkKey hd hk b 9999
  simp [Instr.lookup, run_underlying hm, MapKept.run_getObj_map hb, hc, MapKept.run_findKey hd hf, Result.andThen]

theorem upd_new {k v : Value} {d : TypeDesc} {r clock : Nat} {es : Array MapEntry} (hm : P.underlying t = some (.map kt et)) (hd : P.underlying kt = some d) (hk : MapKept.IsKey d k)
    (hb : w.heap[r]? = some (.map es clock)) (hf : Instr.findNow d k es.toList 0 = some none) :
    (Instr.mapUpdate t (.map (some r)) k v).run P w = .ok () (setB w r (.map (es.push { key := k, val := v, born := clock }) (clock + 1))) := by
  have hc : (Instr.checkKey false 10000 kt k).run P w = .ok () w := MapKept.run_checkKey hd hk false 9999
  simp [Instr.mapUpdate, run_underlying hm, MapKept.run_getObj_map hb, hc, MapKept.run_findKey hd hf, MapKept.run_setObj_map _ hb, Result.andThen, setB]

theorem upd_old {k v v0 : Value} {d : TypeDesc} {r clock i : Nat} {e : MapEntry} {es : Array MapEntry} (hm : P.underlying t = some (.map kt et)) (hd : P.underlying kt = some d) (hk : MapKept.IsKey d k)
    (hb : w.heap[r]? = some (.map es clock)) (hf : Instr.findNow d k es.toList 0 = some (some (i, v0))) (he : es[i]? = some e) (hek : e.key = k) :
    (Instr.mapUpdate t (.map (some r)) k v).run P w = .ok () (setB w r (.map (es.modify i fun e => { e with key := k, val := v }) clock)) := by
  have hc : (Instr.checkKey false 10000 kt k).run P w = .ok () w := MapKept.run_checkKey hd hk false 9999
  simp [Instr.mapUpdate, run_underlying hm, MapKept.run_getObj_map hb, hc, MapKept.run_findKey hd hf, he, hek, MapKept.run_keyThatStays hk, MapKept.run_setObj_map _ hb, Result.andThen, setB]
end

theorem str_key (s : ByteArray) : MapKept.IsKey .string (.string s) := by simp [MapKept.IsKey]

theorem Yba.zero62 (w : World) : (zeroValue 62).run Yba.prog w = .ok (.slice none 0 0) w := by kernel_rfl
theorem Yba.zero41 (w : World) : (zeroValue 41).run Yba.prog w = .ok (.pointer none) w := by kernel_rfl
theorem Yba.zero69 (w : World) : (zeroValue 69).run Yba.prog w = .ok (.pointer none) w := by kernel_rfl

end Go.Proofs.Ybulkapzy
