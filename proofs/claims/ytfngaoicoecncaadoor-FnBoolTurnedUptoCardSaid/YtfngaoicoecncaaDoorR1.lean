/-
  The tree under a key of a map; a query read as it stands beside its settings.
-/
import Derived.Test.YtfngaoicoecncaaDoorF2
namespace Go.Proofs.YtfngaoicoecncaaDoor
open Go.RowKit

theorem rising_lookup {α : Type} {l : List (ByteArray × α)} (h : Rising l) {i : Nat} {p : ByteArray × α} (hp : l[i]? = some p) : lastOf l p.1 = some p.2 := (rising_mem h).1 (List.mem_of_getElem? hp)
theorem mapOf_keys (l : List (ByteArray × T)) (i : Nat) (p : ByteArray × T) (h : l[i]? = some p) : (mapOf l).keys[i]? = some p.1 ∧ (mapOf l).kids[i]? = some p.2 := by
  unfold mapOf
  simp [T.keys, T.kids, h]

theorem mapT_one (k : ByteArray) (t : T) : mapT [(k, t)] = mapOf [(k, t)] := mapT_of (by simp [Rising]) fun _ => rfl
theorem mapT_kind (ps : List (ByteArray × T)) : (mapT ps).kind = 5 := by
  obtain ⟨l, h, _⟩ := mapT_told ps
  rw [h]; rfl
end Go.Proofs.YtfngaoicoecncaaDoor
