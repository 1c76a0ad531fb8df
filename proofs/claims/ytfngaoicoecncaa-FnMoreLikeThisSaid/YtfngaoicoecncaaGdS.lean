/-
  A geo_distance query as it is told and as it is read.
-/
import Derived.Test.YtfngaoicoecncaaGd
import Derived.Test.YtfngaoicoecncaaP4
import Derived.Test.YtfngaoicoecncaaTx
import Derived.Test.YtfngaoicoecncaaFi
import Derived.Test.YtfngaoicoecncaaSm
import Derived.Test.YtfngaoicoecncaaR2
import Derived.Test.YtfngaoicoecncaaBk
import Derived.Deep.CutBlock
namespace Go.Proofs.Ytfngaoicoecncaa
open Go.RowKit

abbrev sGeoDistance : ByteArray := ⟨#[71, 101, 111, 68, 105, 115, 116, 97, 110, 99, 101]⟩
abbrev tGeoDistance : ByteArray := ⟨#[100, 105, 115, 116, 97, 110, 99, 101, 32, 116, 44, 100, 105, 115, 116, 97, 110, 99, 101, 95, 116, 121, 112, 101, 32, 116, 44, 112, 111, 105, 110, 116, 32, 112, 44, 108, 97, 116, 32, 110, 44, 108, 111, 110, 32, 110, 44, 104, 97, 115, 104, 32, 116, 44, 95, 110, 97, 109, 101, 32, 116]⟩
abbrev rGeoDistance : List (ByteArray × ByteArray) := [(s_distance, ⟨#[116]⟩), (s_distance_type, ⟨#[116]⟩), (s_point, ⟨#[112]⟩), (s_lat, ⟨#[110]⟩), (s_lon, ⟨#[110]⟩), (s_hash, ⟨#[116]⟩), (s_name, ⟨#[116]⟩)]
set_option maxHeartbeats 2000000 in
theorem table_geoDistance (w : World) : Calls Try.prog 94 #[.string sGeoDistance] w fun r w' => r = .returned (.string tGeoDistance) ∧ w' = w := by
  go_enter Try.func94, Try.ntmps94
  go_wp2
  go_ret
  exact ⟨rfl, rfl⟩
set_option maxRecDepth 20000 in
theorem rows_geoDistance (w : World) : Calls Try.prog 85 #[.string sGeoDistance] w fun r w' => ∃ v, r = .returned v ∧ Own2 w' w.heap.size v rGeoDistance ∧ Ext w w' :=
  rows_any sGeoDistance tGeoDistance w table_geoDistance 9 (by decide) (by decide)
theorem tree_looseG {S S' : Nat → Prop} {w : World} {e : El} {t : T} (h : TreeAt S w e t) (hs : scalarT t = true) : TreeAt S' w e t := by
  obtain ⟨k, x, d, y, ks, xs⟩ := t
  have h2 : ks = [] ∧ xs = [] := by
    unfold scalarT scalarF at hs
    simp only [T.keys, T.kids] at hs
    cases ks with
    | cons _ _ => simp at hs
    | nil =>
      cases xs with
      | cons _ _ => simp at hs
      | nil => exact ⟨rfl, rfl⟩
  obtain ⟨rfl, rfl⟩ := h2
  obtain ⟨h1, h2, h3, h4, h5, h6⟩ := h.parts
  exact TreeAt.of h1 h2 h3 h4 ⟨h5.1, h5.2.1, h5.2.2.1, fun _ _ hh => by simp [T.keys] at hh⟩ (KidsAt.of h6.1 h6.2.1 h6.2.2.1 fun _ _ hh => by simp [T.kids] at hh)
theorem pk_looseG {S S' : Nat → Prop} {w : World} {es : List (ByteArray × El)} {ps : List (ByteArray × T)} (h : Pk S w es ps) (hs : ∀ p ∈ ps, scalarT p.2 = true) : Pk S' w es ps :=
  ⟨h.1, fun i e p he hp => ⟨(h.2 i e p he hp).1, tree_looseG (h.2 i e p he hp).2 (hs p (List.mem_of_getElem? hp))⟩⟩
theorem params_plainG {rs : List (ByteArray × ByteArray)} {ps : List (ByteArray × T)} (hF : FitsP rs ps) (rs2 : List (ByteArray × ByteArray)) : ∀ p ∈ paramsL rs2 ps, scalarT p.2 = true := fun p hp => by
  unfold paramsL at hp
  obtain ⟨r, -, hr⟩ := List.mem_filterMap.1 hp
  unfold param at hr
  split at hr
  · cases hl : lastOf ps r.1 with
    | none => rw [hl] at hr; cases hr
    | some t =>
      rw [hl] at hr
      cases hr
      exact (fits_last hF hl).1
  · cases hr
/-- Names with trees to which one more is appended. -/
theorem pk_plusG {P : Nat → Prop} {w w' : World} {g cap n : Nat} {v : Value} {es : List (ByteArray × El)} {ps : List (ByteArray × T)} {k : ByteArray} {e : El} {t : T} (hP : Pk (fun b => P b ∧ v.ownBlock ≠ some b) w es ps) (ht : TreeAt (fun b => P b ∧ v.ownBlock ≠ some b) w e t)
    (hg : w.grownBy w' v.ownBlock) (hl : Lies w v g) : Pk (fun b => P b ∧ (Value.slice (some ⟨g, 0, none⟩) n cap).ownBlock ≠ some b) w' (es ++ [(k, e)]) (ps ++ [(k, t)]) := by
  have hk : Keeps (fun b => P b ∧ v.ownBlock ≠ some b) w w' := keeps_grown hg (fun b hb e => hb.2 e.symm)
  have hS : ∀ b, (P b ∧ v.ownBlock ≠ some b) → b < w.heap.size → P b ∧ (Value.slice (some ⟨g, 0, none⟩) n cap).ownBlock ≠ some b := fun b hb hlt => by
    refine ⟨hb.1, fun e => ?_⟩
    simp only [Value.ownBlock, Option.some.injEq] at e
    rcases hl with hl | hl
    · exact hb.2 (by rw [hl, e])
    · omega
  exact Pk.append (hP.keep hS hk) (Pk.one (TreeAt.keep hS hk _ ht))
abbrev geoOut : List ByteArray := [s_lat, s_lon, s_hash]
def ptT (ps : List (ByteArray × T)) : T := match lastOf ps s_hash with
  | some t => t
  | none => pointT (foldG ps)
theorem mapT_plusG (l : List (ByteArray × T)) (k : ByteArray) (t : T) : mapT (l ++ [(k, t)]) = withT (mapT l) k t := by
  unfold mapT
  rw [List.foldl_append]
  rfl
end Go.Proofs.Ytfngaoicoecncaa
