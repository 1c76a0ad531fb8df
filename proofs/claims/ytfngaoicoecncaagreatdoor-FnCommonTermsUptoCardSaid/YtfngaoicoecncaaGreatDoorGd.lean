/-
  Points of a geo_distance query: two numbers, as they are set at last.
-/
import Derived.Test.YtfngaoicoecncaaGreatDoorNm2
import Derived.Test.YtfngaoicoecncaaGreatDoorFx
import Derived.Test.YtfngaoicoecncaaGreatDoorTr
import Derived.Test.YtfngaoicoecncaaGreatDoorLx
namespace Go.Proofs.YtfngaoicoecncaaGreatDoor
open Go.RowKit

/-- A part of a tree, or nothing. -/
def kidT (t : T) (i : Nat) : T := (t.kids[i]?).getD nullT
def stepG (acc : T × T) (p : ByteArray × T) : T × T := if seq p.1 s_point then (kidT p.2 0, kidT p.2 1) else if seq p.1 s_lat then (p.2, acc.2) else if seq p.1 s_lon then (acc.1, p.2) else acc
/-- What is set at last of a point: its two numbers. -/
def foldG (ps : List (ByteArray × T)) : T × T := ps.foldl stepG (numT 0, numT 0)
theorem foldG_step {ps : List (ByteArray × T)} {j : Nat} {p : ByteArray × T} (hp : ps[j]? = some p) : foldG (ps.take (j + 1)) = stepG (foldG (ps.take j)) p := by
  rw [take_snoc hp]
  unfold foldG
  rw [List.foldl_append]
  rfl
theorem stepG_skip {acc : T × T} {p : ByteArray × T} (h1 : seq p.1 s_point = false) (h2 : seq p.1 s_lat = false) (h3 : seq p.1 s_lon = false) : stepG acc p = acc := by
  unfold stepG
  rw [h1, h2, h3]
  rfl
theorem stepG_ne {acc : T × T} {p : ByteArray × T} {k : ByteArray} (h : seq p.1 k = true) (h1 : seq k s_point = false) (h2 : seq k s_lat = false) (h3 : seq k s_lon = false) : stepG acc p = acc := by
  have e := seq_iff.1 h
  exact stepG_skip (by rw [e]; exact h1) (by rw [e]; exact h2) (by rw [e]; exact h3)
theorem stepG_point {acc : T × T} {p : ByteArray × T} (h : seq p.1 s_point = true) : stepG acc p = (kidT p.2 0, kidT p.2 1) := by
  unfold stepG
  rw [h]
  rfl
theorem stepG_lat {acc : T × T} {p : ByteArray × T} (h : seq p.1 s_lat = true) : stepG acc p = (p.2, acc.2) := by
  have e := seq_iff.1 h
  have h1 : seq p.1 s_point = false := by rw [e]; exact seq_false.2 (by decide)
  unfold stepG
  rw [h1, h]
  rfl
theorem stepG_lon {acc : T × T} {p : ByteArray × T} (h : seq p.1 s_lon = true) : stepG acc p = (acc.1, p.2) := by
  have e := seq_iff.1 h
  have h1 : seq p.1 s_point = false := by rw [e]; exact seq_false.2 (by decide)
  have h2 : seq p.1 s_lat = false := by rw [e]; exact seq_false.2 (by decide)
  unfold stepG
  rw [h1, h2, h]
  rfl
/-- The place of a query: a text, or two numbers. -/
def jPt (f h : ByteArray) (a b : Nat) : List (ByteArray × J) := if h.toList.isEmpty then [(f, jMap [(s_lat, .num a), (s_lon, .num b)])] else [(f, .str h)]
theorem jPt_text {f h : ByteArray} {a b : Nat} (e : h.toList.isEmpty = false) : jPt f h a b = [(f, .str h)] := by unfold jPt; rw [e]; rfl
theorem jPt_nums {f h : ByteArray} {a b : Nat} (e : h.toList.isEmpty = true) : jPt f h a b = [(f, jMap [(s_lat, .num a), (s_lon, .num b)])] := by unfold jPt; rw [e]; rfl
def pointT (q : T × T) : T := mapT [(s_lat, q.1), (s_lon, q.2)]
end Go.Proofs.YtfngaoicoecncaaGreatDoor
