/-
  Points of a geo_distance query: two numbers, as they are set at last.
-/
import Derived.Test.YtfngaoicoecncaaNm2
import Derived.Test.YtfngaoicoecncaaFx
import Derived.Test.YtfngaoicoecncaaTr
import Derived.Test.YtfngaoicoecncaaLx
namespace Go.Proofs.Ytfngaoicoecncaa
open Go.RowKit

/-- A part of a tree, or nothing. -/
def kidT (t : T) (i : Nat) : T := (t.kids[i]?).getD nullT
def stepG (acc : T × T) (p : ByteArray × T) : T × T := if seq p.1 s_point then (kidT p.2 0, kidT p.2 1) else if seq p.1 s_lat then (p.2, acc.2) else if seq p.1 s_lon then (acc.1, p.2) else acc
/-- What is set at last of a point: its two numbers. -/
def foldG (ps : List (ByteArray × T)) : T × T := ps.foldl stepG (numT 0, numT 0)
theorem foldG_step {ps : List (ByteArray × T)} {j : Nat} {p : ByteArray × T} (hp : ps[j]? = some p) : foldG (ps.take (j + 1)) = stepG (foldG (ps.take j)) p := by
  rw [take_snoc hp]
  unfold foldG
  rw [List.foldl_append]
  rfl
theorem stepG_skip {acc : T × T} {p : ByteArray × T} (h1 : seq p.1 s_point = false) (h2 : seq p.1 s_lat = false) (h3 : seq p.1 s_lon = false) : stepG acc p = acc := by
  unfold stepG
  rw [h1, h2, h3]
  rfl
theorem stepG_ne {acc : T × T} {p : ByteArray × T} {k : ByteArray} (h : seq p.1 k = true) (h1 : seq k s_point = false) (h2 : seq k s_lat = false) (h3 : seq k s_lon = false) : stepG acc p = acc := by
  have e := seq_iff.1 h
  exact stepG_skip (by rw [e]; exact h1) (by rw [e]; exact h2) (by rw [e]; exact h3)
theorem stepG_point {acc : T × T} {p : ByteArray × T} (h : seq p.1 s_point = true) : stepG acc p = (kidT p.2 0, kidT p.2 1) := by
  unfold stepG
  rw [h]
  rfl
theorem stepG_lat {acc : T × T} {p : ByteArray × T} (h : seq p.1 s_lat = true) : stepG acc p = (p.2, acc.2) := by
  have e := seq_iff.1 h
  have h1 : seq p.1 s_point = false := by rw [e]; exact seq_false.2 (by decide)
  unfold stepG
  rw [h1, h]
  rfl
theorem stepG_lon {acc : T × T} {p : ByteArray × T} (h : seq p.1 s_lon = true) : stepG acc p = (acc.1, p.2) := by
  have e := seq_iff.1 h
  have h1 : seq p.1 s_point = false := by rw [e]; exact seq_false.2 (by decide)
  have h2 : seq p.1 s_lat = false := by rw [e]; exact seq_false.2 (by decide)
  unfold stepG
  rw [h1, h2, h]
  rfl
/-- The place of a query: a text, or two numbers. -/
def jPt (f h : ByteArray) (a b : Nat) : List (ByteArray × J) := if h.toList.isEmpty then [(f, jMap [(s_lat, .num a), (s_lon, .num b)])] else [(f, .str h)]
theorem jPt_text {f h : ByteArray} {a b : Nat} (e : h.toList.isEmpty = false) : jPt f h a b = [(f, .str h)] := by unfold jPt; rw [e]; rfl
theorem jPt_nums {f h : ByteArray} {a b : Nat} (e : h.toList.isEmpty = true) : jPt f h a b = [(f, jMap [(s_lat, .num a), (s_lon, .num b)])] := by unfold jPt; rw [e]; rfl
def pointT (q : T × T) : T := mapT [(s_lat, q.1), (s_lon, q.2)]
set_option maxHeartbeats 1000000 in
theorem kidN_any {S : Nat → Prop} (e : El) (t : T) (i : Nat) (w : World) (h : TreeAt S w e t) : Calls Try.prog 27 #[e.val, .int .i64 i] w fun r w' => r = .returned (.float .f64 (kidT t i).num) ∧ Ext w w' := by
  obtain ⟨-, -, -, -, -, hK⟩ := h.parts
  obtain ⟨k, x, d, y, ka, n, kc, ca, m, cc⟩ := e
  simp only at hK
  have hm := Nat.le_trans hK.2.1 hK.2.2.1
  unfold maxLen at hm
  have hkl := hK.1
  have HK := Lib.hid hK
  clear h hK
  simp only [El.val]
  have hb0 : Box (w.alloc (.cells #[.int .i64 k, .string x, .float .f64 d, .bool y, .slice ka n kc, .slice ca m cc] 30)) w.heap.size _ _ := Box.at rfl _ _
  go_enter Try.func27, Try.ntmps27
  by_cases hi : i < m
  · obtain ⟨q, hq⟩ := some_of_lt hkl hi
    obtain ⟨b, off, e0, rfl, -, c0, hT0⟩ := HK.out.get hq
    have hk : kidT t i = q := by unfold kidT; rw [hq]; rfl
    have hd := hT0.parts.2.2.1
    rw [hk, ← hd]
    obtain ⟨z0, z1, z2, -⟩ := c0
    have hbl : b < w.heap.size := lt_of_cell z2
    clear hT0 hq hk hd HK
    go_wp2_with fail
    go_ret
    exact ⟨rfl, by (repeat (first | exact ext_refl _ | assumption | refine ext_alloc ?_ _ | refine ext_drew ?_ | refine ext_set ?_ (by simp) _ | refine ext_trans ?_ (by assumption)))⟩
  · have hk : kidT t i = nullT := by
      unfold kidT
      rw [List.getElem?_eq_none (by omega)]
      rfl
    rw [hk]
    clear HK hk
    go_wp2_with fail
    go_ret
    exact ⟨rfl, by (repeat (first | exact ext_refl _ | assumption | refine ext_alloc ?_ _ | refine ext_drew ?_ | refine ext_set ?_ (by simp) _ | refine ext_trans ?_ (by assumption)))⟩
set_option maxHeartbeats 1000000 in
theorem pointT_any {S : Nat → Prop} (e g : El) (t q : T) (w : World) (h : TreeAt S w e t) (hg : TreeAt S w g q) : Calls Try.prog 49 #[e.val, g.val] w fun r w' => ∃ z : El, r = .returned z.val ∧ TreeAt (fun b => S b ∨ w.heap.size ≤ b) w' z (pointT (t, q)) ∧ Ext w w' := by
  have H := Lib.hid h
  have HG := Lib.hid hg
  clear h hg
  have hb0 : Box (((w.alloc (.cells e.arr 30)).alloc (.cells g.arr 30)).alloc (.cells (El.arr El0) 30)) w.heap.size e.arr 30 := ((Box.at rfl _ _).alloc _).alloc _
  have hb1 : Box (((w.alloc (.cells e.arr 30)).alloc (.cells g.arr 30)).alloc (.cells (El.arr El0) 30)) (w.heap.size + 1) g.arr 30 := (Box.at (by simp) _ _).alloc _
  have hb2 : Box (((w.alloc (.cells e.arr 30)).alloc (.cells g.arr 30)).alloc (.cells (El.arr El0) 30)) (w.heap.size + 2) (El.arr El0) 30 := Box.at (by simp) _ _
  simp only [El.val]
  go_enter Try.func49, Try.ntmps49
  have hx0 : Ext w (((w.alloc (.cells e.arr 30)).alloc (.cells g.arr 30)).alloc (.cells (El.arr El0) 30)) := by (repeat (first | exact ext_refl _ | assumption | refine ext_alloc ?_ _ | refine ext_drew ?_ | refine ext_set ?_ (by simp) _ | refine ext_trans ?_ (by assumption)))
  have hM := Lib.hid (map_any (S := fun b => (S b ∧ b < w.heap.size) ∨ w.heap.size + 3 ≤ b) (some ⟨w.heap.size + 3, 0, none⟩) 2 2 [(s_lat, t), (s_lon, q)] ((((w.alloc (.cells e.arr 30)).alloc (.cells g.arr 30)).alloc (.cells (El.arr El0) 30)).alloc (.cells #[.string s_lat, .int .i64 e.k, .string e.x, .float .f64 e.d, .bool e.y, .slice e.ka e.n e.kc, .slice e.ca e.m e.cc, .string s_lon, .int .i64 g.k, .string g.x, .float .f64 g.d, .bool g.y, .slice g.ka g.n g.kc, .slice g.ca g.m g.cc] 69))
    (pairs_box (es := [(s_lat, e), (s_lon, g)]) (Box.at (by simp) #[.string s_lat, .int .i64 e.k, .string e.x, .float .f64 e.d, .bool e.y, .slice e.ka e.n e.kc, .slice e.ca e.m e.cc, .string s_lon, .int .i64 g.k, .string g.x, .float .f64 g.d, .bool g.y, .slice g.ka g.n g.kc, .slice g.ca g.m g.cc] 69) (.inr (Nat.le_refl _)) (by simp [maxLen]) (Pk.append (Pk.one (k := s_lat) ((H.out.to (fun b hb hl => .inl ⟨hb, hl⟩)).ext (ext_alloc hx0 _))) (Pk.one (k := s_lon) ((HG.out.to (fun b hb hl => .inl ⟨hb, hl⟩)).ext (ext_alloc hx0 _))))) (by decide))
  obtain ⟨y0, y1, y2, y3, y4, y5⟩ := hb0.six
  obtain ⟨u0, u1, u2, u3, u4, u5⟩ := hb1.six
  go_wp2_with (first
    | (go_at_call 48; refine hM.out.mono ?_; rintro r w2 ⟨z, rfl, hT, hx⟩; simp only [El.val]
       have hb := (hb2.alloc _).ext hx; obtain ⟨o0, o1, o2, o3, o4, o5⟩ := hb.six; have f0 := hb.free 0; have f1 := hb.free 1; have f2 := hb.free 2; have f3 := hb.free 3; have f4 := hb.free 4; have f5 := hb.free 5; have hl2 := hb.lt)
    | fail)
  have hx2 : Ext w w2 := ext_trans (ext_alloc hx0 _) hx
  refine post_tree rfl rfl (hb.sto z) rfl ⟨z, rfl, ?_, ext_sto6 hx2 (by omega) _ _ _ _ _ _⟩
  refine TreeAt.keep (S := fun b => (S b ∧ b < w.heap.size) ∨ w.heap.size + 3 ≤ b) (fun b hb _ => by rcases hb with hb | hb; exact .inl hb.1; exact .inr (by omega)) (keeps_sto w2 (by omega) z) _ (hT.to fun b hb _ => ?_)
  rcases hb with hb | hb
  · exact hb.1
  · simp at hb
    exact .inr (by omega)
set_option maxHeartbeats 1000000 in
theorem readPoint_id {S : Nat → Prop} (e : El) (t : T) (w : World) (h : TreeAt S w e t) (hk : t.kind ≠ 4) : Calls Try.prog 47 #[e.val] w fun r w' => r = .returned e.val ∧ Ext w w' := by
  have hke := h.parts.1
  have hk4 : e.k ≠ 4 := by rw [hke]; exact hk
  clear h hke
  have hb0 : Box ((w.alloc (.cells e.arr 30)).alloc (.cells (El.arr El0) 30)) w.heap.size e.arr 30 := (Box.at rfl _ _).alloc _
  have hb1 : Box ((w.alloc (.cells e.arr 30)).alloc (.cells (El.arr El0) 30)) (w.heap.size + 1) (El.arr El0) 30 := Box.at (by simp) _ _
  simp only [El.val]
  obtain ⟨y0, y1, y2, y3, y4, y5⟩ := hb0.six
  go_enter Try.func47, Try.ntmps47
  go_wp2_with fail
  have hbe : Box ((w.alloc (.cells e.arr 30)).alloc (.cells e.arr 30)) (w.heap.size + 1) e.arr 30 := Box.at (by simp) _ _
  refine post_tree rfl rfl hbe rfl ⟨rfl, ?_⟩
  exact ext_alloc (ext_alloc (ext_refl _) _) _
end Go.Proofs.Ytfngaoicoecncaa
