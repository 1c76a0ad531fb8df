/-
  A wrapper query.
-/
import Derived.Test.YtbhdkbbhhffldaaSrc
namespace Go.Proofs.Ytbhdkbbhhffldaa
open Go.RowKit

abbrev sWrapper : ByteArray := ⟨#[119, 114, 97, 112, 112, 101, 114]⟩
abbrev sQuery : ByteArray := ⟨#[113, 117, 101, 114, 121]⟩
set_option maxHeartbeats 1000000 in
theorem wrapper_src (b : Nat) (s : ByteArray) (w : World) (hb : Box w b #[.string s] 127) : Calls Try.prog 50 #[.pointer (some ⟨b, 0, none⟩)] w fun r w' => ∃ v, r = .returned (.tuple #[v, .nilIface]) ∧ JAt (fun q => w.heap.size ≤ q) w' v (.map [sWrapper] [.map [sQuery] [.str s]]) ∧ Ext w w' := by
  have tok1 := trivial
  have hblt := hb.lt
  go_enter Try.func50, Try.ntmps50
  go_wp2_with (first
    | (at_mapUpdate; have _t := tok1; refine wp_put _ rfl _ _ _ 125 rfl 20 Try.underlying125 w.heap.size [] rfl ((MapAt.at rfl).alloc _) (by simp [maxLen]) sWrapper rfl (by decide) _ rfl ?_; intro w1 hm1 hg1; clear tok1
       have hx1 : Ext w w1 := ext_put (ext_alloc (ext_alloc (ext_refl _) _) _) hg1 (Nat.le_refl _)
       have hn1 : MapAt w1 (w.heap.size + 1) [] := (MapAt.at (by simp)).grown hg1 (by simp)
       have hb1 := (hb.ext hx1).cell 0 _ rfl
       clear hg1)
    | (at_mapUpdate; refine wp_put _ rfl _ _ _ 125 rfl 20 Try.underlying125 (w.heap.size + 1) [] rfl hn1 (by simp [maxLen]) sQuery rfl (by decide) _ rfl ?_; intro w2 hn2 hg2
       have hx2 : Ext w w2 := ext_put hx1 hg2 (by omega)
       have hm2 := hm1.grown hg2 (by simp)
       clear hg2 hm1 hn1)
    | fail)
  go_ret2
  refine ⟨_, rfl, ?_, hx2⟩
  simp only [JAt, JsAt]
  exact ⟨_, [_], rfl, Nat.le_refl _, by simp, rfl, hm2, ⟨_, [_], rfl, by omega, by simp, rfl, hn2, rfl, trivial⟩, trivial⟩

set_option maxHeartbeats 1000000 in
theorem wrapper_any (s : ByteArray) (w : World) : Calls Try.prog 19 #[.string s] w fun r w' => ∃ g : El, r = .returned (.tuple #[g.val, .bool true]) ∧ TreeAt (fun b => w.heap.size + 1 ≤ b) w' g (treeJ (.map [sWrapper] [.map [sQuery] [.str s]])) ∧ Ext w w' := by
  go_enter Try.func19, Try.ntmps19
  go_wp2_with (first
    | (go_at_call 50; refine (wrapper_src _ s _ (Box.at (by simp) _ _)).mono ?_; rintro r w2 ⟨v, rfl, hJ, hx2⟩)
    | (go_at_call 45; refine (told_any v _ _ hJ).mono ?_; rintro r w3 ⟨e2, rfl, hT3, hx3⟩; simp only [El.val]
       have hx4 : Ext (w.alloc (.cells (El.arr El0) 26)) w3 := ext_trans (ext_trans (ext_alloc (ext_refl _) _) hx2) hx3
       have hb := (Box.at (w := w) rfl (El.arr El0) 26).ext hx4; obtain ⟨o0, o1, o2, o3, o4, o5⟩ := hb.six; have f0 := hb.free 0; have f1 := hb.free 1; have f2 := hb.free 2; have f3 := hb.free 3; have f4 := hb.free 4; have f5 := hb.free 5)
    | go_in)
  have hx5 : Ext w w3 := ext_trans (ext_alloc (ext_refl _) _) hx4
  have hs2 := hx2.sz
  refine post_tree2 rfl rfl (hb.sto e2) rfl ⟨e2, rfl, ?_, ext_sto6 hx5 (Nat.le_refl _) _ _ _ _ _ _⟩
  simp only [World.size_alloc] at hs2
  exact TreeAt.keep (fun b hb _ => by omega) (keeps_sto w3 (by omega) e2) _ hT3
end Go.Proofs.Ytbhdkbbhhffldaa
