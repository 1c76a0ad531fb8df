/-
  An ids query, as it is told.
-/
import Derived.Test.YtdpgmmkecghihaaAs
namespace Go.Proofs.Ytdpgmmkecghihaa
open Go.RowKit

abbrev sIds : ByteArray := ⟨#[73, 100, 115]⟩
abbrev tIds : ByteArray := ⟨#[98, 111, 111, 115, 116, 32, 110, 44, 95, 110, 97, 109, 101, 32, 116]⟩
abbrev rIds : List (ByteArray × ByteArray) := [(s_boost, ⟨#[110]⟩), (s_name, ⟨#[116]⟩)]
set_option maxHeartbeats 2000000 in
theorem table_ids (w : World) : Calls Try.prog 149 #[.string sIds] w fun r w' => r = .returned (.string tIds) ∧ w' = w := by
  go_enter Try.func149, Try.ntmps149
  go_wp2
  go_ret
  exact ⟨rfl, rfl⟩
theorem rows_ids (w : World) : Calls Try.prog 63 #[.string sIds] w fun r w' => ∃ v, r = .returned v ∧ Own2 w' w.heap.size v rIds ∧ Ext w w' :=
  rows_any sIds tIds w table_ids 5 (by decide) (by decide)
set_option maxHeartbeats 1000000 in
theorem idsSpec_any {S : Nat → Prop} (la : Option Addr) (ln lc : Nat) (ids : List ByteArray) (a : Option Addr) (n c : Nat) (sets : List (ByteArray × T)) (w : World) (hl : StrsAt S w la ln lc ids) (h : PairsAt S w a n c sets) (hb : ids.length ≤ 2147483647) :
    Calls Try.prog 28 #[.slice la ln lc, .slice a n c] w fun r w' => ∃ g : El, r = .returned g.val ∧ TreeAt (fun _ => True) w' g (mapT [(s_ids, mapT (paramsL rIds sets ++ [(s_values, listT (ids.map textT))]))]) ∧ Ext w w' := by
  have hx0 : Ext w (w.alloc (.cells (El.arr El0) 28)) := ext_alloc (ext_refl _) _
  have hb0 : Box (w.alloc (.cells (El.arr El0) 28)) w.heap.size (El.arr El0) 28 := Box.at rfl _ _
  have hPa := Lib.hid (params_any (S := fun b => b < w.heap.size) sIds tIds a n c sets _ table_ids 5 (by decide) (by decide) rIds (by decide) (by decide) ((h.keep (S' := fun b => b < w.heap.size) (fun b _ h2 => h2) (fun _ _ _ => rfl)).ext hx0))
  have hTx := Lib.hid fun w' (x : Ext w w') => texts_any ids la ln lc w' (by omega) (hl.ext x)
  have hrl : rIds.length = 2 := rfl
  clear hl h
  go_enter Try.func28, Try.ntmps28
  go_wp2_with (first
    | (go_at_call 19; refine hPa.out.mono ?_; rintro r w2 ⟨v, es, rfl, hO, hPk, hx1⟩; clear hPa
       have hel : es.length ≤ 2 := by rw [← hPk.1, ← hrl]; exact params_len _ _
       have hx2 := ext_trans hx0 hx1)
    | (go_at_call 25; refine (hTx.out _ hx2).mono ?_; rintro r w3 ⟨gt, rfl, hTt, hx3⟩; simp only [El.val]
       have hxn : Ext w3 (w3.alloc (.cells #[.string s_values, .int .i64 gt.k, .string gt.x, .float .f64 gt.d, .bool gt.y, .slice gt.ka gt.n gt.kc, .slice gt.ca gt.m gt.cc] 50)) := ext_alloc (ext_refl _) _
       have hbn : Box (w3.alloc (.cells #[.string s_values, .int .i64 gt.k, .string gt.x, .float .f64 gt.d, .bool gt.y, .slice gt.ka gt.n gt.kc, .slice gt.ca gt.m gt.cc] 50)) w3.heap.size #[.string s_values, .int .i64 gt.k, .string gt.x, .float .f64 gt.d, .bool gt.y, .slice gt.ka gt.n gt.kc, .slice gt.ca gt.m gt.cc] 50 := Box.at rfl _ _)
    | (at_builtin; refine list_append_pairs _ rfl _ _ rfl _ _ es rfl (hO.ext (ext_trans hx3 hxn)) w3.heap.size 0 1 [(s_values, gt)] (by simp) rfl ?c0 ?c1 ?c2 ?c3)
    | fail)
  case c0 =>
    intro i f hf
    cases i with
    | zero => simp at hf; subst hf; exact ⟨hbn.cell 0 _ rfl, hbn.cell 1 _ rfl, hbn.cell 2 _ rfl, hbn.cell 3 _ rfl, hbn.cell 4 _ rfl, hbn.cell 5 _ rfl, hbn.cell 6 _ rfl⟩
    | succ i => simp at hf
  case c1 => simp; omega
  case c2 => exact Nat.le_trans hx1.sz (ext_trans hx3 hxn).sz
  case c3 =>
    intro g1 cap1 w4 hown hgrow hlies hglt
    have hs0 := hx0.sz
    have hbk : ∀ q, v.ownBlock = some q → w.heap.size + 1 ≤ q ∧ q < w2.heap.size := fun q hq => by
      have h1 := hO.block hq
      simp at h1
      exact h1
    have hk : Keeps (fun q => q < w.heap.size ∨ w2.heap.size ≤ q) (w3.alloc (.cells #[.string s_values, .int .i64 gt.k, .string gt.x, .float .f64 gt.d, .bool gt.y, .slice gt.ka gt.n gt.kc, .slice gt.ca gt.m gt.cc] 50)) w4 := keeps_grown hgrow (fun q hq e => by have := hbk q e.symm; omega)
    have hPk3 : Pk (fun q => q < w.heap.size ∨ w.heap.size + 1 ≤ q) w4 (es ++ [(s_values, gt)]) (paramsL rIds sets ++ [(s_values, listT (ids.map textT))]) :=
      Pk.append ((hPk.ext (ext_trans hx3 hxn)).keep (fun q hq _ => .inl hq.1) (fun q hq hlt => hk q (.inl hq.1) hlt)) ((Pk.one (hTt.ext hxn)).keep (fun q hq _ => .inr (by have := hx1.sz; simp at this; omega)) (fun q hq hlt => hk q (.inr hq) hlt))
    obtain ⟨pa, pc, hpe, hPA⟩ := hown.pairs (S := fun q => q < w.heap.size ∨ w.heap.size + 1 ≤ q) hPk3.1 (fun q hq => .inr (by have := (World.ownsRow.lt hown q hq).1; omega)) hPk3.2
    have hx5 : Ext w w4 := ext_grown (ext_trans hx2 (ext_trans hx3 hxn)) hgrow (fun k hk => by have := hbk k hk; omega)
    have hb3 : Box w4 w.heap.size (El.arr El0) 28 := (((hb0.ext hx1).ext hx3).ext hxn).grown hgrow (fun e => by have := hbk _ e.symm; omega)
    have hpl : (paramsL rIds sets ++ [(s_values, listT (ids.map textT))]).length = es.length + 1 := by rw [hPk3.1]; simp
    rw [hpl] at hpe hPA
    simp only [Value.slice.injEq] at hpe
    obtain ⟨rfl, -, rfl⟩ := hpe
    have hB := beside_any s_ids _ _ _ _ w4 hPA (by omega)
    have hs3 : w.heap.size + 1 ≤ w4.heap.size := hb3.lt
    clear hown hgrow hlies hglt hbk hk hPk3 hPA hO hPk hpl
    go_wp2_with (first
      | (go_at_call 72; refine hB.mono ?_; rintro r w5 ⟨g2, rfl, hT2, hx6⟩; simp only [El.val]; clear hB
         have hb4 := hb3.ext hx6; obtain ⟨o0, o1, o2, o3, o4, o5⟩ := hb4.six; have f0 := hb4.free 0; have f1 := hb4.free 1; have f2 := hb4.free 2; have f3 := hb4.free 3; have f4 := hb4.free 4; have f5 := hb4.free 5)
      | fail)
    refine post_tree rfl rfl (hb4.sto g2) rfl ⟨g2, rfl, ?_, ext_sto6 (ext_trans hx5 hx6) (Nat.le_refl _) _ _ _ _ _ _⟩
    refine TreeAt.keep (S := fun q => q < w.heap.size ∨ w.heap.size + 1 ≤ q) (fun _ _ _ => trivial) (keeps_sto w5 (by omega) g2) _ (hT2.to fun q h1 _ => ?_)
    rcases h1 with h | h
    · exact h.1
    · exact .inr (by omega)
end Go.Proofs.Ytdpgmmkecghihaa
