/-
  A query of a kind with its settings alone.
-/
import Derived.Test.YtpkkdmopcfcnkaaP4
import Derived.Laws.AppendOwnNone
namespace Go.Proofs.Ytpkkdmopcfcnkaa
open Go.RowKit

set_option maxHeartbeats 1000000 in
theorem beside_only {S : Nat → Prop} (kind bd tb : ByteArray) (a : Option Addr) (n c : Nat) (sets : List (ByteArray × T)) (w : World) (hT : ∀ w, Calls Try.prog 135 #[.string bd] w fun r w' => r = .returned (.string tb) ∧ w' = w) (f : Nat) (hok : okL f tb.data.toList = true) (hsz : tb.size < 65536)
    (rs : List (ByteArray × ByteArray)) (hrs : ((rowsL f tb.data.toList).map fun r => (mkB r.1, mkB r.2)) = rs) (hrl : rs.length ≤ 65536) (h : PairsAt S w a n c sets) :
    Calls Try.prog 20 #[.string kind, .string bd, .slice a n c, .slice none 0 0] w fun r w' => ∃ g : El, r = .returned g.val ∧ TreeAt (fun b => (S b ∧ b < w.heap.size) ∨ w.heap.size ≤ b) w' g (mapT [(kind, mapT (paramsL rs sets))]) ∧ Ext w w' := by
  have hx0 : Ext w (w.alloc (.cells (El.arr El0) 26)) := ext_alloc (ext_refl _) _
  have hb0 : Box (w.alloc (.cells (El.arr El0) 26)) w.heap.size (El.arr El0) 26 := Box.at rfl _ _
  have hPa := Lib.hid (params_any (S := fun b => S b ∧ b < w.heap.size) bd tb a n c sets _ hT f hok hsz rs hrs hrl ((h.keep (S' := fun b => S b ∧ b < w.heap.size) (fun b h1 h2 => ⟨h1, h2⟩) (fun _ _ _ => rfl)).ext hx0))
  have hrl2 := Lib.hid (Nat.le_trans (params_len rs sets) hrl)
  clear h hT hok hsz hrs hrl
  go_enter Try.func20, Try.ntmps20
  go_wp2_with (first
    | (go_at_call 56; refine hPa.out.mono ?_; rintro r w2 ⟨v, es, rfl, hO, hPk, hx1⟩; clear hPa
       obtain ⟨pa, pc, rfl, hPA⟩ := hO.pairs (S := fun q => (S q ∧ q < w.heap.size) ∨ w.heap.size + 1 ≤ q) hPk.1 (fun q hq => .inr (by have := (hO.block hq).1; simp at this; exact this)) (hPk.keep (fun q hq _ => .inl hq.1) (fun _ _ _ => rfl)).2
       obtain ⟨ii, hii, -, -, -⟩ := info_parts info_pair
       have hOO := Lib.hid hO
       have hB := Lib.hid (beside_any kind _ _ _ _ w2 hPA (by have := hrl2.out; omega))
       have hb3 := hb0.ext hx1
       have hx3 := ext_trans hx0 hx1
       have hs3 : w.heap.size + 1 ≤ w2.heap.size := hb3.lt
       clear hPA hO hPk hx1)
    | (at_builtin; refine wpList_append_own_none rfl _ _ _ rfl _ 36 ii 7 Try.underlying84 hii _ _ _ rfl hOO.out rfl ?_)
    | (go_at_call 55; refine hB.out.mono ?_; rintro r w4 ⟨g2, rfl, hT2, hx2⟩; simp only [El.val]
       have hb4 := hb3.ext hx2; obtain ⟨o0, o1, o2, o3, o4, o5⟩ := hb4.six; have f0 := hb4.free 0; have f1 := hb4.free 1; have f2 := hb4.free 2; have f3 := hb4.free 3; have f4 := hb4.free 4; have f5 := hb4.free 5)
    | fail)
  refine post_tree rfl rfl (hb4.sto g2) rfl ⟨g2, rfl, ?_, ext_sto6 (ext_trans hx3 hx2) (Nat.le_refl _) _ _ _ _ _ _⟩
  refine TreeAt.keep (S := fun q => (S q ∧ q < w.heap.size) ∨ w.heap.size + 1 ≤ q) (fun q hq _ => ?_) (keeps_sto w4 (by omega) g2) _ (hT2.to fun q h1 _ => ?_)
  · rcases hq with h | h
    · exact .inl h
    · exact .inr (by omega)
  · rcases h1 with h | h
    · exact h.1
    · exact .inr (by omega)
end Go.Proofs.Ytpkkdmopcfcnkaa
