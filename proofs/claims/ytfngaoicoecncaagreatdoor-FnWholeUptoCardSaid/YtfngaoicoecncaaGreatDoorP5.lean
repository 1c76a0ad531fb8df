/-
  A query of a kind with its settings alone.
-/
import Derived.Test.YtfngaoicoecncaaGreatDoorP3
import Derived.Laws.AppendOwnNone
namespace Go.Proofs.YtfngaoicoecncaaGreatDoor
open Go.RowKit

theorem pairs_one {S : Nat → Prop} {w : World} {b : Nat} {k : ByteArray} {e : El} {t : T} (hb : Box w b #[.string k, .int .i64 e.k, .string e.x, .float .f64 e.d, .bool e.y, .slice e.ka e.n e.kc, .slice e.ca e.m e.cc] 72) (hS : S b) (ht : TreeAt S w e t) : PairsAt S w (some ⟨b, 0, none⟩) 1 1 [(k, t)] :=
  ⟨rfl, Nat.le_refl _, by simp [maxLen], fun i p hi => by
    cases i with
    | zero => simp at hi; subst hi; exact ⟨b, 0, e, rfl, hS, ⟨hb.cell 0 _ rfl, hb.cell 1 _ rfl, hb.cell 2 _ rfl, hb.cell 3 _ rfl, hb.cell 4 _ rfl, hb.cell 5 _ rfl, hb.cell 6 _ rfl⟩, ht⟩
    | succ i => simp at hi⟩

set_option maxHeartbeats 1000000 in
theorem beside_any {S : Nat → Prop} (kind : ByteArray) (a : Option Addr) (n c : Nat) (ps : List (ByteArray × T)) (w : World) (h : PairsAt S w a n c ps) (hb : (n + 3) * 88 ≤ 140737488355328) :
    Calls Tryz.prog 46 #[.string kind, .slice a n c] w fun r w' => ∃ g : El, r = .returned g.val ∧ TreeAt (fun b => (S b ∧ b < w.heap.size) ∨ w.heap.size ≤ b) w' g (mapT [(kind, mapT ps)]) ∧ Ext w w' := by
  have HP := Lib.hid (h.keep (S' := fun b => S b ∧ b < w.heap.size) (fun b h1 h2 => ⟨h1, h2⟩) (fun _ _ _ => rfl))
  clear h
  go_enter Tryz.func46, Tryz.ntmps46
  go_upto_region 1 with fail
  have hx0 : Ext w (w.alloc (.cells (El.arr El0) 26)) := ext_alloc (ext_refl _) _
  have hb0 : Box (w.alloc (.cells (El.arr El0) 26)) w.heap.size (El.arr El0) 26 := Box.at rfl _ _
  have hM1 := Lib.hid (map_any (S := fun b => S b ∧ b < w.heap.size) a n c ps _ (HP.out.ext hx0) hb)
  have hM2 := Lib.hid (fun (w2 : World) (v : Nat) (g : El) (t : T) (hb : Box w2 v #[.string kind, .int .i64 g.k, .string g.x, .float .f64 g.d, .bool g.y, .slice g.ka g.n g.kc, .slice g.ca g.m g.cc] 72) (hv : w.heap.size + 1 ≤ v) (ht : TreeAt (fun b => (S b ∧ b < w.heap.size) ∨ w.heap.size + 1 ≤ b) w2 g t) =>
    map_any (S := fun b => (S b ∧ b < w.heap.size) ∨ w.heap.size + 1 ≤ b) (some ⟨v, 0, none⟩) 1 1 [(kind, t)] w2 (pairs_one hb (.inr hv) ht) (by decide))
  go_wp2_with (first
    | (go_at_call 42; refine hM1.out.mono ?_; rintro r w2 ⟨g1, rfl, hT1, hx1⟩; simp only [El.val]; clear hM1
       have hT1' : TreeAt (fun b => (S b ∧ b < w.heap.size) ∨ w.heap.size + 1 ≤ b) w2 g1 (mapT ps) := hT1.to fun b h1 _ => by
         rcases h1 with h1 | h1
         · exact .inl h1.1
         · simp at h1
           exact .inr h1
       have hM3 := hM2.out (w2.alloc (.cells #[.string kind, .int .i64 g1.k, .string g1.x, .float .f64 g1.d, .bool g1.y, .slice g1.ka g1.n g1.kc, .slice g1.ca g1.m g1.cc] 72)) w2.heap.size g1 (mapT ps) (Box.at rfl _ _) (by have := hx1.sz; simp at this; omega) (hT1'.ext (ext_alloc (ext_refl _) _)))
    | (go_at_call 42; refine hM3.mono ?_; rintro r w3 ⟨g2, rfl, hT2, hx2⟩; simp only [El.val]
       have hb3 := (hb0.ext hx1).ext (ext_trans (ext_alloc (ext_refl _) _) hx2); obtain ⟨o0, o1, o2, o3, o4, o5⟩ := hb3.six; have f0 := hb3.free 0; have f1 := hb3.free 1; have f2 := hb3.free 2; have f3 := hb3.free 3; have f4 := hb3.free 4; have f5 := hb3.free 5))
  have hx3 : Ext w w3 := ext_trans (ext_trans hx0 (ext_trans hx1 (ext_alloc (ext_refl _) _))) hx2
  refine post_tree rfl rfl (hb3.sto g2) rfl ⟨g2, rfl, ?_, ext_sto6 hx3 (Nat.le_refl _) _ _ _ _ _ _⟩
  have hs1 := hx1.sz
  refine TreeAt.keep (S := fun b => (S b ∧ b < w.heap.size) ∨ w.heap.size + 1 ≤ b) (fun b hb _ => ?_) (keeps_sto w3 (by omega) g2) _ (hT2.to fun b h1 _ => ?_)
  · rcases hb with h | h
    · exact .inl h
    · exact .inr (by omega)
  · rcases h1 with h | h
    · exact h.1
    · simp at h hs1
      exact .inr (by omega)

theorem list_append_pairs {ops : Array Oper} {rest : List Oper} {o : Oper} {a : Act} {Q : Exit → Act → World → Prop} (w : World) (hgd : o.guard = none) (s x : Operand) (ho : o.op = .call { callee := .builtin .append, args := #[s, x], argTypes := #[76, 76] })
    (base : Nat) (v : Value) (es : List (ByteArray × El)) (hs : a.eval s = v) (hown : OwnPairs w base v es) (b off cap : Nat) (fs : List (ByteArray × El)) (hf : 0 < fs.length) (hx : a.eval x = .slice (some ⟨b, off, none⟩) fs.length cap)
    (hc : ∀ i f, fs[i]? = some f → Cells7 w b (off + i * 7) f.1 f.2)
    (hb : (es.length + fs.length) * 104 ≤ 140737488355328) (hbase : base ≤ w.heap.size)
    (h : ∀ g cap w', OwnPairs w' base (.slice (some ⟨g, 0, none⟩) (es.length + fs.length) cap) (es ++ fs) → w.grownBy w' v.ownBlock → Lies w v g → g < w'.heap.size → wpList Tryz.prog ops Q rest (a.put o.dst (.slice (some ⟨g, 0, none⟩) (es.length + fs.length) cap)) w') : wpList Tryz.prog ops Q (o :: rest) a w :=
  wpList_plain hgd fun _ hK => wp_append_pairs w s x ho base v es hs hown b off cap fs hf hx hc hb hbase fun g cap w' h1 h2 h3 h4 => hK _ _ (h g cap w' h1 h2 h3 h4)
theorem els_of {S : Nat → Prop} {w : World} {b off : Nat} : ∀ (qs : List (ByteArray × T)) (k : Nat), (∀ (i : Nat) (p : ByteArray × T), qs[i]? = some p → ∃ e, Cells7 w b (off + (k + i) * 7) p.1 e ∧ TreeAt S w e p.2) →
    ∃ fs : List (ByteArray × El), Pk S w fs qs ∧ ∀ (i : Nat) (f : ByteArray × El), fs[i]? = some f → Cells7 w b (off + (k + i) * 7) f.1 f.2
  | [], _, _ => ⟨[], ⟨rfl, fun _ _ _ h => by simp at h⟩, fun _ _ h => by simp at h⟩
  | p :: r, k, h => by
    obtain ⟨e, h1, h2⟩ := h 0 p rfl
    obtain ⟨fs, h3, h4⟩ := els_of r (k + 1) fun i q hq => by
      have := h (i + 1) q (by simpa using hq)
      rwa [show k + (i + 1) = k + 1 + i by omega] at this
    refine ⟨(p.1, e) :: fs, ⟨by simp [h3.1], fun i f q hf hq => ?_⟩, fun i f hf => ?_⟩
    · cases i with
      | zero => simp at hf hq; subst hf; subst hq; exact ⟨rfl, h2⟩
      | succ i => exact h3.2 i f q (by simpa using hf) (by simpa using hq)
    · cases i with
      | zero => simp at hf; subst hf; exact h1
      | succ i =>
        have := h4 i f (by simpa using hf)
        rwa [show k + 1 + i = k + (i + 1) by omega] at this
theorem PairsAt.els {S : Nat → Prop} {w : World} {b off n c : Nat} {qs : List (ByteArray × T)} (h : PairsAt S w (some ⟨b, off, none⟩) n c qs) : ∃ fs : List (ByteArray × El), Pk S w fs qs ∧ ∀ (i : Nat) (f : ByteArray × El), fs[i]? = some f → Cells7 w b (off + i * 7) f.1 f.2 := by
  obtain ⟨fs, h1, h2⟩ := els_of (S := S) (w := w) (b := b) (off := off) qs 0 fun i p hp => by
    obtain ⟨b', off', e, ha, hS, hc, ht⟩ := h.2.2.2 i p hp
    cases ha
    exact ⟨e, by simpa using hc, ht⟩
  exact ⟨fs, h1, fun i f hf => by simpa using h2 i f hf⟩

end Go.Proofs.YtfngaoicoecncaaGreatDoor

namespace Go.Proofs.YtfngaoicoecncaaGreatDoor
open Go.RowKit

end Go.Proofs.YtfngaoicoecncaaGreatDoor

