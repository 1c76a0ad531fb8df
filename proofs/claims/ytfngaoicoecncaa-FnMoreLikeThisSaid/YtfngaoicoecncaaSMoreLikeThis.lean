/-
  A more_like_this query has its fields, the texts and documents that it likes, the texts that it does not, its stop words, and its settings: the statement FnMoreLikeThis, for every input.
-/
import Derived.Test.YtfngaoicoecncaaMl
import Derived.Test.YtfngaoicoecncaaTr
import Derived.Test.YtfngaoicoecncaaF3
import Derived.Test.YtfngaoicoecncaaFl
import Derived.Test.YtfngaoicoecncaaOpen
import Derived.Test.YtfngaoicoecncaaTx
import Derived.Test.YtfngaoicoecncaaGdS
import Derived.Test.YtfngaoicoecncaaP5
import Derived.Test.YtfngaoicoecncaaQx
import Derived.Test.YtfngaoicoecncaaLx
import Derived.Test.YtfngaoicoecncaaMoreLikeThis
import Derived.Deep.CutBlock
import Derived.Test.YtfngaoicoecncaaRows
namespace Go.Proofs.Ytfngaoicoecncaa
open Go.RowKit Go.Maps

section
variable {P : Program} {ops : Array Oper} {Q : Exit → Act → World → Prop}
def rdy4 (b0 b1 b2 b3 : Bool) : List Nat := (bif b0 then [] else [0]) ++ (bif b1 then [] else [1]) ++ (bif b2 then [] else [2]) ++ (bif b3 then [] else [3])
def cnt4 (b0 b1 b2 b3 : Bool) : Nat := (!b0).toNat + (!b1).toNat + (!b2).toNat + (!b3).toNat
/-- Four operations that may come up in any order, each of which keeps what is told of those that came up. -/
theorem wpAny_four (J : Bool → Bool → Bool → Bool → Act → World → Prop)
    (r : ∀ b0 b1 b2 b3, (b0 && b1 && b2 && b3) = false → Region.ready .any ops #[b0, b1, b2, b3, false, false, false] = rdy4 b0 b1 b2 b3)
    (s0 : ∀ b1 b2 b3 a w, J false b1 b2 b3 a w → wpOp P ops Q 0 (fun a' w' => J true b1 b2 b3 a' w') a w)
    (s1 : ∀ b0 b2 b3 a w, J b0 false b2 b3 a w → wpOp P ops Q 1 (fun a' w' => J b0 true b2 b3 a' w') a w)
    (s2 : ∀ b0 b1 b3 a w, J b0 b1 false b3 a w → wpOp P ops Q 2 (fun a' w' => J b0 b1 true b3 a' w') a w)
    (s3 : ∀ b0 b1 b2 a w, J b0 b1 b2 false a w → wpOp P ops Q 3 (fun a' w' => J b0 b1 b2 true a' w') a w)
    (fin : ∀ a w, J true true true true a w → wpAny P .any ops Q 3 #[true, true, true, true, false, false, false] a w) :
    ∀ (n : Nat) (b0 b1 b2 b3 : Bool), n = cnt4 b0 b1 b2 b3 → ∀ a w, J b0 b1 b2 b3 a w → wpAny P .any ops Q (n + 3) #[b0, b1, b2, b3, false, false, false] a w := by
  intro n
  induction n with
  | zero =>
    intro b0 b1 b2 b3 hn a w h
    cases b0 <;> cases b1 <;> cases b2 <;> cases b3 <;> first
      | exact fin a w h
      | exact absurd hn (by decide)
  | succ n ih =>
    intro b0 b1 b2 b3 hn a w h
    have hb : (b0 && b1 && b2 && b3) = false := by
      cases b0 <;> cases b1 <;> cases b2 <;> cases b3 <;> first
        | rfl
        | (simp [cnt4] at hn)
    have hr := r b0 b1 b2 b3 hb
    refine ⟨fun h0 => ?_, fun i hi => ?_⟩
    · rw [hr] at h0
      cases b0 <;> cases b1 <;> cases b2 <;> cases b3 <;> simp [rdy4] at h0 hb
    · rw [hr] at hi
      have h4 : (i = 0 ∧ b0 = false) ∨ (i = 1 ∧ b1 = false) ∨ (i = 2 ∧ b2 = false) ∨ (i = 3 ∧ b3 = false) := by
        cases b0 <;> cases b1 <;> cases b2 <;> cases b3 <;> simp [rdy4] at hi ⊢ <;> omega
      rcases h4 with ⟨rfl, rfl⟩ | ⟨rfl, rfl⟩ | ⟨rfl, rfl⟩ | ⟨rfl, rfl⟩
      · exact wpOp_mono (fun a' w' h' => ih true b1 b2 b3 (by simp [cnt4] at hn ⊢; omega) a' w' h') (s0 b1 b2 b3 a w h)
      · exact wpOp_mono (fun a' w' h' => ih b0 true b2 b3 (by simp [cnt4] at hn ⊢; omega) a' w' h') (s1 b0 b2 b3 a w h)
      · exact wpOp_mono (fun a' w' h' => ih b0 b1 true b3 (by simp [cnt4] at hn ⊢; omega) a' w' h') (s2 b0 b1 b3 a w h)
      · exact wpOp_mono (fun a' w' h' => ih b0 b1 b2 true (by simp [cnt4] at hn ⊢; omega) a' w' h') (s3 b0 b1 b2 a w h)
end
def mkV (b : Bool) (g : Nat) : Value := bif b then .slice (some ⟨g, 0, none⟩) 0 0 else undef
def MJ (w0 w : World) (b0 b1 b2 b3 : Bool) (g0 g1 g2 g3 : Nat) : Prop :=
  Ext w0 w ∧ (b0 = true → Box w g0 #[] 9 ∧ w0.heap.size ≤ g0) ∧ (b1 = true → Box w g1 #[] 9 ∧ w0.heap.size ≤ g1) ∧ (b2 = true → Box w g2 #[] 82 ∧ w0.heap.size ≤ g2) ∧ (b3 = true → Box w g3 #[] 82 ∧ w0.heap.size ≤ g3) ∧
    (b0 = true → b1 = true → g0 ≠ g1) ∧ (b0 = true → b2 = true → g0 ≠ g2) ∧ (b0 = true → b3 = true → g0 ≠ g3) ∧ (b1 = true → b2 = true → g1 ≠ g2) ∧ (b1 = true → b3 = true → g1 ≠ g3) ∧ (b2 = true → b3 = true → g2 ≠ g3)
theorem MJ.s0 {w0 w : World} {b1 b2 b3 : Bool} {g0 g1 g2 g3 : Nat} (h : MJ w0 w false b1 b2 b3 g0 g1 g2 g3) : MJ w0 (w.alloc (.cells #[] 9)) true b1 b2 b3 w.heap.size g1 g2 g3 := by
  obtain ⟨x, -, h1, h2, h3, -, -, -, d12, d13, d23⟩ := h
  exact ⟨ext_alloc x _, fun _ => ⟨Box.at rfl _ _, x.sz⟩, fun e => ⟨(h1 e).1.alloc _, (h1 e).2⟩, fun e => ⟨(h2 e).1.alloc _, (h2 e).2⟩, fun e => ⟨(h3 e).1.alloc _, (h3 e).2⟩,
    fun _ e => by have := (h1 e).1.lt; omega, fun _ e => by have := (h2 e).1.lt; omega, fun _ e => by have := (h3 e).1.lt; omega, d12, d13, d23⟩
theorem MJ.s1 {w0 w : World} {b0 b2 b3 : Bool} {g0 g1 g2 g3 : Nat} (h : MJ w0 w b0 false b2 b3 g0 g1 g2 g3) : MJ w0 (w.alloc (.cells #[] 9)) b0 true b2 b3 g0 w.heap.size g2 g3 := by
  obtain ⟨x, h0, -, h2, h3, -, d02, d03, -, -, d23⟩ := h
  exact ⟨ext_alloc x _, fun e => ⟨(h0 e).1.alloc _, (h0 e).2⟩, fun _ => ⟨Box.at rfl _ _, x.sz⟩, fun e => ⟨(h2 e).1.alloc _, (h2 e).2⟩, fun e => ⟨(h3 e).1.alloc _, (h3 e).2⟩,
    fun e _ => by have := (h0 e).1.lt; omega, d02, d03, fun _ e => by have := (h2 e).1.lt; omega, fun _ e => by have := (h3 e).1.lt; omega, d23⟩
theorem MJ.s2 {w0 w : World} {b0 b1 b3 : Bool} {g0 g1 g2 g3 : Nat} (h : MJ w0 w b0 b1 false b3 g0 g1 g2 g3) : MJ w0 (w.alloc (.cells #[] 82)) b0 b1 true b3 g0 g1 w.heap.size g3 := by
  obtain ⟨x, h0, h1, -, h3, d01, -, d03, -, d13, -⟩ := h
  exact ⟨ext_alloc x _, fun e => ⟨(h0 e).1.alloc _, (h0 e).2⟩, fun e => ⟨(h1 e).1.alloc _, (h1 e).2⟩, fun _ => ⟨Box.at rfl _ _, x.sz⟩, fun e => ⟨(h3 e).1.alloc _, (h3 e).2⟩,
    d01, fun e _ => by have := (h0 e).1.lt; omega, d03, fun e _ => by have := (h1 e).1.lt; omega, d13, fun _ e => by have := (h3 e).1.lt; omega⟩
theorem MJ.s3 {w0 w : World} {b0 b1 b2 : Bool} {g0 g1 g2 g3 : Nat} (h : MJ w0 w b0 b1 b2 false g0 g1 g2 g3) : MJ w0 (w.alloc (.cells #[] 82)) b0 b1 b2 true g0 g1 g2 w.heap.size := by
  obtain ⟨x, h0, h1, h2, -, d01, d02, -, d12, -, -⟩ := h
  exact ⟨ext_alloc x _, fun e => ⟨(h0 e).1.alloc _, (h0 e).2⟩, fun e => ⟨(h1 e).1.alloc _, (h1 e).2⟩, fun e => ⟨(h2 e).1.alloc _, (h2 e).2⟩, fun _ => ⟨Box.at rfl _ _, x.sz⟩,
    d01, d02, fun e _ => by have := (h0 e).1.lt; omega, d12, fun e _ => by have := (h1 e).1.lt; omega, fun e _ => by have := (h2 e).1.lt; omega⟩
@[go_sem] theorem mk0i (w : World) : (Instr.makeSlice 107 (.int .i64 0) (.int .i64 0)).run Try.prog w = .ok (.slice (some ⟨w.heap.size, 0, none⟩) 0 0) (w.alloc (.cells #[] 82)) := by kernel_rfl
set_option maxRecDepth 20000 in
set_option maxHeartbeats 4000000 in
theorem newMlt_any (w : World) : Calls Try.prog 54 #[] w fun r w' => ∃ g0 g1 g2 g3 b, r = .returned (.pointer (some ⟨b, 0, none⟩)) ∧ MJ w w' true true true true g0 g1 g2 g3 ∧ w.heap.size ≤ b ∧ g0 < b ∧ g1 < b ∧ g2 < b ∧ g3 < b ∧
    Box w' b #[.slice (some ⟨g0, 0, none⟩) 0 0, .slice (some ⟨g2, 0, none⟩) 0 0, .slice (some ⟨g3, 0, none⟩) 0 0, .pointer none, .string ⟨#[]⟩, .pointer none, .pointer none, .slice (some ⟨g1, 0, none⟩) 0 0, .pointer none, .pointer none, .pointer none, .pointer none, .pointer none, .pointer none, .string ⟨#[]⟩, .pointer none, .string ⟨#[]⟩] 111 := by
  go_enter Try.func54, Try.ntmps54
  go_upto_region 1 with fail
  refine wp_region_any (by kernel_rfl) ?_
  refine wpAny_four (fun b0 b1 b2 b3 a' w' => ∃ g0 g1 g2 g3, MJ w w' b0 b1 b2 b3 g0 g1 g2 g3 ∧ a' = ⟨#[.pointer none, mkV b0 g0, mkV b1 g1, mkV b2 g2, mkV b3 g3, undef, undef], []⟩)
    (by intro b0 b1 b2 b3 h; cases b0 <;> cases b1 <;> cases b2 <;> cases b3 <;> first | (exact absurd h (by decide)) | kernel_rfl) ?_ ?_ ?_ ?_ ?_ 4 false false false false rfl _ _ ⟨0, 0, 0, 0, ⟨ext_drew (ext_refl _), by simp, by simp, by simp, by simp, by simp, by simp, by simp, by simp, by simp, by simp⟩, rfl⟩
  · rintro b1 b2 b3 a' w' ⟨g0, g1, g2, g3, hM, rfl⟩
    refine op_loud rfl rfl ?_
    go_simp
    exact ⟨w'.heap.size, g1, g2, g3, hM.s0, rfl, rfl, rfl, rfl⟩
  · rintro b0 b2 b3 a' w' ⟨g0, g1, g2, g3, hM, rfl⟩
    refine op_loud rfl rfl ?_
    go_simp
    exact ⟨g0, w'.heap.size, g2, g3, hM.s1, rfl, rfl, rfl, rfl⟩
  · rintro b0 b1 b3 a' w' ⟨g0, g1, g2, g3, hM, rfl⟩
    refine op_loud rfl rfl ?_
    go_simp
    exact ⟨g0, g1, w'.heap.size, g3, hM.s2, rfl, rfl, rfl, rfl⟩
  · rintro b0 b1 b2 a' w' ⟨g0, g1, g2, g3, hM, rfl⟩
    refine op_loud rfl rfl ?_
    go_simp
    exact ⟨g0, g1, g2, w'.heap.size, hM.s3, rfl, rfl, rfl, rfl⟩
  · rintro a' w' ⟨g0, g1, g2, g3, hM, rfl⟩
    refine wpAny_of_N _ _ _ _ (wpAnyN_of_order (S := fun _ => True) (held := [4, 6]) (by kernel_rfl) (fun d _ _ _ _ h => by cases d <;> exact h) [4, 5, 6] _ _ _ (by kernel_rfl) ?_)
    have hS : (fun _ : World => True) w' := trivial
    simp only [mkV, cond_true]
    (apply ord_held rfl rfl (by assumption) rfl; (focus ((intro w' hS'); go_simp; (try with_reducible rfl))); (try simp only [Act.put, List.setIfInBounds_toArray, List.set_cons_zero, List.set_cons_succ]))
    (apply ord_loud rfl rfl rfl; intro K hK; go_simp)
    refine hK _ _ (fun _ => trivial) ?_
    clear hK K
    (try simp only [Act.put, List.setIfInBounds_toArray, List.set_cons_zero, List.set_cons_succ])
    (apply ord_held rfl rfl (by assumption) rfl; (focus ((intro w' hS'); go_simp; (try with_reducible rfl))); (try simp only [Act.put, List.setIfInBounds_toArray, List.set_cons_zero, List.set_cons_succ]))
    refine ord_end ?_
    go_wp2_with fail
    go_ret
    have hM2 := hM
    obtain ⟨x, h0, h1, h2, h3, d01, d02, d03, d12, d13, d23⟩ := hM2
    have l0 := (h0 rfl).1.lt
    have l1 := (h1 rfl).1.lt
    have l2 := (h2 rfl).1.lt
    have l3 := (h3 rfl).1.lt
    refine ⟨g0, g1, g2, g3, w'.heap.size, rfl, ⟨ext_alloc x _, fun e => ⟨(h0 e).1.alloc _, (h0 e).2⟩, fun e => ⟨(h1 e).1.alloc _, (h1 e).2⟩, fun e => ⟨(h2 e).1.alloc _, (h2 e).2⟩, fun e => ⟨(h3 e).1.alloc _, (h3 e).2⟩, d01, d02, d03, d12, d13, d23⟩, x.sz, l0, l1, l2, l3, Box.at rfl _ _⟩
end Go.Proofs.Ytfngaoicoecncaa

namespace Go.Proofs.Ytfngaoicoecncaa
open Go.RowKit Go.Maps

abbrev mltA (v0 v1 v2 v7 : Value) : Array Value := #[v0, v1, v2, .pointer none, .string ⟨#[]⟩, .pointer none, .pointer none, v7, .pointer none, .pointer none, .pointer none, .pointer none, .pointer none, .pointer none, .string ⟨#[]⟩, .pointer none, .string ⟨#[]⟩]
/-- A step that writes into a query and into the block of one of its lists, and else makes new blocks. -/
def Step (g b : Nat) (w w' : World) : Prop := Keeps (fun q => q ≠ b ∧ q ≠ g) w w' ∧ w.heap.size ≤ w'.heap.size ∧ ∀ w0, Ext w0 w → w0.heap.size ≤ g → w0.heap.size ≤ b → Ext w0 w'
theorem box_own {w : World} {g : Nat} {t : TypeId} (hg : Box w g #[] t) : w.ownsRow 0 t 1 (.slice (some ⟨g, 0, none⟩) 0 0) 0 [] := ⟨rfl, .inr ⟨g, 0, #[], rfl, Nat.zero_le _, hg, Nat.le_refl _, by simp [maxLen], rfl, rfl⟩⟩
set_option maxRecDepth 20000 in
set_option maxHeartbeats 1000000 in
theorem mltField_any {S : Nat → Prop} (w : World) (b g : Nat) (v1 v2 v7 : Value) (hb : Box w b (mltA (.slice (some ⟨g, 0, none⟩) 0 0) v1 v2 v7) 111) (hg : Box w g #[] 9) (hne : g ≠ b) (a : Option Addr) (n c : Nat) (fs : List ByteArray) (hf : StrsAt S w a n c fs) (hn : n ≤ 2147483647) :
    Calls Try.prog 55 #[.pointer (some ⟨b, 0, none⟩), .slice a n c] w fun r w' => r = .returned (.pointer (some ⟨b, 0, none⟩)) ∧ ∃ ga gc, Box w' b (mltA (.slice ga n gc) v1 v2 v7) 111 ∧ TextsO (fun q => q = g ∨ w.heap.size ≤ q) w' ga n gc fs ∧ Step g b w w' := by
  have c0 := hb.cell 0 _ rfl
  have f0 := hb.free 0
  have hl := hb.lt
  obtain ⟨ii, hii, -, -, -⟩ := info_parts info_string
  have HO := Lib.hid (box_own hg)
  have hlen := hf.1
  go_enter Try.func55, Try.ntmps55
  by_cases h0 : n = 0
  · subst h0
    have hfs : fs = [] := List.length_eq_zero_iff.1 hlen
    clear hf
    go_wp2_with (first
      | (at_builtin; refine list_append_nothing _ rfl _ _ 27 rfl 0 9 ii 1 Try.underlying27 hii _ 0 [] rfl HO.out a c rfl ?_)
      | fail)
    go_ret
    refine ⟨rfl, some ⟨g, 0, none⟩, 0, hb.set 0 _, ⟨hlen, fun h => absurd h (by omega)⟩, fun q hq _ => Below.heap_setCell _ _ _ _ hq.1, by simp, fun w0 hx _ h2 => ext_set hx h2 _⟩
  · obtain ⟨ub, uo, rfl, -, hc⟩ := hf.addr (by omega)
    have HC := Lib.hid hc
    clear hc hf
    subst hlen
    go_wp2_with (first
      | (at_builtin; refine list_append_strs _ rfl _ _ rfl 0 _ [] rfl HO.out ub uo c fs (by omega) rfl (fun i f hf => HC.out i f hf) (by simp; omega) (by simp) ?_; intro ug ucap w1 hown hgrow hlies hglt
         simp only [List.length_nil, Nat.zero_add, List.nil_append] at hown ⊢
         have hb1 := hb.grown hgrow (show some b ≠ some g from someNe (fun e => hne e.symm))
         have c1 := hb1.cell 0 _ rfl
         have f1 := hb1.free 0
         have hl1 := hb1.lt)
      | fail)
    go_ret
    have hug : ug = g ∨ w.heap.size ≤ ug := by
      rcases hlies with h | h
      · left; exact (Option.some.inj h).symm
      · right; omega
    have hgl := hg.lt
    have hub : ug ≠ b := by rcases hug with h | h <;> omega
    obtain ⟨sa, sc, he, hst⟩ := hown.strs (S := fun q => q = g ∨ w.heap.size ≤ q) (fun q hq => by cases hq; exact hug)
    have hk2 : Keeps (fun q => q = g ∨ w.heap.size ≤ q) w1 (w1.setCell ⟨b, 0, none⟩ (.slice (some ⟨ug, 0, none⟩) fs.length ucap)) := fun q hq _ => Below.heap_setCell _ _ _ _ (by simp; omega)
    refine ⟨rfl, some ⟨ug, 0, none⟩, ucap, hb1.set 0 _, ⟨rfl, fun _ => ?_⟩, ?_, ?_, ?_⟩
    · cases he
      exact hst.keep (fun _ h _ => h) hk2
    · exact fun q hq hlt => (Below.heap_setCell _ _ _ _ hq.1).trans (keeps_grown (S := fun q => q ≠ b ∧ q ≠ g) hgrow (fun q hq e => hq.2 (Option.some.inj e)) q hq hlt)
    · have := hgrow.size
      simp
      omega
    · exact fun w0 hx h1 h2 => ext_set (ext_grown hx hgrow (fun k hk => by have hk2 : g = k := Option.some.inj hk; omega)) h2 _
set_option maxRecDepth 20000 in
set_option maxHeartbeats 1000000 in
theorem mltStop_any {S : Nat → Prop} (w : World) (b g : Nat) (v0 v1 v2 : Value) (hb : Box w b (mltA v0 v1 v2 (.slice (some ⟨g, 0, none⟩) 0 0)) 111) (hg : Box w g #[] 9) (hne : g ≠ b) (a : Option Addr) (n c : Nat) (fs : List ByteArray) (hf : StrsAt S w a n c fs) (hn : n ≤ 2147483647) :
    Calls Try.prog 58 #[.pointer (some ⟨b, 0, none⟩), .slice a n c] w fun r w' => r = .returned (.pointer (some ⟨b, 0, none⟩)) ∧ ∃ ga gc, Box w' b (mltA v0 v1 v2 (.slice ga n gc)) 111 ∧ TextsO (fun q => q = g ∨ w.heap.size ≤ q) w' ga n gc fs ∧ Step g b w w' := by
  have c0 := hb.cell 7 _ rfl
  have f0 := hb.free 7
  have hl := hb.lt
  obtain ⟨ii, hii, -, -, -⟩ := info_parts info_string
  have HO := Lib.hid (box_own hg)
  have hlen := hf.1
  go_enter Try.func58, Try.ntmps58
  by_cases h0 : n = 0
  · subst h0
    have hfs : fs = [] := List.length_eq_zero_iff.1 hlen
    clear hf
    go_wp2_with (first
      | (at_builtin; refine list_append_nothing _ rfl _ _ 27 rfl 0 9 ii 1 Try.underlying27 hii _ 0 [] rfl HO.out a c rfl ?_)
      | fail)
    go_ret
    refine ⟨rfl, some ⟨g, 0, none⟩, 0, hb.set 7 _, ⟨hlen, fun h => absurd h (by omega)⟩, fun q hq _ => Below.heap_setCell _ _ _ _ hq.1, by simp, fun w0 hx _ h2 => ext_set hx h2 _⟩
  · obtain ⟨ub, uo, rfl, -, hc⟩ := hf.addr (by omega)
    have HC := Lib.hid hc
    clear hc hf
    subst hlen
    go_wp2_with (first
      | (at_builtin; refine list_append_strs _ rfl _ _ rfl 0 _ [] rfl HO.out ub uo c fs (by omega) rfl (fun i f hf => HC.out i f hf) (by simp; omega) (by simp) ?_; intro ug ucap w1 hown hgrow hlies hglt
         simp only [List.length_nil, Nat.zero_add, List.nil_append] at hown ⊢
         have hb1 := hb.grown hgrow (show some b ≠ some g from someNe (fun e => hne e.symm))
         have c1 := hb1.cell 7 _ rfl
         have f1 := hb1.free 7
         have hl1 := hb1.lt)
      | fail)
    go_ret
    have hug : ug = g ∨ w.heap.size ≤ ug := by
      rcases hlies with h | h
      · left; exact (Option.some.inj h).symm
      · right; omega
    have hgl := hg.lt
    have hub : ug ≠ b := by rcases hug with h | h <;> omega
    obtain ⟨sa, sc, he, hst⟩ := hown.strs (S := fun q => q = g ∨ w.heap.size ≤ q) (fun q hq => by cases hq; exact hug)
    have hk2 : Keeps (fun q => q = g ∨ w.heap.size ≤ q) w1 (w1.setCell ⟨b, 7, none⟩ (.slice (some ⟨ug, 0, none⟩) fs.length ucap)) := fun q hq _ => Below.heap_setCell _ _ _ _ (by simp; omega)
    refine ⟨rfl, some ⟨ug, 0, none⟩, ucap, hb1.set 7 _, ⟨rfl, fun _ => ?_⟩, ?_, ?_, ?_⟩
    · cases he
      exact hst.keep (fun _ h _ => h) hk2
    · exact fun q hq hlt => (Below.heap_setCell _ _ _ _ hq.1).trans (keeps_grown (S := fun q => q ≠ b ∧ q ≠ g) hgrow (fun q hq e => hq.2 (Option.some.inj e)) q hq hlt)
    · have := hgrow.size
      simp
      omega
    · exact fun w0 hx h1 h2 => ext_set (ext_grown hx hgrow (fun k hk => by have hk2 : g = k := Option.some.inj hk; omega)) h2 _
theorem newItem_any (w : World) : Calls Try.prog 60 #[] w fun r w' => r = .returned (.pointer (some ⟨w.heap.size, 0, none⟩)) ∧ w' = w.alloc (.cells (itemV ⟨#[]⟩ ⟨#[]⟩ ⟨#[]⟩) 114) := by
  go_enter Try.func60, Try.ntmps60
  go_wp2_with fail
  go_ret
  exact ⟨rfl, rfl⟩
theorem itemText_any (w : World) (p : Nat) (z : Array Value) (v : Value) (hz : z[0]? = some v) (hb : Box w p z 114) (s : ByteArray) : Calls Try.prog 89 #[.pointer (some ⟨p, 0, none⟩), .string s] w fun r w' => r = .returned (.pointer (some ⟨p, 0, none⟩)) ∧ w' = w.setCell ⟨p, 0, none⟩ (.string s) := by
  have c0 := hb.cell 0 _ hz
  have f0 := hb.free 0
  have hl := hb.lt
  go_enter Try.func89, Try.ntmps89
  go_wp2_with fail
  go_ret
  exact ⟨rfl, rfl⟩
theorem itemIndex_any (w : World) (p : Nat) (z : Array Value) (v : Value) (hz : z[1]? = some v) (hb : Box w p z 114) (s : ByteArray) : Calls Try.prog 61 #[.pointer (some ⟨p, 0, none⟩), .string s] w fun r w' => r = .returned (.pointer (some ⟨p, 0, none⟩)) ∧ w' = w.setCell ⟨p, 1, none⟩ (.string s) := by
  have c0 := hb.cell 1 _ hz
  have f0 := hb.free 1
  have hl := hb.lt
  go_enter Try.func61, Try.ntmps61
  go_wp2_with fail
  go_ret
  exact ⟨rfl, rfl⟩
theorem itemId_any (w : World) (p : Nat) (z : Array Value) (v : Value) (hz : z[3]? = some v) (hb : Box w p z 114) (s : ByteArray) : Calls Try.prog 62 #[.pointer (some ⟨p, 0, none⟩), .string s] w fun r w' => r = .returned (.pointer (some ⟨p, 0, none⟩)) ∧ w' = w.setCell ⟨p, 3, none⟩ (.string s) := by
  have c0 := hb.cell 3 _ hz
  have f0 := hb.free 3
  have hl := hb.lt
  go_enter Try.func62, Try.ntmps62
  go_wp2_with fail
  go_ret
  exact ⟨rfl, rfl⟩
set_option maxRecDepth 20000 in
set_option maxHeartbeats 2000000 in
theorem mltLike_any {S : Nat → Prop} (w : World) (b g : Nat) (v0 v2 v7 : Value) (hb : Box w b (mltA v0 (.slice (some ⟨g, 0, none⟩) 0 0) v2 v7) 111) (hg : Box w g #[] 82) (hne : g ≠ b) (a : Option Addr) (n c : Nat) (ts : List ByteArray) (ht : StrsAt S w a n c ts) (hS : ∀ q, S q → q < w.heap.size → q ≠ b ∧ q ≠ g) (hn : n ≤ 2147483647) :
    Calls Try.prog 56 #[.pointer (some ⟨b, 0, none⟩), .slice a n c] w fun r w' => r = .returned (.pointer (some ⟨b, 0, none⟩)) ∧ ∃ (v : Value) (us : List Value), Box w' b (mltA v0 v v2 v7) 111 ∧ OwnP 82 w' 0 v us ∧ us.length = n ∧ ItemsL (fun q => w.heap.size ≤ q ∧ v.ownBlock ≠ some q) w' us (ts.map Sum.inl) ∧ (∀ q, v.ownBlock = some q → q = g ∨ w.heap.size ≤ q) ∧ Step g b w w' := by
  have hl := hb.lt
  have hgl := hg.lt
  have HL := Lib.hid ht.1
  have HC := Lib.hid ht.2.2.2
  have HS := Lib.hid hS
  have HG := Lib.hid (box_own hg)
  clear ht hS
  go_enter Try.func56, Try.ntmps56
  go_wp2_with fail
  go_loopw [10] (fun i wr => Step g b w wr ∧ ∃ (j : Nat) (v : Value) (us : List Value), j ≤ n ∧ i = .int .i64 j ∧ Box wr b (mltA v0 v v2 v7) 111 ∧ OwnP 82 wr 0 v us ∧ us.length = j ∧ ItemsL (fun q => w.heap.size ≤ q ∧ v.ownBlock ≠ some q) wr us ((ts.take j).map Sum.inl) ∧ (∀ q, v.ownBlock = some q → q = g ∨ w.heap.size ≤ q)) (fun i _ => n - (intOf i).toNat)
  case atStart =>
    exact ⟨⟨fun _ _ _ => rfl, Nat.le_refl _, fun _ h _ _ => h⟩, 0, _, [], Nat.zero_le _, rfl, hb, HG.out, rfl, ItemsL.nil _ _, fun q hq => .inl (Option.some.inj hq).symm⟩
  case round =>
    obtain ⟨⟨hk, hsz, hE⟩, j, v, us, hj, rfl, hbr, hO, hul, hI, hv⟩ := hrel
    have HO := Lib.hid hO
    have HI := Lib.hid hI
    have HE := Lib.hid hE
    have hob : ∀ q, v.ownBlock = some q → q < wr.heap.size := fun q hq => (hO.block hq).2
    have hvb : v.ownBlock ≠ some b := fun e => by have := hv b e; omega
    have HUL := Lib.hid hul
    clear hO hI hE hul
    by_cases hlt : j < n
    case pos =>
      obtain ⟨s, hs⟩ := some_of_lt HL.out hlt
      obtain ⟨tb, tof, rfl, hSb, hc⟩ := HC.out j s hs
      have hc := hk.cell (HS.out tb hSb (lt_of_cell hc)) hc
      have HT := Lib.hid hs
      clear hs
      go_wp2_with (first
        | (go_at_call 60; refine (newItem_any _).mono ?_; rintro r w1 ⟨rfl, rfl⟩
           have hp1 : Box (wr.alloc (.cells (itemV ⟨#[]⟩ ⟨#[]⟩ ⟨#[]⟩) 114)) wr.heap.size (itemV ⟨#[]⟩ ⟨#[]⟩ ⟨#[]⟩) 114 := Box.at rfl _ _
           have hx1 : Ext wr (wr.alloc (.cells (itemV ⟨#[]⟩ ⟨#[]⟩ ⟨#[]⟩) 114)) := ext_alloc (ext_refl _) _
           have hp1l := hp1.lt
           generalize wr.alloc (.cells (itemV ⟨#[]⟩ ⟨#[]⟩ ⟨#[]⟩) 114) = w1 at hp1 hx1 hp1l ⊢)
        | (go_at_call 89; refine (itemText_any _ _ _ _ rfl hp1 s).mono ?_; rintro r w2 ⟨rfl, hw2⟩
           have hp2 : Box w2 wr.heap.size (itemV s ⟨#[]⟩ ⟨#[]⟩) 114 := by rw [hw2]; exact hp1.set 0 _
           have hx2 : Ext wr w2 := by rw [hw2]; exact ext_set hx1 (Nat.le_refl _) _
           clear hw2 hp1 hx1
           have hbr2 := hbr.ext hx2
           have d0 := hbr2.cell 1 _ rfl
           have f0 := hbr2.free 1
           have hl2 := hbr2.lt
           have hxn : Ext wr (w2.alloc (.cells #[.pointer (some ⟨wr.heap.size, 0, none⟩)] 82)) := ext_alloc hx2 _
           have hbn : Box (w2.alloc (.cells #[.pointer (some ⟨wr.heap.size, 0, none⟩)] 82)) w2.heap.size #[.pointer (some ⟨wr.heap.size, 0, none⟩)] 82 := Box.at rfl _ _
           have hpn := hp2.alloc (.cells #[.pointer (some ⟨wr.heap.size, 0, none⟩)] 82))
        | (at_builtin; refine list_append_item _ rfl _ _ rfl 0 v us rfl (HO.out.ext hxn) w2.heap.size 0 1 1 [.pointer (some ⟨wr.heap.size, 0, none⟩)] (by simp) rfl (fun u hu => by simp at hu; subst hu; rfl) rfl (fun i f hf => by
             cases i with
             | zero => simp at hf; subst hf; exact hbn.cell 0 _ rfl
             | succ i => simp at hf) (by have := HUL.out; simp; omega) (by simp) ?_; intro g4 cap w4 hown hgrow hlies hglt
           have hb4 := (hbr.ext hxn).grown hgrow (fun e => hvb e.symm)
           have d4 := hb4.cell 1 _ rfl
           have f4 := hb4.free 1
           have hl4 := hb4.lt
           have HOW := Lib.hid hown
           have HGR := Lib.hid hgrow
           have HLI := Lib.hid hlies
           clear hown hgrow hlies)
        | fail)
      have hgrow := HGR.out
      have hlies := HLI.out
      have hszn := hxn.sz
      have hszp := hpn.lt
      have hg4 : v.ownBlock = some g4 ∨ (w2.alloc (.cells #[.pointer (some ⟨wr.heap.size, 0, none⟩)] 82)).heap.size ≤ g4 := by
        rcases hlies with h | h
        · exact .inl h
        · exact .inr (Nat.le_of_eq h.symm)
      have hgb : g4 ≠ b := by
        rcases hg4 with h | h
        · intro e
          subst e
          exact hvb h
        · omega
      have hkI : Keeps (fun q => w.heap.size ≤ q ∧ v.ownBlock ≠ some q) (w2.alloc (.cells #[.pointer (some ⟨wr.heap.size, 0, none⟩)] 82)) (w4.setCell ⟨b, 1, none⟩ (.slice (some ⟨g4, 0, none⟩) (us.length + 1) cap)) := fun q hq hlt => (Below.heap_setCell _ _ _ _ (by simp; omega)).trans (keeps_grown (S := fun q => w.heap.size ≤ q ∧ v.ownBlock ≠ some q) hgrow (fun q hq e => hq.2 e.symm) q hq hlt)
      have hto : ∀ q, (w.heap.size ≤ q ∧ v.ownBlock ≠ some q) → q < (w2.alloc (.cells #[.pointer (some ⟨wr.heap.size, 0, none⟩)] 82)).heap.size → w.heap.size ≤ q ∧ (Value.slice (some ⟨g4, 0, none⟩) (us.length + 1) cap).ownBlock ≠ some q := fun q hq hlt => ⟨hq.1, fun e => by
        simp only [Value.ownBlock, Option.some.injEq] at e
        subst e
        rcases hg4 with h | h
        · exact hq.2 h
        · omega⟩
      have hI4 := (HI.out.ext hxn).append (ItemsL.one (d := Sum.inl s) (S := fun q => w.heap.size ≤ q ∧ v.ownBlock ≠ some q) ⟨hsz, fun e => by have := hob _ e; omega⟩ hpn)
      have hI5 := Lib.hid (hI4.keep hto hkI)
      have hSt : Step g b w (w4.setCell ⟨b, 1, none⟩ (.slice (some ⟨g4, 0, none⟩) (us.length + 1) cap)) := by
        refine ⟨fun q hq hlt => ?_, ?_, fun w0 h1 h2 h3 => ?_⟩
        · refine (Below.heap_setCell _ _ _ _ hq.1).trans ((keeps_grown (S := fun q => q < w.heap.size ∧ q ≠ g) hgrow (fun q hq e => ?_) q ⟨hlt, hq.2⟩ (by omega)).trans ((hxn.block q (by omega)).trans (hk q hq hlt)))
          have := hv q e.symm
          omega
        · have := hgrow.size
          simp
          omega
        · refine ext_set (ext_grown (ext_trans (HE.out w0 h1 h2 h3) hxn) hgrow (fun k hk => ?_)) h3 _
          have := hv k hk
          have := h1.sz
          omega
      have HSt := Lib.hid hSt
      have hO5 := Lib.hid (OwnP.grown HOW.out (grown_set w4 ⟨b, 1, none⟩ (.slice (some ⟨g4, 0, none⟩) (us.length + 1) cap)) (.inr (by simp only [Value.ownBlock]; exact someNe hgb)))
      have hv5 : ∀ q, (Value.slice (some ⟨g4, 0, none⟩) (us.length + 1) cap).ownBlock = some q → q = g ∨ w.heap.size ≤ q := fun q e => by
        simp only [Value.ownBlock, Option.some.injEq] at e
        subst e
        rcases hg4 with h | h
        · exact hv _ h
        · right
          omega
      clear hkI hto hI4 hgrow hlies hSt hpn hbn hp2 hk
      go_roundw
      case rel =>
        refine ⟨HSt.out, j + 1, _, us ++ [.pointer (some ⟨wr.heap.size, 0, none⟩)], by omega, by go_num, hb4.set 1 _, by simpa using hO5.out, by simp [HUL.out], ?_, hv5⟩
        rw [take_snoc HT.out, List.map_append]
        exact hI5.out
      case measure => simp [intOf]; omega
    case neg =>
      have hjn : j = n := by omega
      have hfull : ts.take j = ts := List.take_of_length_le (by have := HL.out; omega)
      have hI := HI.out
      rw [hfull] at hI
      go_wp2_with fail
      go_ret
      exact ⟨rfl, v, us, hbr, HO.out, by have := HUL.out; omega, hI, hv, hk, hsz, HE.out⟩
set_option maxRecDepth 20000 in
set_option maxHeartbeats 2000000 in
theorem mltUnlike_any {S : Nat → Prop} (w : World) (b g : Nat) (v0 v1 v7 : Value) (hb : Box w b (mltA v0 v1 (.slice (some ⟨g, 0, none⟩) 0 0) v7) 111) (hg : Box w g #[] 82) (hne : g ≠ b) (a : Option Addr) (n c : Nat) (ts : List ByteArray) (ht : StrsAt S w a n c ts) (hS : ∀ q, S q → q < w.heap.size → q ≠ b ∧ q ≠ g) (hn : n ≤ 2147483647) :
    Calls Try.prog 57 #[.pointer (some ⟨b, 0, none⟩), .slice a n c] w fun r w' => r = .returned (.pointer (some ⟨b, 0, none⟩)) ∧ ∃ (v : Value) (us : List Value), Box w' b (mltA v0 v1 v v7) 111 ∧ OwnP 82 w' 0 v us ∧ us.length = n ∧ ItemsL (fun q => w.heap.size ≤ q ∧ v.ownBlock ≠ some q) w' us (ts.map Sum.inl) ∧ (∀ q, v.ownBlock = some q → q = g ∨ w.heap.size ≤ q) ∧ Step g b w w' := by
  have hl := hb.lt
  have hgl := hg.lt
  have HL := Lib.hid ht.1
  have HC := Lib.hid ht.2.2.2
  have HS := Lib.hid hS
  have HG := Lib.hid (box_own hg)
  clear ht hS
  go_enter Try.func57, Try.ntmps57
  go_wp2_with fail
  go_loopw [10] (fun i wr => Step g b w wr ∧ ∃ (j : Nat) (v : Value) (us : List Value), j ≤ n ∧ i = .int .i64 j ∧ Box wr b (mltA v0 v1 v v7) 111 ∧ OwnP 82 wr 0 v us ∧ us.length = j ∧ ItemsL (fun q => w.heap.size ≤ q ∧ v.ownBlock ≠ some q) wr us ((ts.take j).map Sum.inl) ∧ (∀ q, v.ownBlock = some q → q = g ∨ w.heap.size ≤ q)) (fun i _ => n - (intOf i).toNat)
  case atStart =>
    exact ⟨⟨fun _ _ _ => rfl, Nat.le_refl _, fun _ h _ _ => h⟩, 0, _, [], Nat.zero_le _, rfl, hb, HG.out, rfl, ItemsL.nil _ _, fun q hq => .inl (Option.some.inj hq).symm⟩
  case round =>
    obtain ⟨⟨hk, hsz, hE⟩, j, v, us, hj, rfl, hbr, hO, hul, hI, hv⟩ := hrel
    have HO := Lib.hid hO
    have HI := Lib.hid hI
    have HE := Lib.hid hE
    have hob : ∀ q, v.ownBlock = some q → q < wr.heap.size := fun q hq => (hO.block hq).2
    have hvb : v.ownBlock ≠ some b := fun e => by have := hv b e; omega
    have HUL := Lib.hid hul
    clear hO hI hE hul
    by_cases hlt : j < n
    case pos =>
      obtain ⟨s, hs⟩ := some_of_lt HL.out hlt
      obtain ⟨tb, tof, rfl, hSb, hc⟩ := HC.out j s hs
      have hc := hk.cell (HS.out tb hSb (lt_of_cell hc)) hc
      have HT := Lib.hid hs
      clear hs
      go_wp2_with (first
        | (go_at_call 60; refine (newItem_any _).mono ?_; rintro r w1 ⟨rfl, rfl⟩
           have hp1 : Box (wr.alloc (.cells (itemV ⟨#[]⟩ ⟨#[]⟩ ⟨#[]⟩) 114)) wr.heap.size (itemV ⟨#[]⟩ ⟨#[]⟩ ⟨#[]⟩) 114 := Box.at rfl _ _
           have hx1 : Ext wr (wr.alloc (.cells (itemV ⟨#[]⟩ ⟨#[]⟩ ⟨#[]⟩) 114)) := ext_alloc (ext_refl _) _
           have hp1l := hp1.lt
           generalize wr.alloc (.cells (itemV ⟨#[]⟩ ⟨#[]⟩ ⟨#[]⟩) 114) = w1 at hp1 hx1 hp1l ⊢)
        | (go_at_call 89; refine (itemText_any _ _ _ _ rfl hp1 s).mono ?_; rintro r w2 ⟨rfl, hw2⟩
           have hp2 : Box w2 wr.heap.size (itemV s ⟨#[]⟩ ⟨#[]⟩) 114 := by rw [hw2]; exact hp1.set 0 _
           have hx2 : Ext wr w2 := by rw [hw2]; exact ext_set hx1 (Nat.le_refl _) _
           clear hw2 hp1 hx1
           have hbr2 := hbr.ext hx2
           have d0 := hbr2.cell 2 _ rfl
           have f0 := hbr2.free 2
           have hl2 := hbr2.lt
           have hxn : Ext wr (w2.alloc (.cells #[.pointer (some ⟨wr.heap.size, 0, none⟩)] 82)) := ext_alloc hx2 _
           have hbn : Box (w2.alloc (.cells #[.pointer (some ⟨wr.heap.size, 0, none⟩)] 82)) w2.heap.size #[.pointer (some ⟨wr.heap.size, 0, none⟩)] 82 := Box.at rfl _ _
           have hpn := hp2.alloc (.cells #[.pointer (some ⟨wr.heap.size, 0, none⟩)] 82))
        | (at_builtin; refine list_append_item _ rfl _ _ rfl 0 v us rfl (HO.out.ext hxn) w2.heap.size 0 1 1 [.pointer (some ⟨wr.heap.size, 0, none⟩)] (by simp) rfl (fun u hu => by simp at hu; subst hu; rfl) rfl (fun i f hf => by
             cases i with
             | zero => simp at hf; subst hf; exact hbn.cell 0 _ rfl
             | succ i => simp at hf) (by have := HUL.out; simp; omega) (by simp) ?_; intro g4 cap w4 hown hgrow hlies hglt
           have hb4 := (hbr.ext hxn).grown hgrow (fun e => hvb e.symm)
           have d4 := hb4.cell 2 _ rfl
           have f4 := hb4.free 2
           have hl4 := hb4.lt
           have HOW := Lib.hid hown
           have HGR := Lib.hid hgrow
           have HLI := Lib.hid hlies
           clear hown hgrow hlies)
        | fail)
      have hgrow := HGR.out
      have hlies := HLI.out
      have hszn := hxn.sz
      have hszp := hpn.lt
      have hg4 : v.ownBlock = some g4 ∨ (w2.alloc (.cells #[.pointer (some ⟨wr.heap.size, 0, none⟩)] 82)).heap.size ≤ g4 := by
        rcases hlies with h | h
        · exact .inl h
        · exact .inr (Nat.le_of_eq h.symm)
      have hgb : g4 ≠ b := by
        rcases hg4 with h | h
        · intro e
          subst e
          exact hvb h
        · omega
      have hkI : Keeps (fun q => w.heap.size ≤ q ∧ v.ownBlock ≠ some q) (w2.alloc (.cells #[.pointer (some ⟨wr.heap.size, 0, none⟩)] 82)) (w4.setCell ⟨b, 2, none⟩ (.slice (some ⟨g4, 0, none⟩) (us.length + 1) cap)) := fun q hq hlt => (Below.heap_setCell _ _ _ _ (by simp; omega)).trans (keeps_grown (S := fun q => w.heap.size ≤ q ∧ v.ownBlock ≠ some q) hgrow (fun q hq e => hq.2 e.symm) q hq hlt)
      have hto : ∀ q, (w.heap.size ≤ q ∧ v.ownBlock ≠ some q) → q < (w2.alloc (.cells #[.pointer (some ⟨wr.heap.size, 0, none⟩)] 82)).heap.size → w.heap.size ≤ q ∧ (Value.slice (some ⟨g4, 0, none⟩) (us.length + 1) cap).ownBlock ≠ some q := fun q hq hlt => ⟨hq.1, fun e => by
        simp only [Value.ownBlock, Option.some.injEq] at e
        subst e
        rcases hg4 with h | h
        · exact hq.2 h
        · omega⟩
      have hI4 := (HI.out.ext hxn).append (ItemsL.one (d := Sum.inl s) (S := fun q => w.heap.size ≤ q ∧ v.ownBlock ≠ some q) ⟨hsz, fun e => by have := hob _ e; omega⟩ hpn)
      have hI5 := Lib.hid (hI4.keep hto hkI)
      have hSt : Step g b w (w4.setCell ⟨b, 2, none⟩ (.slice (some ⟨g4, 0, none⟩) (us.length + 1) cap)) := by
        refine ⟨fun q hq hlt => ?_, ?_, fun w0 h1 h2 h3 => ?_⟩
        · refine (Below.heap_setCell _ _ _ _ hq.1).trans ((keeps_grown (S := fun q => q < w.heap.size ∧ q ≠ g) hgrow (fun q hq e => ?_) q ⟨hlt, hq.2⟩ (by omega)).trans ((hxn.block q (by omega)).trans (hk q hq hlt)))
          have := hv q e.symm
          omega
        · have := hgrow.size
          simp
          omega
        · refine ext_set (ext_grown (ext_trans (HE.out w0 h1 h2 h3) hxn) hgrow (fun k hk => ?_)) h3 _
          have := hv k hk
          have := h1.sz
          omega
      have HSt := Lib.hid hSt
      have hO5 := Lib.hid (OwnP.grown HOW.out (grown_set w4 ⟨b, 2, none⟩ (.slice (some ⟨g4, 0, none⟩) (us.length + 1) cap)) (.inr (by simp only [Value.ownBlock]; exact someNe hgb)))
      have hv5 : ∀ q, (Value.slice (some ⟨g4, 0, none⟩) (us.length + 1) cap).ownBlock = some q → q = g ∨ w.heap.size ≤ q := fun q e => by
        simp only [Value.ownBlock, Option.some.injEq] at e
        subst e
        rcases hg4 with h | h
        · exact hv _ h
        · right
          omega
      clear hkI hto hI4 hgrow hlies hSt hpn hbn hp2 hk
      go_roundw
      case rel =>
        refine ⟨HSt.out, j + 1, _, us ++ [.pointer (some ⟨wr.heap.size, 0, none⟩)], by omega, by go_num, hb4.set 2 _, by simpa using hO5.out, by simp [HUL.out], ?_, hv5⟩
        rw [take_snoc HT.out, List.map_append]
        exact hI5.out
      case measure => simp [intOf]; omega
    case neg =>
      have hjn : j = n := by omega
      have hfull : ts.take j = ts := List.take_of_length_le (by have := HL.out; omega)
      have hI := HI.out
      rw [hfull] at hI
      go_wp2_with fail
      go_ret
      exact ⟨rfl, v, us, hbr, HO.out, by have := HUL.out; omega, hI, hv, hk, hsz, HE.out⟩
set_option maxRecDepth 20000 in
set_option maxHeartbeats 1000000 in
theorem mltItems_any (w : World) (b : Nat) (v0 v v2 v7 : Value) (us : List Value) (hb : Box w b (mltA v0 v v2 v7) 111) (hO : OwnP 82 w 0 v us) (hne : v.ownBlock ≠ some b) (qb c p : Nat) (hq : w.cell? ⟨qb, 0, none⟩ = some (.pointer (some ⟨p, 0, none⟩))) (hn : us.length ≤ 4294967294) :
    Calls Try.prog 59 #[.pointer (some ⟨b, 0, none⟩), .slice (some ⟨qb, 0, none⟩) 1 c] w fun r w' => r = .returned (.pointer (some ⟨b, 0, none⟩)) ∧ ∃ v', Box w' b (mltA v0 v' v2 v7) 111 ∧ OwnP 82 w' 0 v' (us ++ [.pointer (some ⟨p, 0, none⟩)]) ∧ (∀ q, v'.ownBlock = some q → v.ownBlock = some q ∨ w.heap.size ≤ q) ∧ v'.ownBlock ≠ some b ∧ Keeps (fun q => q ≠ b ∧ v.ownBlock ≠ some q) w w' ∧ w.heap.size ≤ w'.heap.size ∧ ∀ w0, Ext w0 w → (∀ q, v.ownBlock = some q → w0.heap.size ≤ q) → w0.heap.size ≤ b → Ext w0 w' := by
  have c0 := hb.cell 1 _ rfl
  have f0 := hb.free 1
  have hl := hb.lt
  have HO := Lib.hid hO
  clear hO
  go_enter Try.func59, Try.ntmps59
  go_wp2_with (first
    | (at_builtin; refine list_append_item _ rfl _ _ rfl 0 v us rfl HO.out qb 0 1 c [.pointer (some ⟨p, 0, none⟩)] (by simp) rfl (fun u hu => by simp at hu; subst hu; rfl) rfl (fun i f hf => by
         cases i with
         | zero => simp at hf; subst hf; exact hq
         | succ i => simp at hf) (by simp; omega) (by simp) ?_; intro g4 cap w4 hown hgrow hlies hglt
       have hb4 := hb.grown hgrow (fun e => hne e.symm)
       have d4 := hb4.cell 1 _ rfl
       have f4 := hb4.free 1
       have hl4 := hb4.lt)
    | fail)
  go_ret
  have hg4 : v.ownBlock = some g4 ∨ w.heap.size ≤ g4 := by
    rcases hlies with h | h
    · exact .inl h
    · exact .inr (Nat.le_of_eq h.symm)
  have hgb : g4 ≠ b := by
    rcases hg4 with h | h
    · intro e
      subst e
      exact hne h
    · omega
  refine ⟨rfl, .slice (some ⟨g4, 0, none⟩) (us.length + 1) cap, hb4.set 1 _, ?_, ?_, ?_, ?_, ?_, ?_⟩
  · exact OwnP.grown (by simpa using hown) (grown_set _ _ _) (.inr (by simp only [Value.ownBlock]; exact someNe hgb))
  · intro q e
    simp only [Value.ownBlock, Option.some.injEq] at e
    subst e
    exact hg4
  · simp only [Value.ownBlock]
    exact someNe hgb
  · exact fun q hq hlt => (Below.heap_setCell _ _ _ _ hq.1).trans (keeps_grown (S := fun q => q ≠ b ∧ v.ownBlock ≠ some q) hgrow (fun q hq e => hq.2 e.symm) q hq hlt)
  · have := hgrow.size
    simp
    omega
  · exact fun w0 hx h1 h2 => ext_set (ext_grown hx hgrow h1) h2 _
end Go.Proofs.Ytfngaoicoecncaa

namespace Go.Proofs.Ytfngaoicoecncaa
open Go.RowKit Go.Maps

theorem Keeps.mono {S S' : Nat → Prop} {w w' : World} (h : Keeps S w w') (hs : ∀ q, S' q → S q) : Keeps S' w w' := fun b hb hl => h b (hs b hb) hl
/-- Documents, each told by an index and an id, in memory. -/
def ItemsIn (S : Nat → Prop) (w : World) (a : Option Addr) (n c : Nat) (its : List (ByteArray × ByteArray)) : Prop :=
  its.length = n ∧ n ≤ c ∧ c ≤ maxLen ∧ ∀ (i : Nat) (p : ByteArray × ByteArray), its[i]? = some p → ∃ b off, a = some ⟨b, off, none⟩ ∧ S b ∧ w.cell? ⟨b, off + i * 2, none⟩ = some (.string p.1) ∧ w.cell? ⟨b, off + i * 2 + 1, none⟩ = some (.string p.2)
theorem ItemsIn.keep {S S' : Nat → Prop} {w w' : World} {a : Option Addr} {n c : Nat} {its : List (ByteArray × ByteArray)} (h : ItemsIn S w a n c its) (hS : ∀ b, S b → b < w.heap.size → S' b) (k : Keeps S w w') : ItemsIn S' w' a n c its :=
  ⟨h.1, h.2.1, h.2.2.1, fun i p hp => by
    obtain ⟨b, off, e, hb, h1, h2⟩ := h.2.2.2 i p hp
    exact ⟨b, off, e, hS b hb (lt_of_cell h1), k.cell hb h1, k.cell hb h2⟩⟩
theorem ItemsIn.ext {S : Nat → Prop} {w w' : World} {a : Option Addr} {n c : Nat} {its : List (ByteArray × ByteArray)} (h : ItemsIn S w a n c its) (x : Ext w w') : ItemsIn S w' a n c its := h.keep (fun _ h _ => h) (x.keeps S)
theorem OwnP.keep {t : TypeId} {S : Nat → Prop} {w w' : World} {base : Nat} {v : Value} {vs : List Value} (h : OwnP t w base v vs) (hS : ∀ q, v.ownBlock = some q → S q) (k : Keeps S w w') : OwnP t w' base v vs := by
  obtain ⟨h1, h2⟩ := id h
  refine ⟨h1, ?_⟩
  rcases h2 with h2 | ⟨g, cap, cur, rfl, hg, hh, h3⟩
  · exact .inl h2
  · exact .inr ⟨g, cap, cur, rfl, hg, (k g (hS g rfl) (h.block (g := g) rfl).2).trans hh, h3⟩
theorem OwnP.items {t : TypeId} {S : Nat → Prop} {w : World} {base : Nat} {v : Value} {vs : List Value} {ds : List Doc} (h : OwnP t w base v vs) (hS : ∀ b, v.ownBlock = some b → S b) (hI : ItemsL S w vs ds) : ∃ a n c, v = .slice a n c ∧ ItemsAt S w a n c ds := by
  obtain ⟨a, c, e, h1, h2, h3⟩ := h.cells hS
  exact ⟨a, vs.length, c, e, vs, rfl, h1, h2, h3, hI⟩
end Go.Proofs.Ytfngaoicoecncaa

namespace Go.Proofs.Ytfngaoicoecncaa
open Go.RowKit Go.Maps

theorem zzFits1_all {S : Nat → Prop} (a : Option Addr) (n c : Nat) (ss : List ByteArray) (w : World) (h : StrsAt S w a n c ss) :
    Calls Try.prog 12 #[.slice a n c] w (Yes (n ≤ 2147483647 ∧ ∀ t ∈ ss, t.size ≤ 2147483647) w) := by
  obtain ⟨hl, hn, hm, hc⟩ := h
  unfold maxLen at hm
  have HL := Lib.hid hl
  clear hl
  go_enter Try.func12, Try.ntmps12
  by_cases hbig : 2147483647 < n
  · go_wp2_with fail
    go_ret
    exact ⟨false, rfl, by simp, by (repeat (first | exact ext_refl _ | assumption | refine ext_alloc ?_ _ | refine ext_drew ?_ | refine ext_set ?_ (by simp) _ | refine ext_trans ?_ (by assumption)))⟩
  · go_wp2_with fail
    go_loopw [10] (fun i wr => Ext w wr ∧ ∃ k : Nat, k ≤ n ∧ i = .int .i64 k ∧ ∀ (q : Nat) (t : ByteArray), q < k → ss[q]? = some t → t.size ≤ 2147483647) (fun i _ => n - (intOf i).toNat)
    case atStart => exact ⟨ext_refl _, 0, Nat.zero_le _, rfl, fun _ _ h => absurd h (by omega)⟩
    case round =>
      obtain ⟨hx, k, hk, rfl, hall⟩ := hrel
      have HA := Lib.hid hall
      clear hall
      by_cases hlt : k < n
      · obtain ⟨t, ht⟩ := some_of_lt HL.out hlt
        obtain ⟨b, off, rfl, -, hcell⟩ := hc k t ht
        have hcell := hx.cell hcell
        have HT := Lib.hid ht
        clear ht
        by_cases hsz : 2147483647 < t.size
        · go_wp2_with fail
          go_ret
          exact ⟨false, rfl, by simp, by (repeat (first | exact ext_refl _ | assumption | refine ext_alloc ?_ _ | refine ext_drew ?_ | refine ext_set ?_ (by simp) _ | refine ext_trans ?_ (by assumption)))⟩
        · go_wp2_with fail
          go_roundw
          case rel =>
            refine ⟨by (repeat (first | exact ext_refl _ | assumption | refine ext_alloc ?_ _ | refine ext_drew ?_ | refine ext_set ?_ (by simp) _ | refine ext_trans ?_ (by assumption))), k + 1, by omega, by go_num, fun q u hq hu => ?_⟩
            by_cases hqk : q < k
            · exact HA.out q u hqk hu
            · obtain rfl : q = k := by omega
              rw [HT.out] at hu
              cases hu
              omega
          case measure => simp [intOf]; omega
      · go_wp2_with fail
        go_ret
        refine ⟨true, rfl, fun _ => ⟨by omega, fun t ht => ?_⟩, by (repeat (first | exact ext_refl _ | assumption | refine ext_alloc ?_ _ | refine ext_drew ?_ | refine ext_set ?_ (by simp) _ | refine ext_trans ?_ (by assumption)))⟩
        obtain ⟨q, hq⟩ := List.getElem?_of_mem ht
        have hql : q < ss.length := (List.getElem?_eq_some_iff.1 hq).1
        have := HL.out
        exact HA.out q t (by omega) hq
theorem zzFits3_any (i d : ByteArray) (w : World) : Calls Try.prog 53 #[.agg #[.string i, .string d]] w (Yes True w) := by
  go_enter Try.func53, Try.ntmps53
  by_cases h1 : 2147483647 < i.size
  · go_wp2_with fail
    go_ret
    exact ⟨false, rfl, by simp, by (repeat (first | exact ext_refl _ | assumption | refine ext_alloc ?_ _ | refine ext_drew ?_ | refine ext_set ?_ (by simp) _ | refine ext_trans ?_ (by assumption)))⟩
  · by_cases h2 : 2147483647 < d.size
    · go_wp2_with fail
      go_ret
      exact ⟨false, rfl, by simp, by (repeat (first | exact ext_refl _ | assumption | refine ext_alloc ?_ _ | refine ext_drew ?_ | refine ext_set ?_ (by simp) _ | refine ext_trans ?_ (by assumption)))⟩
    · go_wp2_with fail
      go_ret
      exact ⟨true, rfl, by simp, by (repeat (first | exact ext_refl _ | assumption | refine ext_alloc ?_ _ | refine ext_drew ?_ | refine ext_set ?_ (by simp) _ | refine ext_trans ?_ (by assumption)))⟩
theorem zzFits2_any {S : Nat → Prop} (a : Option Addr) (n c : Nat) (its : List (ByteArray × ByteArray)) (w : World) (h : ItemsIn S w a n c its) :
    Calls Try.prog 13 #[.slice a n c] w (Yes (n ≤ 2147483647) w) := by
  obtain ⟨hl, hn, hm, hc⟩ := h
  unfold maxLen at hm
  have HL := Lib.hid hl
  have HC := Lib.hid hc
  clear hl hc
  go_enter Try.func13, Try.ntmps13
  by_cases hbig : 2147483647 < n
  · go_wp2_with fail
    go_ret
    exact ⟨false, rfl, by simp, by (repeat (first | exact ext_refl _ | assumption | refine ext_alloc ?_ _ | refine ext_drew ?_ | refine ext_set ?_ (by simp) _ | refine ext_trans ?_ (by assumption)))⟩
  · go_wp2_with fail
    go_loopw [10] (fun i wr => Ext w wr ∧ ∃ k : Nat, k ≤ n ∧ i = .int .i64 k) (fun i _ => n - (intOf i).toNat)
    case atStart => exact ⟨ext_refl _, 0, Nat.zero_le _, rfl⟩
    case round =>
      obtain ⟨hx, k, hk, rfl⟩ := hrel
      by_cases hlt : k < n
      · obtain ⟨⟨it, dt⟩, ht⟩ := some_of_lt HL.out hlt
        obtain ⟨b, off, rfl, -, h0, h1⟩ := HC.out k _ ht
        have h0 := hx.cell h0
        have h1 := hx.cell h1
        dsimp only at h0 h1
        clear ht
        go_wp2_with (first
          | (go_at_call 53; refine (zzFits3_any _ _ _).mono ?_; rintro r w2 ⟨bb, rfl, -, hx2⟩; cases bb)
          | fail)
        · go_ret
          exact ⟨false, rfl, by simp, ext_trans (ext_alloc hx _) hx2⟩
        · go_roundw
          case rel => exact ⟨ext_trans (ext_alloc hx _) hx2, k + 1, by omega, by go_num⟩
          case measure => simp [intOf]; omega
      · go_wp2_with fail
        go_ret
        exact ⟨true, rfl, fun _ => by omega, by (repeat (first | exact ext_refl _ | assumption | refine ext_alloc ?_ _ | refine ext_drew ?_ | refine ext_set ?_ (by simp) _ | refine ext_trans ?_ (by assumption)))⟩
theorem itemsFit_any {S : Nat → Prop} (a : Option Addr) (n c : Nat) (its : List (ByteArray × ByteArray)) (w : World) (h : ItemsIn S w a n c its) :
    Calls Try.prog 16 #[.slice a n c] w (Yes (∀ p ∈ its, okItem (.inr p)) w) := by
  obtain ⟨hl, hn, hm, hc⟩ := h
  unfold maxLen at hm
  have HL := Lib.hid hl
  have HC := Lib.hid hc
  clear hl hc
  go_enter Try.func16, Try.ntmps16
  go_wp2_with fail
  go_loopw [3] (fun i wr => Ext w wr ∧ ∃ k : Nat, k ≤ n ∧ i = .int .i64 k ∧ ∀ (q : Nat) (p : ByteArray × ByteArray), q < k → its[q]? = some p → okItem (.inr p)) (fun i _ => n - (intOf i).toNat)
  case atStart => exact ⟨ext_refl _, 0, Nat.zero_le _, rfl, fun _ _ h => absurd h (by omega)⟩
  case round =>
    obtain ⟨hx, k, hk, rfl, hall⟩ := hrel
    have HA := Lib.hid hall
    clear hall
    by_cases hlt : k < n
    · obtain ⟨⟨it, dt⟩, ht⟩ := some_of_lt HL.out hlt
      obtain ⟨b, off, rfl, -, h0, h1⟩ := HC.out k _ ht
      have h0 := hx.cell h0
      have h1 := hx.cell h1
      dsimp only at h0 h1
      have HT := Lib.hid ht
      clear ht
      cases hE0 : it.toList.isEmpty
      · cases hE1 : dt.toList.isEmpty
        · go_wp2_with fail
          go_roundw
          case rel =>
            refine ⟨by (repeat (first | exact ext_refl _ | assumption | refine ext_alloc ?_ _ | refine ext_drew ?_ | refine ext_set ?_ (by simp) _ | refine ext_trans ?_ (by assumption))), k + 1, by omega, by go_num, fun q u hq hu => ?_⟩
            by_cases hqk : q < k
            · exact HA.out q u hqk hu
            · obtain rfl : q = k := by omega
              rw [HT.out] at hu
              cases hu
              exact ⟨hE0, hE1⟩
          case measure => simp [intOf]; omega
        · go_wp2_with fail
          go_ret
          exact ⟨false, rfl, by simp, by (repeat (first | exact ext_refl _ | assumption | refine ext_alloc ?_ _ | refine ext_drew ?_ | refine ext_set ?_ (by simp) _ | refine ext_trans ?_ (by assumption)))⟩
      · go_wp2_with fail
        go_ret
        exact ⟨false, rfl, by simp, by (repeat (first | exact ext_refl _ | assumption | refine ext_alloc ?_ _ | refine ext_drew ?_ | refine ext_set ?_ (by simp) _ | refine ext_trans ?_ (by assumption)))⟩
    · go_wp2_with fail
      go_ret
      refine ⟨true, rfl, fun _ p hp => ?_, by (repeat (first | exact ext_refl _ | assumption | refine ext_alloc ?_ _ | refine ext_drew ?_ | refine ext_set ?_ (by simp) _ | refine ext_trans ?_ (by assumption)))⟩
      obtain ⟨q, hq⟩ := List.getElem?_of_mem hp
      have hql : q < its.length := (List.getElem?_eq_some_iff.1 hq).1
      have := HL.out
      exact HA.out q p (by omega) hq
theorem fields_any {S : Nat → Prop} (a : Option Addr) (n c : Nat) (ss : List ByteArray) (w : World) (h : StrsAt S w a n c ss) (hsz : ∀ t ∈ ss, t.size ≤ 2147483647) :
    Calls Try.prog 15 #[.slice a n c] w (Yes True w) := by
  have HH := Lib.hid (fun (j : Nat) (hj : j ≤ n) (s : ByteArray) (w' : World) (x : Ext w w') => has_any (S := S) a j c (ss.take j) s w' (by
    have h2 := h.ext x
    exact ⟨by rw [List.length_take, h.1]; omega, by have := h.2.1; omega, h.2.2.1, fun i t ht => h2.2.2.2 i t (by
      by_cases hi : i < j
      · rw [List.getElem?_take_of_lt hi] at ht
        exact ht
      · rw [List.getElem?_eq_none (by rw [List.length_take]; omega)] at ht
        cases ht)⟩))
  obtain ⟨hl, hn, hm, hc⟩ := h
  unfold maxLen at hm
  have HL := Lib.hid hl
  have HC := Lib.hid hc
  have HSZ := Lib.hid hsz
  clear hl hc hsz
  go_enter Try.func15, Try.ntmps15
  go_wp2_with fail
  go_loopw [3] (fun i wr => Ext w wr ∧ ∃ k : Nat, k ≤ n ∧ i = .int .i64 k) (fun i _ => n - (intOf i).toNat)
  case atStart => exact ⟨ext_refl _, 0, Nat.zero_le _, rfl⟩
  case round =>
    obtain ⟨hx, k, hk, rfl⟩ := hrel
    by_cases hlt : k < n
    · obtain ⟨t, ht⟩ := some_of_lt HL.out hlt
      have htz := HSZ.out t (List.mem_of_getElem? ht)
      obtain ⟨b, off, rfl, -, hc0⟩ := HC.out k _ ht
      have hc0 := hx.cell hc0
      clear ht
      go_upto_region 4 with fail
      refine wp_region_order (fun w' => w'.cell? ⟨b, off + k, none⟩ = some (.string t)) [0, 1, 2, 3, 5, 6, 7, 8, 9, 10, 11, 12, 13, 15] [0, 1, 2, 3, 4, 5, 6, 7, 8, 9, 10, 11, 12, 13, 14, 15] (by kernel_rfl) (by kernel_rfl) (fun d _ _ _ _ h => by cases d <;> exact h) (by kernel_rfl) ?_
      have hS : (fun (w' : World) => w'.cell? ⟨b, off + k, none⟩ = some (.string t)) wr.drew := (ext_drew (ext_refl wr)).cell hc0
      iterate 4 (apply ord_held rfl rfl (by assumption) rfl; (focus ((intro w' hS'); go_simp; (try with_reducible rfl))); (try simp only [Act.put, List.setIfInBounds_toArray, List.set_cons_zero, List.set_cons_succ]))
      (apply ord_loud rfl rfl rfl; intro K hK; go_simp)
      refine (field_any t htz _).mono ?_
      rintro r w2 ⟨bb, rfl, -, hx2⟩
      have hx3 : Ext wr w2 := ext_trans (ext_drew (ext_refl wr)) hx2
      have hS2 : (fun (w' : World) => w'.cell? ⟨b, off + k, none⟩ = some (.string t)) w2 := hx3.cell hc0
      refine hK _ _ (fun _ => hS2) ?_
      clear hK K hS
      (try simp only [Act.put, List.setIfInBounds_toArray, List.set_cons_zero, List.set_cons_succ])
      iterate 2 (apply ord_held rfl rfl (by assumption) rfl; (focus ((intro w' hS'); go_simp; (try with_reducible rfl))); (try simp only [Act.put, List.setIfInBounds_toArray, List.set_cons_zero, List.set_cons_succ]))
      cases bb with
      | false =>
        simp only [Bool.not_false]
        iterate 7 (apply ord_pass rfl rfl (by assumption) rfl; (try simp only [Act.put, List.setIfInBounds_toArray, List.set_cons_zero, List.set_cons_succ]))
        apply ord_skip rfl rfl (by assumption) rfl
        (try simp only [Act.put, List.setIfInBounds_toArray, List.set_cons_zero, List.set_cons_succ])
        (apply ord_held rfl rfl (by assumption) rfl; (focus ((intro w' hS'); go_simp; (try with_reducible rfl))); (try simp only [Act.put, List.setIfInBounds_toArray, List.set_cons_zero, List.set_cons_succ]))
        refine ord_end ?_
        go_wp2_with fail
        go_ret
        exact ⟨false, rfl, by simp, ext_trans hx hx3⟩
      | true =>
        simp only [Bool.not_true]
        iterate 2 (apply ord_guard rfl rfl (by assumption) rfl; (focus ((intro w' hS'); go_simp; (try with_reducible rfl))); (try simp only [Act.put, List.setIfInBounds_toArray, List.set_cons_zero, List.set_cons_succ]))
        refine ord_guard (v := .slice (some ⟨b, off, none⟩) k c) rfl rfl hS2 rfl ?_ ?_
        · intro w' hS'
          go_simp
          exact fun h9 => absurd h9 (by omega)
        (try simp only [Act.put, List.setIfInBounds_toArray, List.set_cons_zero, List.set_cons_succ])
        iterate 4 (apply ord_guard rfl rfl (by assumption) rfl; (focus ((intro w' hS'); go_simp; (try with_reducible rfl))); (try simp only [Act.put, List.setIfInBounds_toArray, List.set_cons_zero, List.set_cons_succ]))
        (apply ord_want rfl rfl rfl; intro K hK; go_simp)
        refine (HH.out k hk t _ (ext_trans hx hx3)).mono ?_
        rintro r w3 ⟨rfl, rfl⟩
        refine hK _ _ (fun _ => hS2) ?_
        clear hK K
        (try simp only [Act.put, List.setIfInBounds_toArray, List.set_cons_zero, List.set_cons_succ])
        (apply ord_held rfl rfl (by assumption) rfl; (focus ((intro w' hS'); go_simp; (try with_reducible rfl))); (try simp only [Act.put, List.setIfInBounds_toArray, List.set_cons_zero, List.set_cons_succ]))
        refine ord_end ?_
        cases hasS (ss.take k) t
        · go_wp2_with fail
          go_roundw
          case rel => exact ⟨ext_trans hx hx3, k + 1, by omega, by go_num⟩
          case measure => simp [intOf]; omega
        · go_wp2_with fail
          go_ret
          exact ⟨false, rfl, by simp, ext_trans hx hx3⟩
    · go_wp2_with fail
      go_ret
      exact ⟨true, rfl, by simp, by (repeat (first | exact ext_refl _ | assumption | refine ext_alloc ?_ _ | refine ext_drew ?_ | refine ext_set ?_ (by simp) _ | refine ext_trans ?_ (by assumption)))⟩
end Go.Proofs.Ytfngaoicoecncaa

namespace Go.Proofs.Ytfngaoicoecncaa
open Go.ChangeShapes Go.WideShapes Go.ChangeAt Go.RowKit

section
variable {H : Type} {enc : TypeId × Value → H} {w : World} {base : Nat} {spare : Nat → Bool} {held : Bool}
theorem cells_item : Try.prog.cellsOf 76 = 2 := by kernel_rfl
set_option maxRecDepth 20000 in
theorem item_of {fuel : Nat} {cs : List Value} {x : DataW H × List MemPlace} (h : DataW.trod enc Try.prog w base spare held fuel 76 cs = some x) :
    ∃ s t : ByteArray, cs = [.string s, .string t] := by
  obtain ⟨xs, n, rfl, -, hcl, hxl, hf⟩ := DataW.trod_struct Try.underlying76 h
  rw [cells_item] at hcl
  match cs, hcl with
  | [c0, c1], _ =>
    match xs, hxl with
    | [x0, x1], _ =>
      have f0 : DataW.trod enc Try.prog w base spare held n 9 (List.take (Try.prog.cellsOf 9) (List.drop 0 [c0, c1])) = some x0 := hf 0 _ rfl
      rw [cells_string] at f0
      have f0 : DataW.trod enc Try.prog w base spare held n 9 [c0] = some x0 := f0
      have f1 : DataW.trod enc Try.prog w base spare held n 9 (List.take (Try.prog.cellsOf 9) (List.drop 1 [c0, c1])) = some x1 := hf 1 _ rfl
      rw [cells_string] at f1
      have f1 : DataW.trod enc Try.prog w base spare held n 9 [c1] = some x1 := f1
      obtain ⟨s, e0, -, -⟩ := DataW.trod_string Try.underlying9 f0
      obtain ⟨t, e1, -, -⟩ := DataW.trod_string Try.underlying9 f1
      cases e0
      cases e1
      exact ⟨s, t, rfl⟩
set_option maxRecDepth 20000 in
theorem items_of {fuel : Nat} {cs : List Value} {x : DataW H × List MemPlace} (h : DataW.trod enc Try.prog w base spare held fuel 36 cs = some x) :
    ∃ a n c its, cs = [.slice a n c] ∧ ItemsIn (fun _ => True) w a n c its := by
  rcases DataW.trod_slice Try.underlying36 h with ⟨rfl, -⟩ | ⟨a, len, cap, elems, rest, n', -, rfl, -, -, hl, hm, hlen, hel, -, -⟩
  · exact ⟨none, 0, 0, [], rfl, rfl, Nat.le_refl _, by simp [maxLen], fun _ _ h => by simp at h⟩
  · rw [cells_item] at hel
    obtain ⟨Z, h1, h2⟩ := choose_list (fun i (z : ByteArray × ByteArray) => w.cell? (a.add (i * 2)) = some (.string z.1) ∧ w.cell? (a.add (i * 2 + 1)) = some (.string z.2)) len fun i hi => by
      have h1 := hel i hi
      obtain ⟨q, hq⟩ := some_of_lt hlen hi
      rw [hq, Option.bind_eq_some_iff] at h1
      obtain ⟨cs', hc, ht⟩ := h1
      obtain ⟨-, -, hat⟩ := World.cells?_some hc
      obtain ⟨s, t, rfl⟩ := item_of ht
      refine ⟨(s, t), ?_, ?_⟩
      · have := hat 0 (by omega)
        simpa [Addr.add_add] using this
      · have := hat 1 (by omega)
        simpa [Addr.add_add] using this
    refine ⟨some a, len, cap, Z, rfl, h1, hl, hm, fun i p hi => ?_⟩
    obtain ⟨hs, ht⟩ := h2 i p hi
    have h0 : a = ⟨a.block, a.off, none⟩ := by
      obtain ⟨z0, hz0⟩ := some_of_lt h1 (show 0 < len by have := (List.getElem?_eq_some_iff.1 hi).1; omega)
      have := (h2 0 z0 hz0).1
      exact spot_none (by simpa [Addr.add] using this)
    rw [h0] at hs ht
    simp only [Addr.add_lit] at hs ht
    exact ⟨a.block, a.off, by rw [← h0], trivial, hs, by rw [show a.off + i * 2 + 1 = a.off + (i * 2 + 1) by omega]; exact ht⟩
end
end Go.Proofs.Ytfngaoicoecncaa

namespace Go.Proofs.Ytfngaoicoecncaa
open Go.RowKit

theorem OwnEls.low {w : World} {base base' : Nat} {v : Value} {es : List El} (h : OwnEls w base v es) (hb : base' ≤ base) : OwnEls w base' v es := by
  obtain ⟨h1, h2⟩ := id h
  refine ⟨h1, ?_⟩
  rcases h2 with h2 | ⟨g, cap, cur, rfl, hg, h3⟩
  · exact .inl h2
  · exact .inr ⟨g, cap, cur, rfl, by omega, h3⟩
/-- Trees, one for each. -/
def Ts (S : Nat → Prop) (w : World) (es : List El) (ts : List T) : Prop := ts.length = es.length ∧ ∀ (i : Nat) (e : El) (t : T), es[i]? = some e → ts[i]? = some t → TreeAt S w e t
theorem Ts.keep {S S' : Nat → Prop} {w w' : World} {es : List El} {ts : List T} (h : Ts S w es ts) (hS : ∀ b, S b → b < w.heap.size → S' b) (k : Keeps S w w') : Ts S' w' es ts := ⟨h.1, fun i e t h1 h2 => TreeAt.keep hS k _ (h.2 i e t h1 h2)⟩
theorem Ts.ext {S : Nat → Prop} {w w' : World} {es : List El} {ts : List T} (h : Ts S w es ts) (x : Ext w w') : Ts S w' es ts := h.keep (fun _ h _ => h) (x.keeps S)
theorem Ts.to {S S' : Nat → Prop} {w : World} {es : List El} {ts : List T} (h : Ts S w es ts) (hS : ∀ b, S b → b < w.heap.size → S' b) : Ts S' w es ts := h.keep hS (fun _ _ _ => rfl)
theorem Ts.snoc {S : Nat → Prop} {w : World} {es : List El} {ts : List T} (h : Ts S w es ts) {e : El} {t : T} (k : TreeAt S w e t) : Ts S w (es ++ [e]) (ts ++ [t]) := by
  refine ⟨by simp [h.1], fun i u q hu hq => ?_⟩
  by_cases hi : i < es.length
  · rw [List.getElem?_append_left hi] at hu
    rw [List.getElem?_append_left (by rw [h.1]; exact hi)] at hq
    exact h.2 i u q hu hq
  · rw [List.getElem?_append_right (by omega)] at hu
    rw [List.getElem?_append_right (by rw [h.1]; omega), h.1] at hq
    cases hd : i - es.length with
    | zero =>
      rw [hd] at hu hq
      simp at hu hq
      subst hu hq
      exact k
    | succ m =>
      rw [hd] at hu
      simp at hu
set_option maxHeartbeats 2000000 in
theorem texts_made {S : Nat → Prop} (l : List ByteArray) (a : Option Addr) (n c : Nat) (w : World) (hb : l.length ≤ 4294967296) (hs : StrsAt S w a n c l) :
    Calls Try.prog 79 #[.slice a n c] w fun r w' => ∃ (ca : Option Addr) (cn cc : Nat), r = .returned (⟨4, ⟨#[]⟩, 0, false, none, 0, 0, ca, cn, cc⟩ : El).val ∧ ∃ es : List El, OwnEls w' w.heap.size (.slice ca cn cc) es ∧ Kin w' w.heap.size (.slice ca cn cc) es (l.map textT) ∧ Ext w w' := by
  have hs := hs.keep (S' := fun b => b < w.heap.size) (fun b _ h2 => h2) (fun _ _ _ => rfl)
  obtain ⟨hn, hc, hm, hv⟩ := hs
  unfold maxLen at hm
  have HN := Lib.hid hn
  clear hn
  go_enter Try.func79, Try.ntmps79
  go_wp2_with (go_at_call 77; refine (list_exact none 0 0 _).mono ?_; rintro r wL ⟨rfl, hxL⟩; simp only [El.val])
  have hwL : w.heap.size + 1 ≤ wL.heap.size := by
    have h1 := hxL.sz
    simp at h1
    exact h1
  have hbL : Box wL w.heap.size (El.arr El0) 30 := (Box.at rfl _ _ : Box (w.alloc (.cells (El.arr El0) 30)) w.heap.size (El.arr El0) 30).ext hxL
  go_loopw [4] (fun i wr => Ext w wr ∧ Box wr w.heap.size (El.arr El0) 30 ∧ ∃ (j : Nat) (es : List El) (ca : Option Addr) (cn cc : Nat), j ≤ n ∧ i = .int .i64 j ∧ es.length = j ∧
    Making wr (wL.heap.size + 1) (wL.heap.size) 4 [] es none 0 0 ca cn cc ∧ Kin wr (wL.heap.size + 1) (.slice ca cn cc) es ((l.map textT).take j)) (fun i _ => n - (intOf i).toNat)
  case atStart =>
    exact ⟨ext_alloc (ext_trans (ext_alloc (ext_refl _) _) hxL) _, hbL.alloc _, 0, [], none, 0, 0, Nat.zero_le _, rfl, rfl, ⟨Box.at (by simp) _ _, World.ownsRow_nil _ _ _ _, World.ownsRow_nil _ _ _ _, by omega, fun _ h => by cases h⟩, Kin.nil _ _ _⟩
  case round =>
    obtain ⟨hx, hb1, j, es, ca, cn, cc, hj, rfl, hes, M, HK⟩ := hrel
    have HES := Lib.hid hes
    have HK := Lib.hid HK
    clear hes
    by_cases hlt : j < n
    · obtain ⟨q, hq⟩ := some_of_lt HN.out hlt
      obtain ⟨b, off, rfl, hSb, hcell⟩ := hv j q hq
      have hcell := hx.cell hcell
      have hqm : (l.map textT)[j]? = some (treeJ (.str q)) := by rw [List.getElem?_map, hq]; rfl
      have HQ := Lib.hid hqm
      clear hq hqm
      go_upto_region 5 with fail
      obtain ⟨o0, o1, o2, o3, o4, o5⟩ := M.box.six
      refine wp_region_order (C2 ⟨wL.heap.size, 5, none⟩ (.slice ca cn cc) ⟨b, off + j, none⟩ (.string q)) [0, 1, 2, 3, 4, 5, 9] [0, 1, 2, 3, 4, 5, 6, 7, 8, 9, 10] (by kernel_rfl) (by kernel_rfl) (fun d _ _ _ _ h => by cases d <;> exact h) (by kernel_rfl) ?_
      have hS : C2 ⟨wL.heap.size, 5, none⟩ (.slice ca cn cc) ⟨b, off + j, none⟩ (.string q) wr.drew := ⟨o5, hcell⟩
      iterate 6 (apply ord_held rfl rfl (by assumption) rfl; (focus ((intro w' hS'); go_simp; (try with_reducible rfl))); (try simp only [Act.put, List.setIfInBounds_toArray, List.set_cons_zero, List.set_cons_succ]))
      (apply ord_loud rfl rfl rfl; intro K hK; go_simp)
      have x0 : Ext wr wr.drew := ext_drew (ext_refl _)
      refine (text_any q _).mono ?_
      rintro r w2 ⟨e2, rfl, hT2', hx2⟩
      have hT2 := hT2' (fun b => wr.heap.size ≤ b)
      have x2 : Ext wr w2 := ext_trans x0 hx2
      refine hK _ _ (fun _ => ⟨x2.cell o5, x2.cell hcell⟩) ?_
      clear hK K
      simp only [El.val]
      (try simp only [Act.put, List.setIfInBounds_toArray, List.set_cons_zero, List.set_cons_succ])
      have x3 : Ext wr (w2.alloc (.cells #[.int .i64 e2.k, .string e2.x, .float .f64 e2.d, .bool e2.y, .slice e2.ka e2.n e2.kc, .slice e2.ca e2.m e2.cc] 30)) := ext_alloc x2 _
      have hbz : Box (w2.alloc (.cells #[.int .i64 e2.k, .string e2.x, .float .f64 e2.d, .bool e2.y, .slice e2.ka e2.n e2.kc, .slice e2.ca e2.m e2.cc] 30)) w2.heap.size e2.arr 30 := Box.new _ _ _
      have hT3 := hT2.ext (ext_alloc (ext_refl w2) (.cells #[.int .i64 e2.k, .string e2.x, .float .f64 e2.d, .bool e2.y, .slice e2.ka e2.n e2.kc, .slice e2.ca e2.m e2.cc] 30))
      (apply ord_loud rfl rfl rfl; intro K hK; go_simp)
      refine hK _ _ (fun _ => ⟨x3.cell o5, x3.cell hcell⟩) ?_
      clear hK K
      have M1 := M.ext x3
      have hMlt := M.box.lt
      have hs2 := x2.sz
      have hbd : ∀ q, (Value.slice ca cn cc).ownBlock = some q → q < wr.heap.size := fun q h => (M.kids.block h).2
      apply ord_loud rfl rfl rfl
      intro K hK
      refine wp_append_tree _ _ _ rfl (wL.heap.size + 1) _ es rfl M1.kids w2.heap.size e2 rfl (boxCells hbz) (by have := HES.out; have := HN.out; omega) (by simp; omega) ?_
      intro g1 cap1 w4 hown hgrow hlies hglt
      have hS : C1 ⟨wL.heap.size, 5, none⟩ (.slice ca cn cc) w4 := hgrow.cell (x3.cell o5) (fun e => absurd (M1.kids.block e.symm).1 (by simp))
      have hS2 : w4.cell? ⟨b, off + j, none⟩ = some (.string q) := hgrow.cell (x3.cell hcell) (fun e => by have h1 := (M1.kids.block e.symm).1; simp at h1; have h2 := hSb; omega)
      have q5 := (M1.boxMid' hgrow).free 5
      refine hK _ _ (fun _ => ⟨hS, hS2⟩) ?_
      clear hK K
      (try simp only [Act.put, List.setIfInBounds_toArray, List.set_cons_zero, List.set_cons_succ])
      have o5 := hS
      have hSS : C2 ⟨wL.heap.size, 5, none⟩ (.slice ca cn cc) ⟨b, off + j, none⟩ (.string q) w4 := ⟨hS, hS2⟩
      (apply ord_held rfl rfl (by assumption) rfl; (focus ((intro w' hS'); go_simp; (try with_reducible rfl))); (try simp only [Act.put, List.setIfInBounds_toArray, List.set_cons_zero, List.set_cons_succ]))
      (apply ord_last rfl rfl rfl (by kernel_rfl); intro K hK; go_simp; refine hK _ _ ?_; clear hK K; (try simp only [Act.put, List.setIfInBounds_toArray, List.set_cons_zero, List.set_cons_succ]))
      refine ord_end ?_
      have M2 := M1.kid hown hgrow hlies
      have hb2 := M1.boxKid (hb1.ext x3) (by omega) (by omega) hgrow 5 (.slice (some ⟨g1, 0, none⟩) (es.length + 1) cap1)
      have x4 := M1.extKid (ext_trans hx x3) (by omega) hgrow 5 (.slice (some ⟨g1, 0, none⟩) (es.length + 1) cap1)
      have HK2 := Lib.hid ((HK.out.ext x3).step (hT3.to fun b h1 h2 => ⟨Nat.le_trans (show wL.heap.size + 1 ≤ wr.heap.size by omega) h1, fun e => absurd (hbd b e) (Nat.not_lt.2 h1)⟩) hgrow hlies (by omega : wL.heap.size < wL.heap.size + 1) 5 (.slice (some ⟨g1, 0, none⟩) (es.length + 1) cap1) (es.length + 1) cap1)
      clear hown hgrow hlies hglt hS q5 M1 M o0 o1 o2 o3 o4 o5 hT2 hT3 hbz HK
      generalize w4.setCell ⟨wL.heap.size, 5, none⟩ (.slice (some ⟨g1, 0, none⟩) (es.length + 1) cap1) = w5 at M2 hb2 x4 HK2 ⊢
      go_wp2_with fail
      go_roundw
      case rel => exact ⟨x4, hb2, j + 1, es ++ [e2], _, _, _, by omega, by go_num, by simp [HES.out], M2, by rw [take_snoc HQ.out]; exact HK2.out⟩
      case measure => simp [intOf]; omega
    · obtain ⟨o0, o1, o2, o3, o4, o5⟩ := M.box.six
      obtain ⟨r0, r1, r2, r3, r4, r5⟩ := hb1.six
      have e0 := hb1.free 0
      have e1 := hb1.free 1
      have e2 := hb1.free 2
      have e3 := hb1.free 3
      have e4 := hb1.free 4
      have e5 := hb1.free 5
      have hMlt := M.box.lt
      go_wp2_with fail
      have M6 := M.sto6 (b := w.heap.size) (by omega) (by omega) (.int .i64 4) (.string ⟨#[]⟩) (.float .f64 0) (.bool false) (.slice none 0 0) (.slice ca cn cc)
      refine post_tree rfl rfl (hb1.sto ⟨4, ⟨#[]⟩, 0, false, none, 0, 0, ca, cn, cc⟩) rfl ⟨ca, cn, cc, rfl, es, ?_, ?_, ext_sto6 hx (by omega) _ _ _ _ _ _⟩
      · exact OwnEls.low M6.kids (by omega)
      · have hfull : (l.map textT).take j = l.map textT := List.take_of_length_le (by rw [List.length_map]; have := HN.out; omega)
        have hK := HK.out
        rw [hfull] at hK
        refine ⟨hK.1, fun i e t h1 h2 => ?_⟩
        exact TreeAt.keep (S := fun b => wL.heap.size + 1 ≤ b ∧ (Value.slice ca cn cc).ownBlock ≠ some b) (fun b hb _ => ⟨by have := hb.1; omega, hb.2⟩) (keeps_grown (grown_sto6 _ _ _ _ _ _ _ _) (fun b hb e => by injection e with e; have := hb.1; omega)) _ (hK.2 i e t h1 h2)
end Go.Proofs.Ytfngaoicoecncaa

namespace Go.Proofs.Ytfngaoicoecncaa
open Go.RowKit

abbrev sMoreLikeThis : ByteArray := ⟨#[77, 111, 114, 101, 76, 105, 107, 101, 84, 104, 105, 115]⟩
abbrev tMoreLikeThis : ByteArray := ⟨#[97, 110, 97, 108, 121, 122, 101, 114, 32, 116, 44, 98, 111, 111, 115, 116, 32, 110, 44, 98, 111, 111, 115, 116, 95, 116, 101, 114, 109, 115, 32, 110, 44, 102, 97, 105, 108, 95, 111, 110, 95, 117, 110, 115, 117, 112, 112, 111, 114, 116, 101, 100, 95, 102, 105, 101, 108, 100, 32, 98, 44, 105, 110, 99, 108, 117, 100, 101, 32, 98, 44, 109, 97, 120, 95, 100, 111, 99, 95, 102, 114, 101, 113, 32, 119, 44, 109, 97, 120, 95, 113, 117, 101, 114, 121, 95, 116, 101, 114, 109, 115, 32, 119, 44, 109, 97, 120, 95, 119, 111, 114, 100, 95, 108, 101, 110, 103, 116, 104, 32, 119, 44, 109, 105, 110, 95, 100, 111, 99, 95, 102, 114, 101, 113, 32, 119, 44, 109, 105, 110, 95, 116, 101, 114, 109, 95, 102, 114, 101, 113, 32, 119, 44, 109, 105, 110, 95, 119, 111, 114, 100, 95, 108, 101, 110, 103, 116, 104, 32, 119, 44, 109, 105, 110, 105, 109, 117, 109, 95, 115, 104, 111, 117, 108, 100, 95, 109, 97, 116, 99, 104, 32, 116, 44, 95, 110, 97, 109, 101, 32, 116]⟩
abbrev rMoreLikeThis : List (ByteArray × ByteArray) := [(s_analyzer, ⟨#[116]⟩), (s_boost, ⟨#[110]⟩), (s_boost_terms, ⟨#[110]⟩), (s_fail_on_unsupported_field, ⟨#[98]⟩), (s_include, ⟨#[98]⟩), (s_max_doc_freq, ⟨#[119]⟩), (s_max_query_terms, ⟨#[119]⟩), (s_max_word_length, ⟨#[119]⟩), (s_min_doc_freq, ⟨#[119]⟩), (s_min_term_freq, ⟨#[119]⟩), (s_min_word_length, ⟨#[119]⟩), (s_minimum_should_match, ⟨#[116]⟩), (s_name, ⟨#[116]⟩)]
set_option maxHeartbeats 2000000 in
theorem table_moreLikeThis (w : World) : Calls Try.prog 94 #[.string sMoreLikeThis] w fun r w' => r = .returned (.string tMoreLikeThis) ∧ w' = w := by
  go_enter Try.func94, Try.ntmps94
  go_wp2
  go_ret
  exact ⟨rfl, rfl⟩
set_option maxRecDepth 20000 in
theorem rows_moreLikeThis (w : World) : Calls Try.prog 85 #[.string sMoreLikeThis] w fun r w' => ∃ v, r = .returned v ∧ Own2 w' w.heap.size v rMoreLikeThis ∧ Ext w w' :=
  rows_any sMoreLikeThis tMoreLikeThis w table_moreLikeThis 15 (by decide) (by decide)
def itemT (p : ByteArray × ByteArray) : T := mapT [(sU_index, textT p.1), (sU_id, textT p.2)]
def optT (k : ByteArray) (l : List ByteArray) : List (ByteArray × T) := if l.isEmpty then [] else [(k, listT (l.map textT))]
abbrev likeT (ls : List ByteArray) (its : List (ByteArray × ByteArray)) : T := listT (ls.map textT ++ its.map itemT)
abbrev listsN (fs xs st : List ByteArray) : List (ByteArray × List ByteArray) := [(s_fields, fs), (s_unlike, xs), (s_stop_words, st)]
def optsL (fs xs st : List ByteArray) : List (ByteArray × T) := (listsN fs xs st).flatMap fun p => optT p.1 p.2
theorem pk_none {S S' : Nat → Prop} {w w' : World} {es : List (ByteArray × El)} {ps : List (ByteArray × T)} (h : Pk S w es ps) (hs : ∀ p ∈ ps, scalarT p.2 = true) : Pk S' w' es ps :=
  (pk_looseG (S' := fun _ => False) h hs).keep (fun _ h _ => h.elim) (fun _ h _ => h.elim)
theorem pairs_two {S : Nat → Prop} {w : World} {b : Nat} {k l : ByteArray} {g e : El} {t u : T} (hb : Box w b #[.string k, .int .i64 g.k, .string g.x, .float .f64 g.d, .bool g.y, .slice g.ka g.n g.kc, .slice g.ca g.m g.cc, .string l, .int .i64 e.k, .string e.x, .float .f64 e.d, .bool e.y, .slice e.ka e.n e.kc, .slice e.ca e.m e.cc] 69) (hS : S b) (ht : TreeAt S w g t) (hu : TreeAt S w e u) : PairsAt S w (some ⟨b, 0, none⟩) 2 2 [(k, t), (l, u)] :=
  ⟨rfl, Nat.le_refl _, by simp [maxLen], fun i p hp => by
    match i, hp with
    | 0, hp => simp at hp; subst hp; exact ⟨b, 0, g, rfl, hS, ⟨hb.cell 0 _ rfl, hb.cell 1 _ rfl, hb.cell 2 _ rfl, hb.cell 3 _ rfl, hb.cell 4 _ rfl, hb.cell 5 _ rfl, hb.cell 6 _ rfl⟩, ht⟩
    | 1, hp => simp at hp; subst hp; exact ⟨b, 0, e, rfl, hS, ⟨hb.cell 7 _ rfl, hb.cell 8 _ rfl, hb.cell 9 _ rfl, hb.cell 10 _ rfl, hb.cell 11 _ rfl, hb.cell 12 _ rfl, hb.cell 13 _ rfl⟩, hu⟩
    | i + 2, hp => simp at hp⟩
set_option maxRecDepth 20000 in
set_option maxHeartbeats 8000000 in
theorem mltS_any {S : Nat → Prop} (a0 : Option Addr) (n0 c0 : Nat) (fs : List ByteArray) (a1 : Option Addr) (n1 c1 : Nat) (ls : List ByteArray) (a2 : Option Addr) (n2 c2 : Nat) (xs : List ByteArray) (a3 : Option Addr) (n3 c3 : Nat) (st : List ByteArray) (a4 : Option Addr) (n4 c4 : Nat) (its : List (ByteArray × ByteArray)) (a : Option Addr) (n c : Nat) (ps : List (ByteArray × T)) (w : World)
    (hF : StrsAt S w a0 n0 c0 fs) (hFb : n0 ≤ 2147483647) (hA : StrsAt S w a1 n1 c1 ls) (hAb : n1 ≤ 2147483647) (hU : StrsAt S w a2 n2 c2 xs) (hUb : n2 ≤ 2147483647) (hW : StrsAt S w a3 n3 c3 st) (hWb : n3 ≤ 2147483647) (hI : ItemsIn S w a4 n4 c4 its) (hIb : n4 ≤ 2147483647) (h : PairsAt S w a n c ps) (hSc : ∀ p ∈ paramsL rMoreLikeThis ps, scalarT p.2 = true) :
    Calls Try.prog 19 #[.slice a0 n0 c0, .slice a1 n1 c1, .slice a2 n2 c2, .slice a3 n3 c3, .slice a4 n4 c4, .slice a n c] w fun r w' => ∃ g : El, r = .returned g.val ∧ TreeAt (fun _ => True) w' g (mapT [(s_more_like_this, mapT (paramsL rMoreLikeThis ps ++ (s_like, likeT ls its) :: optsL fs xs st))]) ∧ Ext w w' := by
  have hx0 : Ext w (w.alloc (.cells (El.arr El0) 30)) := ext_alloc (ext_refl _) _
  have hb0 : Box (w.alloc (.cells (El.arr El0) 30)) w.heap.size (El.arr El0) 30 := Box.at rfl _ _
  have hs0 : (w.alloc (.cells (El.arr El0) 30)).heap.size = w.heap.size + 1 := by simp
  have hPa := Lib.hid (params_any sMoreLikeThis tMoreLikeThis a n c ps _ table_moreLikeThis 15 (by decide) (by decide) rMoreLikeThis (by decide) (by decide) (h.ext hx0))
  have HPL := Lib.hid (params_len rMoreLikeThis ps)
  have HSC := Lib.hid hSc
  have hlF := hF.1
  have hlA := hA.1
  have hlU := hU.1
  have hlW := hW.1
  have HF := Lib.hid (fun (w' : World) (x : Ext w w') => hF.ext x)
  have HA := Lib.hid (fun (w' : World) (x : Ext w w') => hA.ext x)
  have HU := Lib.hid (fun (w' : World) (x : Ext w w') => hU.ext x)
  have HWs := Lib.hid (fun (w' : World) (x : Ext w w') => hW.ext x)
  have HLI := Lib.hid hI.1
  have hI := hI.keep (S' := fun q => q < w.heap.size) (fun _ _ hl => hl) (fun _ _ _ => rfl)
  have HIC := Lib.hid hI.2.2.2
  clear hF hA hU hW hI h hSc
  go_enter Try.func19, Try.ntmps19
  go_wp2_with (first
    | (go_at_call 78; refine hPa.out.mono ?_; rintro r w2 ⟨pv, es0, rfl, hO0, hPk0, hx1⟩
       have hx2 := ext_trans hx0 hx1
       have hs1 := hx1.sz
       rw [hs0] at hs1 hO0
       have hl0 : es0.length ≤ 13 := by have h1 := hPk0.1; have h2 := HPL.out; simp only [List.length_cons, List.length_nil] at h2; omega
       have HPk0 := Lib.hid (fun (S' : Nat → Prop) (w' : World) => pk_none (S' := S') (w' := w') hPk0 HSC.out)
       clear hPk0)
    | (go_at_call 79; refine (texts_made ls a1 n1 c1 w2 (by omega) (HA.out w2 hx2)).mono ?_; rintro r w3 ⟨ca, cn, cc, rfl, es1, hOk, hKin, hx3⟩; simp only [El.val])
    | fail)
  have hpb : ∀ q, pv.ownBlock = some q → w.heap.size + 1 ≤ q ∧ q < w2.heap.size := fun q hq => World.ownsRow.lt hO0 q hq
  have hs3 := hx3.sz
  have hxa : Ext w3 (w3.alloc (.cells #[.int .i64 4, .string ⟨#[]⟩, .float .f64 0, .bool false, .slice none 0 0, .slice ca cn cc] 30)) := ext_alloc (ext_refl _) _
  have hx4 : Ext w (w3.alloc (.cells #[.int .i64 4, .string ⟨#[]⟩, .float .f64 0, .bool false, .slice none 0 0, .slice ca cn cc] 30)) := ext_trans (ext_trans hx2 hx3) hxa
  have hbR4 := ((hb0.ext hx1).ext hx3).ext hxa
  have hbl4 : Box (w3.alloc (.cells #[.int .i64 4, .string ⟨#[]⟩, .float .f64 0, .bool false, .slice none 0 0, .slice ca cn cc] 30)) w3.heap.size #[.int .i64 4, .string ⟨#[]⟩, .float .f64 0, .bool false, .slice none 0 0, .slice ca cn cc] 30 := Box.at rfl _ _
  have hO4 := (hO0.ext hx3).ext hxa
  have hcb : ∀ q, (Value.slice ca cn cc).ownBlock = some q → w2.heap.size ≤ q ∧ q < w3.heap.size := fun q hq => hOk.block hq
  have HOk := Lib.hid (hOk.ext hxa)
  have HTs := Lib.hid (Ts.ext (Ts.to (S := fun b => w2.heap.size ≤ b ∧ (Value.slice ca cn cc).ownBlock ≠ some b) (S' := fun b => w2.heap.size ≤ b ∧ b ≠ w3.heap.size ∧ (Value.slice ca cn cc).ownBlock ≠ some b) hKin (fun b hb hl => ⟨hb.1, by omega, hb.2⟩)) hxa)
  have hs4 : w3.heap.size + 1 ≤ (w3.alloc (.cells #[.int .i64 4, .string ⟨#[]⟩, .float .f64 0, .bool false, .slice none 0 0, .slice ca cn cc] 30)).heap.size := by simp
  clear hO0 hOk hKin hx1 hx3 hxa hPa
  generalize w3.alloc (.cells #[.int .i64 4, .string ⟨#[]⟩, .float .f64 0, .bool false, .slice none 0 0, .slice ca cn cc] 30) = w4 at hx4 hbR4 hbl4 hO4 HOk HTs hs4 ⊢
  go_loopw [15] (fun i wr => Ext w wr ∧ w3.heap.size + 1 ≤ wr.heap.size ∧ Box wr w.heap.size (El.arr El0) 30 ∧ OwnPairs wr (w.heap.size + 1) pv es0 ∧ ∃ (j : Nat) (es : List El) (ca : Option Addr) (cn cc : Nat), j ≤ n4 ∧ i = .int .i64 j ∧ Box wr w3.heap.size #[.int .i64 4, .string ⟨#[]⟩, .float .f64 0, .bool false, .slice none 0 0, .slice ca cn cc] 30 ∧ OwnEls wr w2.heap.size (.slice ca cn cc) es ∧ (Value.slice ca cn cc).ownBlock ≠ some w3.heap.size ∧ es.length = n1 + j ∧ Ts (fun b => w2.heap.size ≤ b ∧ b ≠ w3.heap.size ∧ (Value.slice ca cn cc).ownBlock ≠ some b) wr es (ls.map textT ++ (its.take j).map itemT)) (fun i _ => n4 - (intOf i).toNat)
  case atStart =>
    exact ⟨hx4, hs4, hbR4, hO4, 0, es1, ca, cn, cc, Nat.zero_le _, rfl, hbl4, HOk.out, fun e => by have := hcb _ e; omega, by have := HTs.out.1; rw [List.length_map] at this; omega, by simpa using HTs.out⟩
  case round =>
    clear hcb HOk HTs hs4 hbR4 hbl4 hO4 hx4
    obtain ⟨hx, hsz, hbR, hO, j, es, ca, cn, cc, hj, rfl, hbl, hOk, hcl, hel, hTs⟩ := hrel
    have HO := Lib.hid hO
    have HOk := Lib.hid hOk
    have HTs := Lib.hid hTs
    have HEL := Lib.hid hel
    have hcb : ∀ q, (Value.slice ca cn cc).ownBlock = some q → w2.heap.size ≤ q ∧ q < wr.heap.size := fun q hq => hOk.block hq
    clear hO hOk hTs hel
    by_cases hlt : j < n4
    case pos =>
      obtain ⟨⟨it, dt⟩, hit⟩ := some_of_lt HLI.out hlt
      obtain ⟨tb, tof, rfl, htb, hc0, hc1⟩ := HIC.out j _ hit
      dsimp only at hc0 hc1 htb
      have hc0 := hx.cell hc0
      have hc1 := hx.cell hc1
      have HP := Lib.hid hit
      clear hit
      obtain ⟨o0, o1, o2, o3, o4, o5⟩ := hbl.six
      go_upto_region 6 with fail
      refine wp_region_order (fun (w' : World) => w'.cell? ⟨w3.heap.size, 5, none⟩ = some (.slice ca cn cc) ∧ w'.cell? ⟨tb, tof + j * 2, none⟩ = some (.string it) ∧ w'.cell? ⟨tb, tof + j * 2 + 1, none⟩ = some (.string dt)) [0, 1, 2, 3, 4, 5, 6, 8, 9, 10, 11, 12, 13, 15, 20] [0, 1, 2, 3, 4, 5, 6, 9, 10, 11, 12, 13, 7, 8, 14, 15, 16, 17, 18, 19, 20, 21] (by kernel_rfl) (by kernel_rfl) (fun d _ _ _ _ h => by cases d <;> exact h) (by kernel_rfl) ?_
      have hS : (fun (w' : World) => w'.cell? ⟨w3.heap.size, 5, none⟩ = some (.slice ca cn cc) ∧ w'.cell? ⟨tb, tof + j * 2, none⟩ = some (.string it) ∧ w'.cell? ⟨tb, tof + j * 2 + 1, none⟩ = some (.string dt)) wr.drew := ⟨(ext_drew (ext_refl wr)).cell o5, (ext_drew (ext_refl wr)).cell hc0, (ext_drew (ext_refl wr)).cell hc1⟩
      iterate 12 (apply ord_held rfl rfl (by assumption) rfl; (focus ((intro w' hS'); go_simp; (try with_reducible rfl))); (try simp only [Act.put, List.setIfInBounds_toArray, List.set_cons_zero, List.set_cons_succ]))
      (apply ord_loud rfl rfl rfl; intro K hK; go_simp)
      refine (text_any it _).mono ?_
      rintro r wa ⟨ga, rfl, hTa, hxa⟩
      have xa : Ext wr wa := ext_trans (ext_drew (ext_refl wr)) hxa
      have hS : (fun (w' : World) => w'.cell? ⟨w3.heap.size, 5, none⟩ = some (.slice ca cn cc) ∧ w'.cell? ⟨tb, tof + j * 2, none⟩ = some (.string it) ∧ w'.cell? ⟨tb, tof + j * 2 + 1, none⟩ = some (.string dt)) wa := ⟨xa.cell o5, xa.cell hc0, xa.cell hc1⟩
      refine hK _ _ (fun _ => hS) ?_
      clear hK K
      simp only [El.val]
      (try simp only [Act.put, List.setIfInBounds_toArray, List.set_cons_zero, List.set_cons_succ])
      (apply ord_held rfl rfl (by assumption) rfl; (focus ((intro w' hS'); go_simp; (try with_reducible rfl))); (try simp only [Act.put, List.setIfInBounds_toArray, List.set_cons_zero, List.set_cons_succ]))
      (apply ord_loud rfl rfl rfl; intro K hK; go_simp)
      refine (text_any dt _).mono ?_
      rintro r wb ⟨gb, rfl, hTb, hxb⟩
      have xb : Ext wr wb := ext_trans xa hxb
      have hS : (fun (w' : World) => w'.cell? ⟨w3.heap.size, 5, none⟩ = some (.slice ca cn cc) ∧ w'.cell? ⟨tb, tof + j * 2, none⟩ = some (.string it) ∧ w'.cell? ⟨tb, tof + j * 2 + 1, none⟩ = some (.string dt)) wb := ⟨xb.cell o5, xb.cell hc0, xb.cell hc1⟩
      refine hK _ _ (fun _ => hS) ?_
      clear hK K
      simp only [El.val]
      (try simp only [Act.put, List.setIfInBounds_toArray, List.set_cons_zero, List.set_cons_succ])
      (apply ord_held rfl rfl (by assumption) rfl; (focus ((intro w' hS'); go_simp; (try with_reducible rfl))); (try simp only [Act.put, List.setIfInBounds_toArray, List.set_cons_zero, List.set_cons_succ]))
      (apply ord_loud rfl rfl rfl; intro K hK; go_simp)
      have hbp : Box (wb.alloc (.cells #[.string sU_index, .int .i64 ga.k, .string ga.x, .float .f64 ga.d, .bool ga.y, .slice ga.ka ga.n ga.kc, .slice ga.ca ga.m ga.cc, .string sU_id, .int .i64 gb.k, .string gb.x, .float .f64 gb.d, .bool gb.y, .slice gb.ka gb.n gb.kc, .slice gb.ca gb.m gb.cc] 69)) wb.heap.size #[.string sU_index, .int .i64 ga.k, .string ga.x, .float .f64 ga.d, .bool ga.y, .slice ga.ka ga.n ga.kc, .slice ga.ca ga.m ga.cc, .string sU_id, .int .i64 gb.k, .string gb.x, .float .f64 gb.d, .bool gb.y, .slice gb.ka gb.n gb.kc, .slice gb.ca gb.m gb.cc] 69 := Box.at rfl _ _
      have xn0 : Ext wb (wb.alloc (.cells #[.string sU_index, .int .i64 ga.k, .string ga.x, .float .f64 ga.d, .bool ga.y, .slice ga.ka ga.n ga.kc, .slice ga.ca ga.m ga.cc, .string sU_id, .int .i64 gb.k, .string gb.x, .float .f64 gb.d, .bool gb.y, .slice gb.ka gb.n gb.kc, .slice gb.ca gb.m gb.cc] 69)) := ext_alloc (ext_refl _) _
      have xn : Ext wr (wb.alloc (.cells #[.string sU_index, .int .i64 ga.k, .string ga.x, .float .f64 ga.d, .bool ga.y, .slice ga.ka ga.n ga.kc, .slice ga.ca ga.m ga.cc, .string sU_id, .int .i64 gb.k, .string gb.x, .float .f64 gb.d, .bool gb.y, .slice gb.ka gb.n gb.kc, .slice gb.ca gb.m gb.cc] 69)) := ext_trans xb xn0
      have hPP := pairs_two (S := fun b => wr.heap.size ≤ b) hbp xb.sz ((hTa (fun b => wr.heap.size ≤ b)).ext (ext_trans hxb xn0)) ((hTb (fun b => wr.heap.size ≤ b)).ext xn0)
      have hS : (fun (w' : World) => w'.cell? ⟨w3.heap.size, 5, none⟩ = some (.slice ca cn cc) ∧ w'.cell? ⟨tb, tof + j * 2, none⟩ = some (.string it) ∧ w'.cell? ⟨tb, tof + j * 2 + 1, none⟩ = some (.string dt)) (wb.alloc (.cells #[.string sU_index, .int .i64 ga.k, .string ga.x, .float .f64 ga.d, .bool ga.y, .slice ga.ka ga.n ga.kc, .slice ga.ca ga.m ga.cc, .string sU_id, .int .i64 gb.k, .string gb.x, .float .f64 gb.d, .bool gb.y, .slice gb.ka gb.n gb.kc, .slice gb.ca gb.m gb.cc] 69)) := ⟨xn.cell o5, xn.cell hc0, xn.cell hc1⟩
      refine hK _ _ (fun _ => hS) ?_
      clear hK K hTa hTb hbp
      generalize wb.alloc (.cells #[.string sU_index, .int .i64 ga.k, .string ga.x, .float .f64 ga.d, .bool ga.y, .slice ga.ka ga.n ga.kc, .slice ga.ca ga.m ga.cc, .string sU_id, .int .i64 gb.k, .string gb.x, .float .f64 gb.d, .bool gb.y, .slice gb.ka gb.n gb.kc, .slice gb.ca gb.m gb.cc] 69) = wn at xn hPP hS ⊢
      (try simp only [Act.put, List.setIfInBounds_toArray, List.set_cons_zero, List.set_cons_succ])
      (apply ord_loud rfl rfl rfl; intro K hK; go_simp)
      refine (map_any _ _ _ _ wn hPP (by simp)).mono ?_
      rintro r wm ⟨gm, rfl, hTm, hxm⟩
      have xm : Ext wr wm := ext_trans xn hxm
      have hS : (fun (w' : World) => w'.cell? ⟨w3.heap.size, 5, none⟩ = some (.slice ca cn cc) ∧ w'.cell? ⟨tb, tof + j * 2, none⟩ = some (.string it) ∧ w'.cell? ⟨tb, tof + j * 2 + 1, none⟩ = some (.string dt)) wm := ⟨xm.cell o5, xm.cell hc0, xm.cell hc1⟩
      refine hK _ _ (fun _ => hS) ?_
      clear hK K hPP
      simp only [El.val]
      (try simp only [Act.put, List.setIfInBounds_toArray, List.set_cons_zero, List.set_cons_succ])
      have x3 : Ext wr (wm.alloc (.cells #[.int .i64 gm.k, .string gm.x, .float .f64 gm.d, .bool gm.y, .slice gm.ka gm.n gm.kc, .slice gm.ca gm.m gm.cc] 30)) := ext_alloc xm _
      have hbz : Box (wm.alloc (.cells #[.int .i64 gm.k, .string gm.x, .float .f64 gm.d, .bool gm.y, .slice gm.ka gm.n gm.kc, .slice gm.ca gm.m gm.cc] 30)) wm.heap.size gm.arr 30 := Box.new _ _ _
      have hsn := xn.sz
      have hT3 := (hTm.to (S' := fun b => wr.heap.size ≤ b) (fun b hb hl => by
        rcases hb with hb | hb
        · exact hb.1
        · omega)).ext (ext_alloc (ext_refl wm) (.cells #[.int .i64 gm.k, .string gm.x, .float .f64 gm.d, .bool gm.y, .slice gm.ka gm.n gm.kc, .slice gm.ca gm.m gm.cc] 30))
      (apply ord_loud rfl rfl rfl; intro K hK; go_simp)
      refine hK _ _ (fun _ => ⟨x3.cell o5, x3.cell hc0, x3.cell hc1⟩) ?_
      clear hK K hTm
      have hsx3 := x3.sz
      have hOk3 := HOk.out.ext x3
      apply ord_loud rfl rfl rfl
      intro K hK
      refine wp_append_tree _ _ _ rfl w2.heap.size (.slice ca cn cc) es rfl hOk3 wm.heap.size gm rfl (boxCells hbz) (by have := HEL.out; omega) (by omega) ?_
      intro g1 cap1 w5 hown hgrow hlies hglt
      have hS1 : w5.cell? ⟨w3.heap.size, 5, none⟩ = some (.slice ca cn cc) := hgrow.cell (x3.cell o5) (fun e => hcl e.symm)
      have hS2 : w5.cell? ⟨tb, tof + j * 2, none⟩ = some (.string it) := hgrow.cell (x3.cell hc0) (fun e => by have h1 := hcb _ e.symm; have h2 : tb < w.heap.size := htb; simp at h1; omega)
      have hS3 : w5.cell? ⟨tb, tof + j * 2 + 1, none⟩ = some (.string dt) := hgrow.cell (x3.cell hc1) (fun e => by have h1 := hcb _ e.symm; have h2 : tb < w.heap.size := htb; simp at h1; omega)
      have hbl5 := (hbl.ext x3).grown hgrow (fun e => hcl e.symm)
      have q5 := hbl5.free 5
      have hl5 := hbl5.lt
      refine hK _ _ (fun _ => ⟨hS1, hS2, hS3⟩) ?_
      clear hK K
      (try simp only [Act.put, List.setIfInBounds_toArray, List.set_cons_zero, List.set_cons_succ])
      have hS : (fun (w' : World) => w'.cell? ⟨w3.heap.size, 5, none⟩ = some (.slice ca cn cc) ∧ w'.cell? ⟨tb, tof + j * 2, none⟩ = some (.string it) ∧ w'.cell? ⟨tb, tof + j * 2 + 1, none⟩ = some (.string dt)) w5 := ⟨hS1, hS2, hS3⟩
      (apply ord_held rfl rfl (by assumption) rfl; (focus ((intro w' hS'); go_simp; (try with_reducible rfl))); (try simp only [Act.put, List.setIfInBounds_toArray, List.set_cons_zero, List.set_cons_succ]))
      have o5 := hS1
      (apply ord_last rfl rfl rfl (by kernel_rfl); intro K hK; go_simp; refine hK _ _ ?_; clear hK K; (try simp only [Act.put, List.setIfInBounds_toArray, List.set_cons_zero, List.set_cons_succ]))
      refine ord_end ?_
      have hg1 : g1 ≠ w3.heap.size := by
        rcases hlies with h | h
        · intro e
          subst e
          exact hcl h
        · omega
      have hg2 : (Value.slice ca cn cc).ownBlock = some g1 ∨ wr.heap.size ≤ g1 := by
        rcases hlies with h | h
        · exact .inl h
        · exact .inr (by omega)
      have hkI : Keeps (fun q => w2.heap.size ≤ q ∧ q ≠ w3.heap.size ∧ (Value.slice ca cn cc).ownBlock ≠ some q) (wm.alloc (.cells #[.int .i64 gm.k, .string gm.x, .float .f64 gm.d, .bool gm.y, .slice gm.ka gm.n gm.kc, .slice gm.ca gm.m gm.cc] 30)) (w5.setCell ⟨w3.heap.size, 5, none⟩ (.slice (some ⟨g1, 0, none⟩) (es.length + 1) cap1)) := fun q hq hlq => (Below.heap_setCell _ _ _ _ hq.2.1).trans (keeps_grown (S := fun q => (Value.slice ca cn cc).ownBlock ≠ some q) hgrow (fun q hq e => hq e.symm) q hq.2.2 hlq)
      have hTs5 := Lib.hid (((HTs.out.ext x3).snoc (hT3.to (S' := fun q => w2.heap.size ≤ q ∧ q ≠ w3.heap.size ∧ (Value.slice ca cn cc).ownBlock ≠ some q) (fun q (hq : wr.heap.size ≤ q) _ => ⟨by omega, by omega, fun e => by have := hcb _ e; omega⟩))).keep (S' := fun q => w2.heap.size ≤ q ∧ q ≠ w3.heap.size ∧ (Value.slice (some ⟨g1, 0, none⟩) (es.length + 1) cap1).ownBlock ≠ some q) (fun q hq hlq => ⟨hq.1, hq.2.1, fun e => by
        simp only [Value.ownBlock, Option.some.injEq] at e
        subst e
        rcases hlies with h | h
        · exact hq.2.2 h
        · omega⟩) hkI)
      have hpg : pv.ownBlock = none ∨ pv.ownBlock ≠ (Value.slice ca cn cc).ownBlock := by
        cases hpo : pv.ownBlock with
        | none => exact .inl rfl
        | some q =>
          refine .inr fun e => ?_
          have h1 := hpb q hpo
          have h2 := hcb q e.symm
          omega
      have hO5 := Lib.hid (((HO.out.ext x3).grown hgrow hpg).grown (grown_set w5 ⟨w3.heap.size, 5, none⟩ (.slice (some ⟨g1, 0, none⟩) (es.length + 1) cap1)) (.inr (fun e => by have := hpb _ e; simp at this; omega)))
      have hOk5 := Lib.hid (OwnEls.grown hown (grown_set w5 ⟨w3.heap.size, 5, none⟩ (.slice (some ⟨g1, 0, none⟩) (es.length + 1) cap1)) (.inr (by simp only [Value.ownBlock]; exact someNe hg1)))
      have hbR5 : Box (w5.setCell ⟨w3.heap.size, 5, none⟩ (.slice (some ⟨g1, 0, none⟩) (es.length + 1) cap1)) w.heap.size (El.arr El0) 30 := ((hbR.ext x3).grown hgrow (fun e => by have := hcb _ e.symm; omega)).other (by simp; omega) _
      have hx5 : Ext w (w5.setCell ⟨w3.heap.size, 5, none⟩ (.slice (some ⟨g1, 0, none⟩) (es.length + 1) cap1)) := ext_set (ext_grown (ext_trans hx x3) hgrow (fun q hq => by have := hcb q hq; omega)) (by simp; omega) _
      have hsz5 : w3.heap.size + 1 ≤ (w5.setCell ⟨w3.heap.size, 5, none⟩ (.slice (some ⟨g1, 0, none⟩) (es.length + 1) cap1)).heap.size := by
        have := hgrow.size
        simp
        omega
      have hbl6 := hbl5.set 5 (.slice (some ⟨g1, 0, none⟩) (es.length + 1) cap1)
      clear hkI hgrow hlies hown hOk3 hT3 hbz hS hS1 hS2 hS3 q5 hbl5 o0 o1 o2 o3 o4 o5
      go_wp2_with fail
      go_roundw
      case rel =>
        refine ⟨hx5, hsz5, hbR5, hO5.out, j + 1, es ++ [gm], _, _, _, by omega, by go_num, hbl6, by simpa using hOk5.out, by simp only [Value.ownBlock]; exact someNe hg1, by have := HEL.out; simp; omega, ?_⟩
        rw [take_snoc HP.out, List.map_append, ← List.append_assoc]
        exact hTs5.out
      case measure => simp [intOf]; omega
    case neg =>
      have hjn : j = n4 := by omega
      have hfull : its.take j = its := List.take_of_length_le (by have := HLI.out; omega)
      have hTs := HTs.out
      rw [hfull] at hTs
      obtain ⟨a', c', e2, hKids⟩ := HOk.out.kids (S := fun b => w2.heap.size ≤ b ∧ b ≠ w3.heap.size) hTs.1 (fun b hb => ⟨(hcb b hb).1, fun e => hcl (by rw [← e]; exact hb)⟩) (fun i e t h1 h2 => (hTs.2 i e t h1 h2).to (fun b hb _ => ⟨hb.1, hb.2.1⟩))
      simp only [Value.slice.injEq] at e2
      obtain ⟨e3, e4, e5⟩ := e2
      subst e3 e5
      rw [← e4] at hKids
      have hGl : TreeAt (fun b => w2.heap.size ≤ b ∧ b ≠ w3.heap.size) wr (⟨4, ⟨#[]⟩, 0, false, none, 0, 0, ca, cn, cc⟩ : El) (likeT ls its) := TreeAt.of rfl rfl rfl rfl (strs_none _) hKids
      have xp : Ext wr (wr.alloc (.cells #[.string s_like, .int .i64 4, .string ⟨#[]⟩, .float .f64 0, .bool false, .slice none 0 0, .slice ca cn cc] 69)) := ext_alloc (ext_refl _) _
      have hbp : Box (wr.alloc (.cells #[.string s_like, .int .i64 4, .string ⟨#[]⟩, .float .f64 0, .bool false, .slice none 0 0, .slice ca cn cc] 69)) wr.heap.size #[.string s_like, .int .i64 4, .string ⟨#[]⟩, .float .f64 0, .bool false, .slice none 0 0, .slice ca cn cc] 69 := Box.at rfl _ _
      have HGp := Lib.hid ((hGl.to (S' := fun b => b ≠ w.heap.size ∧ pv.ownBlock ≠ some b) (fun b hb _ => ⟨by omega, fun e => by have := hpb b e; omega⟩)).ext xp)
      have hxps := xp.sz
      obtain ⟨o0, o1, o2, o3, o4, o5⟩ := hbl.six
      clear hjn hfull hTs hKids e4 HOk HTs HEL hcb hcl hGl hbl
      have tokA := trivial
      have tokF := trivial
      have tokU := trivial
      go_wp2_with (first
        | (at_builtin; have _t := tokA; clear _t tokA; refine list_append_pairs _ rfl _ _ rfl (w.heap.size + 1) pv es0 rfl (HO.out.ext xp) wr.heap.size 0 1 [(s_like, (⟨4, ⟨#[]⟩, 0, false, none, 0, 0, ca, cn, cc⟩ : El))] (by simp) rfl (fun i q hq => by
             cases i with
             | zero => simp at hq; subst hq; exact ⟨hbp.cell 0 _ rfl, hbp.cell 1 _ rfl, hbp.cell 2 _ rfl, hbp.cell 3 _ rfl, hbp.cell 4 _ rfl, hbp.cell 5 _ rfl, hbp.cell 6 _ rfl⟩
             | succ i => simp at hq) (by simp; omega) (Nat.le_trans (show w.heap.size + 1 ≤ wr.heap.size by omega) hxps) ?_; intro g6 cap6 w6 hown hgrow hlies hglt
           have hPk6 := Lib.hid (pk_plusG (P := fun b => b ≠ w.heap.size) (g := g6) (cap := cap6) (n := es0.length + 1) (k := s_like) (HPk0.out (fun b => b ≠ w.heap.size ∧ pv.ownBlock ≠ some b) (wr.alloc (.cells #[.string s_like, .int .i64 4, .string ⟨#[]⟩, .float .f64 0, .bool false, .slice none 0 0, .slice ca cn cc] 69))) HGp.out hgrow hlies)
           have hx6 : Ext w w6 := ext_grown (ext_trans hx xp) hgrow (fun k hk => by have := hpb k hk; omega)
           have hbR6 := (hbR.ext xp).grown hgrow (fun e => by have := hpb _ e.symm; omega)
           have HO6 := Lib.hid hown
           have hs6 : w3.heap.size + 1 ≤ w6.heap.size := Nat.le_trans (Nat.le_trans hsz hxps) hgrow.size
           clear hgrow hlies hown hbp)
        | (go_at_call 79; have _t := tokF; clear _t tokF; refine (texts_any fs a0 n0 c0 w6 (by omega) (HF.out w6 hx6)).mono ?_; rintro r w7 ⟨gf, rfl, hTf, hx7⟩; simp only [El.val]; have hxw7 := ext_trans hx6 hx7)
        | (go_at_call 79; have _t := tokU; clear _t tokU; refine (texts_any xs a2 n2 c2 w7 (by omega) (HU.out w7 hxw7)).mono ?_; rintro r w8 ⟨gu, rfl, hTu, hx8⟩; simp only [El.val]; have hxw8 := ext_trans hxw7 hx8)
        | (go_at_call 79; refine (texts_any st a3 n3 c3 w8 (by omega) (HWs.out w8 hxw8)).mono ?_; rintro r w9 ⟨gs, rfl, hTs9, hx9⟩; simp only [El.val])
        | fail)
      have hs7 := hx7.sz
      have hs8 := hx8.sz
      have hs9 := hx9.sz
      have xz : Ext w9 (w9.alloc (.cells #[.string s_fields, .int .i64 gf.k, .string gf.x, .float .f64 gf.d, .bool gf.y, .slice gf.ka gf.n gf.kc, .slice gf.ca gf.m gf.cc, .string s_unlike, .int .i64 gu.k, .string gu.x, .float .f64 gu.d, .bool gu.y, .slice gu.ka gu.n gu.kc, .slice gu.ca gu.m gu.cc, .string s_stop_words, .int .i64 gs.k, .string gs.x, .float .f64 gs.d, .bool gs.y, .slice gs.ka gs.n gs.kc, .slice gs.ca gs.m gs.cc] 69)) := ext_alloc (ext_refl _) _
      have hx10 : Ext w (w9.alloc (.cells #[.string s_fields, .int .i64 gf.k, .string gf.x, .float .f64 gf.d, .bool gf.y, .slice gf.ka gf.n gf.kc, .slice gf.ca gf.m gf.cc, .string s_unlike, .int .i64 gu.k, .string gu.x, .float .f64 gu.d, .bool gu.y, .slice gu.ka gu.n gu.kc, .slice gu.ca gu.m gu.cc, .string s_stop_words, .int .i64 gs.k, .string gs.x, .float .f64 gs.d, .bool gs.y, .slice gs.ka gs.n gs.kc, .slice gs.ca gs.m gs.cc] 69)) := ext_trans (ext_trans hxw8 hx9) xz
      have hb10 : Box (w9.alloc (.cells #[.string s_fields, .int .i64 gf.k, .string gf.x, .float .f64 gf.d, .bool gf.y, .slice gf.ka gf.n gf.kc, .slice gf.ca gf.m gf.cc, .string s_unlike, .int .i64 gu.k, .string gu.x, .float .f64 gu.d, .bool gu.y, .slice gu.ka gu.n gu.kc, .slice gu.ca gu.m gu.cc, .string s_stop_words, .int .i64 gs.k, .string gs.x, .float .f64 gs.d, .bool gs.y, .slice gs.ka gs.n gs.kc, .slice gs.ca gs.m gs.cc] 69)) w9.heap.size #[.string s_fields, .int .i64 gf.k, .string gf.x, .float .f64 gf.d, .bool gf.y, .slice gf.ka gf.n gf.kc, .slice gf.ca gf.m gf.cc, .string s_unlike, .int .i64 gu.k, .string gu.x, .float .f64 gu.d, .bool gu.y, .slice gu.ka gu.n gu.kc, .slice gu.ca gu.m gu.cc, .string s_stop_words, .int .i64 gs.k, .string gs.x, .float .f64 gs.d, .bool gs.y, .slice gs.ka gs.n gs.kc, .slice gs.ca gs.m gs.cc] 69 := Box.at rfl _ _
      have hbR10 := (((hbR6.ext hx7).ext hx8).ext hx9).ext xz
      have HTf := Lib.hid (((hTf.to (S' := fun b => w6.heap.size ≤ b ∧ b < w9.heap.size) (fun b (hb : w6.heap.size ≤ b) hl => ⟨hb, by omega⟩)).ext hx8).ext (ext_trans hx9 xz))
      have HTu := Lib.hid (((hTu.to (S' := fun b => w6.heap.size ≤ b ∧ b < w9.heap.size) (fun b (hb : w7.heap.size ≤ b) hl => ⟨by omega, by omega⟩)).ext hx9).ext xz)
      have HTs := Lib.hid ((hTs9.to (S' := fun b => w6.heap.size ≤ b ∧ b < w9.heap.size) (fun b (hb : w8.heap.size ≤ b) hl => ⟨by omega, hl⟩)).ext xz)
      have x610 : Ext w6 (w9.alloc (.cells #[.string s_fields, .int .i64 gf.k, .string gf.x, .float .f64 gf.d, .bool gf.y, .slice gf.ka gf.n gf.kc, .slice gf.ca gf.m gf.cc, .string s_unlike, .int .i64 gu.k, .string gu.x, .float .f64 gu.d, .bool gu.y, .slice gu.ka gu.n gu.kc, .slice gu.ca gu.m gu.cc, .string s_stop_words, .int .i64 gs.k, .string gs.x, .float .f64 gs.d, .bool gs.y, .slice gs.ka gs.n gs.kc, .slice gs.ca gs.m gs.cc] 69)) := ext_trans (ext_trans (ext_trans hx7 hx8) hx9) xz
      have hvb6 : ∀ q, (Value.slice (some ⟨g6, 0, none⟩) (es0.length + 1) cap6).ownBlock = some q → w.heap.size + 1 ≤ q ∧ (q < w6.heap.size ∨ w9.heap.size < q) := fun q hq => by
        have h1 := HO6.out.block hq
        exact ⟨h1.1, .inl h1.2⟩
      clear hTf hTu hTs9 hbR6 xz
      go_loopw [13, 17] (fun v i wq => Ext w wq ∧ w9.heap.size + 1 ≤ wq.heap.size ∧ Box wq w.heap.size (El.arr El0) 30 ∧ Box wq w9.heap.size #[.string s_fields, .int .i64 gf.k, .string gf.x, .float .f64 gf.d, .bool gf.y, .slice gf.ka gf.n gf.kc, .slice gf.ca gf.m gf.cc, .string s_unlike, .int .i64 gu.k, .string gu.x, .float .f64 gu.d, .bool gu.y, .slice gu.ka gu.n gu.kc, .slice gu.ca gu.m gu.cc, .string s_stop_words, .int .i64 gs.k, .string gs.x, .float .f64 gs.d, .bool gs.y, .slice gs.ka gs.n gs.kc, .slice gs.ca gs.m gs.cc] 69 ∧ TreeAt (fun b => w6.heap.size ≤ b ∧ b < w9.heap.size) wq gf (listT (fs.map textT)) ∧ TreeAt (fun b => w6.heap.size ≤ b ∧ b < w9.heap.size) wq gu (listT (xs.map textT)) ∧ TreeAt (fun b => w6.heap.size ≤ b ∧ b < w9.heap.size) wq gs (listT (st.map textT)) ∧
        ∃ (j : Nat) (es : List (ByteArray × El)) (vv : Value), vv = v ∧ j ≤ 3 ∧ i = .int .i64 j ∧ OwnPairs wq (w.heap.size + 1) vv es ∧ (∀ q, vv.ownBlock = some q → w.heap.size + 1 ≤ q ∧ (q < w6.heap.size ∨ w9.heap.size < q)) ∧ es.length ≤ 14 + j ∧ Pk (fun b => b ≠ w.heap.size ∧ vv.ownBlock ≠ some b) wq es (paramsL rMoreLikeThis ps ++ [(s_like, likeT ls its)] ++ ((listsN fs xs st).take j).flatMap fun p => optT p.1 p.2)) (fun _ i _ => 3 - (intOf i).toNat)
      case atStart =>
        exact ⟨hx10, by simp, hbR10, hb10, HTf.out, HTu.out, HTs.out, 0, es0 ++ [(s_like, (⟨4, ⟨#[]⟩, 0, false, none, 0, 0, ca, cn, cc⟩ : El))], _, rfl, by omega, rfl, by simpa using HO6.out.ext x610, hvb6, by simp; omega, by rw [List.take_zero, List.flatMap_nil, List.append_nil]; exact hPk6.out.ext x610⟩
      case round =>
        clear hx10 hb10 hbR10 HTf HTu HTs HO6 hvb6 hPk6 x610
        obtain ⟨hxq, hszq, hbRq, hb3, hTf, hTu, hTs, j, es, vv, hvv, hj, rfl, hO, hvb, hel, hP⟩ := hrel
        subst hvv
        have HO := Lib.hid hO
        have HPk := Lib.hid hP
        have HEL := Lib.hid hel
        have HTf := Lib.hid hTf
        have HTu := Lib.hid hTu
        have HTs := Lib.hid hTs
        have hbk : ∀ q, vv.ownBlock = some q → q < wr.heap.size := fun q hq => (World.ownsRow.lt hO q hq).2
        clear hO hP hel hTf hTu hTs
        by_cases hlt : j < 3
        case pos =>
          obtain ⟨nm, l, gx, hnm, hc7, hTx⟩ : ∃ (nm : ByteArray) (l : List ByteArray) (gx : El), (listsN fs xs st)[j]? = some (nm, l) ∧ Cells7 wr w9.heap.size (j * 7) nm gx ∧ TreeAt (fun b => w6.heap.size ≤ b ∧ b < w9.heap.size) wr gx (listT (l.map textT)) := by
            match j, hlt with
            | 0, _ => exact ⟨s_fields, fs, gf, rfl, ⟨hb3.cell 0 _ rfl, hb3.cell 1 _ rfl, hb3.cell 2 _ rfl, hb3.cell 3 _ rfl, hb3.cell 4 _ rfl, hb3.cell 5 _ rfl, hb3.cell 6 _ rfl⟩, HTf.out⟩
            | 1, _ => exact ⟨s_unlike, xs, gu, rfl, ⟨hb3.cell 7 _ rfl, hb3.cell 8 _ rfl, hb3.cell 9 _ rfl, hb3.cell 10 _ rfl, hb3.cell 11 _ rfl, hb3.cell 12 _ rfl, hb3.cell 13 _ rfl⟩, HTu.out⟩
            | 2, _ => exact ⟨s_stop_words, st, gs, rfl, ⟨hb3.cell 14 _ rfl, hb3.cell 15 _ rfl, hb3.cell 16 _ rfl, hb3.cell 17 _ rfl, hb3.cell 18 _ rfl, hb3.cell 19 _ rfl, hb3.cell 20 _ rfl⟩, HTs.out⟩
          have HTK := Lib.hid (show ((listsN fs xs st).take (j + 1)).flatMap (fun p => optT p.1 p.2) = ((listsN fs xs st).take j).flatMap (fun p => optT p.1 p.2) ++ optT nm l by
            rw [take_snoc hnm, List.flatMap_append]
            simp)
          obtain ⟨k, x, d, y, ka, kn, kc, cx, m, cz⟩ := gx
          have HM := Lib.hid (show l.length = m from by
            obtain ⟨-, -, -, -, -, hK⟩ := hTx.parts
            have h9 := hK.1
            simp only [listT, T.kids, List.length_map] at h9
            exact h9)
          have HTx := Lib.hid hTx
          obtain ⟨z0, z1, z2, z3, z4, z5, z6⟩ := id hc7
          clear hnm hTx hc7
          by_cases h0 : 0 < m
          case pos =>
            have H0 := Lib.hid (show optT nm l = [(nm, listT (l.map textT))] by
              unfold optT
              cases l with
              | nil => have := HM.out; simp at this; omega
              | cons _ _ => rfl)
            have x3 : Ext wr (wr.alloc (.cells #[.string nm, .int .i64 k, .string x, .float .f64 d, .bool y, .slice ka kn kc, .slice cx m cz] 69)) := ext_alloc (ext_refl _) _
            have hbp : Box (wr.alloc (.cells #[.string nm, .int .i64 k, .string x, .float .f64 d, .bool y, .slice ka kn kc, .slice cx m cz] 69)) wr.heap.size #[.string nm, .int .i64 k, .string x, .float .f64 d, .bool y, .slice ka kn kc, .slice cx m cz] 69 := Box.at rfl _ _
            have hs3' := x3.sz
            have HTp := Lib.hid ((HTx.out.to (S' := fun b => b ≠ w.heap.size ∧ vv.ownBlock ≠ some b) (fun q hq _ => ⟨by omega, fun e => by have := hvb q e; omega⟩)).ext x3)
            go_wp2_with (first
              | (at_builtin; refine list_append_pairs _ rfl _ _ rfl (w.heap.size + 1) vv es rfl (HO.out.ext x3) wr.heap.size 0 1 [(nm, (⟨k, x, d, y, ka, kn, kc, cx, m, cz⟩ : El))] (by simp) rfl (fun i q hq => by
                   cases i with
                   | zero => simp at hq; subst hq; exact ⟨hbp.cell 0 _ rfl, hbp.cell 1 _ rfl, hbp.cell 2 _ rfl, hbp.cell 3 _ rfl, hbp.cell 4 _ rfl, hbp.cell 5 _ rfl, hbp.cell 6 _ rfl⟩
                   | succ i => simp at hq) (by have := HEL.out; simp; omega) (Nat.le_trans (show w.heap.size + 1 ≤ wr.heap.size by omega) hs3') ?_; intro g1 cap1 w8' hown hgrow hlies hglt
                 have HGR := Lib.hid hgrow
                 have HLS := Lib.hid hlies
                 have HOW := Lib.hid hown
                 clear hgrow hlies hown)
              | fail)
            have hgrow := HGR.out
            have hlies := HLS.out
            have hxw8' : Ext w w8' := ext_grown (ext_trans hxq x3) hgrow (fun q hq => by have := hvb q hq; omega)
            have hPk8 := Lib.hid (pk_plusG (P := fun b => b ≠ w.heap.size) (g := g1) (cap := cap1) (n := es.length + 1) (k := nm) (HPk.out.ext x3) HTp.out hgrow hlies)
            have hbR8 := (hbRq.ext x3).grown hgrow (fun e => by have := hvb _ e.symm; omega)
            have hb38 := (hb3.ext x3).grown hgrow (fun e => by have := hvb _ e.symm; omega)
            have hk8 : Keeps (fun b => w6.heap.size ≤ b ∧ b < w9.heap.size) wr w8' := fun q hq hl => (hgrow.block q (Nat.lt_of_lt_of_le hl hs3') (fun e => by have := hvb _ e.symm; omega)).trans (x3.block q hl)
            have hTf8 := TreeAt.keep (S' := fun b => w6.heap.size ≤ b ∧ b < w9.heap.size) (fun _ h _ => h) hk8 _ HTf.out
            have hTu8 := TreeAt.keep (S' := fun b => w6.heap.size ≤ b ∧ b < w9.heap.size) (fun _ h _ => h) hk8 _ HTu.out
            have hTs8 := TreeAt.keep (S' := fun b => w6.heap.size ≤ b ∧ b < w9.heap.size) (fun _ h _ => h) hk8 _ HTs.out
            have hsz8 : w9.heap.size + 1 ≤ w8'.heap.size := Nat.le_trans (Nat.le_trans hszq hs3') hgrow.size
            have hvb8 : ∀ q, (Value.slice (some ⟨g1, 0, none⟩) (es.length + 1) cap1).ownBlock = some q → w.heap.size + 1 ≤ q ∧ (q < w6.heap.size ∨ w9.heap.size < q) := fun q e => by
              simp only [Value.ownBlock, Option.some.injEq] at e
              subst e
              rcases hlies with h | h
              · exact hvb _ h
              · have h9 : wr.heap.size ≤ g1 := Nat.le_trans hs3' (Nat.le_of_eq h.symm)
                omega
            clear hgrow hlies hk8 hbp
            go_roundw
            case rel => exact ⟨hxw8', hsz8, hbR8, hb38, hTf8, hTu8, hTs8, j + 1, es ++ [(nm, (⟨k, x, d, y, ka, kn, kc, cx, m, cz⟩ : El))], _, rfl, by omega, by go_num, by simpa using HOW.out, hvb8, by have := HEL.out; simp; omega, by rw [HTK.out, H0.out, ← List.append_assoc]; exact hPk8.out⟩
            case measure => simp [intOf]; omega
          case neg =>
            have H0 := Lib.hid (show optT nm l = [] by
              have h1 : l = [] := List.length_eq_zero_iff.1 (by have := HM.out; omega)
              subst h1
              rfl)
            go_wp2_with fail
            go_roundw
            case rel => exact ⟨hxq, hszq, hbRq, hb3, HTf.out, HTu.out, HTs.out, j + 1, es, _, rfl, by omega, by go_num, HO.out, hvb, by have := HEL.out; omega, by rw [HTK.out, H0.out, List.append_nil]; exact HPk.out⟩
            case measure => simp [intOf]; omega
        case neg =>
          have hj3 : j = 3 := by omega
          subst hj3
          have hP := HPk.out
          rw [show ((listsN fs xs st).take 3).flatMap (fun p => optT p.1 p.2) = optsL fs xs st from rfl, List.append_assoc, List.singleton_append] at hP
          obtain ⟨pa2, pc2, hpe2, hPA2⟩ := HO.out.pairs (S := fun b => b ≠ w.heap.size) hP.1 (fun b hb => by have h7 := hvb b hb; omega) (fun i e p he hp => ⟨(hP.2 i e p he hp).1, (hP.2 i e p he hp).2.to (fun b hb _ => hb.1)⟩)
          have hpl8 : (paramsL rMoreLikeThis ps ++ (s_like, likeT ls its) :: optsL fs xs st).length = es.length := hP.1
          rw [hpl8] at hpe2 hPA2
          have hB := Lib.hid (beside_any s_more_like_this _ _ _ _ wr hPA2 (by have := HEL.out; omega))
          have hl8 := hbRq.lt
          clear hP HPk HO hPA2 hb3 hbk hvb HTf HTu HTs HEL hpl8
          subst hpe2
          go_wp2_with (first
            | (go_at_call 52; refine hB.out.mono ?_; rintro r w9' ⟨g2, rfl, hT9, hx9'⟩; simp only [El.val]
               have hb9 := hbRq.ext hx9'; obtain ⟨o0, o1, o2, o3, o4, o5⟩ := hb9.six; have f0 := hb9.free 0; have f1 := hb9.free 1; have f2 := hb9.free 2; have f3 := hb9.free 3; have f4 := hb9.free 4; have f5 := hb9.free 5)
            | fail)
          have hx9w := ext_trans hxq hx9'
          refine post_tree rfl rfl (hb9.sto g2) rfl ⟨g2, rfl, ?_, ext_sto6 hx9w (by omega) _ _ _ _ _ _⟩
          refine TreeAt.keep (S := fun b => b ≠ w.heap.size) (fun _ _ _ => trivial) (keeps_sto w9' (fun h => h rfl) g2) _ ?_
          exact hT9.to (S' := fun b => b ≠ w.heap.size) (fun q hq _ => by
            rcases hq with hq | hq
            · first | exact hq.1 | exact hq
            · omega)
end Go.Proofs.Ytfngaoicoecncaa

namespace Go.Proofs.Ytfngaoicoecncaa
open Go.RowKit

theorem hasS_decM (l : List ByteArray) (k : ByteArray) : hasS l k = l.any fun a => decide (a = k) := by
  unfold hasS
  simp only [seq_dec]
theorem trees_map : ∀ l : List J, treesJ l = l.map treeJ
  | [] => rfl
  | j :: r => by rw [treesJ, trees_map r]; rfl
theorem okT_texts (l : List ByteArray) : okT (listT (l.map textT)) = true := okT_list fun t ht => by
  obtain ⟨x, -, rfl⟩ := List.mem_map.1 ht
  exact okT_text x
theorem jTs_tree (k : ByteArray) (l : List ByteArray) : jTree (jTs k l) = optT k l := by
  unfold jTs optT
  split <;> rfl
theorem inl_trees (l : List ByteArray) : treesJ ((l.map (Sum.inl (β := ByteArray × ByteArray))).map jItem) = l.map textT := by
  rw [trees_map, List.map_map, List.map_map]
  exact List.map_congr_left fun _ _ => rfl
theorem item_tree (p : ByteArray × ByteArray) : treeJ (jItem (.inr p)) = itemT p := by
  unfold itemT
  show treeJ (jMap [(sU_index, .str p.1), (sU_id, .str p.2)]) = _
  rw [treeJ_jMap]
  rfl
theorem inr_trees (l : List (ByteArray × ByteArray)) : treesJ ((l.map (Sum.inr (α := ByteArray))).map jItem) = l.map itemT := by
  rw [trees_map, List.map_map, List.map_map]
  exact List.map_congr_left fun p _ => item_tree p
theorem jLs_tree (k : ByteArray) (l : List ByteArray) : jTree (jLs k ((l.map (Sum.inl (β := ByteArray × ByteArray))).map jItem)) = optT k l := by
  unfold jLs optT
  cases l with
  | nil => rfl
  | cons x r =>
    show [(k, treeJ (.list _))] = [(k, listT _)]
    simp only [treeJ]
    rw [inl_trees]
theorem like_tree (ls : List ByteArray) (its : List (ByteArray × ByteArray)) : treeJ (.list ((ls.map Sum.inl ++ its.map Sum.inr).map jItem)) = likeT ls its := by
  simp only [treeJ]
  rw [trees_map, List.map_append, List.map_append, ← trees_map, ← trees_map, inl_trees, inr_trees]
theorem optT_self (k : ByteArray) (l : List ByteArray) : SameL (optT k l) (optT k l) := by
  unfold optT
  split
  · exact SameL.nil
  · exact SameL.one k (sameT_self _ (okT_texts l))
theorem same_Ts (k : ByteArray) (l : List ByteArray) : SameL (jTree (jTs k l)) (optT k l) := by
  rw [jTs_tree]
  exact optT_self k l
theorem same_Ls (k : ByteArray) (l : List ByteArray) : SameL (jTree (jLs k ((l.map Sum.inl).map jItem))) (optT k l) := by
  rw [jLs_tree]
  exact optT_self k l
theorem okT_item (p : ByteArray × ByteArray) : okT (itemT p) = true := okT_map fun q hq => by
  simp only [List.mem_cons, List.not_mem_nil, or_false] at hq
  rcases hq with rfl | rfl <;> exact okT_text _
theorem same_like (ls : List ByteArray) (its : List (ByteArray × ByteArray)) : SameL (jTree [(s_like, J.list ((ls.map Sum.inl ++ its.map Sum.inr).map jItem))]) [(s_like, likeT ls its)] := by
  show SameL [(s_like, treeJ _)] _
  rw [like_tree]
  refine SameL.one s_like (sameT_self _ (okT_list fun t ht => ?_))
  rcases List.mem_append.1 ht with ht | ht
  · obtain ⟨x, -, rfl⟩ := List.mem_map.1 ht
    exact okT_text x
  · obtain ⟨x, -, rfl⟩ := List.mem_map.1 ht
    exact okT_item x
theorem jT_app (a b : List (ByteArray × J)) : jTree (a ++ b) = jTree a ++ jTree b := by
  unfold jTree
  exact List.map_append
theorem keys_opt (k : ByteArray) (l : List ByteArray) : KeysIn (optT k l) [k] := fun p hp => by
  unfold optT at hp
  split at hp
  · simp at hp
  · simp only [List.mem_singleton] at hp
    subst hp
    simp
abbrev mltQ (fs ls xs st : List ByteArray) (its : List (ByteArray × ByteArray)) (ps : List (ByteArray × T)) : List (ByteArray × J) := jTs s_fields fs ++ [(s_like, J.list ((ls.map Sum.inl ++ its.map Sum.inr).map jItem))] ++ jLs s_unlike ((xs.map Sum.inl).map jItem) ++ jT s_minimum_should_match (lastOf ps s_minimum_should_match) ++ jW s_min_term_freq (lastOf ps s_min_term_freq) ++ jW s_max_query_terms (lastOf ps s_max_query_terms) ++ jTs s_stop_words st ++ jW s_min_doc_freq (lastOf ps s_min_doc_freq) ++ jW s_max_doc_freq (lastOf ps s_max_doc_freq) ++ jW s_min_word_length (lastOf ps s_min_word_length) ++ jW s_max_word_length (lastOf ps s_max_word_length) ++ jN s_boost_terms (lastOf ps s_boost_terms) ++ jN s_boost (lastOf ps s_boost) ++ jT s_analyzer (lastOf ps s_analyzer) ++ jY s_fail_on_unsupported_field (lastOf ps s_fail_on_unsupported_field) ++ jT s_name (lastOf ps s_name) ++ jY s_include (lastOf ps s_include)
abbrev mltN : List ByteArray := [s_fields, s_like, s_unlike, s_stop_words]
def GoodP (p : ByteArray × T) : Prop := p.2.kind ≠ 0 ∧ (hasS mltN p.1 = true → p.2.kind = 4 ∧ p.2.kids.length ≠ 0)
theorem good_key {l : List (ByteArray × J)} {k : ByteArray} (h1 : NoNull l) (h2 : KeysIn (jTree l) [k]) (h : hasS mltN k = false) : ∀ p ∈ jTree l, GoodP p := fun p hp => by
  have hk := h2 p hp
  simp only [List.mem_singleton] at hk
  exact ⟨h1 p hp, fun e => by rw [hk, h] at e; cases e⟩
theorem good_opt (k : ByteArray) (l : List ByteArray) : ∀ p ∈ optT k l, GoodP p := fun p hp => by
  unfold optT at hp
  split at hp
  · simp at hp
  · rename_i hl
    simp only [List.mem_singleton] at hp
    subst hp
    refine ⟨by simp [listT, T.kind], fun _ => ⟨rfl, ?_⟩⟩
    cases l with
    | nil => simp at hl
    | cons _ _ => simp [listT, T.kids]
theorem good_Ts (k : ByteArray) (l : List ByteArray) : ∀ p ∈ jTree (jTs k l), GoodP p := by
  rw [jTs_tree]
  exact good_opt k l
theorem good_Ls (k : ByteArray) (l : List ByteArray) : ∀ p ∈ jTree (jLs k ((l.map Sum.inl).map jItem)), GoodP p := by
  rw [jLs_tree]
  exact good_opt k l
theorem good_like (ls : List ByteArray) (its : List (ByteArray × ByteArray)) (hp : 0 < ls.length + its.length) : ∀ p ∈ jTree [(s_like, J.list ((ls.map Sum.inl ++ its.map Sum.inr).map jItem))], GoodP p := fun p h => by
  have h : p ∈ [(s_like, treeJ (J.list ((ls.map Sum.inl ++ its.map Sum.inr).map jItem)))] := h
  rw [like_tree, List.mem_singleton] at h
  subst h
  refine ⟨by simp [listT, T.kind], fun _ => ⟨rfl, ?_⟩⟩
  simp only [listT, T.kids, List.length_append, List.length_map]
  omega
theorem good_append {a b : List (ByteArray × J)} (h : ∀ p ∈ jTree a, GoodP p) (k : ∀ p ∈ jTree b, GoodP p) : ∀ p ∈ jTree (a ++ b), GoodP p := fun p hp => by
  unfold jTree at hp
  rw [List.map_append] at hp
  rcases List.mem_append.1 hp with hp | hp
  · exact h p hp
  · exact k p hp
theorem mlt_good (fs ls xs st : List ByteArray) (its : List (ByteArray × ByteArray)) (ps : List (ByteArray × T)) (hp : 0 < ls.length + its.length) : ∀ p ∈ jTree (mltQ fs ls xs st its ps), GoodP p :=
  good_append (good_append (good_append (good_append (good_append (good_append (good_append (good_append (good_append (good_append (good_append (good_append (good_append (good_append (good_append (good_append (good_Ts _ _) (good_like ls its hp)) (good_Ls _ _)) (good_key (noNull_T _ _) (keys_T _ _) (by rw [hasS_decM]; decide))) (good_key (noNull_W _ _) (keys_W _ _) (by rw [hasS_decM]; decide))) (good_key (noNull_W _ _) (keys_W _ _) (by rw [hasS_decM]; decide))) (good_Ts _ _)) (good_key (noNull_W _ _) (keys_W _ _) (by rw [hasS_decM]; decide))) (good_key (noNull_W _ _) (keys_W _ _) (by rw [hasS_decM]; decide))) (good_key (noNull_W _ _) (keys_W _ _) (by rw [hasS_decM]; decide))) (good_key (noNull_W _ _) (keys_W _ _) (by rw [hasS_decM]; decide))) (good_key (noNull_N _ _) (keys_N _ _) (by rw [hasS_decM]; decide))) (good_key (noNull_N _ _) (keys_N _ _) (by rw [hasS_decM]; decide))) (good_key (noNull_T _ _) (keys_T _ _) (by rw [hasS_decM]; decide))) (good_key (noNull_Y _ _) (keys_Y _ _) (by rw [hasS_decM]; decide))) (good_key (noNull_T _ _) (keys_T _ _) (by rw [hasS_decM]; decide))) (good_key (noNull_Y _ _) (keys_Y _ _) (by rw [hasS_decM]; decide))
theorem jTs_len (k : ByteArray) (l : List ByteArray) : (jTs k l).length ≤ 1 := by unfold jTs; split <;> simp
theorem jLs_len (k : ByteArray) (l : List J) : (jLs k l).length ≤ 1 := by unfold jLs; split <;> simp
theorem mlt_len (fs ls xs st : List ByteArray) (its : List (ByteArray × ByteArray)) (ps : List (ByteArray × T)) : (jTree (mltQ fs ls xs st its ps)).length ≤ 65536 := by
  have h0 := jTs_len s_fields fs
  have h2 := jLs_len s_unlike ((xs.map Sum.inl).map jItem)
  have h3 := jT_len s_minimum_should_match (lastOf ps s_minimum_should_match)
  have h4 := jW_len s_min_term_freq (lastOf ps s_min_term_freq)
  have h5 := jW_len s_max_query_terms (lastOf ps s_max_query_terms)
  have h6 := jTs_len s_stop_words st
  have h7 := jW_len s_min_doc_freq (lastOf ps s_min_doc_freq)
  have h8 := jW_len s_max_doc_freq (lastOf ps s_max_doc_freq)
  have h9 := jW_len s_min_word_length (lastOf ps s_min_word_length)
  have h10 := jW_len s_max_word_length (lastOf ps s_max_word_length)
  have h11 := jN_len s_boost_terms (lastOf ps s_boost_terms)
  have h12 := jN_len s_boost (lastOf ps s_boost)
  have h13 := jT_len s_analyzer (lastOf ps s_analyzer)
  have h14 := jY_len s_fail_on_unsupported_field (lastOf ps s_fail_on_unsupported_field)
  have h15 := jT_len s_name (lastOf ps s_name)
  have h16 := jY_len s_include (lastOf ps s_include)
  unfold mltQ jTree
  rw [List.length_map]
  simp only [List.length_append, List.length_cons, List.length_nil]
  omega
set_option maxRecDepth 20000 in
set_option maxHeartbeats 4000000 in
theorem mlt_same (fs ls xs st : List ByteArray) (its : List (ByteArray × ByteArray)) (ps : List (ByteArray × T)) (hF : FitsP rMoreLikeThis ps) : sameT (mapT [(s_more_like_this, mapT (jTree (mltQ fs ls xs st its ps)))]) (mapT [(s_more_like_this, mapT (paramsL rMoreLikeThis ps ++ (s_like, likeT ls its) :: optsL fs xs st))]) = true := by
  refine same_one _ (sameT_map ?_)
  let chs : Nat → Ch := fun i => match i with
    | 0 => (s_fields, optT s_fields fs)
    | 1 => (s_like, [(s_like, likeT ls its)])
    | 2 => (s_unlike, optT s_unlike xs)
    | 3 => (s_minimum_should_match, (param ps (s_minimum_should_match, ⟨#[116]⟩)).toList)
    | 4 => (s_min_term_freq, (param ps (s_min_term_freq, ⟨#[119]⟩)).toList)
    | 5 => (s_max_query_terms, (param ps (s_max_query_terms, ⟨#[119]⟩)).toList)
    | 6 => (s_stop_words, optT s_stop_words st)
    | 7 => (s_min_doc_freq, (param ps (s_min_doc_freq, ⟨#[119]⟩)).toList)
    | 8 => (s_max_doc_freq, (param ps (s_max_doc_freq, ⟨#[119]⟩)).toList)
    | 9 => (s_min_word_length, (param ps (s_min_word_length, ⟨#[119]⟩)).toList)
    | 10 => (s_max_word_length, (param ps (s_max_word_length, ⟨#[119]⟩)).toList)
    | 11 => (s_boost_terms, (param ps (s_boost_terms, ⟨#[110]⟩)).toList)
    | 12 => (s_boost, (param ps (s_boost, ⟨#[110]⟩)).toList)
    | 13 => (s_analyzer, (param ps (s_analyzer, ⟨#[116]⟩)).toList)
    | 14 => (s_fail_on_unsupported_field, (param ps (s_fail_on_unsupported_field, ⟨#[98]⟩)).toList)
    | 15 => (s_name, (param ps (s_name, ⟨#[116]⟩)).toList)
    | 16 => (s_include, (param ps (s_include, ⟨#[98]⟩)).toList)
    | _ => (emptyS, [])
  have h0 : SameL (jTree (mltQ fs ls xs st its ps)) (optT s_fields fs ++ [(s_like, likeT ls its)] ++ optT s_unlike xs ++ (param ps (s_minimum_should_match, ⟨#[116]⟩)).toList ++ (param ps (s_min_term_freq, ⟨#[119]⟩)).toList ++ (param ps (s_max_query_terms, ⟨#[119]⟩)).toList ++ optT s_stop_words st ++ (param ps (s_min_doc_freq, ⟨#[119]⟩)).toList ++ (param ps (s_max_doc_freq, ⟨#[119]⟩)).toList ++ (param ps (s_min_word_length, ⟨#[119]⟩)).toList ++ (param ps (s_max_word_length, ⟨#[119]⟩)).toList ++ (param ps (s_boost_terms, ⟨#[110]⟩)).toList ++ (param ps (s_boost, ⟨#[110]⟩)).toList ++ (param ps (s_analyzer, ⟨#[116]⟩)).toList ++ (param ps (s_fail_on_unsupported_field, ⟨#[98]⟩)).toList ++ (param ps (s_name, ⟨#[116]⟩)).toList ++ (param ps (s_include, ⟨#[98]⟩)).toList) := by
    unfold mltQ
    simp only [jT_app]
    exact SameL.append (SameL.append (SameL.append (SameL.append (SameL.append (SameL.append (SameL.append (SameL.append (SameL.append (SameL.append (SameL.append (SameL.append (SameL.append (SameL.append (SameL.append (SameL.append (same_Ts s_fields fs) (same_like ls its)) (same_Ls s_unlike xs)) (jT_same hF (by rw [kindL_dec]; decide))) (jW_same hF (by rw [kindL_dec]; decide))) (jW_same hF (by rw [kindL_dec]; decide))) (same_Ts s_stop_words st)) (jW_same hF (by rw [kindL_dec]; decide))) (jW_same hF (by rw [kindL_dec]; decide))) (jW_same hF (by rw [kindL_dec]; decide))) (jW_same hF (by rw [kindL_dec]; decide))) (jN_same hF (by rw [kindL_dec]; decide))) (jN_same hF (by rw [kindL_dec]; decide))) (jT_same hF (by rw [kindL_dec]; decide))) (jY_same hF (by rw [kindL_dec]; decide))) (jT_same hF (by rw [kindL_dec]; decide))) (jY_same hF (by rw [kindL_dec]; decide))
  have h1 := SameL.reorder (f := chs) [0, 1, 2, 3, 4, 5, 6, 7, 8, 9, 10, 11, 12, 13, 14, 15, 16] [13, 12, 11, 14, 16, 8, 5, 10, 7, 4, 9, 3, 15, 1, 0, 2, 6] (by decide) (show [s_fields, s_like, s_unlike, s_minimum_should_match, s_min_term_freq, s_max_query_terms, s_stop_words, s_min_doc_freq, s_max_doc_freq, s_min_word_length, s_max_word_length, s_boost_terms, s_boost, s_analyzer, s_fail_on_unsupported_field, s_name, s_include].Nodup by decide) (by intro c hc; simp only [List.map_cons, List.map_nil, List.mem_cons, List.not_mem_nil, or_false] at hc; rcases hc with rfl | rfl | rfl | rfl | rfl | rfl | rfl | rfl | rfl | rfl | rfl | rfl | rfl | rfl | rfl | rfl | rfl <;> first | exact keys_param _ _ | exact keys_opt _ _ | exact keys_one _ _) (by simpa only [chs, flatC, List.map_cons, List.map_nil, List.flatMap_cons, List.flatMap_nil, List.append_nil, List.append_assoc] using h0)
  rw [params_cons, params_cons, params_cons, params_cons, params_cons, params_cons, params_cons, params_cons, params_cons, params_cons, params_cons, params_cons, params_cons, params_nil]
  unfold optsL
  refine (show SameL _ _ from ?_)
  simpa only [chs, flatC, List.map_cons, List.map_nil, List.flatMap_cons, List.flatMap_nil, List.append_nil, List.append_assoc, List.cons_append, List.nil_append] using h1
end Go.Proofs.Ytfngaoicoecncaa

namespace Go.Proofs.Ytfngaoicoecncaa
open Go.RowKit

set_option maxRecDepth 20000 in
set_option maxHeartbeats 4000000 in
theorem moreLikeThis_any {S : Nat → Prop} (a : Option Addr) (n c : Nat) (ps : List (ByteArray × T)) (w : World) (a0 : Option Addr) (n0 c0 : Nat) (fs : List ByteArray) (hF : StrsAt S w a0 n0 c0 fs) (hFb : n0 ≤ 2147483647) (a1 : Option Addr) (n1 c1 : Nat) (ls : List ByteArray) (hA : StrsAt S w a1 n1 c1 ls) (hAb : n1 ≤ 2147483647) (hAk : ∀ t ∈ ls, t.toList.isEmpty = false) (a2 : Option Addr) (n2 c2 : Nat) (xs : List ByteArray) (hU : StrsAt S w a2 n2 c2 xs) (hUb : n2 ≤ 2147483647) (hUk : ∀ t ∈ xs, t.toList.isEmpty = false) (a3 : Option Addr) (n3 c3 : Nat) (st : List ByteArray) (hW : StrsAt S w a3 n3 c3 st) (hWb : n3 ≤ 2147483647) (a4 : Option Addr) (n4 c4 : Nat) (its : List (ByteArray × ByteArray)) (hI : ItemsIn S w a4 n4 c4 its) (hIb : n4 ≤ 2147483647) (hIk : ∀ p ∈ its, okItem (.inr p)) (hpos : 0 < n1 + n4) (hW5 : WholeAt ps s_min_term_freq) (hW6 : WholeAt ps s_max_query_terms) (hW8 : WholeAt ps s_min_doc_freq) (hW9 : WholeAt ps s_max_doc_freq) (hW10 : WholeAt ps s_min_word_length) (hW11 : WholeAt ps s_max_word_length) (h : PairsAt S w a n c ps) :
    Calls Try.prog 17 #[.slice a0 n0 c0, .slice a1 n1 c1, .slice a2 n2 c2, .slice a3 n3 c3, .slice a4 n4 c4, .slice a n c] w fun r w' => ∃ g : El, r = .returned (.tuple #[g.val, .bool true]) ∧ TreeAt (fun b => w.heap.size + 1 ≤ b) w' g (treeJ (jMap [(s_more_like_this, jMap (jTs s_fields fs ++ [(s_like, J.list ((ls.map Sum.inl ++ its.map Sum.inr).map jItem))] ++ jLs s_unlike ((xs.map Sum.inl).map jItem) ++ jT s_minimum_should_match (lastOf ps s_minimum_should_match) ++ jW s_min_term_freq (lastOf ps s_min_term_freq) ++ jW s_max_query_terms (lastOf ps s_max_query_terms) ++ jTs s_stop_words st ++ jW s_min_doc_freq (lastOf ps s_min_doc_freq) ++ jW s_max_doc_freq (lastOf ps s_max_doc_freq) ++ jW s_min_word_length (lastOf ps s_min_word_length) ++ jW s_max_word_length (lastOf ps s_max_word_length) ++ jN s_boost_terms (lastOf ps s_boost_terms) ++ jN s_boost (lastOf ps s_boost) ++ jT s_analyzer (lastOf ps s_analyzer) ++ jY s_fail_on_unsupported_field (lastOf ps s_fail_on_unsupported_field) ++ jT s_name (lastOf ps s_name) ++ jY s_include (lastOf ps s_include)))])) ∧ Ext w w' := by
  obtain ⟨hl, hn, hm, hc⟩ := h
  unfold maxLen at hm
  have HL := Lib.hid hl
  clear hl
  have HW5 := Lib.hid hW5
  clear hW5
  have HW6 := Lib.hid hW6
  clear hW6
  have HW8 := Lib.hid hW8
  clear hW8
  have HW9 := Lib.hid hW9
  clear hW9
  have HW10 := Lib.hid hW10
  clear hW10
  have HW11 := Lib.hid hW11
  clear hW11
  have hlF := hF.1
  have hlA := hA.1
  have hlU := hU.1
  have hlW := hW.1
  have HF := Lib.hid (fun (w' : World) (x : Ext w w') => (hF.keep (S' := fun q => q < w.heap.size) (fun _ _ h => h) (fun _ _ _ => rfl)).ext x)
  have HA := Lib.hid (fun (w' : World) (x : Ext w w') => (hA.keep (S' := fun q => q < w.heap.size) (fun _ _ h => h) (fun _ _ _ => rfl)).ext x)
  have HU := Lib.hid (fun (w' : World) (x : Ext w w') => (hU.keep (S' := fun q => q < w.heap.size) (fun _ _ h => h) (fun _ _ _ => rfl)).ext x)
  have HWs := Lib.hid (fun (w' : World) (x : Ext w w') => (hW.keep (S' := fun q => q < w.heap.size) (fun _ _ h => h) (fun _ _ _ => rfl)).ext x)
  have hlI := hI.1
  have HLI := Lib.hid hI.1
  have HIC := Lib.hid hI.2.2.2
  have HDK := Lib.hid (show ∀ d ∈ ls.map Sum.inl ++ its.map Sum.inr, okItem d from fun d hd => by
    rcases List.mem_append.1 hd with hd | hd
    · obtain ⟨t, ht, rfl⟩ := List.mem_map.1 hd
      exact hAk t ht
    · obtain ⟨t, ht, rfl⟩ := List.mem_map.1 hd
      exact hIk t ht)
  have HEK := Lib.hid (show ∀ d ∈ xs.map (Sum.inl (β := ByteArray × ByteArray)), okItem d from fun d hd => by
    obtain ⟨t, ht, rfl⟩ := List.mem_map.1 hd
    exact hUk t ht)
  clear hF hA hU hW hI hAk hUk hIk
  go_enter Try.func17, Try.ntmps17
  have hxa : Ext w (w.alloc (.cells (El.arr El0) 30)) := ext_alloc (ext_refl _) _
  have hr0 : Box (w.alloc (.cells (El.arr El0) 30)) w.heap.size (El.arr El0) 30 := Box.at rfl _ _
  have hw0 : (w.alloc (.cells (El.arr El0) 30)).heap.size = w.heap.size + 1 := by simp
  go_wp2_with (first
    | (go_at_call 54; refine (newMlt_any _).mono ?_; rintro r w1 ⟨g0, g1, g2, g3, bq, rfl, hM, hbq, hg0, hg1, hg2, hg3, hb1⟩
       obtain ⟨hx1, k0, k1, k2, k3, d01, d02, d03, d12, d13, d23⟩ := hM
       obtain ⟨q0, e0⟩ := k0 rfl
       obtain ⟨q1, e1⟩ := k1 rfl
       obtain ⟨q2, e2⟩ := k2 rfl
       obtain ⟨q3, e3⟩ := k3 rfl
       have d01 := d01 rfl rfl
       have d02 := d02 rfl rfl
       have d03 := d03 rfl rfl
       have d12 := d12 rfl rfl
       have d13 := d13 rfl rfl
       have d23 := d23 rfl rfl
       rw [hw0] at e0 e1 e2 e3 hbq
       have hbl1 := hb1.lt
       have hxw1 := ext_trans hxa hx1
       have hr1 := hr0.ext hx1
       have hfd := mltField_any w1 bq g0 _ _ _ hb1 q0 (by omega) a0 n0 c0 fs (HF.out w1 hxw1) hFb
       clear k0 k1 k2 k3 hb1 q0 hx1)
    | (go_at_call 55; refine hfd.mono ?_; rintro r w2 ⟨rfl, fsa, fsc, hb2, hT2, hk2, hs2, hE2⟩
       have hxw2 := hE2 w hxw1 (by omega) (by omega)
       have p1 : Box w2 g1 #[] 9 := (hk2 g1 ⟨by omega, by omega⟩ (by omega)).trans q1
       have p2 : Box w2 g2 #[] 82 := (hk2 g2 ⟨by omega, by omega⟩ (by omega)).trans q2
       have p3 : Box w2 g3 #[] 82 := (hk2 g3 ⟨by omega, by omega⟩ (by omega)).trans q3
       have hr2 : Box w2 w.heap.size (El.arr El0) 30 := (hk2 w.heap.size ⟨by omega, by omega⟩ (by omega)).trans hr1
       have hT2 := hT2.to (S' := fun q => q < w2.heap.size ∧ (q = g0 ∨ w1.heap.size ≤ q)) (fun q hq hl => ⟨hl, hq⟩)
       have hlk := mltLike_any w2 bq g2 _ _ _ hb2 p2 (by omega) a1 n1 c1 ls (HA.out w2 hxw2) (fun q (hq : q < w.heap.size) _ => ⟨by omega, by omega⟩) hAb
       clear hE2 hk2 q1 q2 q3 hr1 hb2 hfd p2)
    | (go_at_call 56; refine hlk.mono ?_; rintro r w3 ⟨rfl, v, us, hb3, hO3, hul, hI3, hv3, hk3, hs3, hE3⟩
       have hxw3 := hE3 w hxw2 (by omega) (by omega)
       have p1 : Box w3 g1 #[] 9 := (hk3 g1 ⟨by omega, by omega⟩ (by omega)).trans p1
       have p3 : Box w3 g3 #[] 82 := (hk3 g3 ⟨by omega, by omega⟩ (by omega)).trans p3
       have hr3 : Box w3 w.heap.size (El.arr El0) 30 := (hk3 w.heap.size ⟨by omega, by omega⟩ (by omega)).trans hr2
       have hT3 := hT2.keep (S' := fun q => q < w2.heap.size ∧ (q = g0 ∨ w1.heap.size ≤ q)) (fun _ h _ => h) (Keeps.mono hk3 (fun q (hq : q < w2.heap.size ∧ (q = g0 ∨ w1.heap.size ≤ q)) => ⟨by omega, by omega⟩)) hs3
       have hob3 : ∀ q, v.ownBlock = some q → q < w3.heap.size := fun q hq => (hO3.block hq).2
       have hI3 := hI3.to (S' := fun q => w2.heap.size ≤ q ∧ q < w3.heap.size ∧ v.ownBlock ≠ some q) (fun q hq hl => ⟨hq.1, hl, hq.2⟩)
       have huk := mltUnlike_any w3 bq g3 _ _ _ hb3 p3 (by omega) a2 n2 c2 xs (HU.out w3 hxw3) (fun q (hq : q < w.heap.size) _ => ⟨by omega, by omega⟩) hUb
       clear hE3 hk3 hr2 hb3 hlk p3 hT2)
    | (go_at_call 57; refine huk.mono ?_; rintro r w4 ⟨rfl, e, ues, hb4, hO4, huel, hI4, hv4, hk4, hs4, hE4⟩
       have hxw4 := hE4 w hxw3 (by omega) (by omega)
       have p1 : Box w4 g1 #[] 9 := (hk4 g1 ⟨by omega, by omega⟩ (by omega)).trans p1
       have hr4 : Box w4 w.heap.size (El.arr El0) 30 := (hk4 w.heap.size ⟨by omega, by omega⟩ (by omega)).trans hr3
       have hT4 := hT3.keep (S' := fun q => q < w2.heap.size ∧ (q = g0 ∨ w1.heap.size ≤ q)) (fun _ h _ => h) (Keeps.mono hk4 (fun q (hq : q < w2.heap.size ∧ (q = g0 ∨ w1.heap.size ≤ q)) => ⟨by omega, by omega⟩)) hs4
       have hO4v := hO3.keep (S := fun q => q ≠ bq ∧ q ≠ g3) (fun q hq => by have := hv3 q hq; constructor <;> omega) hk4
       have hI4v := hI3.keep (S' := fun q => w2.heap.size ≤ q ∧ q < w3.heap.size ∧ v.ownBlock ≠ some q) (fun _ h _ => h) (Keeps.mono hk4 (fun q (hq : w2.heap.size ≤ q ∧ q < w3.heap.size ∧ v.ownBlock ≠ some q) => ⟨by omega, by omega⟩))
       have hob4 : ∀ q, e.ownBlock = some q → q < w4.heap.size := fun q hq => (hO4.block hq).2
       have hI4 := hI4.to (S' := fun q => w3.heap.size ≤ q ∧ q < w4.heap.size) (fun q hq hl => ⟨hq.1, hl⟩)
       have hsw := mltStop_any w4 bq g1 _ _ _ hb4 p1 (by omega) a3 n3 c3 st (HWs.out w4 hxw4) hWb
       clear hE4 hk4 hr3 hb4 huk p1 hT3 hO3 hI3)
    | (go_at_call 58; refine hsw.mono ?_; rintro r w5 ⟨rfl, sta, stc, hb5, hT5s, hk5, hs5, hE5⟩
       have hxw5 := hE5 w hxw4 (by omega) (by omega)
       have hr5 : Box w5 w.heap.size (El.arr El0) 30 := (hk5 w.heap.size ⟨by omega, by omega⟩ (by omega)).trans hr4
       have hT5 := hT4.keep (S' := fun q => q < w2.heap.size ∧ (q = g0 ∨ w1.heap.size ≤ q)) (fun _ h _ => h) (Keeps.mono hk5 (fun q (hq : q < w2.heap.size ∧ (q = g0 ∨ w1.heap.size ≤ q)) => ⟨by omega, by omega⟩)) hs5
       have hO5v := hO4v.keep (S := fun q => q ≠ bq ∧ q ≠ g1) (fun q hq => by have := hv3 q hq; constructor <;> omega) hk5
       have hI5v := hI4v.keep (S' := fun q => w2.heap.size ≤ q ∧ q < w3.heap.size ∧ v.ownBlock ≠ some q) (fun _ h _ => h) (Keeps.mono hk5 (fun q (hq : w2.heap.size ≤ q ∧ q < w3.heap.size ∧ v.ownBlock ≠ some q) => ⟨by omega, by omega⟩))
       have hO5e := hO4.keep (S := fun q => q ≠ bq ∧ q ≠ g1) (fun q hq => by have := hv4 q hq; constructor <;> omega) hk5
       have hI5e := hI4.keep (S' := fun q => w3.heap.size ≤ q ∧ q < w4.heap.size) (fun _ h _ => h) (Keeps.mono hk5 (fun q (hq : w3.heap.size ≤ q ∧ q < w4.heap.size) => ⟨by omega, by omega⟩))
       have hT5s := hT5s.to (S' := fun q => q < w5.heap.size ∧ (q = g1 ∨ w4.heap.size ≤ q)) (fun q hq hl => ⟨hl, hq⟩)
       clear hE5 hk5 hr4 hsw hT4 hO4v hI4v hO4 hI4)
    | fail)
  obtain ⟨esa, esn, esc, he, hEa⟩ := OwnP.items (S := fun q => q = g3 ∨ (w3.heap.size ≤ q ∧ q < w4.heap.size)) hO5e (fun q hq => by have := hv4 q hq; have := hob4 q hq; omega) (hI5e.to (fun q hq _ => .inr hq))
  subst he
  have hesn : esn ≤ 4294967294 := by have := hEa.len; rw [List.length_map] at this; omega
  have hbl5 := hb5.lt
  have hvr : ∀ q, v.ownBlock = some q → q = g2 ∨ (w2.heap.size ≤ q ∧ q < w3.heap.size) ∨ w5.heap.size ≤ q := fun q hq => by have := hv3 q hq; have := hob3 q hq; omega
  have HT5 := Lib.hid hT5
  have HT5s := Lib.hid hT5s
  have HEa := Lib.hid hEa
  have HO5 := Lib.hid hO5v
  have HI5 := Lib.hid (hI5v.to (S' := fun q => ((w2.heap.size ≤ q ∧ q < w3.heap.size) ∨ w5.heap.size ≤ q) ∧ v.ownBlock ≠ some q) (fun q hq _ => ⟨.inl ⟨hq.1, hq.2.1⟩, hq.2.2⟩))
  clear hT5 hT5s hEa hO5v hI5v hO5e hI5e hv3 hob3 hv4 hob4
  go_loopw [30] (fun i wr => Ext w wr ∧ w5.heap.size ≤ wr.heap.size ∧ Box wr w.heap.size (El.arr El0) 30 ∧ TextsO (fun q => q < w2.heap.size ∧ (q = g0 ∨ w1.heap.size ≤ q)) wr fsa n0 fsc fs ∧ ItemsAt (fun q => q = g3 ∨ (w3.heap.size ≤ q ∧ q < w4.heap.size)) wr esa esn esc (xs.map Sum.inl) ∧ TextsO (fun q => q < w5.heap.size ∧ (q = g1 ∨ w4.heap.size ≤ q)) wr sta n3 stc st ∧
    ∃ (j : Nat) (vr : Value) (us : List Value), j ≤ n4 ∧ i = .int .i64 j ∧ Box wr bq (mltA (.slice fsa n0 fsc) vr (.slice esa esn esc) (.slice sta n3 stc)) 111 ∧ OwnP 82 wr 0 vr us ∧ us.length = n1 + j ∧ ItemsL (fun q => ((w2.heap.size ≤ q ∧ q < w3.heap.size) ∨ w5.heap.size ≤ q) ∧ vr.ownBlock ≠ some q) wr us (ls.map Sum.inl ++ (its.take j).map Sum.inr) ∧ (∀ q, vr.ownBlock = some q → q = g2 ∨ (w2.heap.size ≤ q ∧ q < w3.heap.size) ∨ w5.heap.size ≤ q)) (fun i _ => n4 - (intOf i).toNat)
  case atStart =>
    exact ⟨hxw5, Nat.le_refl _, hr5, HT5.out, HEa.out, HT5s.out, 0, v, us, Nat.zero_le _, rfl, hb5, HO5.out, by omega, by simpa using HI5.out, hvr⟩
  case round =>
    clear hxw5 hr5 HT5 HEa HT5s hb5 HO5 HI5 hvr hul
    obtain ⟨hx, hsz, hr, hT, hEa, hTs, j, vr, us, hj, rfl, hbr, hO, hul, hI, hvr⟩ := hrel
    have HT := Lib.hid hT
    have HEa := Lib.hid hEa
    have HTs := Lib.hid hTs
    have HO := Lib.hid hO
    have HIt := Lib.hid hI
    have hob : ∀ q, vr.ownBlock = some q → q < wr.heap.size := fun q hq => (hO.block hq).2
    have hvb : vr.ownBlock ≠ some bq := fun e => by have := hvr bq e; omega
    clear hT hEa hTs hO hI
    by_cases hlt : j < n4
    case pos =>
      obtain ⟨⟨it, dt⟩, hit⟩ := some_of_lt HLI.out hlt
      obtain ⟨tb, tof, rfl, hSb, hc0, hc1⟩ := HIC.out j _ hit
      dsimp only at hc0 hc1
      have hc0 := hx.cell hc0
      have hc1 := hx.cell hc1
      have HP := Lib.hid hit
      clear hit
      have hwi : Ext wr (wr.alloc (.cells #[.string it, .string dt] 76)) := ext_alloc (ext_refl _) _
      have hbi : Box (wr.alloc (.cells #[.string it, .string dt] 76)) wr.heap.size #[.string it, .string dt] 76 := Box.at rfl _ _
      go_upto_region 5 with fail
      refine wp_region_order (fun w' => w'.cell? ⟨wr.heap.size, 0, none⟩ = some (.string it) ∧ w'.cell? ⟨wr.heap.size, 1, none⟩ = some (.string dt)) [0, 2, 3, 5, 6] [0, 2, 3, 5, 6, 1, 4, 7, 8, 9] (by kernel_rfl) (by kernel_rfl) (fun d _ _ _ _ h => by cases d <;> exact h) (by kernel_rfl) ?_
      have hS : (fun (w' : World) => w'.cell? ⟨wr.heap.size, 0, none⟩ = some (.string it) ∧ w'.cell? ⟨wr.heap.size, 1, none⟩ = some (.string dt)) (wr.alloc (.cells #[.string it, .string dt] 76)).drew := ⟨hbi.drew.cell 0 _ rfl, hbi.drew.cell 1 _ rfl⟩
      iterate 5 (apply ord_held rfl rfl (by assumption) rfl; (focus ((intro w' hS'); go_simp; (try with_reducible rfl))); (try simp only [Act.put, List.setIfInBounds_toArray, List.set_cons_zero, List.set_cons_succ]))
      (apply ord_loud rfl rfl rfl; intro K hK; go_simp)
      refine (newItem_any _).mono ?_
      rintro r wA ⟨rfl, hA⟩
      have hxA : Ext wr wA := by rw [hA]; exact ext_alloc (ext_drew hwi) _
      have hpA : Box wA (wr.alloc (.cells #[.string it, .string dt] 76)).drew.heap.size (itemV ⟨#[]⟩ ⟨#[]⟩ ⟨#[]⟩) 114 := by rw [hA]; exact Box.at rfl _ _
      have hpw : wr.heap.size < (wr.alloc (.cells #[.string it, .string dt] 76)).drew.heap.size := hbi.drew.lt
      have hSA : (fun (w' : World) => w'.cell? ⟨wr.heap.size, 0, none⟩ = some (.string it) ∧ w'.cell? ⟨wr.heap.size, 1, none⟩ = some (.string dt)) wA := by rw [hA]; exact ⟨(hbi.drew.alloc _).cell 0 _ rfl, (hbi.drew.alloc _).cell 1 _ rfl⟩
      have hbiA : Box wA wr.heap.size #[.string it, .string dt] 76 := by rw [hA]; exact hbi.drew.alloc _
      refine hK _ _ (fun _ => hSA) ?_
      clear hK K hA hS hSA
      generalize (wr.alloc (.cells #[.string it, .string dt] 76)).drew.heap.size = pI at hpA hpw ⊢
      (try simp only [Act.put, List.setIfInBounds_toArray, List.set_cons_zero, List.set_cons_succ])
      (apply ord_loud rfl rfl rfl; intro K hK; go_simp)
      refine (itemIndex_any _ _ _ _ rfl hpA _).mono ?_
      rintro r wB ⟨rfl, hB⟩
      have hpB : Box wB pI (itemV ⟨#[]⟩ it ⟨#[]⟩) 114 := by rw [hB]; exact hpA.set 1 _
      have hxB : Ext wr wB := by rw [hB]; exact ext_set hxA (by simp; omega) _
      have hbiB : Box wB wr.heap.size #[.string it, .string dt] 76 := by rw [hB]; exact hbiA.other (by simp; omega) _
      refine hK _ _ (fun _ => ⟨hbiB.cell 0 _ rfl, hbiB.cell 1 _ rfl⟩) ?_
      clear hK K hB hpA hxA hbiA
      (try simp only [Act.put, List.setIfInBounds_toArray, List.set_cons_zero, List.set_cons_succ])
      (apply ord_loud rfl rfl rfl; intro K hK; go_simp)
      refine (itemId_any _ _ _ _ rfl hpB _).mono ?_
      rintro r wC ⟨rfl, hC⟩
      have hpC : Box wC pI (itemV ⟨#[]⟩ it dt) 114 := by rw [hC]; exact hpB.set 3 _
      have hxC : Ext wr wC := by rw [hC]; exact ext_set hxB (by simp; omega) _
      have hbiC : Box wC wr.heap.size #[.string it, .string dt] 76 := by rw [hC]; exact hbiB.other (by simp; omega) _
      refine hK _ _ (fun _ => ⟨hbiC.cell 0 _ rfl, hbiC.cell 1 _ rfl⟩) ?_
      clear hK K hC hpB hxB hbiB
      (try simp only [Act.put, List.setIfInBounds_toArray, List.set_cons_zero, List.set_cons_succ])
      (apply ord_loud rfl rfl rfl; intro K hK; go_simp)
      have hxn : Ext wr (wC.alloc (.cells #[.pointer (some ⟨pI, 0, none⟩)] 82)) := ext_alloc hxC _
      have hbn : Box (wC.alloc (.cells #[.pointer (some ⟨pI, 0, none⟩)] 82)) wC.heap.size #[.pointer (some ⟨pI, 0, none⟩)] 82 := Box.at rfl _ _
      have hpn := hpC.alloc (.cells #[.pointer (some ⟨pI, 0, none⟩)] 82)
      have hbin := hbiC.alloc (.cells #[.pointer (some ⟨pI, 0, none⟩)] 82)
      refine hK _ _ (fun _ => ⟨hbin.cell 0 _ rfl, hbin.cell 1 _ rfl⟩) ?_
      clear hK K hpC hbiC hbi
      generalize wC.alloc (.cells #[.pointer (some ⟨pI, 0, none⟩)] 82) = wN at hxn hbn hpn hbin ⊢
      (try simp only [Act.put, List.setIfInBounds_toArray, List.set_cons_zero, List.set_cons_succ])
      (apply ord_loud rfl rfl rfl; intro K hK; go_simp)
      refine (mltItems_any wN bq _ vr _ _ us (hbr.ext hxn) (HO.out.ext hxn) hvb wC.heap.size 1 pI (hbn.cell 0 _ rfl) (by omega)).mono ?_
      rintro r wD ⟨rfl, v5, hbD, hOD, hvD, hvbD, hkD, hsD, hED⟩
      have hbiD : Box wD wr.heap.size #[.string it, .string dt] 76 := (hkD wr.heap.size ⟨by omega, fun e => by have := hob _ e; omega⟩ hbin.lt).trans hbin
      refine hK _ _ (fun _ => ⟨hbiD.cell 0 _ rfl, hbiD.cell 1 _ rfl⟩) ?_
      clear hK K hbin hbiD
      (try simp only [Act.put, List.setIfInBounds_toArray, List.set_cons_zero, List.set_cons_succ])
      refine ord_end ?_
      have hsn := hxn.sz
      have hpl := hpn.lt
      have hTD := Lib.hid ((HT.out.ext hxn).keep (S' := fun q => q < w2.heap.size ∧ (q = g0 ∨ w1.heap.size ≤ q)) (fun _ h _ => h) (Keeps.mono hkD (fun q (hq : q < w2.heap.size ∧ (q = g0 ∨ w1.heap.size ≤ q)) => ⟨by omega, fun e => by have := hvr q e; omega⟩)) hsD)
      have hTsD := Lib.hid ((HTs.out.ext hxn).keep (S' := fun q => q < w5.heap.size ∧ (q = g1 ∨ w4.heap.size ≤ q)) (fun _ h _ => h) (Keeps.mono hkD (fun q (hq : q < w5.heap.size ∧ (q = g1 ∨ w4.heap.size ≤ q)) => ⟨by omega, fun e => by have := hvr q e; omega⟩)) hsD)
      have hEaD := Lib.hid ((HEa.out.ext hxn).keep (S' := fun q => q = g3 ∨ (w3.heap.size ≤ q ∧ q < w4.heap.size)) (fun _ h _ => h) (Keeps.mono hkD (fun q (hq : q = g3 ∨ (w3.heap.size ≤ q ∧ q < w4.heap.size)) => ⟨by omega, fun e => by have := hvr q e; omega⟩)) hsD)
      have hrD : Box wD w.heap.size (El.arr El0) 30 := (hkD w.heap.size ⟨by omega, fun e => by have := hvr _ e; omega⟩ (by omega)).trans (hr.ext hxn)
      have hxD : Ext w wD := hED w (ext_trans hx hxn) (fun q hq => by have := hvr q hq; omega) (by omega)
      have hvrD : ∀ q, v5.ownBlock = some q → q = g2 ∨ (w2.heap.size ≤ q ∧ q < w3.heap.size) ∨ w5.heap.size ≤ q := fun q hq => by
        rcases hvD q hq with h | h
        · exact hvr q h
        · exact .inr (.inr (by omega))
      have hID := Lib.hid (((HIt.out.ext hxn).append (ItemsL.one (d := Sum.inr (it, dt)) (S := fun q => ((w2.heap.size ≤ q ∧ q < w3.heap.size) ∨ w5.heap.size ≤ q) ∧ vr.ownBlock ≠ some q) ⟨.inr (by omega), fun e => by have := hob _ e; omega⟩ hpn)).keep (S' := fun q => ((w2.heap.size ≤ q ∧ q < w3.heap.size) ∨ w5.heap.size ≤ q) ∧ v5.ownBlock ≠ some q)
        (fun q hq hl => ⟨hq.1, fun e => by rcases hvD q e with h | h; exact hq.2 h; omega⟩) (Keeps.mono hkD (fun q (hq : ((w2.heap.size ≤ q ∧ q < w3.heap.size) ∨ w5.heap.size ≤ q) ∧ vr.ownBlock ≠ some q) => ⟨by omega, hq.2⟩)))
      have hOD2 := Lib.hid hOD
      clear hkD hED hOD hvD hbn hpn hob
      go_wp2_with fail
      go_roundw
      case rel =>
        refine ⟨hxD, by omega, hrD, hTD.out, hEaD.out, hTsD.out, j + 1, v5, us ++ [.pointer (some ⟨pI, 0, none⟩)], by omega, by go_num, hbD, hOD2.out, by simp; omega, ?_, hvrD⟩
        rw [take_snoc HP.out, List.map_append, ← List.append_assoc]
        exact hID.out
      case measure => simp [intOf]; omega
    case neg =>
      have hjn : j = n4 := by omega
      have hfull : its.take j = its := List.take_of_length_le (by have := HLI.out; omega)
      have hI := HIt.out
      rw [hfull] at hI
      obtain ⟨dsa, dsn, dsc, hd, hDa⟩ := OwnP.items (S := fun q => q ≠ bq) HO.out (fun q hq e => by have := hvr q hq; omega) (hI.to (fun q hq _ => by omega))
      subst hd
      have hXd := hDa
      have hdl := hDa.len
      rw [List.length_append, List.length_map, List.length_map] at hdl
      have hlI2 := HLI.out
      have hdn1 : dsn ≤ 4294967294 := by omega
      have hdn2 : 0 < dsn := by omega
      have hXf : TextsO (fun q => q ≠ bq) wr fsa n0 fsc fs := HT.out.to (fun q hq _ => by omega)
      have hXs : TextsO (fun q => q ≠ bq) wr sta n3 stc st := HTs.out.to (fun q hq _ => by omega)
      have hXe : ItemsAt (fun q => q ≠ bq) wr esa esn esc (xs.map Sum.inl) := HEa.out.to (fun q hq _ => by omega)
      have hbl := hbr.lt
      have hxs := hx
      have hb0s := hr
      have hbs := hbr
      clear HO HIt HT HTs HEa hvr hob hvb hI hjn hfull hlI2 hdl hx hr hbr hDa
      go_wp2_with fail
      go_loopw [47] (fun i wr => Ext w wr ∧ (bq + 1) ≤ wr.heap.size ∧ Box wr w.heap.size (El.arr El0) 30 ∧ ∃ (j : Nat) (v3 : Option Addr) (v4 : ByteArray) (v5 : Option Addr) (v6 : Option Addr) (v8 : Option Addr) (v9 : Option Addr) (v10 : Option Addr) (v11 : Option Addr) (v12 : Option Addr) (v13 : Option Addr) (v14 : ByteArray) (v15 : Option Addr) (v16 : ByteArray), j ≤ n ∧ i = .int .i64 j ∧ Box wr bq #[.slice fsa n0 fsc, .slice dsa dsn dsc, .slice esa esn esc, .pointer v3, .string v4, .pointer v5, .pointer v6, .slice sta n3 stc, .pointer v8, .pointer v9, .pointer v10, .pointer v11, .pointer v12, .pointer v13, .string v14, .pointer v15, .string v16] 111 ∧ FY (fun q => q ≠ bq) wr v3 (lastOf (ps.take j) s_include) ∧ v4 = fT (lastOf (ps.take j) s_minimum_should_match) ∧ FW (fun q => q ≠ bq) wr v5 (lastOf (ps.take j) s_min_term_freq) ∧ FW (fun q => q ≠ bq) wr v6 (lastOf (ps.take j) s_max_query_terms) ∧ FW (fun q => q ≠ bq) wr v8 (lastOf (ps.take j) s_min_doc_freq) ∧ FW (fun q => q ≠ bq) wr v9 (lastOf (ps.take j) s_max_doc_freq) ∧ FW (fun q => q ≠ bq) wr v10 (lastOf (ps.take j) s_min_word_length) ∧ FW (fun q => q ≠ bq) wr v11 (lastOf (ps.take j) s_max_word_length) ∧ FN (fun q => q ≠ bq) wr v12 (lastOf (ps.take j) s_boost_terms) ∧ FN (fun q => q ≠ bq) wr v13 (lastOf (ps.take j) s_boost) ∧ v14 = fT (lastOf (ps.take j) s_analyzer) ∧ FY (fun q => q ≠ bq) wr v15 (lastOf (ps.take j) s_fail_on_unsupported_field) ∧ v16 = fT (lastOf (ps.take j) s_name) ∧ TextsO (fun q => q ≠ bq) wr fsa n0 fsc fs ∧ ItemsAt (fun q => q ≠ bq) wr dsa dsn dsc (ls.map Sum.inl ++ its.map Sum.inr) ∧ ItemsAt (fun q => q ≠ bq) wr esa esn esc (xs.map Sum.inl) ∧ TextsO (fun q => q ≠ bq) wr sta n3 stc st) (fun i _ => n - (intOf i).toNat)
      case atStart => exact ⟨hxs, by omega, hb0s, 0, _, _, _, _, _, _, _, _, _, _, _, _, _, Nat.zero_le _, rfl, hbs, rfl, rfl, rfl, rfl, rfl, rfl, rfl, rfl, rfl, rfl, rfl, rfl, rfl, hXf, hXd, hXe, hXs⟩
      case round =>
        obtain ⟨hx, hsz, hb0, j, v3, v4, v5, v6, v8, v9, v10, v11, v12, v13, v14, v15, v16, hj, rfl, hbq, h3, h4, h5, h6, h8, h9, h10, h11, h12, h13, h14, h15, h16, hXf, hXd, hXe, hXs⟩ := hrel
        have H3 := Lib.hid h3
        have H4 := Lib.hid h4
        have H5 := Lib.hid h5
        have H6 := Lib.hid h6
        have H8 := Lib.hid h8
        have H9 := Lib.hid h9
        have H10 := Lib.hid h10
        have H11 := Lib.hid h11
        have H12 := Lib.hid h12
        have H13 := Lib.hid h13
        have H14 := Lib.hid h14
        have H15 := Lib.hid h15
        have H16 := Lib.hid h16
        have HXf := Lib.hid hXf
        clear hXf
        have HXd := Lib.hid hXd
        clear hXd
        have HXe := Lib.hid hXe
        clear hXe
        have HXs := Lib.hid hXs
        clear hXs
        clear h3 h4 h5 h6 h8 h9 h10 h11 h12 h13 h14 h15 h16
        have hbql := hbq.lt
        by_cases hlt : j < n
        · obtain ⟨p, hp⟩ := some_of_lt HL.out hlt
          obtain ⟨b, off, ⟨k, x, d, y, ka, kn, kc, ca, m, cc⟩, rfl, hSb, hc7, hT⟩ := hc j p hp
          obtain ⟨z0, z1, z2, z3, z4, z5, z6⟩ := Cells7.ext hx hc7
          have HP := Lib.hid hp
          have hl0 : w.heap.size < wr.heap.size := by omega
          have hl1 : ¬ w.heap.size = wr.heap.size := by omega
          have hl2 : bq < wr.heap.size + 1 := by omega
          have hTx := Lib.hid hT.parts.2.1
          have hTd := Lib.hid hT.parts.2.2.1
          have hTy := Lib.hid hT.parts.2.2.2.1
          clear hp
          have hc0 := hbq.cell 0 _ rfl
          have hf0 := hbq.free 0
          have hc1 := hbq.cell 1 _ rfl
          have hf1 := hbq.free 1
          have hc2 := hbq.cell 2 _ rfl
          have hf2 := hbq.free 2
          have hc3 := hbq.cell 3 _ rfl
          have hf3 := hbq.free 3
          have hc4 := hbq.cell 4 _ rfl
          have hf4 := hbq.free 4
          have hc5 := hbq.cell 5 _ rfl
          have hf5 := hbq.free 5
          have hc6 := hbq.cell 6 _ rfl
          have hf6 := hbq.free 6
          have hc7 := hbq.cell 7 _ rfl
          have hf7 := hbq.free 7
          have hc8 := hbq.cell 8 _ rfl
          have hf8 := hbq.free 8
          have hc9 := hbq.cell 9 _ rfl
          have hf9 := hbq.free 9
          have hc10 := hbq.cell 10 _ rfl
          have hf10 := hbq.free 10
          have hc11 := hbq.cell 11 _ rfl
          have hf11 := hbq.free 11
          have hc12 := hbq.cell 12 _ rfl
          have hf12 := hbq.free 12
          have hc13 := hbq.cell 13 _ rfl
          have hf13 := hbq.free 13
          have hc14 := hbq.cell 14 _ rfl
          have hf14 := hbq.free 14
          have hc15 := hbq.cell 15 _ rfl
          have hf15 := hbq.free 15
          have hc16 := hbq.cell 16 _ rfl
          have hf16 := hbq.free 16
          cases he0 : p.1.toList == [97, 110, 97, 108, 121, 122, 101, 114]
          · have e0 : seq p.1 s_analyzer = false := by rw [seq, show s_analyzer.toList = [97, 110, 97, 108, 121, 122, 101, 114] by rw [Lib.toList_data]]; exact he0
            cases he1 : p.1.toList == [98, 111, 111, 115, 116]
            · have e1 : seq p.1 s_boost = false := by rw [seq, show s_boost.toList = [98, 111, 111, 115, 116] by rw [Lib.toList_data]]; exact he1
              cases he2 : p.1.toList == [98, 111, 111, 115, 116, 95, 116, 101, 114, 109, 115]
              · have e2 : seq p.1 s_boost_terms = false := by rw [seq, show s_boost_terms.toList = [98, 111, 111, 115, 116, 95, 116, 101, 114, 109, 115] by rw [Lib.toList_data]]; exact he2
                cases he3 : p.1.toList == [102, 97, 105, 108, 95, 111, 110, 95, 117, 110, 115, 117, 112, 112, 111, 114, 116, 101, 100, 95, 102, 105, 101, 108, 100]
                · have e3 : seq p.1 s_fail_on_unsupported_field = false := by rw [seq, show s_fail_on_unsupported_field.toList = [102, 97, 105, 108, 95, 111, 110, 95, 117, 110, 115, 117, 112, 112, 111, 114, 116, 101, 100, 95, 102, 105, 101, 108, 100] by rw [Lib.toList_data]]; exact he3
                  cases he4 : p.1.toList == [105, 110, 99, 108, 117, 100, 101]
                  · have e4 : seq p.1 s_include = false := by rw [seq, show s_include.toList = [105, 110, 99, 108, 117, 100, 101] by rw [Lib.toList_data]]; exact he4
                    cases he5 : p.1.toList == [109, 97, 120, 95, 100, 111, 99, 95, 102, 114, 101, 113]
                    · have e5 : seq p.1 s_max_doc_freq = false := by rw [seq, show s_max_doc_freq.toList = [109, 97, 120, 95, 100, 111, 99, 95, 102, 114, 101, 113] by rw [Lib.toList_data]]; exact he5
                      cases he6 : p.1.toList == [109, 97, 120, 95, 113, 117, 101, 114, 121, 95, 116, 101, 114, 109, 115]
                      · have e6 : seq p.1 s_max_query_terms = false := by rw [seq, show s_max_query_terms.toList = [109, 97, 120, 95, 113, 117, 101, 114, 121, 95, 116, 101, 114, 109, 115] by rw [Lib.toList_data]]; exact he6
                        cases he7 : p.1.toList == [109, 97, 120, 95, 119, 111, 114, 100, 95, 108, 101, 110, 103, 116, 104]
                        · have e7 : seq p.1 s_max_word_length = false := by rw [seq, show s_max_word_length.toList = [109, 97, 120, 95, 119, 111, 114, 100, 95, 108, 101, 110, 103, 116, 104] by rw [Lib.toList_data]]; exact he7
                          cases he8 : p.1.toList == [109, 105, 110, 95, 100, 111, 99, 95, 102, 114, 101, 113]
                          · have e8 : seq p.1 s_min_doc_freq = false := by rw [seq, show s_min_doc_freq.toList = [109, 105, 110, 95, 100, 111, 99, 95, 102, 114, 101, 113] by rw [Lib.toList_data]]; exact he8
                            cases he9 : p.1.toList == [109, 105, 110, 95, 116, 101, 114, 109, 95, 102, 114, 101, 113]
                            · have e9 : seq p.1 s_min_term_freq = false := by rw [seq, show s_min_term_freq.toList = [109, 105, 110, 95, 116, 101, 114, 109, 95, 102, 114, 101, 113] by rw [Lib.toList_data]]; exact he9
                              cases he10 : p.1.toList == [109, 105, 110, 95, 119, 111, 114, 100, 95, 108, 101, 110, 103, 116, 104]
                              · have e10 : seq p.1 s_min_word_length = false := by rw [seq, show s_min_word_length.toList = [109, 105, 110, 95, 119, 111, 114, 100, 95, 108, 101, 110, 103, 116, 104] by rw [Lib.toList_data]]; exact he10
                                cases he11 : p.1.toList == [109, 105, 110, 105, 109, 117, 109, 95, 115, 104, 111, 117, 108, 100, 95, 109, 97, 116, 99, 104]
                                · have e11 : seq p.1 s_minimum_should_match = false := by rw [seq, show s_minimum_should_match.toList = [109, 105, 110, 105, 109, 117, 109, 95, 115, 104, 111, 117, 108, 100, 95, 109, 97, 116, 99, 104] by rw [Lib.toList_data]]; exact he11
                                  cases he12 : p.1.toList == [95, 110, 97, 109, 101]
                                  · have e12 : seq p.1 s_name = false := by rw [seq, show s_name.toList = [95, 110, 97, 109, 101] by rw [Lib.toList_data]]; exact he12
                                    go_wp2_with go_in
                                    go_roundw
                                    case rel =>
                                      have hy := ext_alloc (ext_refl wr) (.cells #[.string p.1, .int .i64 k, .string x, .float .f64 d, .bool y, .slice ka kn kc, .slice ca m cc] 49)
                                      exact ⟨ext_trans hx hy, Nat.le_trans hsz hy.sz, hb0.ext hy, j + 1, v3, v4, v5, v6, v8, v9, v10, v11, v12, v13, v14, v15, v16, by omega, by go_num, hbq.ext hy, by rw [last_miss HP.out e4]; exact FY.ext hy H3.out, by rw [last_miss HP.out e11]; exact H4.out, by rw [last_miss HP.out e9]; exact FW.ext hy H5.out, by rw [last_miss HP.out e6]; exact FW.ext hy H6.out, by rw [last_miss HP.out e8]; exact FW.ext hy H8.out, by rw [last_miss HP.out e5]; exact FW.ext hy H9.out, by rw [last_miss HP.out e10]; exact FW.ext hy H10.out, by rw [last_miss HP.out e7]; exact FW.ext hy H11.out, by rw [last_miss HP.out e2]; exact FN.ext hy H12.out, by rw [last_miss HP.out e1]; exact FN.ext hy H13.out, by rw [last_miss HP.out e0]; exact H14.out, by rw [last_miss HP.out e3]; exact FY.ext hy H15.out, by rw [last_miss HP.out e12]; exact H16.out, TextsO.ext HXf.out hy, ItemsAt.ext HXd.out hy, ItemsAt.ext HXe.out hy, TextsO.ext HXs.out hy⟩
                                    case measure => simp [intOf]; omega
                                  · have e12 : seq p.1 s_name = true := by rw [seq, show s_name.toList = [95, 110, 97, 109, 101] by rw [Lib.toList_data]]; exact he12
                                    go_wp2_with go_in
                                    go_roundw
                                    case rel =>
                                      have hk : Keeps (fun q => q ≠ bq) wr ((wr.setCell ⟨bq, 16, none⟩ (.string x)).alloc (.cells #[.string p.1, .int .i64 k, .string x, .float .f64 d, .bool y, .slice ka kn kc, .slice ca m cc] 49)) := fun q hq hlt => (Below.heap_alloc _ _ _ (by simpa using hlt)).trans (Below.heap_setCell _ _ _ _ (by simp; omega))
                                      exact ⟨ext_alloc (ext_set hx (by simp <;> omega) _) _, by simp; omega, (hb0.other (by simp <;> omega) _).alloc _, j + 1, v3, v4, v5, v6, v8, v9, v10, v11, v12, v13, v14, v15, x, by omega, by go_num, (hbq.set 16 _).alloc _, by rw [last_other HP.out e12 (seq_false.2 (by decide))]; exact FY.keep (fun _ h _ => h) hk H3.out, by rw [last_other HP.out e12 (seq_false.2 (by decide))]; exact H4.out, by rw [last_other HP.out e12 (seq_false.2 (by decide))]; exact FW.keep (fun _ h _ => h) hk H5.out, by rw [last_other HP.out e12 (seq_false.2 (by decide))]; exact FW.keep (fun _ h _ => h) hk H6.out, by rw [last_other HP.out e12 (seq_false.2 (by decide))]; exact FW.keep (fun _ h _ => h) hk H8.out, by rw [last_other HP.out e12 (seq_false.2 (by decide))]; exact FW.keep (fun _ h _ => h) hk H9.out, by rw [last_other HP.out e12 (seq_false.2 (by decide))]; exact FW.keep (fun _ h _ => h) hk H10.out, by rw [last_other HP.out e12 (seq_false.2 (by decide))]; exact FW.keep (fun _ h _ => h) hk H11.out, by rw [last_other HP.out e12 (seq_false.2 (by decide))]; exact FN.keep (fun _ h _ => h) hk H12.out, by rw [last_other HP.out e12 (seq_false.2 (by decide))]; exact FN.keep (fun _ h _ => h) hk H13.out, by rw [last_other HP.out e12 (seq_false.2 (by decide))]; exact H14.out, by rw [last_other HP.out e12 (seq_false.2 (by decide))]; exact FY.keep (fun _ h _ => h) hk H15.out, by rw [last_hit HP.out e12]; exact hTx.out, TextsO.keep HXf.out (fun _ h _ => h) hk (by simp <;> omega), ItemsAt.keep HXd.out (fun _ h _ => h) hk (by simp <;> omega), ItemsAt.keep HXe.out (fun _ h _ => h) hk (by simp <;> omega), TextsO.keep HXs.out (fun _ h _ => h) hk (by simp <;> omega)⟩
                                    case measure => simp [intOf]; omega
                                · have e11 : seq p.1 s_minimum_should_match = true := by rw [seq, show s_minimum_should_match.toList = [109, 105, 110, 105, 109, 117, 109, 95, 115, 104, 111, 117, 108, 100, 95, 109, 97, 116, 99, 104] by rw [Lib.toList_data]]; exact he11
                                  go_wp2_with go_in
                                  go_roundw
                                  case rel =>
                                    have hk : Keeps (fun q => q ≠ bq) wr ((wr.setCell ⟨bq, 4, none⟩ (.string x)).alloc (.cells #[.string p.1, .int .i64 k, .string x, .float .f64 d, .bool y, .slice ka kn kc, .slice ca m cc] 49)) := fun q hq hlt => (Below.heap_alloc _ _ _ (by simpa using hlt)).trans (Below.heap_setCell _ _ _ _ (by simp; omega))
                                    exact ⟨ext_alloc (ext_set hx (by simp <;> omega) _) _, by simp; omega, (hb0.other (by simp <;> omega) _).alloc _, j + 1, v3, x, v5, v6, v8, v9, v10, v11, v12, v13, v14, v15, v16, by omega, by go_num, (hbq.set 4 _).alloc _, by rw [last_other HP.out e11 (seq_false.2 (by decide))]; exact FY.keep (fun _ h _ => h) hk H3.out, by rw [last_hit HP.out e11]; exact hTx.out, by rw [last_other HP.out e11 (seq_false.2 (by decide))]; exact FW.keep (fun _ h _ => h) hk H5.out, by rw [last_other HP.out e11 (seq_false.2 (by decide))]; exact FW.keep (fun _ h _ => h) hk H6.out, by rw [last_other HP.out e11 (seq_false.2 (by decide))]; exact FW.keep (fun _ h _ => h) hk H8.out, by rw [last_other HP.out e11 (seq_false.2 (by decide))]; exact FW.keep (fun _ h _ => h) hk H9.out, by rw [last_other HP.out e11 (seq_false.2 (by decide))]; exact FW.keep (fun _ h _ => h) hk H10.out, by rw [last_other HP.out e11 (seq_false.2 (by decide))]; exact FW.keep (fun _ h _ => h) hk H11.out, by rw [last_other HP.out e11 (seq_false.2 (by decide))]; exact FN.keep (fun _ h _ => h) hk H12.out, by rw [last_other HP.out e11 (seq_false.2 (by decide))]; exact FN.keep (fun _ h _ => h) hk H13.out, by rw [last_other HP.out e11 (seq_false.2 (by decide))]; exact H14.out, by rw [last_other HP.out e11 (seq_false.2 (by decide))]; exact FY.keep (fun _ h _ => h) hk H15.out, by rw [last_other HP.out e11 (seq_false.2 (by decide))]; exact H16.out, TextsO.keep HXf.out (fun _ h _ => h) hk (by simp <;> omega), ItemsAt.keep HXd.out (fun _ h _ => h) hk (by simp <;> omega), ItemsAt.keep HXe.out (fun _ h _ => h) hk (by simp <;> omega), TextsO.keep HXs.out (fun _ h _ => h) hk (by simp <;> omega)⟩
                                  case measure => simp [intOf]; omega
                              · have e10 : seq p.1 s_min_word_length = true := by rw [seq, show s_min_word_length.toList = [109, 105, 110, 95, 119, 111, 114, 100, 95, 108, 101, 110, 103, 116, 104] by rw [Lib.toList_data]]; exact he10
                                obtain ⟨z, hz, -⟩ := HW10.out p (List.mem_of_getElem? HP.out) e10
                                have hcv : ∀ w, (convert 26 3 (.float .f64 d)).run Try.prog w = .ok (.int .i64 z) w := fun w => run_convert_float_int w 26 3 .f64 .i64 d z (by rw [Try.underlying26]; rfl) Try.underlying3 (show floatToIntVal .f64 d .i64 = some z from by have h9 : d = p.2.num := hTd.out; rw [h9]; exact hz)
                                have HZ := Lib.hid hz
                                clear hz
                                go_wp2_with go_in
                                go_roundw
                                case rel =>
                                  have hk : Keeps (fun q => q ≠ bq) wr (((wr.setCell ⟨bq, 10, none⟩ (.pointer (some ⟨wr.heap.size + 1, 0, none⟩))).alloc (.cells #[.string p.1, .int .i64 k, .string x, .float .f64 d, .bool y, .slice ka kn kc, .slice ca m cc] 49)).alloc (.cells #[.int .i64 z] 3)) := fun q hq hlt => (Below.heap_alloc _ _ _ (by simp; omega)).trans ((Below.heap_alloc _ _ _ (by simpa using hlt)).trans (Below.heap_setCell _ _ _ _ (by simp; omega)))
                                  have hnew : (((wr.setCell ⟨bq, 10, none⟩ (.pointer (some ⟨wr.heap.size + 1, 0, none⟩))).alloc (.cells #[.string p.1, .int .i64 k, .string x, .float .f64 d, .bool y, .slice ka kn kc, .slice ca m cc] 49)).alloc (.cells #[.int .i64 z] 3)).cell? ⟨wr.heap.size + 1, 0, none⟩ = some (.int .i64 z) := (Box.at (by simp) _ _).cell 0 _ rfl
                                  exact ⟨ext_alloc (ext_alloc (ext_set hx (by simp <;> omega) _) _) _, by simp; omega, ((hb0.other (by simp <;> omega) _).alloc _).alloc _, j + 1, v3, v4, v5, v6, v8, v9, some ⟨wr.heap.size + 1, 0, none⟩, v11, v12, v13, v14, v15, v16, by omega, by go_num, ((hbq.set 10 _).alloc _).alloc _, by rw [last_other HP.out e10 (seq_false.2 (by decide))]; exact FY.keep (fun _ h _ => h) hk H3.out, by rw [last_other HP.out e10 (seq_false.2 (by decide))]; exact H4.out, by rw [last_other HP.out e10 (seq_false.2 (by decide))]; exact FW.keep (fun _ h _ => h) hk H5.out, by rw [last_other HP.out e10 (seq_false.2 (by decide))]; exact FW.keep (fun _ h _ => h) hk H6.out, by rw [last_other HP.out e10 (seq_false.2 (by decide))]; exact FW.keep (fun _ h _ => h) hk H8.out, by rw [last_other HP.out e10 (seq_false.2 (by decide))]; exact FW.keep (fun _ h _ => h) hk H9.out, by rw [last_hit HP.out e10]; exact ⟨wr.heap.size + 1, z, rfl, by omega, hnew, HZ.out⟩, by rw [last_other HP.out e10 (seq_false.2 (by decide))]; exact FW.keep (fun _ h _ => h) hk H11.out, by rw [last_other HP.out e10 (seq_false.2 (by decide))]; exact FN.keep (fun _ h _ => h) hk H12.out, by rw [last_other HP.out e10 (seq_false.2 (by decide))]; exact FN.keep (fun _ h _ => h) hk H13.out, by rw [last_other HP.out e10 (seq_false.2 (by decide))]; exact H14.out, by rw [last_other HP.out e10 (seq_false.2 (by decide))]; exact FY.keep (fun _ h _ => h) hk H15.out, by rw [last_other HP.out e10 (seq_false.2 (by decide))]; exact H16.out, TextsO.keep HXf.out (fun _ h _ => h) hk (by simp <;> omega), ItemsAt.keep HXd.out (fun _ h _ => h) hk (by simp <;> omega), ItemsAt.keep HXe.out (fun _ h _ => h) hk (by simp <;> omega), TextsO.keep HXs.out (fun _ h _ => h) hk (by simp <;> omega)⟩
                                case measure => simp [intOf]; omega
                            · have e9 : seq p.1 s_min_term_freq = true := by rw [seq, show s_min_term_freq.toList = [109, 105, 110, 95, 116, 101, 114, 109, 95, 102, 114, 101, 113] by rw [Lib.toList_data]]; exact he9
                              obtain ⟨z, hz, -⟩ := HW5.out p (List.mem_of_getElem? HP.out) e9
                              have hcv : ∀ w, (convert 26 3 (.float .f64 d)).run Try.prog w = .ok (.int .i64 z) w := fun w => run_convert_float_int w 26 3 .f64 .i64 d z (by rw [Try.underlying26]; rfl) Try.underlying3 (show floatToIntVal .f64 d .i64 = some z from by have h9 : d = p.2.num := hTd.out; rw [h9]; exact hz)
                              have HZ := Lib.hid hz
                              clear hz
                              go_wp2_with go_in
                              go_roundw
                              case rel =>
                                have hk : Keeps (fun q => q ≠ bq) wr (((wr.setCell ⟨bq, 5, none⟩ (.pointer (some ⟨wr.heap.size + 1, 0, none⟩))).alloc (.cells #[.string p.1, .int .i64 k, .string x, .float .f64 d, .bool y, .slice ka kn kc, .slice ca m cc] 49)).alloc (.cells #[.int .i64 z] 3)) := fun q hq hlt => (Below.heap_alloc _ _ _ (by simp; omega)).trans ((Below.heap_alloc _ _ _ (by simpa using hlt)).trans (Below.heap_setCell _ _ _ _ (by simp; omega)))
                                have hnew : (((wr.setCell ⟨bq, 5, none⟩ (.pointer (some ⟨wr.heap.size + 1, 0, none⟩))).alloc (.cells #[.string p.1, .int .i64 k, .string x, .float .f64 d, .bool y, .slice ka kn kc, .slice ca m cc] 49)).alloc (.cells #[.int .i64 z] 3)).cell? ⟨wr.heap.size + 1, 0, none⟩ = some (.int .i64 z) := (Box.at (by simp) _ _).cell 0 _ rfl
                                exact ⟨ext_alloc (ext_alloc (ext_set hx (by simp <;> omega) _) _) _, by simp; omega, ((hb0.other (by simp <;> omega) _).alloc _).alloc _, j + 1, v3, v4, some ⟨wr.heap.size + 1, 0, none⟩, v6, v8, v9, v10, v11, v12, v13, v14, v15, v16, by omega, by go_num, ((hbq.set 5 _).alloc _).alloc _, by rw [last_other HP.out e9 (seq_false.2 (by decide))]; exact FY.keep (fun _ h _ => h) hk H3.out, by rw [last_other HP.out e9 (seq_false.2 (by decide))]; exact H4.out, by rw [last_hit HP.out e9]; exact ⟨wr.heap.size + 1, z, rfl, by omega, hnew, HZ.out⟩, by rw [last_other HP.out e9 (seq_false.2 (by decide))]; exact FW.keep (fun _ h _ => h) hk H6.out, by rw [last_other HP.out e9 (seq_false.2 (by decide))]; exact FW.keep (fun _ h _ => h) hk H8.out, by rw [last_other HP.out e9 (seq_false.2 (by decide))]; exact FW.keep (fun _ h _ => h) hk H9.out, by rw [last_other HP.out e9 (seq_false.2 (by decide))]; exact FW.keep (fun _ h _ => h) hk H10.out, by rw [last_other HP.out e9 (seq_false.2 (by decide))]; exact FW.keep (fun _ h _ => h) hk H11.out, by rw [last_other HP.out e9 (seq_false.2 (by decide))]; exact FN.keep (fun _ h _ => h) hk H12.out, by rw [last_other HP.out e9 (seq_false.2 (by decide))]; exact FN.keep (fun _ h _ => h) hk H13.out, by rw [last_other HP.out e9 (seq_false.2 (by decide))]; exact H14.out, by rw [last_other HP.out e9 (seq_false.2 (by decide))]; exact FY.keep (fun _ h _ => h) hk H15.out, by rw [last_other HP.out e9 (seq_false.2 (by decide))]; exact H16.out, TextsO.keep HXf.out (fun _ h _ => h) hk (by simp <;> omega), ItemsAt.keep HXd.out (fun _ h _ => h) hk (by simp <;> omega), ItemsAt.keep HXe.out (fun _ h _ => h) hk (by simp <;> omega), TextsO.keep HXs.out (fun _ h _ => h) hk (by simp <;> omega)⟩
                              case measure => simp [intOf]; omega
                          · have e8 : seq p.1 s_min_doc_freq = true := by rw [seq, show s_min_doc_freq.toList = [109, 105, 110, 95, 100, 111, 99, 95, 102, 114, 101, 113] by rw [Lib.toList_data]]; exact he8
                            obtain ⟨z, hz, -⟩ := HW8.out p (List.mem_of_getElem? HP.out) e8
                            have hcv : ∀ w, (convert 26 3 (.float .f64 d)).run Try.prog w = .ok (.int .i64 z) w := fun w => run_convert_float_int w 26 3 .f64 .i64 d z (by rw [Try.underlying26]; rfl) Try.underlying3 (show floatToIntVal .f64 d .i64 = some z from by have h9 : d = p.2.num := hTd.out; rw [h9]; exact hz)
                            have HZ := Lib.hid hz
                            clear hz
                            go_wp2_with go_in
                            go_roundw
                            case rel =>
                              have hk : Keeps (fun q => q ≠ bq) wr (((wr.setCell ⟨bq, 8, none⟩ (.pointer (some ⟨wr.heap.size + 1, 0, none⟩))).alloc (.cells #[.string p.1, .int .i64 k, .string x, .float .f64 d, .bool y, .slice ka kn kc, .slice ca m cc] 49)).alloc (.cells #[.int .i64 z] 3)) := fun q hq hlt => (Below.heap_alloc _ _ _ (by simp; omega)).trans ((Below.heap_alloc _ _ _ (by simpa using hlt)).trans (Below.heap_setCell _ _ _ _ (by simp; omega)))
                              have hnew : (((wr.setCell ⟨bq, 8, none⟩ (.pointer (some ⟨wr.heap.size + 1, 0, none⟩))).alloc (.cells #[.string p.1, .int .i64 k, .string x, .float .f64 d, .bool y, .slice ka kn kc, .slice ca m cc] 49)).alloc (.cells #[.int .i64 z] 3)).cell? ⟨wr.heap.size + 1, 0, none⟩ = some (.int .i64 z) := (Box.at (by simp) _ _).cell 0 _ rfl
                              exact ⟨ext_alloc (ext_alloc (ext_set hx (by simp <;> omega) _) _) _, by simp; omega, ((hb0.other (by simp <;> omega) _).alloc _).alloc _, j + 1, v3, v4, v5, v6, some ⟨wr.heap.size + 1, 0, none⟩, v9, v10, v11, v12, v13, v14, v15, v16, by omega, by go_num, ((hbq.set 8 _).alloc _).alloc _, by rw [last_other HP.out e8 (seq_false.2 (by decide))]; exact FY.keep (fun _ h _ => h) hk H3.out, by rw [last_other HP.out e8 (seq_false.2 (by decide))]; exact H4.out, by rw [last_other HP.out e8 (seq_false.2 (by decide))]; exact FW.keep (fun _ h _ => h) hk H5.out, by rw [last_other HP.out e8 (seq_false.2 (by decide))]; exact FW.keep (fun _ h _ => h) hk H6.out, by rw [last_hit HP.out e8]; exact ⟨wr.heap.size + 1, z, rfl, by omega, hnew, HZ.out⟩, by rw [last_other HP.out e8 (seq_false.2 (by decide))]; exact FW.keep (fun _ h _ => h) hk H9.out, by rw [last_other HP.out e8 (seq_false.2 (by decide))]; exact FW.keep (fun _ h _ => h) hk H10.out, by rw [last_other HP.out e8 (seq_false.2 (by decide))]; exact FW.keep (fun _ h _ => h) hk H11.out, by rw [last_other HP.out e8 (seq_false.2 (by decide))]; exact FN.keep (fun _ h _ => h) hk H12.out, by rw [last_other HP.out e8 (seq_false.2 (by decide))]; exact FN.keep (fun _ h _ => h) hk H13.out, by rw [last_other HP.out e8 (seq_false.2 (by decide))]; exact H14.out, by rw [last_other HP.out e8 (seq_false.2 (by decide))]; exact FY.keep (fun _ h _ => h) hk H15.out, by rw [last_other HP.out e8 (seq_false.2 (by decide))]; exact H16.out, TextsO.keep HXf.out (fun _ h _ => h) hk (by simp <;> omega), ItemsAt.keep HXd.out (fun _ h _ => h) hk (by simp <;> omega), ItemsAt.keep HXe.out (fun _ h _ => h) hk (by simp <;> omega), TextsO.keep HXs.out (fun _ h _ => h) hk (by simp <;> omega)⟩
                            case measure => simp [intOf]; omega
                        · have e7 : seq p.1 s_max_word_length = true := by rw [seq, show s_max_word_length.toList = [109, 97, 120, 95, 119, 111, 114, 100, 95, 108, 101, 110, 103, 116, 104] by rw [Lib.toList_data]]; exact he7
                          obtain ⟨z, hz, -⟩ := HW11.out p (List.mem_of_getElem? HP.out) e7
                          have hcv : ∀ w, (convert 26 3 (.float .f64 d)).run Try.prog w = .ok (.int .i64 z) w := fun w => run_convert_float_int w 26 3 .f64 .i64 d z (by rw [Try.underlying26]; rfl) Try.underlying3 (show floatToIntVal .f64 d .i64 = some z from by have h9 : d = p.2.num := hTd.out; rw [h9]; exact hz)
                          have HZ := Lib.hid hz
                          clear hz
                          go_wp2_with go_in
                          go_roundw
                          case rel =>
                            have hk : Keeps (fun q => q ≠ bq) wr (((wr.setCell ⟨bq, 11, none⟩ (.pointer (some ⟨wr.heap.size + 1, 0, none⟩))).alloc (.cells #[.string p.1, .int .i64 k, .string x, .float .f64 d, .bool y, .slice ka kn kc, .slice ca m cc] 49)).alloc (.cells #[.int .i64 z] 3)) := fun q hq hlt => (Below.heap_alloc _ _ _ (by simp; omega)).trans ((Below.heap_alloc _ _ _ (by simpa using hlt)).trans (Below.heap_setCell _ _ _ _ (by simp; omega)))
                            have hnew : (((wr.setCell ⟨bq, 11, none⟩ (.pointer (some ⟨wr.heap.size + 1, 0, none⟩))).alloc (.cells #[.string p.1, .int .i64 k, .string x, .float .f64 d, .bool y, .slice ka kn kc, .slice ca m cc] 49)).alloc (.cells #[.int .i64 z] 3)).cell? ⟨wr.heap.size + 1, 0, none⟩ = some (.int .i64 z) := (Box.at (by simp) _ _).cell 0 _ rfl
                            exact ⟨ext_alloc (ext_alloc (ext_set hx (by simp <;> omega) _) _) _, by simp; omega, ((hb0.other (by simp <;> omega) _).alloc _).alloc _, j + 1, v3, v4, v5, v6, v8, v9, v10, some ⟨wr.heap.size + 1, 0, none⟩, v12, v13, v14, v15, v16, by omega, by go_num, ((hbq.set 11 _).alloc _).alloc _, by rw [last_other HP.out e7 (seq_false.2 (by decide))]; exact FY.keep (fun _ h _ => h) hk H3.out, by rw [last_other HP.out e7 (seq_false.2 (by decide))]; exact H4.out, by rw [last_other HP.out e7 (seq_false.2 (by decide))]; exact FW.keep (fun _ h _ => h) hk H5.out, by rw [last_other HP.out e7 (seq_false.2 (by decide))]; exact FW.keep (fun _ h _ => h) hk H6.out, by rw [last_other HP.out e7 (seq_false.2 (by decide))]; exact FW.keep (fun _ h _ => h) hk H8.out, by rw [last_other HP.out e7 (seq_false.2 (by decide))]; exact FW.keep (fun _ h _ => h) hk H9.out, by rw [last_other HP.out e7 (seq_false.2 (by decide))]; exact FW.keep (fun _ h _ => h) hk H10.out, by rw [last_hit HP.out e7]; exact ⟨wr.heap.size + 1, z, rfl, by omega, hnew, HZ.out⟩, by rw [last_other HP.out e7 (seq_false.2 (by decide))]; exact FN.keep (fun _ h _ => h) hk H12.out, by rw [last_other HP.out e7 (seq_false.2 (by decide))]; exact FN.keep (fun _ h _ => h) hk H13.out, by rw [last_other HP.out e7 (seq_false.2 (by decide))]; exact H14.out, by rw [last_other HP.out e7 (seq_false.2 (by decide))]; exact FY.keep (fun _ h _ => h) hk H15.out, by rw [last_other HP.out e7 (seq_false.2 (by decide))]; exact H16.out, TextsO.keep HXf.out (fun _ h _ => h) hk (by simp <;> omega), ItemsAt.keep HXd.out (fun _ h _ => h) hk (by simp <;> omega), ItemsAt.keep HXe.out (fun _ h _ => h) hk (by simp <;> omega), TextsO.keep HXs.out (fun _ h _ => h) hk (by simp <;> omega)⟩
                          case measure => simp [intOf]; omega
                      · have e6 : seq p.1 s_max_query_terms = true := by rw [seq, show s_max_query_terms.toList = [109, 97, 120, 95, 113, 117, 101, 114, 121, 95, 116, 101, 114, 109, 115] by rw [Lib.toList_data]]; exact he6
                        obtain ⟨z, hz, -⟩ := HW6.out p (List.mem_of_getElem? HP.out) e6
                        have hcv : ∀ w, (convert 26 3 (.float .f64 d)).run Try.prog w = .ok (.int .i64 z) w := fun w => run_convert_float_int w 26 3 .f64 .i64 d z (by rw [Try.underlying26]; rfl) Try.underlying3 (show floatToIntVal .f64 d .i64 = some z from by have h9 : d = p.2.num := hTd.out; rw [h9]; exact hz)
                        have HZ := Lib.hid hz
                        clear hz
                        go_wp2_with go_in
                        go_roundw
                        case rel =>
                          have hk : Keeps (fun q => q ≠ bq) wr (((wr.setCell ⟨bq, 6, none⟩ (.pointer (some ⟨wr.heap.size + 1, 0, none⟩))).alloc (.cells #[.string p.1, .int .i64 k, .string x, .float .f64 d, .bool y, .slice ka kn kc, .slice ca m cc] 49)).alloc (.cells #[.int .i64 z] 3)) := fun q hq hlt => (Below.heap_alloc _ _ _ (by simp; omega)).trans ((Below.heap_alloc _ _ _ (by simpa using hlt)).trans (Below.heap_setCell _ _ _ _ (by simp; omega)))
                          have hnew : (((wr.setCell ⟨bq, 6, none⟩ (.pointer (some ⟨wr.heap.size + 1, 0, none⟩))).alloc (.cells #[.string p.1, .int .i64 k, .string x, .float .f64 d, .bool y, .slice ka kn kc, .slice ca m cc] 49)).alloc (.cells #[.int .i64 z] 3)).cell? ⟨wr.heap.size + 1, 0, none⟩ = some (.int .i64 z) := (Box.at (by simp) _ _).cell 0 _ rfl
                          exact ⟨ext_alloc (ext_alloc (ext_set hx (by simp <;> omega) _) _) _, by simp; omega, ((hb0.other (by simp <;> omega) _).alloc _).alloc _, j + 1, v3, v4, v5, some ⟨wr.heap.size + 1, 0, none⟩, v8, v9, v10, v11, v12, v13, v14, v15, v16, by omega, by go_num, ((hbq.set 6 _).alloc _).alloc _, by rw [last_other HP.out e6 (seq_false.2 (by decide))]; exact FY.keep (fun _ h _ => h) hk H3.out, by rw [last_other HP.out e6 (seq_false.2 (by decide))]; exact H4.out, by rw [last_other HP.out e6 (seq_false.2 (by decide))]; exact FW.keep (fun _ h _ => h) hk H5.out, by rw [last_hit HP.out e6]; exact ⟨wr.heap.size + 1, z, rfl, by omega, hnew, HZ.out⟩, by rw [last_other HP.out e6 (seq_false.2 (by decide))]; exact FW.keep (fun _ h _ => h) hk H8.out, by rw [last_other HP.out e6 (seq_false.2 (by decide))]; exact FW.keep (fun _ h _ => h) hk H9.out, by rw [last_other HP.out e6 (seq_false.2 (by decide))]; exact FW.keep (fun _ h _ => h) hk H10.out, by rw [last_other HP.out e6 (seq_false.2 (by decide))]; exact FW.keep (fun _ h _ => h) hk H11.out, by rw [last_other HP.out e6 (seq_false.2 (by decide))]; exact FN.keep (fun _ h _ => h) hk H12.out, by rw [last_other HP.out e6 (seq_false.2 (by decide))]; exact FN.keep (fun _ h _ => h) hk H13.out, by rw [last_other HP.out e6 (seq_false.2 (by decide))]; exact H14.out, by rw [last_other HP.out e6 (seq_false.2 (by decide))]; exact FY.keep (fun _ h _ => h) hk H15.out, by rw [last_other HP.out e6 (seq_false.2 (by decide))]; exact H16.out, TextsO.keep HXf.out (fun _ h _ => h) hk (by simp <;> omega), ItemsAt.keep HXd.out (fun _ h _ => h) hk (by simp <;> omega), ItemsAt.keep HXe.out (fun _ h _ => h) hk (by simp <;> omega), TextsO.keep HXs.out (fun _ h _ => h) hk (by simp <;> omega)⟩
                        case measure => simp [intOf]; omega
                    · have e5 : seq p.1 s_max_doc_freq = true := by rw [seq, show s_max_doc_freq.toList = [109, 97, 120, 95, 100, 111, 99, 95, 102, 114, 101, 113] by rw [Lib.toList_data]]; exact he5
                      obtain ⟨z, hz, -⟩ := HW9.out p (List.mem_of_getElem? HP.out) e5
                      have hcv : ∀ w, (convert 26 3 (.float .f64 d)).run Try.prog w = .ok (.int .i64 z) w := fun w => run_convert_float_int w 26 3 .f64 .i64 d z (by rw [Try.underlying26]; rfl) Try.underlying3 (show floatToIntVal .f64 d .i64 = some z from by have h9 : d = p.2.num := hTd.out; rw [h9]; exact hz)
                      have HZ := Lib.hid hz
                      clear hz
                      go_wp2_with go_in
                      go_roundw
                      case rel =>
                        have hk : Keeps (fun q => q ≠ bq) wr (((wr.setCell ⟨bq, 9, none⟩ (.pointer (some ⟨wr.heap.size + 1, 0, none⟩))).alloc (.cells #[.string p.1, .int .i64 k, .string x, .float .f64 d, .bool y, .slice ka kn kc, .slice ca m cc] 49)).alloc (.cells #[.int .i64 z] 3)) := fun q hq hlt => (Below.heap_alloc _ _ _ (by simp; omega)).trans ((Below.heap_alloc _ _ _ (by simpa using hlt)).trans (Below.heap_setCell _ _ _ _ (by simp; omega)))
                        have hnew : (((wr.setCell ⟨bq, 9, none⟩ (.pointer (some ⟨wr.heap.size + 1, 0, none⟩))).alloc (.cells #[.string p.1, .int .i64 k, .string x, .float .f64 d, .bool y, .slice ka kn kc, .slice ca m cc] 49)).alloc (.cells #[.int .i64 z] 3)).cell? ⟨wr.heap.size + 1, 0, none⟩ = some (.int .i64 z) := (Box.at (by simp) _ _).cell 0 _ rfl
                        exact ⟨ext_alloc (ext_alloc (ext_set hx (by simp <;> omega) _) _) _, by simp; omega, ((hb0.other (by simp <;> omega) _).alloc _).alloc _, j + 1, v3, v4, v5, v6, v8, some ⟨wr.heap.size + 1, 0, none⟩, v10, v11, v12, v13, v14, v15, v16, by omega, by go_num, ((hbq.set 9 _).alloc _).alloc _, by rw [last_other HP.out e5 (seq_false.2 (by decide))]; exact FY.keep (fun _ h _ => h) hk H3.out, by rw [last_other HP.out e5 (seq_false.2 (by decide))]; exact H4.out, by rw [last_other HP.out e5 (seq_false.2 (by decide))]; exact FW.keep (fun _ h _ => h) hk H5.out, by rw [last_other HP.out e5 (seq_false.2 (by decide))]; exact FW.keep (fun _ h _ => h) hk H6.out, by rw [last_other HP.out e5 (seq_false.2 (by decide))]; exact FW.keep (fun _ h _ => h) hk H8.out, by rw [last_hit HP.out e5]; exact ⟨wr.heap.size + 1, z, rfl, by omega, hnew, HZ.out⟩, by rw [last_other HP.out e5 (seq_false.2 (by decide))]; exact FW.keep (fun _ h _ => h) hk H10.out, by rw [last_other HP.out e5 (seq_false.2 (by decide))]; exact FW.keep (fun _ h _ => h) hk H11.out, by rw [last_other HP.out e5 (seq_false.2 (by decide))]; exact FN.keep (fun _ h _ => h) hk H12.out, by rw [last_other HP.out e5 (seq_false.2 (by decide))]; exact FN.keep (fun _ h _ => h) hk H13.out, by rw [last_other HP.out e5 (seq_false.2 (by decide))]; exact H14.out, by rw [last_other HP.out e5 (seq_false.2 (by decide))]; exact FY.keep (fun _ h _ => h) hk H15.out, by rw [last_other HP.out e5 (seq_false.2 (by decide))]; exact H16.out, TextsO.keep HXf.out (fun _ h _ => h) hk (by simp <;> omega), ItemsAt.keep HXd.out (fun _ h _ => h) hk (by simp <;> omega), ItemsAt.keep HXe.out (fun _ h _ => h) hk (by simp <;> omega), TextsO.keep HXs.out (fun _ h _ => h) hk (by simp <;> omega)⟩
                      case measure => simp [intOf]; omega
                  · have e4 : seq p.1 s_include = true := by rw [seq, show s_include.toList = [105, 110, 99, 108, 117, 100, 101] by rw [Lib.toList_data]]; exact he4
                    go_wp2_with go_in
                    go_roundw
                    case rel =>
                      have hk : Keeps (fun q => q ≠ bq) wr (((wr.setCell ⟨bq, 3, none⟩ (.pointer (some ⟨wr.heap.size + 1, 0, none⟩))).alloc (.cells #[.string p.1, .int .i64 k, .string x, .float .f64 d, .bool y, .slice ka kn kc, .slice ca m cc] 49)).alloc (.cells #[.bool y] 4)) := fun q hq hlt => (Below.heap_alloc _ _ _ (by simp; omega)).trans ((Below.heap_alloc _ _ _ (by simpa using hlt)).trans (Below.heap_setCell _ _ _ _ (by simp; omega)))
                      have hnew : (((wr.setCell ⟨bq, 3, none⟩ (.pointer (some ⟨wr.heap.size + 1, 0, none⟩))).alloc (.cells #[.string p.1, .int .i64 k, .string x, .float .f64 d, .bool y, .slice ka kn kc, .slice ca m cc] 49)).alloc (.cells #[.bool y] 4)).cell? ⟨wr.heap.size + 1, 0, none⟩ = some (.bool y) := (Box.at (by simp) _ _).cell 0 _ rfl
                      exact ⟨ext_alloc (ext_alloc (ext_set hx (by simp <;> omega) _) _) _, by simp; omega, ((hb0.other (by simp <;> omega) _).alloc _).alloc _, j + 1, some ⟨wr.heap.size + 1, 0, none⟩, v4, v5, v6, v8, v9, v10, v11, v12, v13, v14, v15, v16, by omega, by go_num, ((hbq.set 3 _).alloc _).alloc _, by rw [last_hit HP.out e4]; exact ⟨wr.heap.size + 1, rfl, by omega, by rw [← hTy.out]; exact hnew⟩, by rw [last_other HP.out e4 (seq_false.2 (by decide))]; exact H4.out, by rw [last_other HP.out e4 (seq_false.2 (by decide))]; exact FW.keep (fun _ h _ => h) hk H5.out, by rw [last_other HP.out e4 (seq_false.2 (by decide))]; exact FW.keep (fun _ h _ => h) hk H6.out, by rw [last_other HP.out e4 (seq_false.2 (by decide))]; exact FW.keep (fun _ h _ => h) hk H8.out, by rw [last_other HP.out e4 (seq_false.2 (by decide))]; exact FW.keep (fun _ h _ => h) hk H9.out, by rw [last_other HP.out e4 (seq_false.2 (by decide))]; exact FW.keep (fun _ h _ => h) hk H10.out, by rw [last_other HP.out e4 (seq_false.2 (by decide))]; exact FW.keep (fun _ h _ => h) hk H11.out, by rw [last_other HP.out e4 (seq_false.2 (by decide))]; exact FN.keep (fun _ h _ => h) hk H12.out, by rw [last_other HP.out e4 (seq_false.2 (by decide))]; exact FN.keep (fun _ h _ => h) hk H13.out, by rw [last_other HP.out e4 (seq_false.2 (by decide))]; exact H14.out, by rw [last_other HP.out e4 (seq_false.2 (by decide))]; exact FY.keep (fun _ h _ => h) hk H15.out, by rw [last_other HP.out e4 (seq_false.2 (by decide))]; exact H16.out, TextsO.keep HXf.out (fun _ h _ => h) hk (by simp <;> omega), ItemsAt.keep HXd.out (fun _ h _ => h) hk (by simp <;> omega), ItemsAt.keep HXe.out (fun _ h _ => h) hk (by simp <;> omega), TextsO.keep HXs.out (fun _ h _ => h) hk (by simp <;> omega)⟩
                    case measure => simp [intOf]; omega
                · have e3 : seq p.1 s_fail_on_unsupported_field = true := by rw [seq, show s_fail_on_unsupported_field.toList = [102, 97, 105, 108, 95, 111, 110, 95, 117, 110, 115, 117, 112, 112, 111, 114, 116, 101, 100, 95, 102, 105, 101, 108, 100] by rw [Lib.toList_data]]; exact he3
                  go_wp2_with go_in
                  go_roundw
                  case rel =>
                    have hk : Keeps (fun q => q ≠ bq) wr (((wr.setCell ⟨bq, 15, none⟩ (.pointer (some ⟨wr.heap.size + 1, 0, none⟩))).alloc (.cells #[.string p.1, .int .i64 k, .string x, .float .f64 d, .bool y, .slice ka kn kc, .slice ca m cc] 49)).alloc (.cells #[.bool y] 4)) := fun q hq hlt => (Below.heap_alloc _ _ _ (by simp; omega)).trans ((Below.heap_alloc _ _ _ (by simpa using hlt)).trans (Below.heap_setCell _ _ _ _ (by simp; omega)))
                    have hnew : (((wr.setCell ⟨bq, 15, none⟩ (.pointer (some ⟨wr.heap.size + 1, 0, none⟩))).alloc (.cells #[.string p.1, .int .i64 k, .string x, .float .f64 d, .bool y, .slice ka kn kc, .slice ca m cc] 49)).alloc (.cells #[.bool y] 4)).cell? ⟨wr.heap.size + 1, 0, none⟩ = some (.bool y) := (Box.at (by simp) _ _).cell 0 _ rfl
                    exact ⟨ext_alloc (ext_alloc (ext_set hx (by simp <;> omega) _) _) _, by simp; omega, ((hb0.other (by simp <;> omega) _).alloc _).alloc _, j + 1, v3, v4, v5, v6, v8, v9, v10, v11, v12, v13, v14, some ⟨wr.heap.size + 1, 0, none⟩, v16, by omega, by go_num, ((hbq.set 15 _).alloc _).alloc _, by rw [last_other HP.out e3 (seq_false.2 (by decide))]; exact FY.keep (fun _ h _ => h) hk H3.out, by rw [last_other HP.out e3 (seq_false.2 (by decide))]; exact H4.out, by rw [last_other HP.out e3 (seq_false.2 (by decide))]; exact FW.keep (fun _ h _ => h) hk H5.out, by rw [last_other HP.out e3 (seq_false.2 (by decide))]; exact FW.keep (fun _ h _ => h) hk H6.out, by rw [last_other HP.out e3 (seq_false.2 (by decide))]; exact FW.keep (fun _ h _ => h) hk H8.out, by rw [last_other HP.out e3 (seq_false.2 (by decide))]; exact FW.keep (fun _ h _ => h) hk H9.out, by rw [last_other HP.out e3 (seq_false.2 (by decide))]; exact FW.keep (fun _ h _ => h) hk H10.out, by rw [last_other HP.out e3 (seq_false.2 (by decide))]; exact FW.keep (fun _ h _ => h) hk H11.out, by rw [last_other HP.out e3 (seq_false.2 (by decide))]; exact FN.keep (fun _ h _ => h) hk H12.out, by rw [last_other HP.out e3 (seq_false.2 (by decide))]; exact FN.keep (fun _ h _ => h) hk H13.out, by rw [last_other HP.out e3 (seq_false.2 (by decide))]; exact H14.out, by rw [last_hit HP.out e3]; exact ⟨wr.heap.size + 1, rfl, by omega, by rw [← hTy.out]; exact hnew⟩, by rw [last_other HP.out e3 (seq_false.2 (by decide))]; exact H16.out, TextsO.keep HXf.out (fun _ h _ => h) hk (by simp <;> omega), ItemsAt.keep HXd.out (fun _ h _ => h) hk (by simp <;> omega), ItemsAt.keep HXe.out (fun _ h _ => h) hk (by simp <;> omega), TextsO.keep HXs.out (fun _ h _ => h) hk (by simp <;> omega)⟩
                  case measure => simp [intOf]; omega
              · have e2 : seq p.1 s_boost_terms = true := by rw [seq, show s_boost_terms.toList = [98, 111, 111, 115, 116, 95, 116, 101, 114, 109, 115] by rw [Lib.toList_data]]; exact he2
                go_wp2_with go_in
                go_roundw
                case rel =>
                  have hk : Keeps (fun q => q ≠ bq) wr (((wr.setCell ⟨bq, 12, none⟩ (.pointer (some ⟨wr.heap.size + 1, 0, none⟩))).alloc (.cells #[.string p.1, .int .i64 k, .string x, .float .f64 d, .bool y, .slice ka kn kc, .slice ca m cc] 49)).alloc (.cells #[.float .f64 d] 26)) := fun q hq hlt => (Below.heap_alloc _ _ _ (by simp; omega)).trans ((Below.heap_alloc _ _ _ (by simpa using hlt)).trans (Below.heap_setCell _ _ _ _ (by simp; omega)))
                  have hnew : (((wr.setCell ⟨bq, 12, none⟩ (.pointer (some ⟨wr.heap.size + 1, 0, none⟩))).alloc (.cells #[.string p.1, .int .i64 k, .string x, .float .f64 d, .bool y, .slice ka kn kc, .slice ca m cc] 49)).alloc (.cells #[.float .f64 d] 26)).cell? ⟨wr.heap.size + 1, 0, none⟩ = some (.float .f64 d) := (Box.at (by simp) _ _).cell 0 _ rfl
                  exact ⟨ext_alloc (ext_alloc (ext_set hx (by simp <;> omega) _) _) _, by simp; omega, ((hb0.other (by simp <;> omega) _).alloc _).alloc _, j + 1, v3, v4, v5, v6, v8, v9, v10, v11, some ⟨wr.heap.size + 1, 0, none⟩, v13, v14, v15, v16, by omega, by go_num, ((hbq.set 12 _).alloc _).alloc _, by rw [last_other HP.out e2 (seq_false.2 (by decide))]; exact FY.keep (fun _ h _ => h) hk H3.out, by rw [last_other HP.out e2 (seq_false.2 (by decide))]; exact H4.out, by rw [last_other HP.out e2 (seq_false.2 (by decide))]; exact FW.keep (fun _ h _ => h) hk H5.out, by rw [last_other HP.out e2 (seq_false.2 (by decide))]; exact FW.keep (fun _ h _ => h) hk H6.out, by rw [last_other HP.out e2 (seq_false.2 (by decide))]; exact FW.keep (fun _ h _ => h) hk H8.out, by rw [last_other HP.out e2 (seq_false.2 (by decide))]; exact FW.keep (fun _ h _ => h) hk H9.out, by rw [last_other HP.out e2 (seq_false.2 (by decide))]; exact FW.keep (fun _ h _ => h) hk H10.out, by rw [last_other HP.out e2 (seq_false.2 (by decide))]; exact FW.keep (fun _ h _ => h) hk H11.out, by rw [last_hit HP.out e2]; exact ⟨wr.heap.size + 1, rfl, by omega, by rw [← hTd.out]; exact hnew⟩, by rw [last_other HP.out e2 (seq_false.2 (by decide))]; exact FN.keep (fun _ h _ => h) hk H13.out, by rw [last_other HP.out e2 (seq_false.2 (by decide))]; exact H14.out, by rw [last_other HP.out e2 (seq_false.2 (by decide))]; exact FY.keep (fun _ h _ => h) hk H15.out, by rw [last_other HP.out e2 (seq_false.2 (by decide))]; exact H16.out, TextsO.keep HXf.out (fun _ h _ => h) hk (by simp <;> omega), ItemsAt.keep HXd.out (fun _ h _ => h) hk (by simp <;> omega), ItemsAt.keep HXe.out (fun _ h _ => h) hk (by simp <;> omega), TextsO.keep HXs.out (fun _ h _ => h) hk (by simp <;> omega)⟩
                case measure => simp [intOf]; omega
            · have e1 : seq p.1 s_boost = true := by rw [seq, show s_boost.toList = [98, 111, 111, 115, 116] by rw [Lib.toList_data]]; exact he1
              go_wp2_with go_in
              go_roundw
              case rel =>
                have hk : Keeps (fun q => q ≠ bq) wr (((wr.setCell ⟨bq, 13, none⟩ (.pointer (some ⟨wr.heap.size + 1, 0, none⟩))).alloc (.cells #[.string p.1, .int .i64 k, .string x, .float .f64 d, .bool y, .slice ka kn kc, .slice ca m cc] 49)).alloc (.cells #[.float .f64 d] 26)) := fun q hq hlt => (Below.heap_alloc _ _ _ (by simp; omega)).trans ((Below.heap_alloc _ _ _ (by simpa using hlt)).trans (Below.heap_setCell _ _ _ _ (by simp; omega)))
                have hnew : (((wr.setCell ⟨bq, 13, none⟩ (.pointer (some ⟨wr.heap.size + 1, 0, none⟩))).alloc (.cells #[.string p.1, .int .i64 k, .string x, .float .f64 d, .bool y, .slice ka kn kc, .slice ca m cc] 49)).alloc (.cells #[.float .f64 d] 26)).cell? ⟨wr.heap.size + 1, 0, none⟩ = some (.float .f64 d) := (Box.at (by simp) _ _).cell 0 _ rfl
                exact ⟨ext_alloc (ext_alloc (ext_set hx (by simp <;> omega) _) _) _, by simp; omega, ((hb0.other (by simp <;> omega) _).alloc _).alloc _, j + 1, v3, v4, v5, v6, v8, v9, v10, v11, v12, some ⟨wr.heap.size + 1, 0, none⟩, v14, v15, v16, by omega, by go_num, ((hbq.set 13 _).alloc _).alloc _, by rw [last_other HP.out e1 (seq_false.2 (by decide))]; exact FY.keep (fun _ h _ => h) hk H3.out, by rw [last_other HP.out e1 (seq_false.2 (by decide))]; exact H4.out, by rw [last_other HP.out e1 (seq_false.2 (by decide))]; exact FW.keep (fun _ h _ => h) hk H5.out, by rw [last_other HP.out e1 (seq_false.2 (by decide))]; exact FW.keep (fun _ h _ => h) hk H6.out, by rw [last_other HP.out e1 (seq_false.2 (by decide))]; exact FW.keep (fun _ h _ => h) hk H8.out, by rw [last_other HP.out e1 (seq_false.2 (by decide))]; exact FW.keep (fun _ h _ => h) hk H9.out, by rw [last_other HP.out e1 (seq_false.2 (by decide))]; exact FW.keep (fun _ h _ => h) hk H10.out, by rw [last_other HP.out e1 (seq_false.2 (by decide))]; exact FW.keep (fun _ h _ => h) hk H11.out, by rw [last_other HP.out e1 (seq_false.2 (by decide))]; exact FN.keep (fun _ h _ => h) hk H12.out, by rw [last_hit HP.out e1]; exact ⟨wr.heap.size + 1, rfl, by omega, by rw [← hTd.out]; exact hnew⟩, by rw [last_other HP.out e1 (seq_false.2 (by decide))]; exact H14.out, by rw [last_other HP.out e1 (seq_false.2 (by decide))]; exact FY.keep (fun _ h _ => h) hk H15.out, by rw [last_other HP.out e1 (seq_false.2 (by decide))]; exact H16.out, TextsO.keep HXf.out (fun _ h _ => h) hk (by simp <;> omega), ItemsAt.keep HXd.out (fun _ h _ => h) hk (by simp <;> omega), ItemsAt.keep HXe.out (fun _ h _ => h) hk (by simp <;> omega), TextsO.keep HXs.out (fun _ h _ => h) hk (by simp <;> omega)⟩
              case measure => simp [intOf]; omega
          · have e0 : seq p.1 s_analyzer = true := by rw [seq, show s_analyzer.toList = [97, 110, 97, 108, 121, 122, 101, 114] by rw [Lib.toList_data]]; exact he0
            go_wp2_with go_in
            go_roundw
            case rel =>
              have hk : Keeps (fun q => q ≠ bq) wr ((wr.setCell ⟨bq, 14, none⟩ (.string x)).alloc (.cells #[.string p.1, .int .i64 k, .string x, .float .f64 d, .bool y, .slice ka kn kc, .slice ca m cc] 49)) := fun q hq hlt => (Below.heap_alloc _ _ _ (by simpa using hlt)).trans (Below.heap_setCell _ _ _ _ (by simp; omega))
              exact ⟨ext_alloc (ext_set hx (by simp <;> omega) _) _, by simp; omega, (hb0.other (by simp <;> omega) _).alloc _, j + 1, v3, v4, v5, v6, v8, v9, v10, v11, v12, v13, x, v15, v16, by omega, by go_num, (hbq.set 14 _).alloc _, by rw [last_other HP.out e0 (seq_false.2 (by decide))]; exact FY.keep (fun _ h _ => h) hk H3.out, by rw [last_other HP.out e0 (seq_false.2 (by decide))]; exact H4.out, by rw [last_other HP.out e0 (seq_false.2 (by decide))]; exact FW.keep (fun _ h _ => h) hk H5.out, by rw [last_other HP.out e0 (seq_false.2 (by decide))]; exact FW.keep (fun _ h _ => h) hk H6.out, by rw [last_other HP.out e0 (seq_false.2 (by decide))]; exact FW.keep (fun _ h _ => h) hk H8.out, by rw [last_other HP.out e0 (seq_false.2 (by decide))]; exact FW.keep (fun _ h _ => h) hk H9.out, by rw [last_other HP.out e0 (seq_false.2 (by decide))]; exact FW.keep (fun _ h _ => h) hk H10.out, by rw [last_other HP.out e0 (seq_false.2 (by decide))]; exact FW.keep (fun _ h _ => h) hk H11.out, by rw [last_other HP.out e0 (seq_false.2 (by decide))]; exact FN.keep (fun _ h _ => h) hk H12.out, by rw [last_other HP.out e0 (seq_false.2 (by decide))]; exact FN.keep (fun _ h _ => h) hk H13.out, by rw [last_hit HP.out e0]; exact hTx.out, by rw [last_other HP.out e0 (seq_false.2 (by decide))]; exact FY.keep (fun _ h _ => h) hk H15.out, by rw [last_other HP.out e0 (seq_false.2 (by decide))]; exact H16.out, TextsO.keep HXf.out (fun _ h _ => h) hk (by simp <;> omega), ItemsAt.keep HXd.out (fun _ h _ => h) hk (by simp <;> omega), ItemsAt.keep HXe.out (fun _ h _ => h) hk (by simp <;> omega), TextsO.keep HXs.out (fun _ h _ => h) hk (by simp <;> omega)⟩
            case measure => simp [intOf]; omega
        · have hjn : j = n := by omega
          have hfull : ps.take j = ps := List.take_of_length_le (by have := HL.out; omega)
          rw [hfull] at H3 H4 H5 H6 H8 H9 H10 H11 H12 H13 H14 H15 H16
          have hS := moreLikeThis_src (S := fun q => q ≠ bq) wr bq _ _ _ _ (TextsO.to HXf.out (fun _ _ h => h)) (by omega) _ _ _ _ HXd.out HDK.out hdn1 hdn2 _ _ _ _ HXe.out HEK.out hesn v3 _ H3.out v4 _ H4.out v5 _ H5.out v6 _ H6.out _ _ _ _ (TextsO.to HXs.out (fun _ _ h => h)) (by omega) v8 _ H8.out v9 _ H9.out v10 _ H10.out v11 _ H11.out v12 _ H12.out v13 _ H13.out v14 _ H14.out v15 _ H15.out v16 _ H16.out hbq
          go_wp2_with (first
            | (go_at_call 76; refine hS.mono ?_; rintro r w2 ⟨v, rfl, hJ, hx2⟩)
            | (go_at_call 41; refine (told_any v _ _ hJ).mono ?_; rintro r w3 ⟨e2, rfl, hT3, hx3⟩; simp only [El.val]
               have hb := (hb0.ext hx2).ext hx3; obtain ⟨o0, o1, o2, o3, o4, o5⟩ := hb.six; have f0 := hb.free 0; have f1 := hb.free 1; have f2 := hb.free 2; have f3 := hb.free 3; have f4 := hb.free 4; have f5 := hb.free 5))
          have hx4 := ext_trans hx (ext_trans hx2 hx3)
          have hs2 := hx2.sz
          refine post_tree2 rfl rfl (hb.sto e2) rfl ⟨e2, rfl, ?_, ext_sto6 hx4 (by omega) _ _ _ _ _ _⟩
          have hfin := TreeAt.keep (S := fun b => w2.heap.size ≤ b) (S' := fun b => w.heap.size + 1 ≤ b) (fun b hb _ => by omega) (keeps_sto (b := w.heap.size) w3 (by omega) e2) _ hT3
          simp only [List.append_assoc, List.cons_append, List.nil_append, List.map_append, List.map_map] at hfin ⊢
          exact hfin
end Go.Proofs.Ytfngaoicoecncaa

namespace Go.Proofs.Ytfngaoicoecncaa
open Go.RowKit

theorem yes_or {b : Bool} {P : Prop} (h : b = true → P) : b = false ∨ b = true ∧ RowKit.Hid P := by
  cases b with
  | false => exact .inl rfl
  | true => exact .inr ⟨rfl, h rfl⟩
theorem filled_of {l : List ByteArray} (h : hasS l ⟨#[]⟩ = false) : ∀ t ∈ l, t.toList.isEmpty = false := fun t ht => by
  cases he : t.toList with
  | cons _ _ => rfl
  | nil =>
    exfalso
    have h2 : seq t ⟨#[]⟩ = true := by
      unfold seq
      rw [he, Lib.toList_data]
      rfl
    unfold hasS at h
    have h3 := List.any_eq_false.1 h t ht
    exact h3 h2
set_option maxRecDepth 20000 in
set_option maxHeartbeats 8000000 in
theorem moreLikeThis_law {S : Nat → Prop} (a0 : Option Addr) (n0 c0 : Nat) (fs : List ByteArray) (a1 : Option Addr) (n1 c1 : Nat) (ls : List ByteArray) (a2 : Option Addr) (n2 c2 : Nat) (xs : List ByteArray) (a3 : Option Addr) (n3 c3 : Nat) (st : List ByteArray) (a4 : Option Addr) (n4 c4 : Nat) (its : List (ByteArray × ByteArray)) (a : Option Addr) (n c : Nat) (ps : List (ByteArray × T)) (w : World)
    (hF : StrsAt S w a0 n0 c0 fs) (hA : StrsAt S w a1 n1 c1 ls) (hU : StrsAt S w a2 n2 c2 xs) (hW : StrsAt S w a3 n3 c3 st) (hI : ItemsIn S w a4 n4 c4 its) (h : PairsAt S w a n c ps) :
    Calls Try.prog 4 #[.slice a0 n0 c0, .slice a1 n1 c1, .slice a2 n2 c2, .slice a3 n3 c3, .slice a4 n4 c4, .slice a n c] w fun r w' => r = .returned (.bool true) ∧ Ext w w' := by
  have hlA := hA.1
  have hlI := hI.1
  have HF := Lib.hid fun w' (x : Ext w w') => hF.ext x
  have HA := Lib.hid fun w' (x : Ext w w') => hA.ext x
  have HU := Lib.hid fun w' (x : Ext w w') => hU.ext x
  have HWs := Lib.hid fun w' (x : Ext w w') => hW.ext x
  have HI := Lib.hid fun w' (x : Ext w w') => hI.ext x
  have HPs := Lib.hid fun w' (x : Ext w w') => h.ext x
  have hFit := Lib.hid fun w' (x : Ext w w') => fits_any sMoreLikeThis rMoreLikeThis a n c ps w' rows_moreLikeThis (by simp [plainK]) (h.ext x)
  have hnl := Nat.le_trans h.2.1 h.2.2.1
  unfold maxLen at hnl
  clear hF hA hU hW hI h
  have tk1 := trivial
  have tk2 := trivial
  have tk3 := trivial
  have th1 := trivial
  have th2 := trivial
  by_cases hsz : 2147483647 < n
  · go_enter Try.func4, Try.ntmps4
    go_wp2_with (first
      | (go_at_call 12; have _t := tk1; clear _t tk1; refine (zzFits1_all a0 n0 c0 fs _ (HF.out _ (by (repeat (first | exact ext_refl _ | assumption | refine ext_alloc ?_ _ | refine ext_drew ?_ | refine ext_set ?_ (by simp) _ | refine ext_trans ?_ (by assumption)))))).mono ?_; rintro r wz1 ⟨bz, rfl, hz, hxz1⟩; rcases yes_or hz with rfl | ⟨rfl, HZ1⟩ <;> clear hz)
      | (go_at_call 12; have _t := tk2; clear _t tk2; refine (zzFits1_all a1 n1 c1 ls _ (HA.out _ (by (repeat (first | exact ext_refl _ | assumption | refine ext_alloc ?_ _ | refine ext_drew ?_ | refine ext_set ?_ (by simp) _ | refine ext_trans ?_ (by assumption)))))).mono ?_; rintro r wz2 ⟨bz, rfl, hz, hxz2⟩; rcases yes_or hz with rfl | ⟨rfl, HZ2⟩ <;> clear hz)
      | (go_at_call 12; have _t := tk3; clear _t tk3; refine (zzFits1_all a2 n2 c2 xs _ (HU.out _ (by (repeat (first | exact ext_refl _ | assumption | refine ext_alloc ?_ _ | refine ext_drew ?_ | refine ext_set ?_ (by simp) _ | refine ext_trans ?_ (by assumption)))))).mono ?_; rintro r wz3 ⟨bz, rfl, hz, hxz3⟩; rcases yes_or hz with rfl | ⟨rfl, HZ3⟩ <;> clear hz)
      | (go_at_call 12; refine (zzFits1_all a3 n3 c3 st _ (HWs.out _ (by (repeat (first | exact ext_refl _ | assumption | refine ext_alloc ?_ _ | refine ext_drew ?_ | refine ext_set ?_ (by simp) _ | refine ext_trans ?_ (by assumption)))))).mono ?_; rintro r wz4 ⟨bz, rfl, hz, hxz4⟩; rcases yes_or hz with rfl | ⟨rfl, HZ4⟩ <;> clear hz)
      | (go_at_call 13; refine (zzFits2_any a4 n4 c4 its _ (HI.out _ (by (repeat (first | exact ext_refl _ | assumption | refine ext_alloc ?_ _ | refine ext_drew ?_ | refine ext_set ?_ (by simp) _ | refine ext_trans ?_ (by assumption)))))).mono ?_; rintro r wz5 ⟨bz, rfl, hz, hxz5⟩; rcases yes_or hz with rfl | ⟨rfl, HZ5⟩ <;> clear hz)
      | fail)
    all_goals (go_ret; exact ⟨rfl, by (repeat (first | exact ext_refl _ | assumption | refine ext_alloc ?_ _ | refine ext_drew ?_ | refine ext_set ?_ (by simp) _ | refine ext_trans ?_ (by assumption)))⟩)
  by_cases hpos : 0 < n1 + n4
  · go_enter Try.func4, Try.ntmps4
    go_upto_if 42 with (first
      | (go_at_call 12; have _t := tk1; clear _t tk1; refine (zzFits1_all a0 n0 c0 fs _ (HF.out _ (by (repeat (first | exact ext_refl _ | assumption | refine ext_alloc ?_ _ | refine ext_drew ?_ | refine ext_set ?_ (by simp) _ | refine ext_trans ?_ (by assumption)))))).mono ?_; rintro r wz1 ⟨bz, rfl, hz, hxz1⟩; rcases yes_or hz with rfl | ⟨rfl, HZ1⟩ <;> clear hz)
      | (go_at_call 12; have _t := tk2; clear _t tk2; refine (zzFits1_all a1 n1 c1 ls _ (HA.out _ (by (repeat (first | exact ext_refl _ | assumption | refine ext_alloc ?_ _ | refine ext_drew ?_ | refine ext_set ?_ (by simp) _ | refine ext_trans ?_ (by assumption)))))).mono ?_; rintro r wz2 ⟨bz, rfl, hz, hxz2⟩; rcases yes_or hz with rfl | ⟨rfl, HZ2⟩ <;> clear hz)
      | (go_at_call 12; have _t := tk3; clear _t tk3; refine (zzFits1_all a2 n2 c2 xs _ (HU.out _ (by (repeat (first | exact ext_refl _ | assumption | refine ext_alloc ?_ _ | refine ext_drew ?_ | refine ext_set ?_ (by simp) _ | refine ext_trans ?_ (by assumption)))))).mono ?_; rintro r wz3 ⟨bz, rfl, hz, hxz3⟩; rcases yes_or hz with rfl | ⟨rfl, HZ3⟩ <;> clear hz)
      | (go_at_call 12; refine (zzFits1_all a3 n3 c3 st _ (HWs.out _ (by (repeat (first | exact ext_refl _ | assumption | refine ext_alloc ?_ _ | refine ext_drew ?_ | refine ext_set ?_ (by simp) _ | refine ext_trans ?_ (by assumption)))))).mono ?_; rintro r wz4 ⟨bz, rfl, hz, hxz4⟩; rcases yes_or hz with rfl | ⟨rfl, HZ4⟩ <;> clear hz)
      | (go_at_call 13; refine (zzFits2_any a4 n4 c4 its _ (HI.out _ (by (repeat (first | exact ext_refl _ | assumption | refine ext_alloc ?_ _ | refine ext_drew ?_ | refine ext_set ?_ (by simp) _ | refine ext_trans ?_ (by assumption)))))).mono ?_; rintro r wz5 ⟨bz, rfl, hz, hxz5⟩; rcases yes_or hz with rfl | ⟨rfl, HZ5⟩ <;> clear hz)
      | fail)
    all_goals (try (go_wp2_with fail; go_ret; exact ⟨rfl, by (repeat (first | exact ext_refl _ | assumption | refine ext_alloc ?_ _ | refine ext_drew ?_ | refine ext_set ?_ (by simp) _ | refine ext_trans ?_ (by assumption)))⟩))
    have hn0 := HZ1.1
    have hn1 := HZ2.1
    have hn2 := HZ3.1
    have hn3 := HZ4.1
    have hn4 : n4 ≤ 2147483647 := HZ5
    have HF0 := Lib.hid HZ1.2
    clear HZ1 HZ2 HZ3 HZ4 HZ5
    go_wp2_with (first
      | (go_at_call 14; have _t := th1; clear _t th1; refine (has_any a1 n1 c1 ls _ _ (HA.out _ (by (repeat (first | exact ext_refl _ | assumption | refine ext_alloc ?_ _ | refine ext_drew ?_ | refine ext_set ?_ (by simp) _ | refine ext_trans ?_ (by assumption)))))).mono ?_; rintro r wh1 ⟨rfl, rfl⟩; cases hh1 : hasS ls ⟨#[]⟩)
      | (go_at_call 14; have _t := th2; clear _t th2; refine (has_any a2 n2 c2 xs _ _ (HU.out _ (by (repeat (first | exact ext_refl _ | assumption | refine ext_alloc ?_ _ | refine ext_drew ?_ | refine ext_set ?_ (by simp) _ | refine ext_trans ?_ (by assumption)))))).mono ?_; rintro r wh2 ⟨rfl, rfl⟩; cases hh2 : hasS xs ⟨#[]⟩)
      | (go_at_call 14; refine (has_any a3 n3 c3 st _ _ (HWs.out _ (by (repeat (first | exact ext_refl _ | assumption | refine ext_alloc ?_ _ | refine ext_drew ?_ | refine ext_set ?_ (by simp) _ | refine ext_trans ?_ (by assumption)))))).mono ?_; rintro r wh3 ⟨rfl, rfl⟩; cases hh3 : hasS st ⟨#[]⟩)
      | (go_at_call 15; refine (fields_any a0 n0 c0 fs _ (HF.out _ (by (repeat (first | exact ext_refl _ | assumption | refine ext_alloc ?_ _ | refine ext_drew ?_ | refine ext_set ?_ (by simp) _ | refine ext_trans ?_ (by assumption))))) HF0.out).mono ?_; rintro r wfl ⟨bfl, rfl, -, hxfl⟩; cases bfl)
      | (go_at_call 16; refine (itemsFit_any a4 n4 c4 its _ (HI.out _ (by (repeat (first | exact ext_refl _ | assumption | refine ext_alloc ?_ _ | refine ext_drew ?_ | refine ext_set ?_ (by simp) _ | refine ext_trans ?_ (by assumption)))))).mono ?_; rintro r wit ⟨bit, rfl, hit, hxit⟩; rcases yes_or hit with rfl | ⟨rfl, HIT⟩ <;> clear hit)
      | (go_at_call 7; refine (hFit.out _ (by (repeat (first | exact ext_refl _ | assumption | refine ext_alloc ?_ _ | refine ext_drew ?_ | refine ext_set ?_ (by simp) _ | refine ext_trans ?_ (by assumption))))).mono ?_; rintro r wff ⟨bff, rfl, hff, hxff⟩; rcases yes_or hff with rfl | ⟨rfl, HFF⟩ <;> clear hff)
      | fail)
    all_goals (try (go_ret; exact ⟨rfl, by (repeat (first | exact ext_refl _ | assumption | refine ext_alloc ?_ _ | refine ext_drew ?_ | refine ext_set ?_ (by simp) _ | refine ext_trans ?_ (by assumption)))⟩))
    have hff : FitsP rMoreLikeThis ps := HFF
    have hit : ∀ p ∈ its, okItem (.inr p) := HIT
    have hfit := Lib.hid (mlt_same fs ls xs st its ps hff)
    have hgood := Lib.hid (mlt_good fs ls xs st its ps (by omega))
    have HSC := Lib.hid (params_plainG hff rMoreLikeThis)
    have hx1 : Ext w wff := by (repeat (first | exact ext_refl _ | assumption | refine ext_alloc ?_ _ | refine ext_drew ?_ | refine ext_set ?_ (by simp) _ | refine ext_trans ?_ (by assumption)))
    refine (moreLikeThis_any a n c ps wff a0 n0 c0 fs (HF.out _ hx1) hn0 a1 n1 c1 ls (HA.out _ hx1) hn1 (filled_of hh1) a2 n2 c2 xs (HU.out _ hx1) hn2 (filled_of hh2) a3 n3 c3 st (HWs.out _ hx1) hn3 a4 n4 c4 its (HI.out _ hx1) hn4 hit hpos (whole_of hff (by rw [kindL_dec]; decide)) (whole_of hff (by rw [kindL_dec]; decide)) (whole_of hff (by rw [kindL_dec]; decide)) (whole_of hff (by rw [kindL_dec]; decide)) (whole_of hff (by rw [kindL_dec]; decide)) (whole_of hff (by rw [kindL_dec]; decide)) (HPs.out _ hx1)).mono ?_
    rintro r w3 ⟨e, rfl, hT, hx3⟩
    simp only [El.val]
    rw [jMap_tree] at hT
    have hb3 : Box (w3.alloc (.cells e.arr 30)) w3.heap.size e.arr 30 := Box.at rfl _ _
    obtain ⟨o0, o1, o2, o3, o4, o5⟩ := hb3.six
    have hx4 : Ext w ((w3.alloc (.cells e.arr 30)).alloc (.cells #[.string s_fields, .string s_like, .string s_unlike, .string s_stop_words] 9)) := ext_alloc (ext_alloc (ext_trans hx1 hx3) _) _
    have hbs : Box ((w3.alloc (.cells e.arr 30)).alloc (.cells #[.string s_fields, .string s_like, .string s_unlike, .string s_stop_words] 9)) (w3.heap.size + 1) #[.string s_fields, .string s_like, .string s_unlike, .string s_stop_words] 9 := Box.at (by simp) _ _
    have hls : StrsAt (fun _ => True) ((w3.alloc (.cells e.arr 30)).alloc (.cells #[.string s_fields, .string s_like, .string s_unlike, .string s_stop_words] 9)) (some ⟨w3.heap.size + 1, 0, none⟩) 4 4 mltN := ⟨rfl, Nat.le_refl _, by simp [maxLen], fun i s hs => by
      match i, hs with
      | 0, hs => simp [mltN] at hs; subst hs; exact ⟨_, 0, rfl, trivial, hbs.cell 0 _ rfl⟩
      | 1, hs => simp [mltN] at hs; subst hs; exact ⟨_, 0, rfl, trivial, hbs.cell 1 _ rfl⟩
      | 2, hs => simp [mltN] at hs; subst hs; exact ⟨_, 0, rfl, trivial, hbs.cell 2 _ rfl⟩
      | 3, hs => simp [mltN] at hs; subst hs; exact ⟨_, 0, rfl, trivial, hbs.cell 3 _ rfl⟩⟩
    have hRB := Lib.hid (rb_any (S := fun _ => True) s_more_like_this (jTree (mltQ fs ls xs st its ps)) e _ 4 4 mltN _ ((hT.ext (ext_alloc (ext_alloc (ext_refl w3) (.cells e.arr 30)) (.cells #[.string s_fields, .string s_like, .string s_unlike, .string s_stop_words] 9))).any) hls (fun k t hl => hgood.out (k, t) (lastOf_mem hl)) (mlt_len fs ls xs st its ps))
    clear hT hFit hff hit HFF HIT hh1 hh2 hh3 hls hbs
    go_wp2_with (first
      | (go_at_call 18; refine hRB.out.mono ?_; rintro r w4 ⟨g4, rfl, hT4, hx5⟩; simp only [El.val]; have hx6 := ext_trans hx4 hx5; clear hRB)
      | (go_at_call 19; refine (mltS_any (S := S) a0 n0 c0 fs a1 n1 c1 ls a2 n2 c2 xs a3 n3 c3 st a4 n4 c4 its a n c ps _ (HF.out _ hx6) hn0 (HA.out _ hx6) hn1 (HU.out _ hx6) hn2 (HWs.out _ hx6) hn3 (HI.out _ hx6) hn4 (HPs.out _ hx6) HSC.out).mono ?_; rintro r w5 ⟨g5, rfl, hT5, hx7⟩; simp only [El.val]; have hSm := Lib.hid (same_any (S := fun _ => True) _ _ g4 g5 _ ((hT4.ext hx7).any) hT5.any))
      | (go_at_call 9; refine hSm.out.mono ?_; rintro r w8 ⟨rfl, hx12⟩; rw [hfit.out])
      | fail)
    go_ret
    exact ⟨rfl, ext_trans (ext_trans hx6 hx7) hx12⟩
  · obtain ⟨rfl, rfl⟩ : n1 = 0 ∧ n4 = 0 := by omega
    go_enter Try.func4, Try.ntmps4
    go_wp2_with (first
      | (go_at_call 12; have _t := tk1; clear _t tk1; refine (zzFits1_all a0 n0 c0 fs _ (HF.out _ (by (repeat (first | exact ext_refl _ | assumption | refine ext_alloc ?_ _ | refine ext_drew ?_ | refine ext_set ?_ (by simp) _ | refine ext_trans ?_ (by assumption)))))).mono ?_; rintro r wz1 ⟨bz, rfl, hz, hxz1⟩; rcases yes_or hz with rfl | ⟨rfl, HZ1⟩ <;> clear hz)
      | (go_at_call 12; have _t := tk2; clear _t tk2; refine (zzFits1_all a1 0 c1 ls _ (HA.out _ (by (repeat (first | exact ext_refl _ | assumption | refine ext_alloc ?_ _ | refine ext_drew ?_ | refine ext_set ?_ (by simp) _ | refine ext_trans ?_ (by assumption)))))).mono ?_; rintro r wz2 ⟨bz, rfl, hz, hxz2⟩; rcases yes_or hz with rfl | ⟨rfl, HZ2⟩ <;> clear hz)
      | (go_at_call 12; have _t := tk3; clear _t tk3; refine (zzFits1_all a2 n2 c2 xs _ (HU.out _ (by (repeat (first | exact ext_refl _ | assumption | refine ext_alloc ?_ _ | refine ext_drew ?_ | refine ext_set ?_ (by simp) _ | refine ext_trans ?_ (by assumption)))))).mono ?_; rintro r wz3 ⟨bz, rfl, hz, hxz3⟩; rcases yes_or hz with rfl | ⟨rfl, HZ3⟩ <;> clear hz)
      | (go_at_call 12; refine (zzFits1_all a3 n3 c3 st _ (HWs.out _ (by (repeat (first | exact ext_refl _ | assumption | refine ext_alloc ?_ _ | refine ext_drew ?_ | refine ext_set ?_ (by simp) _ | refine ext_trans ?_ (by assumption)))))).mono ?_; rintro r wz4 ⟨bz, rfl, hz, hxz4⟩; rcases yes_or hz with rfl | ⟨rfl, HZ4⟩ <;> clear hz)
      | (go_at_call 13; refine (zzFits2_any a4 0 c4 its _ (HI.out _ (by (repeat (first | exact ext_refl _ | assumption | refine ext_alloc ?_ _ | refine ext_drew ?_ | refine ext_set ?_ (by simp) _ | refine ext_trans ?_ (by assumption)))))).mono ?_; rintro r wz5 ⟨bz, rfl, hz, hxz5⟩; rcases yes_or hz with rfl | ⟨rfl, HZ5⟩ <;> clear hz)
      | fail)
    all_goals (go_ret; exact ⟨rfl, by (repeat (first | exact ext_refl _ | assumption | refine ext_alloc ?_ _ | refine ext_drew ?_ | refine ext_set ?_ (by simp) _ | refine ext_trans ?_ (by assumption)))⟩)
end Go.Proofs.Ytfngaoicoecncaa

namespace Go.Proofs.Ytfngaoicoecncaa
open Go.ChangeShapes Go.WideShapes Go.ChangeAt Go.RowKit

set_option maxRecDepth 100000 in
theorem moreLikeThis_lifted (os : Os) (started : os.Started) (H : Type) (enc : TypeId × Value → H) :
    ReturnsInHanded {} Try.checked os 4 .any (Rows.fnMoreLikeThisSpec.pre6 enc Try.prog Try.f4 Rows.fnMoreLikeThisRow.domain false) (Rows.fnMoreLikeThisSpec.post enc Try.prog Try.f4 false true false false) := by
  refine returnsInHanded_of_change (C := Try.checked) ownKnobs started (by kernel_rfl) Try.func4
    (ChangeSpec.witness6 (enc := enc) (C := Try.checked) false ⟨#[], #[.slice none 0 0, .slice none 0 0, .slice none 0 0, .slice none 0 0, .slice none 0 0, .slice none 0 0], []⟩ 8 (by kernel_rfl) (by kernel_rfl) (by kernel_rfl) (by kernel_rfl)) ?_
  intro W base args ds gs before hval hW hcnd _
  have hW' := hW
  obtain ⟨p, q, hA, hV, rfl, hfz, hnd⟩ := hW'
  have hA : DataW.TrodAll enc Try.prog W 0 (fun _ => true) true Try.f4.params.toList args.toList ds p := hA
  rw [Try.params4] at hA hval
  obtain ⟨v0, vs0, d0, ds0, p0, q0, hargs, rfl, rfl, h0, r0⟩ := trodAll_cons hA
  obtain ⟨v1, vs1, d1, ds1, p1, q1, rfl, rfl, rfl, h1, r1⟩ := trodAll_cons r0
  obtain ⟨v2, vs2, d2, ds2, p2, q2, rfl, rfl, rfl, h2, r2⟩ := trodAll_cons r1
  obtain ⟨v3, vs3, d3, ds3, p3, q3, rfl, rfl, rfl, h3, r3⟩ := trodAll_cons r2
  obtain ⟨v4, vs4, d4, ds4, p4, q4, rfl, rfl, rfl, h4, r4⟩ := trodAll_cons r3
  obtain ⟨v5, vs5, d5, ds5, p5, q5, rfl, rfl, rfl, h5, r5⟩ := trodAll_cons r4
  obtain ⟨rfl, rfl, rfl⟩ := trodAll_nil r5
  obtain rfl : args = #[v0, v1, v2, v3, v4, v5] := by cases args; simp_all
  obtain ⟨rfl, rfl⟩ := trodVars_none hV
  obtain ⟨a0, n0, c0, rfl⟩ := okWide_slice Try.underlying27 (hval 0 27 v0 rfl rfl)
  obtain ⟨fuel0, hf0⟩ := h0
  obtain ⟨a0', n0', c0', ps0, e0, hP0⟩ := strs_of hf0
  simp only [Value.cells, List.cons.injEq, and_true, Value.slice.injEq] at e0
  obtain ⟨rfl, rfl, rfl⟩ := e0
  obtain ⟨a1, n1, c1, rfl⟩ := okWide_slice Try.underlying27 (hval 1 27 v1 rfl rfl)
  obtain ⟨fuel1, hf1⟩ := h1
  obtain ⟨a1', n1', c1', ps1, e1, hP1⟩ := strs_of hf1
  simp only [Value.cells, List.cons.injEq, and_true, Value.slice.injEq] at e1
  obtain ⟨rfl, rfl, rfl⟩ := e1
  obtain ⟨a2, n2, c2, rfl⟩ := okWide_slice Try.underlying27 (hval 2 27 v2 rfl rfl)
  obtain ⟨fuel2, hf2⟩ := h2
  obtain ⟨a2', n2', c2', ps2, e2, hP2⟩ := strs_of hf2
  simp only [Value.cells, List.cons.injEq, and_true, Value.slice.injEq] at e2
  obtain ⟨rfl, rfl, rfl⟩ := e2
  obtain ⟨a3, n3, c3, rfl⟩ := okWide_slice Try.underlying27 (hval 3 27 v3 rfl rfl)
  obtain ⟨fuel3, hf3⟩ := h3
  obtain ⟨a3', n3', c3', ps3, e3, hP3⟩ := strs_of hf3
  simp only [Value.cells, List.cons.injEq, and_true, Value.slice.injEq] at e3
  obtain ⟨rfl, rfl, rfl⟩ := e3
  obtain ⟨a4, n4, c4, rfl⟩ := okWide_slice Try.underlying36 (hval 4 36 v4 rfl rfl)
  obtain ⟨fuel4, hf4⟩ := h4
  obtain ⟨a4', n4', c4', ps4, e4, hP4⟩ := items_of hf4
  simp only [Value.cells, List.cons.injEq, and_true, Value.slice.injEq] at e4
  obtain ⟨rfl, rfl, rfl⟩ := e4
  obtain ⟨a5, n5, c5, rfl⟩ := okWide_slice Try.underlying22 (hval 5 22 v5 rfl rfl)
  obtain ⟨fuel5, hf5⟩ := h5
  obtain ⟨a5', n5', c5', ps5, e5, hP5⟩ := sets_of hf5
  simp only [Value.cells, List.cons.injEq, and_true, Value.slice.injEq] at e5
  obtain ⟨rfl, rfl, rfl⟩ := e5
  refine (moreLikeThis_law a0 n0 c0 ps0 a1 n1 c1 ps1 a2 n2 c2 ps2 a3 n3 c3 ps3 a4 n4 c4 ps4 a5 n5 c5 ps5 W hP0 hP1 hP2 hP3 hP4 hP5).mono fun e W' ⟨he, hx⟩ => ?_
  subst he
  exact ⟨_, rfl, post_law laidOut (by kernel_rfl) (by kernel_rfl) Try.underlying4 rfl hW rfl hx⟩

/-- A more_like_this query has its fields, the texts and documents that it likes, the texts that it does not, its stop words, and its settings. -/
theorem moreLikeThis_proved : Rows.FnMoreLikeThisSaid :=
  OpenClaim.holds_of_wide 4 Try.f4 rfl rfl rfl rfl rfl rfl rfl ⟨rfl, rfl, rfl, rfl, rfl⟩ rfl rfl rfl rfl rfl (by kernel_rfl) Try.func4 (by kernel_rfl)
    (of_decide_eq_true (by kernel_rfl)) (by unfold Func.isWrapper; first | (rw [if_pos (by decide +kernel)]; kernel_rfl) | (rw [if_neg (by decide +kernel)]; exact ⟨rfl, rfl⟩))
    (fun os started H enc _ => moreLikeThis_lifted os started H enc)
#print axioms moreLikeThis_proved
end Go.Proofs.Ytfngaoicoecncaa

