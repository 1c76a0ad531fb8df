/-
  A bound at once, and in steps.
-/
import Derived.Test.YtdpgmmkecghihaaQr
import Derived.Test.YtdpgmmkecghihaaTr
namespace Go.Proofs.Ytdpgmmkecghihaa
open Go.RowKit

theorem pairs_boxT {S : Nat → Prop} {w : World} {b : Nat} {ty : TypeId} {es : List (ByteArray × El)} {ps : List (ByteArray × T)} (hb : Box w b (es.flatMap cells7).toArray ty) (hS : S b) (hl : es.length ≤ maxLen) (hk : Pk S w es ps) : PairsAt S w (some ⟨b, 0, none⟩) es.length es.length ps :=
  ⟨hk.1, Nat.le_refl _, hl, fun i p hi => by
    have hlt : i < es.length := by rw [← hk.1]; exact (List.getElem?_eq_some_iff.1 hi).1
    obtain ⟨e, he⟩ := some_of_lt (l := es) rfl hlt
    obtain ⟨h1, h2⟩ := hk.2 i e p he hi
    have hc := fun j v hj => hb.cell (i * 7 + j) v (by simpa using flat7_get es i e he j v hj)
    rw [← h1]
    refine ⟨b, 0, e.2, rfl, hS, ⟨?_, ?_, ?_, ?_, ?_, ?_, ?_⟩, h2⟩
    · simpa using hc 0 _ rfl
    · simpa [Nat.add_assoc] using hc 1 _ rfl
    · simpa [Nat.add_assoc] using hc 2 _ rfl
    · simpa [Nat.add_assoc] using hc 3 _ rfl
    · simpa [Nat.add_assoc] using hc 4 _ rfl
    · simpa [Nat.add_assoc] using hc 5 _ rfl
    · simpa [Nat.add_assoc] using hc 6 _ rfl⟩
set_option maxHeartbeats 400000 in
theorem yes_tree (b : Bool) (w : World) : Calls Try.prog 147 #[.bool b] w fun r w' => ∃ g : El, r = .returned g.val ∧ (∀ S : Nat → Prop, TreeAt S w' g (yesT b)) ∧ Ext w w' := by
  go_enter Try.func147, Try.ntmps147
  go_wp2
  refine post_tree rfl rfl (Box.at rfl _ _) rfl ⟨⟨3, ⟨#[]⟩, 0, b, none, 0, 0, none, 0, 0⟩, rfl, fun S => TreeAt.of rfl rfl rfl rfl (strs_none _) (kids_none _), by (repeat (first | exact ext_refl _ | assumption | refine ext_alloc ?_ _ | refine ext_drew ?_ | refine ext_set ?_ (by simp) _ | refine ext_trans ?_ (by assumption)))⟩
/-- The name of a bound at once. -/
def atOnce (up inc : Bool) : ByteArray := if up then (if inc then s_lte else s_lt) else (if inc then s_gte else s_gt)
set_option maxRecDepth 20000 in
set_option maxHeartbeats 1000000 in
theorem atOnce_any {S : Nat → Prop} (v : El) (t : T) (up inc : Bool) (w : World) (h : TreeAt S w v t) :
    Calls Try.prog 52 #[v.val, .bool up, .bool inc] w fun r w' => ∃ a c, r = .returned (.slice a 1 c) ∧ PairsAt (fun _ => True) w' a 1 c [(atOnce up inc, t)] ∧ Ext w w' := by
  obtain ⟨vk, vx, vd, vy, vka, vn, vkc, vca, vm, vcc⟩ := v
  have hT := Lib.hid h.any
  clear h
  simp only [El.val]
  go_enter Try.func52, Try.ntmps52
  have key : ∀ (nm nm' : ByteArray), nm = nm' → PairsAt (fun _ => True) ((w.alloc (.cells (⟨vk, vx, vd, vy, vka, vn, vkc, vca, vm, vcc⟩ : El).arr 28)).alloc (.cells #[.string nm, .int .i64 vk, .string vx, .float .f64 vd, .bool vy, .slice vka vn vkc, .slice vca vm vcc] 73)) (some ⟨w.heap.size + 1, 0, none⟩) 1 1 [(nm', t)] := fun nm nm' hn => by
    subst hn
    exact pairs_boxT (ty := 73) (es := [(nm, (⟨vk, vx, vd, vy, vka, vn, vkc, vca, vm, vcc⟩ : El))]) (Box.at (by simp) _ _) trivial (by simp [maxLen]) (Pk.one (hT.out.ext (ext_alloc (ext_alloc (ext_refl _) _) _)))
  cases up <;> cases inc <;> (go_wp2_with fail; go_ret; exact ⟨_, _, rfl, key _ _ (by first | rfl | decide), by (repeat (first | exact ext_refl _ | assumption | refine ext_alloc ?_ _ | refine ext_drew ?_ | refine ext_set ?_ (by simp) _ | refine ext_trans ?_ (by assumption)))⟩)
/-- A bound in steps. -/
def inSteps (up inc : Bool) (t : T) : List (ByteArray × T) := if up then [(s_to, t), (s_include_upper, yesT inc)] else [(s_from, t), (s_include_lower, yesT inc)]
set_option maxRecDepth 20000 in
set_option maxHeartbeats 2000000 in
theorem inSteps_any {S : Nat → Prop} (v : El) (t : T) (up inc : Bool) (w : World) (h : TreeAt S w v t) :
    Calls Try.prog 53 #[v.val, .bool up, .bool inc] w fun r w' => ∃ a c, r = .returned (.slice a 2 c) ∧ PairsAt (fun _ => True) w' a 2 c (inSteps up inc t) ∧ Ext w w' := by
  obtain ⟨vk, vx, vd, vy, vka, vn, vkc, vca, vm, vcc⟩ := v
  have hT := Lib.hid h.any
  clear h
  simp only [El.val]
  have hx0 : Ext w (w.alloc (.cells (⟨vk, vx, vd, vy, vka, vn, vkc, vca, vm, vcc⟩ : El).arr 28)) := ext_alloc (ext_refl _) _
  have hbt : Box (w.alloc (.cells (⟨vk, vx, vd, vy, vka, vn, vkc, vca, vm, vcc⟩ : El).arr 28)) w.heap.size (⟨vk, vx, vd, vy, vka, vn, vkc, vca, vm, vcc⟩ : El).arr 28 := Box.at rfl _ _
  go_enter Try.func53, Try.ntmps53
  cases up
  · go_upto_region 3 with fail
    refine wp_region_order (fun w' => Six w' w.heap.size (⟨vk, vx, vd, vy, vka, vn, vkc, vca, vm, vcc⟩ : El)) [0, 1, 2, 4] [0, 1, 2, 3, 4, 5, 6] (by kernel_rfl) (by kernel_rfl) (fun d _ _ _ _ h => by cases d <;> exact h) (by kernel_rfl) ?_
    have hS : (fun w' => Six w' w.heap.size (⟨vk, vx, vd, vy, vka, vn, vkc, vca, vm, vcc⟩ : El)) _ := hbt.Six
    (apply ord_held rfl rfl (by assumption) rfl; (focus ((intro w' hS'); go_simp; (try with_reducible rfl))); (try simp only [Act.put, List.setIfInBounds_toArray, List.set_cons_zero, List.set_cons_succ]))
    (apply ord_held rfl rfl (by assumption) rfl; (focus ((intro w' hS'); go_simp; (try with_reducible rfl))); (try simp only [Act.put, List.setIfInBounds_toArray, List.set_cons_zero, List.set_cons_succ]))
    (apply ord_held rfl rfl (by assumption) rfl; (focus ((intro w' hS'); go_simp; (try with_reducible rfl))); (try simp only [Act.put, List.setIfInBounds_toArray, List.set_cons_zero, List.set_cons_succ]))
    (apply ord_loud rfl rfl rfl; intro K hK; go_simp)
    refine (yes_tree inc _).mono ?_
    rintro r w2 ⟨g, rfl, hTg, hx2⟩
    have hS1 : (fun w' => Six w' w.heap.size (⟨vk, vx, vd, vy, vka, vn, vkc, vca, vm, vcc⟩ : El)) w2 := Six.ext hx2 hS
    refine hK _ _ (fun _ => hS1) ?_
    clear hK K
    try simp only [El.val]
    (try simp only [Act.put, List.setIfInBounds_toArray, List.set_cons_zero, List.set_cons_succ])
    (apply ord_held rfl rfl (by assumption) rfl; (focus ((intro w' hS'); go_simp; (try with_reducible rfl))); (try simp only [Act.put, List.setIfInBounds_toArray, List.set_cons_zero, List.set_cons_succ]))
    (apply ord_loud rfl rfl rfl; intro K hK; go_simp)
    have hxn : Ext w2 (w2.alloc (.cells #[.string s_from, .int .i64 vk, .string vx, .float .f64 vd, .bool vy, .slice vka vn vkc, .slice vca vm vcc, .string s_include_lower, .int .i64 g.k, .string g.x, .float .f64 g.d, .bool g.y, .slice g.ka g.n g.kc, .slice g.ca g.m g.cc] 73)) := ext_alloc (ext_refl _) _
    have hS2 : (fun w' => Six w' w.heap.size (⟨vk, vx, vd, vy, vka, vn, vkc, vca, vm, vcc⟩ : El)) (w2.alloc (.cells #[.string s_from, .int .i64 vk, .string vx, .float .f64 vd, .bool vy, .slice vka vn vkc, .slice vca vm vcc, .string s_include_lower, .int .i64 g.k, .string g.x, .float .f64 g.d, .bool g.y, .slice g.ka g.n g.kc, .slice g.ca g.m g.cc] 73)) := Six.ext hxn hS1
    refine hK _ _ (fun _ => hS2) ?_
    clear hK K
    (try simp only [Act.put, List.setIfInBounds_toArray, List.set_cons_zero, List.set_cons_succ])
    (apply ord_last rfl rfl rfl (by kernel_rfl); intro K hK; go_simp; refine hK _ _ ?_; clear hK K; (try simp only [Act.put, List.setIfInBounds_toArray, List.set_cons_zero, List.set_cons_succ]))
    refine ord_end ?_
    go_wp2_with fail
    go_ret
    have hxe := ext_trans (ext_trans (ext_drew hx0) hx2) hxn
    exact ⟨_, _, rfl, pairs_boxT (ty := 73) (es := [(s_from, (⟨vk, vx, vd, vy, vka, vn, vkc, vca, vm, vcc⟩ : El)), (s_include_lower, g)]) (Box.at rfl _ _) trivial (by simp [maxLen]) (Pk.append (Pk.one (k := s_from) (hT.out.ext hxe)) (Pk.one (k := s_include_lower) ((hTg (fun _ => True)).ext hxn))), hxe⟩
  · go_upto_region 2 with fail
    refine wp_region_order (fun w' => Six w' w.heap.size (⟨vk, vx, vd, vy, vka, vn, vkc, vca, vm, vcc⟩ : El)) [0, 1, 2, 4] [0, 1, 2, 3, 4, 5, 6] (by kernel_rfl) (by kernel_rfl) (fun d _ _ _ _ h => by cases d <;> exact h) (by kernel_rfl) ?_
    have hS : (fun w' => Six w' w.heap.size (⟨vk, vx, vd, vy, vka, vn, vkc, vca, vm, vcc⟩ : El)) _ := hbt.Six
    (apply ord_held rfl rfl (by assumption) rfl; (focus ((intro w' hS'); go_simp; (try with_reducible rfl))); (try simp only [Act.put, List.setIfInBounds_toArray, List.set_cons_zero, List.set_cons_succ]))
    (apply ord_held rfl rfl (by assumption) rfl; (focus ((intro w' hS'); go_simp; (try with_reducible rfl))); (try simp only [Act.put, List.setIfInBounds_toArray, List.set_cons_zero, List.set_cons_succ]))
    (apply ord_held rfl rfl (by assumption) rfl; (focus ((intro w' hS'); go_simp; (try with_reducible rfl))); (try simp only [Act.put, List.setIfInBounds_toArray, List.set_cons_zero, List.set_cons_succ]))
    (apply ord_loud rfl rfl rfl; intro K hK; go_simp)
    refine (yes_tree inc _).mono ?_
    rintro r w2 ⟨g, rfl, hTg, hx2⟩
    have hS1 : (fun w' => Six w' w.heap.size (⟨vk, vx, vd, vy, vka, vn, vkc, vca, vm, vcc⟩ : El)) w2 := Six.ext hx2 hS
    refine hK _ _ (fun _ => hS1) ?_
    clear hK K
    try simp only [El.val]
    (try simp only [Act.put, List.setIfInBounds_toArray, List.set_cons_zero, List.set_cons_succ])
    (apply ord_held rfl rfl (by assumption) rfl; (focus ((intro w' hS'); go_simp; (try with_reducible rfl))); (try simp only [Act.put, List.setIfInBounds_toArray, List.set_cons_zero, List.set_cons_succ]))
    (apply ord_loud rfl rfl rfl; intro K hK; go_simp)
    have hxn : Ext w2 (w2.alloc (.cells #[.string s_to, .int .i64 vk, .string vx, .float .f64 vd, .bool vy, .slice vka vn vkc, .slice vca vm vcc, .string s_include_upper, .int .i64 g.k, .string g.x, .float .f64 g.d, .bool g.y, .slice g.ka g.n g.kc, .slice g.ca g.m g.cc] 73)) := ext_alloc (ext_refl _) _
    have hS2 : (fun w' => Six w' w.heap.size (⟨vk, vx, vd, vy, vka, vn, vkc, vca, vm, vcc⟩ : El)) (w2.alloc (.cells #[.string s_to, .int .i64 vk, .string vx, .float .f64 vd, .bool vy, .slice vka vn vkc, .slice vca vm vcc, .string s_include_upper, .int .i64 g.k, .string g.x, .float .f64 g.d, .bool g.y, .slice g.ka g.n g.kc, .slice g.ca g.m g.cc] 73)) := Six.ext hxn hS1
    refine hK _ _ (fun _ => hS2) ?_
    clear hK K
    (try simp only [Act.put, List.setIfInBounds_toArray, List.set_cons_zero, List.set_cons_succ])
    (apply ord_last rfl rfl rfl (by kernel_rfl); intro K hK; go_simp; refine hK _ _ ?_; clear hK K; (try simp only [Act.put, List.setIfInBounds_toArray, List.set_cons_zero, List.set_cons_succ]))
    refine ord_end ?_
    go_wp2_with fail
    go_ret
    have hxe := ext_trans (ext_trans (ext_drew hx0) hx2) hxn
    exact ⟨_, _, rfl, pairs_boxT (ty := 73) (es := [(s_to, (⟨vk, vx, vd, vy, vka, vn, vkc, vca, vm, vcc⟩ : El)), (s_include_upper, g)]) (Box.at rfl _ _) trivial (by simp [maxLen]) (Pk.append (Pk.one (k := s_to) (hT.out.ext hxe)) (Pk.one (k := s_include_upper) ((hTg (fun _ => True)).ext hxn))), hxe⟩
end Go.Proofs.Ytdpgmmkecghihaa
