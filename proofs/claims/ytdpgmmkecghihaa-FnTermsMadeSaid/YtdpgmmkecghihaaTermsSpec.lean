/-
  A terms query, as it is told.
-/
import Derived.Test.YtdpgmmkecghihaaAny
import Derived.Test.YtdpgmmkecghihaaTr
namespace Go.Proofs.Ytdpgmmkecghihaa
open Go.RowKit

abbrev sTerms : ByteArray := ⟨#[84, 101, 114, 109, 115]⟩
abbrev tTerms : ByteArray := ⟨#[98, 111, 111, 115, 116, 32, 110, 44, 95, 110, 97, 109, 101, 32, 116]⟩
abbrev rTerms : List (ByteArray × ByteArray) := [(s_boost, ⟨#[110]⟩), (s_name, ⟨#[116]⟩)]
set_option maxHeartbeats 2000000 in
theorem table_terms (w : World) : Calls Try.prog 149 #[.string sTerms] w fun r w' => r = .returned (.string tTerms) ∧ w' = w := by
  go_enter Try.func149, Try.ntmps149
  go_wp2
  go_ret
  exact ⟨rfl, rfl⟩
theorem rows_terms (w : World) : Calls Try.prog 63 #[.string sTerms] w fun r w' => ∃ v, r = .returned v ∧ Own2 w' w.heap.size v rTerms ∧ Ext w w' :=
  rows_any sTerms tTerms w table_terms 5 (by decide) (by decide)
set_option maxRecDepth 20000 in
set_option maxHeartbeats 4000000 in
theorem termsSpec_any {S : Nat → Prop} (f : ByteArray) (v : El) (t : T) (a : Option Addr) (n c : Nat) (sets : List (ByteArray × T)) (w : World) (hv : TreeAt S w v t) (h : PairsAt S w a n c sets) :
    Calls Try.prog 24 #[.string f, v.val, .slice a n c] w fun r w' => ∃ g : El, r = .returned g.val ∧ TreeAt (fun _ => True) w' g (mapT [(s_terms, mapT (paramsL rTerms sets ++ [(f, t)]))]) ∧ Ext w w' := by
  obtain ⟨vk, vx, vd, vy, vka, vn, vkc, vca, vm, vcc⟩ := v
  have hx0 : Ext w ((w.alloc (.cells (⟨vk, vx, vd, vy, vka, vn, vkc, vca, vm, vcc⟩ : El).arr 28)).alloc (.cells (El.arr El0) 28)) := ext_alloc (ext_alloc (ext_refl _) _) _
  have hbt : Box ((w.alloc (.cells (⟨vk, vx, vd, vy, vka, vn, vkc, vca, vm, vcc⟩ : El).arr 28)).alloc (.cells (El.arr El0) 28)) w.heap.size (⟨vk, vx, vd, vy, vka, vn, vkc, vca, vm, vcc⟩ : El).arr 28 := (Box.at rfl _ _).alloc _
  have hb0 : Box ((w.alloc (.cells (⟨vk, vx, vd, vy, vka, vn, vkc, vca, vm, vcc⟩ : El).arr 28)).alloc (.cells (El.arr El0) 28)) (w.heap.size + 1) (El.arr El0) 28 := Box.at (by simp) _ _
  have hPa := Lib.hid fun w' (x : Ext w w') => params_any (S := fun b => b < w.heap.size) sTerms tTerms a n c sets w' table_terms 5 (by decide) (by decide) rTerms (by decide) (by decide) ((h.keep (S' := fun b => b < w.heap.size) (fun b _ h2 => h2) (fun _ _ _ => rfl)).ext x)
  have hV := Lib.hid (hv.to (S' := fun b => b < w.heap.size) (fun b _ h2 => h2))
  have hrl : rTerms.length = 2 := rfl
  clear hv h
  simp only [El.val]
  go_enter Try.func24, Try.ntmps24
  go_upto_region 1 with fail
  refine wp_region_tree (fun w' => Six w' w.heap.size (⟨vk, vx, vd, vy, vka, vn, vkc, vca, vm, vcc⟩ : El)) [0, 2, 3, 4] (.held 0 (.held 2 (.held 3 (.held 4 (.two 1 (.one 5 (.one 6 (.one 7 (.one 8 .done)))) 5 (.one 1 (.one 6 (.one 7 (.one 8 .done))))))))) (by kernel_rfl) (by kernel_rfl) (fun d _ _ _ _ h => by cases d <;> exact h) (by kernel_rfl) ?_
  have hS : (fun w' => Six w' w.heap.size (⟨vk, vx, vd, vy, vka, vn, vkc, vca, vm, vcc⟩ : El)) _ := hbt.Six
  iterate 4 (apply tr_held rfl (by assumption) rfl; (focus ((intro w' hS'); go_simp; (try with_reducible rfl))); (try simp only [Act.put, List.setIfInBounds_toArray, List.set_cons_zero, List.set_cons_succ]))
  refine tr_two ?_ ?_
  · skip
    (apply tr_loud rfl rfl; intro K hK; go_simp)
    refine (hPa.out _ (ext_drew hx0)).mono ?_
    rintro r w2 ⟨pv, es, rfl, hO, hPk, hx1⟩
    have hel : es.length ≤ 2 := by rw [← hPk.1, ← hrl]; exact params_len _ _
    have hS1 : (fun w' => Six w' w.heap.size (⟨vk, vx, vd, vy, vka, vn, vkc, vca, vm, vcc⟩ : El)) w2 := Six.ext hx1 hS
    refine hK _ _ (fun _ => hS1) ?_
    clear hK K
    (try simp only [Act.put, List.setIfInBounds_toArray, List.set_cons_zero, List.set_cons_succ])
    (apply tr_loud rfl rfl; intro K hK; go_simp)
    have hxn : Ext w2 (w2.alloc (.cells #[.string f, .int .i64 vk, .string vx, .float .f64 vd, .bool vy, .slice vka vn vkc, .slice vca vm vcc] 50)) := ext_alloc (ext_refl _) _
    have hbn : Box (w2.alloc (.cells #[.string f, .int .i64 vk, .string vx, .float .f64 vd, .bool vy, .slice vka vn vkc, .slice vca vm vcc] 50)) w2.heap.size #[.string f, .int .i64 vk, .string vx, .float .f64 vd, .bool vy, .slice vka vn vkc, .slice vca vm vcc] 50 := Box.at (by first | rfl | simp) _ _
    have hS2 : (fun w' => Six w' w.heap.size (⟨vk, vx, vd, vy, vka, vn, vkc, vca, vm, vcc⟩ : El)) (w2.alloc (.cells #[.string f, .int .i64 vk, .string vx, .float .f64 vd, .bool vy, .slice vka vn vkc, .slice vca vm vcc] 50)) := Six.ext hxn hS1
    refine hK _ _ (fun _ => hS2) ?_
    clear hK K
    (try simp only [Act.put, List.setIfInBounds_toArray, List.set_cons_zero, List.set_cons_succ])
    have hxw : Ext w (w2.alloc (.cells #[.string f, .int .i64 vk, .string vx, .float .f64 vd, .bool vy, .slice vka vn vkc, .slice vca vm vcc] 50)) := ext_trans (ext_trans (ext_drew hx0) hx1) hxn
    have hO2 : OwnPairs (w2.alloc (.cells #[.string f, .int .i64 vk, .string vx, .float .f64 vd, .bool vy, .slice vka vn vkc, .slice vca vm vcc] 50)) ((w.alloc (.cells (⟨vk, vx, vd, vy, vka, vn, vkc, vca, vm, vcc⟩ : El).arr 28)).alloc (.cells (El.arr El0) 28)).drew.heap.size pv es := hO.ext hxn
    have hPk2 : Pk (fun b => b < w.heap.size) (w2.alloc (.cells #[.string f, .int .i64 vk, .string vx, .float .f64 vd, .bool vy, .slice vka vn vkc, .slice vca vm vcc] 50)) es (paramsL rTerms sets) := (hPk.ext hxn).keep (fun q hq _ => hq.1) (fun _ _ _ => rfl)
    have hbn2 : Box (w2.alloc (.cells #[.string f, .int .i64 vk, .string vx, .float .f64 vd, .bool vy, .slice vka vn vkc, .slice vca vm vcc] 50)) w2.heap.size #[.string f, .int .i64 vk, .string vx, .float .f64 vd, .bool vy, .slice vka vn vkc, .slice vca vm vcc] 50 := hbn
    have hbk : ∀ q, pv.ownBlock = some q → w.heap.size + 2 ≤ q := fun q hq => by
      have h1 := (hO2.block hq).1
      have h2 := hx0.sz
      simp at h1 h2
      omega
    have hbase : ((w.alloc (.cells (⟨vk, vx, vd, vy, vka, vn, vkc, vca, vm, vcc⟩ : El).arr 28)).alloc (.cells (El.arr El0) 28)).drew.heap.size ≤ (w2.alloc (.cells #[.string f, .int .i64 vk, .string vx, .float .f64 vd, .bool vy, .slice vka vn vkc, .slice vca vm vcc] 50)).heap.size := (ext_trans hx1 hxn).sz
    have hbt2 : Box (w2.alloc (.cells #[.string f, .int .i64 vk, .string vx, .float .f64 vd, .bool vy, .slice vka vn vkc, .slice vca vm vcc] 50)) w.heap.size (⟨vk, vx, vd, vy, vka, vn, vkc, vca, vm, vcc⟩ : El).arr 28 := ((hbt.drew).ext hx1).ext hxn
    have hb02 : Box (w2.alloc (.cells #[.string f, .int .i64 vk, .string vx, .float .f64 vd, .bool vy, .slice vka vn vkc, .slice vca vm vcc] 50)) (w.heap.size + 1) (El.arr El0) 28 := ((hb0.drew).ext hx1).ext hxn
    apply tr_loud rfl rfl
    intro K hK
    refine wp_append_pairs _ _ _ rfl ((w.alloc (.cells (⟨vk, vx, vd, vy, vka, vn, vkc, vca, vm, vcc⟩ : El).arr 28)).alloc (.cells (El.arr El0) 28)).drew.heap.size _ es rfl hO2 w2.heap.size 0 1 [(f, (⟨vk, vx, vd, vy, vka, vn, vkc, vca, vm, vcc⟩ : El))] (by simp) rfl (fun i p hp => by
      cases i with
      | zero => simp at hp; subst hp; exact ⟨hbn2.cell 0 _ rfl, hbn2.cell 1 _ rfl, hbn2.cell 2 _ rfl, hbn2.cell 3 _ rfl, hbn2.cell 4 _ rfl, hbn2.cell 5 _ rfl, hbn2.cell 6 _ rfl⟩
      | succ i => simp at hp) (by simp; omega) hbase ?_
    intro g1 cap1 w4 hown hgrow hlies hglt
    have hbt4 := hbt2.grown hgrow (fun e => by have := hbk _ e.symm; omega)
    have hS4 : (fun w' => Six w' w.heap.size (⟨vk, vx, vd, vy, vka, vn, vkc, vca, vm, vcc⟩ : El)) w4 := hbt4.Six
    refine hK _ _ (fun _ => hS4) ?_
    clear hK K
    (try simp only [Act.put, List.setIfInBounds_toArray, List.set_cons_zero, List.set_cons_succ])
    have hk : Keeps (fun q => q < w.heap.size) (w2.alloc (.cells #[.string f, .int .i64 vk, .string vx, .float .f64 vd, .bool vy, .slice vka vn vkc, .slice vca vm vcc] 50)) w4 := keeps_grown hgrow (fun q hq e => by have := hbk q e.symm; omega)
    have hPk3 : Pk (fun q => q < w.heap.size ∨ w.heap.size + 2 ≤ q) w4 (es ++ [(f, (⟨vk, vx, vd, vy, vka, vn, vkc, vca, vm, vcc⟩ : El))]) (paramsL rTerms sets ++ [(f, t)]) :=
      Pk.append (hPk2.keep (fun q hq _ => .inl hq) (fun q hq hlt => hk q hq hlt)) ((Pk.one (hV.out.ext hxw)).keep (fun q hq _ => .inl hq) (fun q hq hlt => hk q hq hlt))
    obtain ⟨pa, pc, hpe, hPA⟩ := hown.pairs (S := fun q => q < w.heap.size ∨ w.heap.size + 2 ≤ q) hPk3.1 (fun q hq => .inr (by have h1 := (World.ownsRow.lt hown q hq).1; have h2 := hx0.sz; simp at h1 h2; omega)) hPk3.2
    have hx5 : Ext w w4 := ext_grown hxw hgrow (fun k hk => by have := hbk k hk; omega)
    have hb4 : Box w4 (w.heap.size + 1) (El.arr El0) 28 := hb02.grown hgrow (fun e => by have := hbk _ e.symm; omega)
    have hpl : (paramsL rTerms sets ++ [(f, t)]).length = es.length + 1 := by rw [hPk3.1]; simp
    rw [hpl] at hpe hPA
    simp only [List.length_cons, List.length_nil, Nat.zero_add, Value.slice.injEq] at hpe
    obtain ⟨rfl, -, rfl⟩ := hpe
    have hB := beside_any s_terms _ _ _ _ w4 hPA (by omega)
    have hs4 := hb4.lt
    clear hown hgrow hlies hglt hbk hk hPk3 hPA hO hPk hpl hO2 hPk2
    (apply tr_loud rfl rfl; intro K hK; go_simp)
    refine hB.mono ?_
    rintro r w5 ⟨g2, rfl, hT2, hx6⟩
    have hS5 : (fun w' => Six w' w.heap.size (⟨vk, vx, vd, vy, vka, vn, vkc, vca, vm, vcc⟩ : El)) w5 := Six.ext hx6 hS4
    refine hK _ _ (fun _ => hS5) ?_
    clear hK K
    try simp only [El.val]
    (try simp only [Act.put, List.setIfInBounds_toArray, List.set_cons_zero, List.set_cons_succ])
    have hb5 := hb4.ext hx6
    obtain ⟨o0, o1, o2, o3, o4, o5⟩ := hb5.six
    have f0 := hb5.free 0
    have f1 := hb5.free 1
    have f2 := hb5.free 2
    have f3 := hb5.free 3
    have f4 := hb5.free 4
    have f5 := hb5.free 5
    have hS6 : (fun w' => Six w' w.heap.size (⟨vk, vx, vd, vy, vka, vn, vkc, vca, vm, vcc⟩ : El)) (sto w5 (w.heap.size + 1) g2) := ((hbt4.ext hx6).sto6' (by omega) _ _ _ _ _ _).Six
    (apply tr_loud rfl rfl; intro K hK; go_simp)
    refine hK _ _ (fun _ => hS6) ?_
    clear hK K
    (try simp only [Act.put, List.setIfInBounds_toArray, List.set_cons_zero, List.set_cons_succ])
    refine tr_end ?_
    go_wp2_with fail
    refine post_tree rfl rfl (hb5.sto g2) rfl ⟨g2, rfl, ?_, ext_sto6 (ext_trans hx5 hx6) (by omega) _ _ _ _ _ _⟩
    refine TreeAt.keep (S := fun q => q < w.heap.size ∨ w.heap.size + 2 ≤ q) (fun _ _ _ => trivial) (keeps_sto w5 (by omega) g2) _ (hT2.to fun q h1 _ => ?_)
    rcases h1 with h | h
    · exact h.1
    · exact .inr (by omega)
  · skip
    (apply tr_loud rfl rfl; intro K hK; go_simp)
    have hxn : Ext ((w.alloc (.cells (⟨vk, vx, vd, vy, vka, vn, vkc, vca, vm, vcc⟩ : El).arr 28)).alloc (.cells (El.arr El0) 28)).drew (((w.alloc (.cells (⟨vk, vx, vd, vy, vka, vn, vkc, vca, vm, vcc⟩ : El).arr 28)).alloc (.cells (El.arr El0) 28)).drew.alloc (.cells #[.string f, .int .i64 vk, .string vx, .float .f64 vd, .bool vy, .slice vka vn vkc, .slice vca vm vcc] 50)) := ext_alloc (ext_refl _) _
    have hbn : Box (((w.alloc (.cells (⟨vk, vx, vd, vy, vka, vn, vkc, vca, vm, vcc⟩ : El).arr 28)).alloc (.cells (El.arr El0) 28)).drew.alloc (.cells #[.string f, .int .i64 vk, .string vx, .float .f64 vd, .bool vy, .slice vka vn vkc, .slice vca vm vcc] 50)) (w.heap.size + 1 + 1) #[.string f, .int .i64 vk, .string vx, .float .f64 vd, .bool vy, .slice vka vn vkc, .slice vca vm vcc] 50 := Box.at (by first | rfl | simp) _ _
    have hS2 : (fun w' => Six w' w.heap.size (⟨vk, vx, vd, vy, vka, vn, vkc, vca, vm, vcc⟩ : El)) (((w.alloc (.cells (⟨vk, vx, vd, vy, vka, vn, vkc, vca, vm, vcc⟩ : El).arr 28)).alloc (.cells (El.arr El0) 28)).drew.alloc (.cells #[.string f, .int .i64 vk, .string vx, .float .f64 vd, .bool vy, .slice vka vn vkc, .slice vca vm vcc] 50)) := Six.ext hxn hS
    refine hK _ _ (fun _ => hS2) ?_
    clear hK K
    (try simp only [Act.put, List.setIfInBounds_toArray, List.set_cons_zero, List.set_cons_succ])
    (apply tr_loud rfl rfl; intro K hK; go_simp)
    refine (hPa.out _ (ext_trans (ext_drew hx0) hxn)).mono ?_
    rintro r w2 ⟨pv, es, rfl, hO, hPk, hx1⟩
    have hel : es.length ≤ 2 := by rw [← hPk.1, ← hrl]; exact params_len _ _
    have hS1 : (fun w' => Six w' w.heap.size (⟨vk, vx, vd, vy, vka, vn, vkc, vca, vm, vcc⟩ : El)) w2 := Six.ext hx1 hS2
    refine hK _ _ (fun _ => hS1) ?_
    clear hK K
    (try simp only [Act.put, List.setIfInBounds_toArray, List.set_cons_zero, List.set_cons_succ])
    have hxw : Ext w w2 := ext_trans (ext_trans (ext_drew hx0) hxn) hx1
    have hO2 : OwnPairs w2 (((w.alloc (.cells (⟨vk, vx, vd, vy, vka, vn, vkc, vca, vm, vcc⟩ : El).arr 28)).alloc (.cells (El.arr El0) 28)).drew.alloc (.cells #[.string f, .int .i64 vk, .string vx, .float .f64 vd, .bool vy, .slice vka vn vkc, .slice vca vm vcc] 50)).heap.size pv es := hO
    have hPk2 : Pk (fun b => b < w.heap.size) w2 es (paramsL rTerms sets) := hPk.keep (fun q hq _ => hq.1) (fun _ _ _ => rfl)
    have hbn2 : Box w2 (w.heap.size + 1 + 1) #[.string f, .int .i64 vk, .string vx, .float .f64 vd, .bool vy, .slice vka vn vkc, .slice vca vm vcc] 50 := hbn.ext hx1
    have hbk : ∀ q, pv.ownBlock = some q → w.heap.size + 2 ≤ q := fun q hq => by
      have h1 := (hO2.block hq).1
      have h2 := hx0.sz
      simp at h1 h2
      omega
    have hbase : (((w.alloc (.cells (⟨vk, vx, vd, vy, vka, vn, vkc, vca, vm, vcc⟩ : El).arr 28)).alloc (.cells (El.arr El0) 28)).drew.alloc (.cells #[.string f, .int .i64 vk, .string vx, .float .f64 vd, .bool vy, .slice vka vn vkc, .slice vca vm vcc] 50)).heap.size ≤ w2.heap.size := hx1.sz
    have hbt2 : Box w2 w.heap.size (⟨vk, vx, vd, vy, vka, vn, vkc, vca, vm, vcc⟩ : El).arr 28 := (hbt.drew.ext hxn).ext hx1
    have hb02 : Box w2 (w.heap.size + 1) (El.arr El0) 28 := (hb0.drew.ext hxn).ext hx1
    apply tr_loud rfl rfl
    intro K hK
    refine wp_append_pairs _ _ _ rfl (((w.alloc (.cells (⟨vk, vx, vd, vy, vka, vn, vkc, vca, vm, vcc⟩ : El).arr 28)).alloc (.cells (El.arr El0) 28)).drew.alloc (.cells #[.string f, .int .i64 vk, .string vx, .float .f64 vd, .bool vy, .slice vka vn vkc, .slice vca vm vcc] 50)).heap.size _ es rfl hO2 (w.heap.size + 1 + 1) 0 1 [(f, (⟨vk, vx, vd, vy, vka, vn, vkc, vca, vm, vcc⟩ : El))] (by simp) rfl (fun i p hp => by
      cases i with
      | zero => simp at hp; subst hp; exact ⟨hbn2.cell 0 _ rfl, hbn2.cell 1 _ rfl, hbn2.cell 2 _ rfl, hbn2.cell 3 _ rfl, hbn2.cell 4 _ rfl, hbn2.cell 5 _ rfl, hbn2.cell 6 _ rfl⟩
      | succ i => simp at hp) (by simp; omega) hbase ?_
    intro g1 cap1 w4 hown hgrow hlies hglt
    have hbt4 := hbt2.grown hgrow (fun e => by have := hbk _ e.symm; omega)
    have hS4 : (fun w' => Six w' w.heap.size (⟨vk, vx, vd, vy, vka, vn, vkc, vca, vm, vcc⟩ : El)) w4 := hbt4.Six
    refine hK _ _ (fun _ => hS4) ?_
    clear hK K
    (try simp only [Act.put, List.setIfInBounds_toArray, List.set_cons_zero, List.set_cons_succ])
    have hk : Keeps (fun q => q < w.heap.size) w2 w4 := keeps_grown hgrow (fun q hq e => by have := hbk q e.symm; omega)
    have hPk3 : Pk (fun q => q < w.heap.size ∨ w.heap.size + 2 ≤ q) w4 (es ++ [(f, (⟨vk, vx, vd, vy, vka, vn, vkc, vca, vm, vcc⟩ : El))]) (paramsL rTerms sets ++ [(f, t)]) :=
      Pk.append (hPk2.keep (fun q hq _ => .inl hq) (fun q hq hlt => hk q hq hlt)) ((Pk.one (hV.out.ext hxw)).keep (fun q hq _ => .inl hq) (fun q hq hlt => hk q hq hlt))
    obtain ⟨pa, pc, hpe, hPA⟩ := hown.pairs (S := fun q => q < w.heap.size ∨ w.heap.size + 2 ≤ q) hPk3.1 (fun q hq => .inr (by have h1 := (World.ownsRow.lt hown q hq).1; have h2 := hx0.sz; simp at h1 h2; omega)) hPk3.2
    have hx5 : Ext w w4 := ext_grown hxw hgrow (fun k hk => by have := hbk k hk; omega)
    have hb4 : Box w4 (w.heap.size + 1) (El.arr El0) 28 := hb02.grown hgrow (fun e => by have := hbk _ e.symm; omega)
    have hpl : (paramsL rTerms sets ++ [(f, t)]).length = es.length + 1 := by rw [hPk3.1]; simp
    rw [hpl] at hpe hPA
    simp only [List.length_cons, List.length_nil, Nat.zero_add, Value.slice.injEq] at hpe
    obtain ⟨rfl, -, rfl⟩ := hpe
    have hB := beside_any s_terms _ _ _ _ w4 hPA (by omega)
    have hs4 := hb4.lt
    clear hown hgrow hlies hglt hbk hk hPk3 hPA hO hPk hpl hO2 hPk2
    (apply tr_loud rfl rfl; intro K hK; go_simp)
    refine hB.mono ?_
    rintro r w5 ⟨g2, rfl, hT2, hx6⟩
    have hS5 : (fun w' => Six w' w.heap.size (⟨vk, vx, vd, vy, vka, vn, vkc, vca, vm, vcc⟩ : El)) w5 := Six.ext hx6 hS4
    refine hK _ _ (fun _ => hS5) ?_
    clear hK K
    try simp only [El.val]
    (try simp only [Act.put, List.setIfInBounds_toArray, List.set_cons_zero, List.set_cons_succ])
    have hb5 := hb4.ext hx6
    obtain ⟨o0, o1, o2, o3, o4, o5⟩ := hb5.six
    have f0 := hb5.free 0
    have f1 := hb5.free 1
    have f2 := hb5.free 2
    have f3 := hb5.free 3
    have f4 := hb5.free 4
    have f5 := hb5.free 5
    have hS6 : (fun w' => Six w' w.heap.size (⟨vk, vx, vd, vy, vka, vn, vkc, vca, vm, vcc⟩ : El)) (sto w5 (w.heap.size + 1) g2) := ((hbt4.ext hx6).sto6' (by omega) _ _ _ _ _ _).Six
    (apply tr_loud rfl rfl; intro K hK; go_simp)
    refine hK _ _ (fun _ => hS6) ?_
    clear hK K
    (try simp only [Act.put, List.setIfInBounds_toArray, List.set_cons_zero, List.set_cons_succ])
    refine tr_end ?_
    go_wp2_with fail
    refine post_tree rfl rfl (hb5.sto g2) rfl ⟨g2, rfl, ?_, ext_sto6 (ext_trans hx5 hx6) (by omega) _ _ _ _ _ _⟩
    refine TreeAt.keep (S := fun q => q < w.heap.size ∨ w.heap.size + 2 ≤ q) (fun _ _ _ => trivial) (keeps_sto w5 (by omega) g2) _ (hT2.to fun q h1 _ => ?_)
    rcases h1 with h | h
    · exact h.1
    · exact .inr (by omega)
end Go.Proofs.Ytdpgmmkecghihaa
