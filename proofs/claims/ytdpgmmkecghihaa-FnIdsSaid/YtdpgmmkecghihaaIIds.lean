/-
  What the builder of a query (Ids) gives behind settings, in order.
-/
import Derived.Test.YtdpgmmkecghihaaIds
import Derived.Test.YtdpgmmkecghihaaAs
namespace Go.Proofs.Ytdpgmmkecghihaa
open Go.RowKit

set_option maxRecDepth 20000 in
set_option maxHeartbeats 4000000 in
theorem ids_any {S : Nat → Prop} (a : Option Addr) (n c : Nat) (ps : List (ByteArray × T)) (w : World) (ua0 : Option Addr) (un0 uc0 : Nat) (u : List ByteArray) (hu0 : StrsAt S w ua0 un0 uc0 u) (hup : 0 < un0) (hub : un0 ≤ 2147483647) (h : PairsAt S w a n c ps) :
    Calls Try.prog 27 #[.slice ua0 un0 uc0, .slice a n c] w fun r w' => ∃ g : El, r = .returned (.tuple #[g.val, .bool true]) ∧ TreeAt (fun b => w.heap.size + 1 ≤ b) w' g (treeJ (jMap [(s_ids, jMap ([(s_values, J.texts u)] ++ jN s_boost (lastOf ps s_boost) ++ jT s_name (lastOf ps s_name)))])) ∧ Ext w w' := by
  obtain ⟨hl, hn, hm, hc⟩ := h
  unfold maxLen at hm
  have HL := Lib.hid hl
  clear hl
  obtain ⟨ub, uo, rfl, -, huc⟩ := hu0.addr hup
  have hul := hu0.1
  subst hul
  have HU := Lib.hid (fun (w' : World) (x : Ext w w') (i : Nat) (f : ByteArray) (hf : u[i]? = some f) => x.cell (huc i f hf))
  clear hu0 huc
  go_enter Try.func27, Try.ntmps27
  have tokA := trivial
  go_wp2_with (first
    | (at_builtin; have _t := tokA; clear _t tokA; refine list_append_strs _ rfl _ _ rfl (w.heap.size + 1) _ [] rfl ⟨rfl, .inr ⟨w.heap.size + 1, 0, #[], rfl, Nat.le_refl _, (Box.at (by simp) _ _).alloc _, Nat.le_refl _, by simp [maxLen], rfl, rfl⟩⟩ ub uo uc0 u hup rfl (fun i f hf => HU.out _ (by (repeat (first | exact ext_refl _ | assumption | refine ext_alloc ?_ _ | refine ext_drew ?_ | refine ext_set ?_ (by simp) _ | refine ext_trans ?_ (by assumption)))) i f hf) (by simp; omega) (by simp) ?_; intro ug ucap w1 hown hgrow hlies hglt
       simp only [List.length_nil, Nat.zero_add, List.nil_append] at hown ⊢
       have hbB : Box w1 (w.heap.size + 1 + 1) #[.slice none 0 0, .slice (some ⟨w.heap.size + 1, 0, none⟩) 0 0, .pointer none, .string ⟨#[]⟩] 159 := (Box.at (by simp) _ _).grown hgrow (show some (w.heap.size + 1 + 1) ≠ some (w.heap.size + 1) from someNe (by omega))
       have c0 := hbB.cell 0 _ rfl
       have c1 := hbB.cell 1 _ rfl
       have f1 := hbB.free 1
       have hBl := hbB.lt
       have hb0' : Box w1 w.heap.size (El.arr El0) 28 := (((Box.at rfl _ _).alloc _).alloc _).grown hgrow (show some w.heap.size ≠ some (w.heap.size + 1) from someNe (by omega))
       have hx1 : Ext w w1 := ext_grown (by (repeat (first | exact ext_refl _ | assumption | refine ext_alloc ?_ _ | refine ext_drew ?_ | refine ext_set ?_ (by simp) _ | refine ext_trans ?_ (by assumption)))) hgrow (fun k hk => by have hk2 : w.heap.size + 1 = k := Option.some.inj hk; omega)
       have hug : ug ≠ w.heap.size + 1 + 1 := by
         rcases hlies with h | h
         · have h2 : w.heap.size + 1 = ug := Option.some.inj h
           omega
         · simp at h; omega
       clear hgrow hlies)
    | go_in
    | fail)
  have hbs := hbB.set 1 (.slice (some ⟨ug, 0, none⟩) u.length ucap)
  have hb0s := hb0'.other (p := ⟨w.heap.size + 1 + 1, 1, none⟩) (by simp; omega) (.slice (some ⟨ug, 0, none⟩) u.length ucap)
  have hxs : Ext w (w1.setCell ⟨w.heap.size + 1 + 1, 1, none⟩ (.slice (some ⟨ug, 0, none⟩) u.length ucap)) := ext_set hx1 (by simp; omega) _
  have hss : w.heap.size + 1 + 1 + 1 ≤ (w1.setCell ⟨w.heap.size + 1 + 1, 1, none⟩ (.slice (some ⟨ug, 0, none⟩) u.length ucap)).heap.size := by simp; omega
  have hJLs : JAt (fun q => q ≠ w.heap.size + 1 + 1) (w1.setCell ⟨w.heap.size + 1 + 1, 1, none⟩ (.slice (some ⟨ug, 0, none⟩) u.length ucap)) (.iface 25 (.slice (some ⟨ug, 0, none⟩) u.length ucap)) (J.texts u) := by
    obtain ⟨sa, sc, he, hst⟩ := hown.strs (S := fun q => q ≠ w.heap.size + 1 + 1) (fun b hb => by cases hb; exact hug)
    cases he
    simp only [JAt]
    exact ⟨_, _, _, rfl, by omega, hst.keep (fun _ h _ => h) (fun q hq _ => Below.heap_setCell _ _ _ _ (by simp; omega))⟩
  go_loopw [14] (fun i wr => Ext w wr ∧ ((w.heap.size + 1 + 1) + 1) ≤ wr.heap.size ∧ Box wr w.heap.size (El.arr El0) 28 ∧ ∃ (j : Nat) (v2 : Option Addr) (v3 : ByteArray), j ≤ n ∧ i = .int .i64 j ∧ Box wr (w.heap.size + 1 + 1) #[.slice none 0 0, .slice (some ⟨ug, 0, none⟩) u.length ucap, .pointer v2, .string v3] 159 ∧ FN (fun q => q ≠ (w.heap.size + 1 + 1)) wr v2 (lastOf (ps.take j) s_boost) ∧ v3 = fT (lastOf (ps.take j) s_name) ∧ JAt (fun q => q ≠ (w.heap.size + 1 + 1)) wr (.iface 25 (.slice (some ⟨ug, 0, none⟩) u.length ucap)) (J.texts u)) (fun i _ => n - (intOf i).toNat)
  case atStart => exact ⟨hxs, hss, hb0s, 0, _, _, Nat.zero_le _, rfl, hbs, rfl, rfl, hJLs⟩
  case round =>
    obtain ⟨hx, hsz, hb0, j, v2, v3, hj, rfl, hbq, h2, h3, hJLu⟩ := hrel
    have H2 := Lib.hid h2
    have H3 := Lib.hid h3
    have HJLu := Lib.hid hJLu
    clear hJLu
    clear h2 h3
    have hbql := hbq.lt
    by_cases hlt : j < n
    · obtain ⟨p, hp⟩ := some_of_lt HL.out hlt
      obtain ⟨b, off, ⟨k, x, d, y, ka, kn, kc, ca, m, cc⟩, rfl, hSb, hc7, hT⟩ := hc j p hp
      obtain ⟨z0, z1, z2, z3, z4, z5, z6⟩ := Cells7.ext hx hc7
      have HP := Lib.hid hp
      have hl0 : w.heap.size < wr.heap.size := by omega
      have hl1 : ¬ w.heap.size = wr.heap.size := by omega
      have hl2 : (w.heap.size + 1 + 1) < wr.heap.size + 1 := by omega
      have hTx := Lib.hid hT.parts.2.1
      have hTd := Lib.hid hT.parts.2.2.1
      have hTy := Lib.hid hT.parts.2.2.2.1
      clear hp
      have hc0 := hbq.cell 0 _ rfl
      have hf0 := hbq.free 0
      have hc1 := hbq.cell 1 _ rfl
      have hf1 := hbq.free 1
      have hc2 := hbq.cell 2 _ rfl
      have hf2 := hbq.free 2
      have hc3 := hbq.cell 3 _ rfl
      have hf3 := hbq.free 3
      cases he0 : p.1.toList == [98, 111, 111, 115, 116]
      · have e0 : seq p.1 s_boost = false := by rw [seq, show s_boost.toList = [98, 111, 111, 115, 116] by rw [Lib.toList_data]]; exact he0
        cases he1 : p.1.toList == [95, 110, 97, 109, 101]
        · have e1 : seq p.1 s_name = false := by rw [seq, show s_name.toList = [95, 110, 97, 109, 101] by rw [Lib.toList_data]]; exact he1
          go_wp2_with go_in
          go_roundw
          case rel =>
            have hy := ext_alloc (ext_refl wr) (.cells #[.string p.1, .int .i64 k, .string x, .float .f64 d, .bool y, .slice ka kn kc, .slice ca m cc] 73)
            exact ⟨ext_trans hx hy, Nat.le_trans hsz hy.sz, hb0.ext hy, j + 1, v2, v3, by omega, by go_num, hbq.ext hy, by rw [last_miss HP.out e0]; exact FN.ext hy H2.out, by rw [last_miss HP.out e1]; exact H3.out, JAt.ext hy HJLu.out⟩
          case measure => simp [intOf]; omega
        · have e1 : seq p.1 s_name = true := by rw [seq, show s_name.toList = [95, 110, 97, 109, 101] by rw [Lib.toList_data]]; exact he1
          go_wp2_with go_in
          go_roundw
          case rel =>
            have hk : Keeps (fun q => q ≠ (w.heap.size + 1 + 1)) wr ((wr.setCell ⟨(w.heap.size + 1 + 1), 3, none⟩ (.string x)).alloc (.cells #[.string p.1, .int .i64 k, .string x, .float .f64 d, .bool y, .slice ka kn kc, .slice ca m cc] 73)) := fun q hq hlt => (Below.heap_alloc _ _ _ (by simpa using hlt)).trans (Below.heap_setCell _ _ _ _ (by simp; omega))
            exact ⟨ext_alloc (ext_set hx (by simp; omega) _) _, by simp; omega, (hb0.other (by simp; omega) _).alloc _, j + 1, v2, x, by omega, by go_num, (hbq.set 3 _).alloc _, by rw [last_other HP.out e1 (seq_false.2 (by decide))]; exact FN.keep (fun _ h _ => h) hk H2.out, by rw [last_hit HP.out e1]; exact hTx.out, JAt.keep (fun _ h _ => h) hk _ HJLu.out⟩
          case measure => simp [intOf]; omega
      · have e0 : seq p.1 s_boost = true := by rw [seq, show s_boost.toList = [98, 111, 111, 115, 116] by rw [Lib.toList_data]]; exact he0
        go_wp2_with go_in
        go_roundw
        case rel =>
          have hk : Keeps (fun q => q ≠ (w.heap.size + 1 + 1)) wr (((wr.setCell ⟨(w.heap.size + 1 + 1), 2, none⟩ (.pointer (some ⟨wr.heap.size + 1, 0, none⟩))).alloc (.cells #[.string p.1, .int .i64 k, .string x, .float .f64 d, .bool y, .slice ka kn kc, .slice ca m cc] 73)).alloc (.cells #[.float .f64 d] 24)) := fun q hq hlt => (Below.heap_alloc _ _ _ (by simp; omega)).trans ((Below.heap_alloc _ _ _ (by simpa using hlt)).trans (Below.heap_setCell _ _ _ _ (by simp; omega)))
          have hnew : (((wr.setCell ⟨(w.heap.size + 1 + 1), 2, none⟩ (.pointer (some ⟨wr.heap.size + 1, 0, none⟩))).alloc (.cells #[.string p.1, .int .i64 k, .string x, .float .f64 d, .bool y, .slice ka kn kc, .slice ca m cc] 73)).alloc (.cells #[.float .f64 d] 24)).cell? ⟨wr.heap.size + 1, 0, none⟩ = some (.float .f64 d) := (Box.at (by simp) _ _).cell 0 _ rfl
          exact ⟨ext_alloc (ext_alloc (ext_set hx (by simp; omega) _) _) _, by simp; omega, ((hb0.other (by simp; omega) _).alloc _).alloc _, j + 1, some ⟨wr.heap.size + 1, 0, none⟩, v3, by omega, by go_num, ((hbq.set 2 _).alloc _).alloc _, by rw [last_hit HP.out e0]; exact ⟨wr.heap.size + 1, rfl, by omega, by rw [← hTd.out]; exact hnew⟩, by rw [last_other HP.out e0 (seq_false.2 (by decide))]; exact H3.out, JAt.keep (fun _ h _ => h) hk _ HJLu.out⟩
        case measure => simp [intOf]; omega
    · have hjn : j = n := by omega
      have hfull : ps.take j = ps := List.take_of_length_le (by have := HL.out; omega)
      rw [hfull] at H2 H3
      have hS := ids_src (S := fun q => q ≠ (w.heap.size + 1 + 1)) wr (w.heap.size + 1 + 1) _ _ _ _ (JAt.to HJLu.out (fun _ _ h => h)) v2 _ H2.out v3 _ H3.out hbq
      go_wp2_with (first
        | (go_at_call 77; refine hS.mono ?_; rintro r w2 ⟨v, rfl, hJ, hx2⟩)
        | (go_at_call 60; refine (told_any v _ _ hJ).mono ?_; rintro r w3 ⟨e2, rfl, hT3, hx3⟩; simp only [El.val]
           have hb := (hb0.ext hx2).ext hx3; obtain ⟨o0, o1, o2, o3, o4, o5⟩ := hb.six; have f0 := hb.free 0; have f1 := hb.free 1; have f2 := hb.free 2; have f3 := hb.free 3; have f4 := hb.free 4; have f5 := hb.free 5))
      have hx4 := ext_trans hx (ext_trans hx2 hx3)
      have hs2 := hx2.sz
      refine post_tree2 rfl rfl (hb.sto e2) rfl ⟨e2, rfl, ?_, ext_sto6 hx4 (by omega) _ _ _ _ _ _⟩
      have hfin := TreeAt.keep (S := fun b => w2.heap.size ≤ b) (S' := fun b => w.heap.size + 1 ≤ b) (fun b hb _ => by omega) (keeps_sto (b := w.heap.size) w3 (by omega) e2) _ hT3
      simp only [List.append_assoc, List.cons_append, List.nil_append] at hfin ⊢
      exact hfin
end Go.Proofs.Ytdpgmmkecghihaa
