/-
  The builder of a terms query as it is made: of values, of texts.
-/
import Derived.Test.YtdpgmmkecghihaaAny
namespace Go.Proofs.Ytdpgmmkecghihaa
open Go.RowKit

set_option maxRecDepth 20000 in
set_option maxHeartbeats 1000000 in
theorem newTerms_any (f : ByteArray) (g n cap base : Nat) (vs : List Value) (js : List J) (w : World) (hO : OwnAny w base (.slice (some ⟨g, 0, none⟩) n cap) vs) (hV : Vals vs js) (hp : 0 < n) (hb : n ≤ 2147483647) :
    Calls Try.prog 90 #[.string f, .slice (some ⟨g, 0, none⟩) n cap] w fun r w' => ∃ bq ug ucap, r = .returned (.pointer (some ⟨bq, 0, none⟩)) ∧
      Box w' bq #[.string f, .slice (some ⟨ug, 0, none⟩) n ucap, .pointer none, .string ⟨#[]⟩, .pointer none] 157 ∧ JAt (fun q => q ≠ bq) w' (.iface 114 (.slice (some ⟨ug, 0, none⟩) n ucap)) (.list js) ∧ w.heap.size ≤ bq ∧ Ext w w' := by
  obtain ⟨aa, cc, he, -, -, hc⟩ := hO.cells (S := fun _ => True) (fun _ _ => trivial)
  simp only [Value.slice.injEq] at he
  obtain ⟨rfl, hn, rfl⟩ := he
  subst hn
  have HC := Lib.hid (fun (w' : World) (x : Ext w w') (i : Nat) (u : Value) (hi : vs[i]? = some u) => show w'.cell? ⟨g, 0 + i, none⟩ = some u from by
    obtain ⟨b, off, e, -, h⟩ := hc i u hi
    cases e
    exact x.cell h)
  clear hO hc
  go_enter Try.func90, Try.ntmps90
  go_upto_region 3 with fail
  have hbB : Box ((w.alloc (.cells #[] 20)).alloc (.cells #[.string f, .slice (some ⟨w.heap.size, 0, none⟩) 0 0, .pointer none, .string ⟨#[]⟩, .pointer none] 157)) (w.heap.size + 1) #[.string f, .slice (some ⟨w.heap.size, 0, none⟩) 0 0, .pointer none, .string ⟨#[]⟩, .pointer none] 157 := Box.at (by simp) _ _
  have tokC := trivial
  go_wp2_with (first
    | (at_builtin; have _t := tokC; clear _t tokC; refine list_append_any _ rfl _ _ rfl w.heap.size _ [] rfl ⟨rfl, .inr ⟨w.heap.size, 0, #[], rfl, Nat.le_refl _, (Box.at rfl _ _).alloc _, Nat.le_refl _, by simp [maxLen], rfl, rfl⟩⟩ g 0 _ vs hp hV.one rfl (fun i u hi => HC.out _ (by (repeat (first | exact ext_refl _ | assumption | refine ext_alloc ?_ _ | refine ext_drew ?_ | refine ext_set ?_ (by simp) _ | refine ext_trans ?_ (by assumption)))) i u hi) (by simp; omega) (by simp; omega) ?_; intro ug ucap w1 hown hgrow hlies hglt
       simp only [List.length_nil, Nat.zero_add, List.nil_append] at hown ⊢
       have hb1 := hbB.grown hgrow (show some (w.heap.size + 1) ≠ some w.heap.size from someNe (by omega))
       have c1 := hb1.cell 1 _ rfl
       have f1 := hb1.free 1
       have hBl := hb1.lt
       have hx1 : Ext w w1 := ext_grown (by (repeat (first | exact ext_refl _ | assumption | refine ext_alloc ?_ _ | refine ext_drew ?_ | refine ext_set ?_ (by simp) _ | refine ext_trans ?_ (by assumption)))) hgrow (fun k hk => by have hk2 : w.heap.size = k := Option.some.inj hk; omega)
       have hug : ug ≠ w.heap.size + 1 := by
         rcases hlies with h | h
         · have h2 : w.heap.size = ug := Option.some.inj h
           omega
         · simp at h; omega
       clear hgrow hlies)
    | fail)
  go_ret
  refine ⟨w.heap.size + 1, ug, ucap, rfl, hb1.set 1 _, ?_, by omega, ext_set hx1 (by simp) _⟩
  exact JAt.keep (fun _ h _ => h) (fun q hq _ => Below.heap_setCell _ _ _ _ (by simp; omega)) _ (hown.list (S := fun q => q ≠ w.heap.size + 1) hug hV (by omega))
set_option maxRecDepth 20000 in
set_option maxHeartbeats 1000000 in
theorem newTexts_any {S : Nat → Prop} (f : ByteArray) (a : Option Addr) (n c : Nat) (ss : List ByteArray) (w : World) (h : StrsAt S w a n c ss) (hp : 0 < n) (hb : n ≤ 2147483647) :
    Calls Try.prog 67 #[.string f, .slice a n c] w fun r w' => ∃ bq ug ucap, r = .returned (.pointer (some ⟨bq, 0, none⟩)) ∧
      Box w' bq #[.string f, .slice (some ⟨ug, 0, none⟩) n ucap, .pointer none, .string ⟨#[]⟩, .pointer none] 157 ∧ JAt (fun q => q ≠ bq) w' (.iface 114 (.slice (some ⟨ug, 0, none⟩) n ucap)) (.list (ss.map J.str)) ∧ w.heap.size ≤ bq ∧ Ext w w' := by
  obtain ⟨hl, hn, hm, hc⟩ := h
  unfold maxLen at hm
  have HL := Lib.hid hl
  clear hl
  go_enter Try.func67, Try.ntmps67
  go_wp2_with fail
  go_loopw [14] (fun i wr => Ext w wr ∧ ∃ (j : Nat) (v : Value) (vs : List Value), j ≤ n ∧ i = .int .i64 j ∧ Box wr (w.heap.size + 1) #[.string f, v, .pointer none, .string ⟨#[]⟩, .pointer none] 157 ∧ OwnAny wr w.heap.size v vs ∧ v.ownBlock ≠ some (w.heap.size + 1) ∧ (∃ g k cap, v = .slice (some ⟨g, 0, none⟩) k cap) ∧ Vals vs ((ss.take j).map J.str)) (fun i _ => n - (intOf i).toNat)
  case atStart =>
    exact ⟨by (repeat (first | exact ext_refl _ | assumption | refine ext_alloc ?_ _ | refine ext_drew ?_ | refine ext_set ?_ (by simp) _ | refine ext_trans ?_ (by assumption))), 0, _, [], Nat.zero_le _, rfl, Box.at (by simp) _ _, ⟨rfl, .inr ⟨w.heap.size, 0, #[], rfl, Nat.le_refl _, (Box.at rfl _ _).alloc _, Nat.le_refl _, by simp [maxLen], rfl, rfl⟩⟩, by simp [Value.ownBlock], ⟨_, _, _, rfl⟩, Vals.nil⟩
  case round =>
    obtain ⟨hx, j, v, vs, hj, rfl, hbq, hO, hne, ⟨g0, k0, cap0, rfl⟩, hV⟩ := hrel
    have HO := Lib.hid hO
    have HV := Lib.hid hV
    clear hO hV
    have hc1 := hbq.cell 1 _ rfl
    have hBl := hbq.lt
    by_cases hlt : j < n
    · obtain ⟨t, ht⟩ := some_of_lt HL.out hlt
      obtain ⟨b, off, rfl, -, hcell⟩ := hc j t ht
      have hcell := hx.cell hcell
      have HT := Lib.hid ht
      clear ht
      have hvl : vs.length = j := by rw [HV.out.1, List.length_map, List.length_take, HL.out]; omega
      have HVL := Lib.hid hvl
      clear hvl
      have hbl := fun g hg => World.ownsRow.lt HO.out g hg
      have hsz := hx.sz
      have hxn : Ext wr (wr.alloc (.cells #[.iface 9 (.string t)] 20)) := ext_alloc (ext_refl _) _
      have hbn : Box (wr.alloc (.cells #[.iface 9 (.string t)] 20)) wr.heap.size #[.iface 9 (.string t)] 20 := Box.at rfl _ _
      have tokB := trivial
      go_wp2_with (first
        | (at_builtin; have _t := tokB; clear _t tokB; refine list_append_any _ rfl _ _ rfl w.heap.size _ vs rfl (HO.out.ext hxn) wr.heap.size 0 1 [.iface 9 (.string t)] (by simp) (fun u hu => by simp at hu; subst hu; rfl) rfl (fun i f hf => by
             cases i with
             | zero => simp at hf; subst hf; exact hbn.cell 0 _ rfl
             | succ i => simp at hf) (by have := HVL.out; simp; omega) (by have := hxn.sz; omega) ?_; intro g cap w4 hown hgrow hlies hglt
           have hb4 := (hbq.ext hxn).grown hgrow hne.symm
           have c4 := hb4.cell 1 _ rfl
           have f4 := hb4.free 1
           have hB4 := hb4.lt
           have hx5 : Ext w w4 := ext_grown (ext_trans hx hxn) hgrow (fun k hk => (hbl k hk).1)
           have hug : g ≠ w.heap.size + 1 := by
             rcases hlies with h | h
             · intro e
               subst e
               exact hne h
             · simp at h; omega
           clear hgrow hlies)
        | fail)
      have hown2 := Lib.hid hown
      clear hown
      go_roundw
      case rel =>
        refine ⟨ext_set hx5 (by simp) _, j + 1, _, vs ++ [.iface 9 (.string t)], by omega, by go_num, hb4.set 1 _, (by simpa using hown2.out : OwnAny w4 w.heap.size _ _).grown (grown_set _ _ _) (.inr ?_), ?_, ⟨_, _, _, rfl⟩, ?_⟩
        · simp [Value.ownBlock]; omega
        · simp [Value.ownBlock]; omega
        · rw [take_snoc HT.out, List.map_append]
          exact HV.out.snoc rfl (fun w => by simp [JAt])
      case measure => simp [intOf]; omega
    · have hjn : j = n := by omega
      subst hjn
      have hfull : ss.take j = ss := List.take_of_length_le (by have := HL.out; omega)
      have hV := HV.out
      rw [hfull] at hV
      obtain ⟨aa, cc, he, -, -, -⟩ := HO.out.cells (S := fun _ => True) (fun _ _ => trivial)
      simp only [Value.slice.injEq] at he
      obtain ⟨-, hk, -⟩ := he
      have hvn : vs.length = j := by rw [hV.1, List.length_map]; exact HL.out
      rw [hvn] at hk
      subst hk
      have hO := HO.out
      go_wp2_with fail
      go_ret
      exact ⟨w.heap.size + 1, g0, cap0, rfl, hbq, hO.list (S := fun q => q ≠ w.heap.size + 1) (fun e => hne (by rw [e]; rfl)) hV (by omega), by omega, hx⟩
end Go.Proofs.Ytdpgmmkecghihaa
