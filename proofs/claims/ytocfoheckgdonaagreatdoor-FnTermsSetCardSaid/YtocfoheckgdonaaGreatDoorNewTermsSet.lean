/-
  The builder of a terms_set query as it is made.
-/
import Derived.Test.YtocfoheckgdonaaGreatDoorAny
namespace Go.Proofs.YtocfoheckgdonaaGreatDoor
open Go.RowKit

set_option maxRecDepth 20000 in
set_option maxHeartbeats 1000000 in
theorem newTermsSet_any (f : ByteArray) (g n cap base : Nat) (vs : List Value) (js : List J) (w : World) (hO : OwnAny w base (.slice (some ⟨g, 0, none⟩) n cap) vs) (hV : Vals vs js) (hp : 0 < n) (hb : n ≤ 2147483647) :
    Calls Tryz.prog 58 #[.string f, .slice (some ⟨g, 0, none⟩) n cap] w fun r w' => ∃ bq ug ucap, r = .returned (.pointer (some ⟨bq, 0, none⟩)) ∧
      Box w' bq #[.string f, .slice (some ⟨ug, 0, none⟩) n ucap, .string ⟨#[]⟩, .pointer none, .string ⟨#[]⟩, .pointer none] 131 ∧ JAt (fun q => q ≠ bq) w' (.iface 80 (.slice (some ⟨ug, 0, none⟩) n ucap)) (.list js) ∧ w.heap.size ≤ bq ∧ Ext w w' := by
  obtain ⟨aa, cc, he, -, -, hc⟩ := hO.cells (S := fun _ => True) (fun _ _ => trivial)
  simp only [Value.slice.injEq] at he
  obtain ⟨rfl, hn, rfl⟩ := he
  subst hn
  have HC := Lib.hid (fun (w' : World) (x : Ext w w') (i : Nat) (u : Value) (hi : vs[i]? = some u) => show w'.cell? ⟨g, 0 + i, none⟩ = some u from by
    obtain ⟨b, off, e, -, h⟩ := hc i u hi
    cases e
    exact x.cell h)
  clear hO hc
  go_enter Tryz.func58, Tryz.ntmps58
  go_upto_region 3 with fail
  have hbB : Box ((w.alloc (.cells #[] 20)).alloc (.cells #[.string f, .slice (some ⟨w.heap.size, 0, none⟩) 0 0, .string ⟨#[]⟩, .pointer none, .string ⟨#[]⟩, .pointer none] 131)) (w.heap.size + 1) #[.string f, .slice (some ⟨w.heap.size, 0, none⟩) 0 0, .string ⟨#[]⟩, .pointer none, .string ⟨#[]⟩, .pointer none] 131 := Box.at (by simp) _ _
  have tokC := trivial
  go_wp2_with (first
    | (at_builtin; have _t := tokC; clear _t tokC; refine list_append_any _ rfl _ _ rfl w.heap.size _ [] rfl ⟨rfl, .inr ⟨w.heap.size, 0, #[], rfl, Nat.le_refl _, (Box.at rfl _ _).alloc _, Nat.le_refl _, by simp [maxLen], rfl, rfl⟩⟩ g 0 _ vs hp hV.one rfl (fun i u hi => HC.out _ (by (repeat (first | exact ext_refl _ | assumption | refine ext_alloc ?_ _ | refine ext_drew ?_ | refine ext_set ?_ (by simp) _ | refine ext_trans ?_ (by assumption)))) i u hi) (by simp; omega) (by simp; omega) ?_; intro ug ucap w1 hown hgrow hlies hglt
       simp only [List.length_nil, Nat.zero_add, List.nil_append] at hown ⊢
       have hb1 := hbB.grown hgrow (show some (w.heap.size + 1) ≠ some w.heap.size from someNe (by omega))
       have c1 := hb1.cell 1 _ rfl
       have f1 := hb1.free 1
       have hBl := hb1.lt
       have hx1 : Ext w w1 := ext_grown (by (repeat (first | exact ext_refl _ | assumption | refine ext_alloc ?_ _ | refine ext_drew ?_ | refine ext_set ?_ (by simp) _ | refine ext_trans ?_ (by assumption)))) hgrow (fun k hk => by have hk2 : w.heap.size = k := Option.some.inj hk; omega)
       have hug : ug ≠ w.heap.size + 1 := by
         rcases hlies with h | h
         · have h2 : w.heap.size = ug := Option.some.inj h
           omega
         · simp at h; omega
       clear hgrow hlies)
    | fail)
  go_ret
  refine ⟨w.heap.size + 1, ug, ucap, rfl, hb1.set 1 _, ?_, by omega, ext_set hx1 (by simp) _⟩
  exact JAt.keep (fun _ h _ => h) (fun q hq _ => Below.heap_setCell _ _ _ _ (by simp; omega)) _ (hown.list (S := fun q => q ≠ w.heap.size + 1) hug hV (by omega))
end Go.Proofs.YtocfoheckgdonaaGreatDoor
