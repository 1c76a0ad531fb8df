/-
  Whether a rule is as it must be.
-/
import Derived.Test.YtdjojnlejkljdaaGreatRj
import Derived.Test.YtdjojnlejkljdaaGreatP4
import Derived.Test.YtdjojnlejkljdaaGreatTx
import Derived.Test.YtdjojnlejkljdaaGreatPo
import Derived.Test.YtdjojnlejkljdaaGreatLx
import Derived.Test.YtdjojnlejkljdaaGreatZz
namespace Go.Proofs.YtdjojnlejkljdaaGreat
open Go.RowKit

set_option maxHeartbeats 2000000 in
theorem table_ruleMatch (w : World) : Calls Tryz.prog 84 #[.string sRuleMatch] w fun r w' => r = .returned (.string tRuleMatch) ∧ w' = w := by
  go_enter Tryz.func84, Tryz.ntmps84
  go_wp2
  go_ret
  exact ⟨rfl, rfl⟩
set_option maxRecDepth 20000 in
theorem rows_ruleMatch (w : World) : Calls Tryz.prog 40 #[.string sRuleMatch] w fun r w' => ∃ v, r = .returned v ∧ Own2 w' w.heap.size v rRuleMatch ∧ Ext w w' :=
  rows_any sRuleMatch tRuleMatch w table_ruleMatch 7 (by decide) (by decide)
set_option maxHeartbeats 2000000 in
theorem table_rulePrefix (w : World) : Calls Tryz.prog 84 #[.string sRulePrefix] w fun r w' => r = .returned (.string tRulePrefix) ∧ w' = w := by
  go_enter Tryz.func84, Tryz.ntmps84
  go_wp2
  go_ret
  exact ⟨rfl, rfl⟩
set_option maxRecDepth 20000 in
theorem rows_rulePrefix (w : World) : Calls Tryz.prog 40 #[.string sRulePrefix] w fun r w' => ∃ v, r = .returned v ∧ Own2 w' w.heap.size v rRulePrefix ∧ Ext w w' :=
  rows_any sRulePrefix tRulePrefix w table_rulePrefix 5 (by decide) (by decide)
set_option maxHeartbeats 2000000 in
theorem table_ruleFuzzy (w : World) : Calls Tryz.prog 84 #[.string sRuleFuzzy] w fun r w' => r = .returned (.string tRuleFuzzy) ∧ w' = w := by
  go_enter Tryz.func84, Tryz.ntmps84
  go_wp2
  go_ret
  exact ⟨rfl, rfl⟩
set_option maxRecDepth 20000 in
theorem rows_ruleFuzzy (w : World) : Calls Tryz.prog 40 #[.string sRuleFuzzy] w fun r w' => ∃ v, r = .returned v ∧ Own2 w' w.heap.size v rRuleFuzzy ∧ Ext w w' :=
  rows_any sRuleFuzzy tRuleFuzzy w table_ruleFuzzy 8 (by decide) (by decide)
set_option maxHeartbeats 2000000 in
theorem table_ruleAllOf (w : World) : Calls Tryz.prog 84 #[.string sRuleAllOf] w fun r w' => r = .returned (.string tRuleAllOf) ∧ w' = w := by
  go_enter Tryz.func84, Tryz.ntmps84
  go_wp2
  go_ret
  exact ⟨rfl, rfl⟩
set_option maxRecDepth 20000 in
theorem rows_ruleAllOf (w : World) : Calls Tryz.prog 40 #[.string sRuleAllOf] w fun r w' => ∃ v, r = .returned v ∧ Own2 w' w.heap.size v rRuleAllOf ∧ Ext w w' :=
  rows_any sRuleAllOf tRuleAllOf w table_ruleAllOf 5 (by decide) (by decide)
set_option maxHeartbeats 2000000 in
theorem table_none (w : World) : Calls Tryz.prog 84 #[.string ⟨#[]⟩] w fun r w' => r = .returned (.string ⟨#[]⟩) ∧ w' = w := by
  go_enter Tryz.func84, Tryz.ntmps84
  go_wp2
  go_ret
  exact ⟨rfl, rfl⟩
theorem rows_none (w : World) : Calls Tryz.prog 40 #[.string ⟨#[]⟩] w fun r w' => ∃ v, r = .returned v ∧ Own2 w' w.heap.size v [] ∧ Ext w w' :=
  rows_any ⟨#[]⟩ ⟨#[]⟩ w table_none 1 (by decide) (by decide)
def tabS (k : Int) : ByteArray := if k = 1 then sRulePrefix else if k = 2 then sRulePrefix else if k = 3 then sRuleFuzzy else if k = 4 then sRuleAllOf else if k = 0 then sRuleMatch else ⟨#[]⟩
theorem ruleTable_any (k : Int) (w : World) : Calls Tryz.prog 17 #[.int .i64 k] w fun r w' => r = .returned (.string (tabS k)) ∧ w' = w := by
  unfold tabS
  go_enter Tryz.func17, Tryz.ntmps17
  by_cases e1 : k = 1
  · subst e1; go_wp2_with fail; go_ret; exact ⟨rfl, rfl⟩
  by_cases e2 : k = 2
  · subst e2; go_wp2_with fail; go_ret; exact ⟨rfl, rfl⟩
  by_cases e3 : k = 3
  · subst e3; go_wp2_with fail; go_ret; exact ⟨rfl, rfl⟩
  by_cases e4 : k = 4
  · subst e4; go_wp2_with fail; go_ret; exact ⟨rfl, rfl⟩
  by_cases e0 : k = 0
  · subst e0; go_wp2_with fail; go_ret; exact ⟨rfl, rfl⟩
  go_wp2_with fail
  go_ret
  exact ⟨by simp, rfl⟩
theorem kind_cases (k : Int) : (tabS k = sRulePrefix ∧ rowsR k = rRulePrefix) ∨ (tabS k = sRuleFuzzy ∧ rowsR k = rRuleFuzzy) ∨ (tabS k = sRuleAllOf ∧ rowsR k = rRuleAllOf) ∨ (tabS k = sRuleMatch ∧ rowsR k = rRuleMatch) ∨ (tabS k = ⟨#[]⟩ ∧ rowsR k = []) := by
  unfold tabS rowsR
  by_cases e1 : k = 1
  · exact .inl ⟨by rw [if_pos e1], by rw [if_pos e1]⟩
  by_cases e2 : k = 2
  · exact .inl ⟨by rw [if_neg e1, if_pos e2], by rw [if_neg e1, if_pos e2]⟩
  by_cases e3 : k = 3
  · exact .inr (.inl ⟨by rw [if_neg e1, if_neg e2, if_pos e3], by rw [if_neg e1, if_neg e2, if_pos e3]⟩)
  by_cases e4 : k = 4
  · exact .inr (.inr (.inl ⟨by rw [if_neg e1, if_neg e2, if_neg e3, if_pos e4], by rw [if_neg e1, if_neg e2, if_neg e3, if_pos e4]⟩))
  by_cases e0 : k = 0
  · exact .inr (.inr (.inr (.inl ⟨by rw [if_neg e1, if_neg e2, if_neg e3, if_neg e4, if_pos e0], by rw [if_neg e1, if_neg e2, if_neg e3, if_neg e4, if_pos e0]⟩)))
  · exact .inr (.inr (.inr (.inr ⟨by rw [if_neg e1, if_neg e2, if_neg e3, if_neg e4, if_neg e0], by rw [if_neg e1, if_neg e2, if_neg e3, if_neg e4, if_neg e0]⟩)))
set_option maxRecDepth 20000 in
theorem paramsR_any {S : Nat → Prop} (k : Int) (a : Option Addr) (n c : Nat) (ps : List (ByteArray × T)) (w : World) (h : PairsAt S w a n c ps) :
    Calls Tryz.prog 26 #[.string (tabS k), .slice a n c] w fun r w' => ∃ v es, r = .returned v ∧ OwnPairs w' w.heap.size v es ∧ Pk (fun b => S b ∧ b < w.heap.size) w' es (paramsL (rowsR k) ps) ∧ Ext w w' := by
  rcases kind_cases k with ⟨h1, h2⟩ | ⟨h1, h2⟩ | ⟨h1, h2⟩ | ⟨h1, h2⟩ | ⟨h1, h2⟩ <;> rw [h1, h2]
  · exact params_any sRulePrefix tRulePrefix a n c ps w table_rulePrefix 5 (by decide) (by decide) rRulePrefix (by decide) (by decide) h
  · exact params_any sRuleFuzzy tRuleFuzzy a n c ps w table_ruleFuzzy 8 (by decide) (by decide) rRuleFuzzy (by decide) (by decide) h
  · exact params_any sRuleAllOf tRuleAllOf a n c ps w table_ruleAllOf 5 (by decide) (by decide) rRuleAllOf (by decide) (by decide) h
  · exact params_any sRuleMatch tRuleMatch a n c ps w table_ruleMatch 7 (by decide) (by decide) rRuleMatch (by decide) (by decide) h
  · exact params_any ⟨#[]⟩ ⟨#[]⟩ a n c ps w table_none 1 (by decide) (by decide) [] (by decide) (by decide) h
theorem fitsR_any {S : Nat → Prop} (k : Int) (a : Option Addr) (n c : Nat) (ps : List (ByteArray × T)) (w : World) (h : PairsAt S w a n c ps) :
    Calls Tryz.prog 16 #[.string (tabS k), .slice a n c] w (Yes (FitsP (rowsR k) ps) w) := by
  rcases kind_cases k with ⟨h1, h2⟩ | ⟨h1, h2⟩ | ⟨h1, h2⟩ | ⟨h1, h2⟩ | ⟨h1, h2⟩ <;> rw [h1, h2]
  · exact fits_any sRulePrefix rRulePrefix a n c ps w rows_rulePrefix (by simp [plainK]) h
  · exact fits_any sRuleFuzzy rRuleFuzzy a n c ps w rows_ruleFuzzy (by simp [plainK]) h
  · exact fits_any sRuleAllOf rRuleAllOf a n c ps w rows_ruleAllOf (by simp [plainK]) h
  · exact fits_any sRuleMatch rRuleMatch a n c ps w rows_ruleMatch (by simp [plainK]) h
  · exact fits_any ⟨#[]⟩ [] a n c ps w rows_none (by simp [plainK]) h
theorem tree_free {S S' : Nat → Prop} {w : World} {e : El} {t : T} (h : TreeAt S w e t) (hs : scalarT t = true) : TreeAt S' w e t := by
  obtain ⟨k, x, d, y, ks, xs⟩ := t
  have h2 : ks = [] ∧ xs = [] := by
    unfold scalarT scalarF at hs
    simp only [T.keys, T.kids] at hs
    cases ks with
    | cons _ _ => simp at hs
    | nil =>
      cases xs with
      | cons _ _ => simp at hs
      | nil => exact ⟨rfl, rfl⟩
  obtain ⟨rfl, rfl⟩ := h2
  obtain ⟨h1, h2, h3, h4, h5, h6⟩ := h.parts
  exact TreeAt.of h1 h2 h3 h4 ⟨h5.1, h5.2.1, h5.2.2.1, fun _ _ hh => by simp [T.keys] at hh⟩ (KidsAt.of h6.1 h6.2.1 h6.2.2.1 fun _ _ hh => by simp [T.kids] at hh)
theorem pk_free {S S' : Nat → Prop} {w : World} {es : List (ByteArray × El)} {ps : List (ByteArray × T)} (h : Pk S w es ps) (hs : ∀ p ∈ ps, scalarT p.2 = true) : Pk S' w es ps :=
  ⟨h.1, fun i e p he hp => ⟨(h.2 i e p he hp).1, tree_free (h.2 i e p he hp).2 (hs p (List.mem_of_getElem? hp))⟩⟩
theorem params_scalar {rs : List (ByteArray × ByteArray)} {ps : List (ByteArray × T)} (hF : FitsP rs ps) (rs2 : List (ByteArray × ByteArray)) : ∀ p ∈ paramsL rs2 ps, scalarT p.2 = true := fun p hp => by
  unfold paramsL at hp
  obtain ⟨r, -, hr⟩ := List.mem_filterMap.1 hp
  unfold param at hr
  split at hr
  · cases hl : lastOf ps r.1 with
    | none => rw [hl] at hr; cases hr
    | some t =>
      rw [hl] at hr
      cases hr
      exact (fits_last hF hl).1
  · cases hr
/-- Names with trees to which one more is appended. -/
theorem pk_snoc {w w' : World} {base g cap n : Nat} {v : Value} {es : List (ByteArray × El)} {ps : List (ByteArray × T)} {k : ByteArray} {e : El} {t : T} (hP : Pk (fun b => base ≤ b ∧ v.ownBlock ≠ some b) w es ps) (ht : TreeAt (fun b => base ≤ b ∧ v.ownBlock ≠ some b) w e t)
    (hg : w.grownBy w' v.ownBlock) (hl : Lies w v g) : Pk (fun b => base ≤ b ∧ (Value.slice (some ⟨g, 0, none⟩) n cap).ownBlock ≠ some b) w' (es ++ [(k, e)]) (ps ++ [(k, t)]) := by
  have hk : Keeps (fun b => base ≤ b ∧ v.ownBlock ≠ some b) w w' := keeps_grown hg (fun b hb e => hb.2 e.symm)
  have hS : ∀ b, (base ≤ b ∧ v.ownBlock ≠ some b) → b < w.heap.size → base ≤ b ∧ (Value.slice (some ⟨g, 0, none⟩) n cap).ownBlock ≠ some b := fun b hb hlt => by
    refine ⟨hb.1, fun e => ?_⟩
    simp only [Value.ownBlock, Option.some.injEq] at e
    rcases hl with hl | hl
    · exact hb.2 (by rw [hl, e])
    · omega
  exact Pk.append (hP.keep hS hk) (Pk.one (TreeAt.keep hS hk _ ht))
theorem zip_takeT (ns : List ByteArray) (rs : List Rl) (j : Nat) (nm : ByteArray) (r : Rl) (h1 : ns[j]? = some nm) (h2 : rs[j]? = some r) : (ns.zip (rulesT rs))[j]? = some (nm, ruleT r) := by
  rw [List.getElem?_zip_eq_some]
  exact ⟨h1, by rw [rulesT_eq, List.getElem?_map, h2]; rfl⟩
/-- What a rule becomes as it is told. -/
def Told2 (r : Rl) : Prop := ∀ (S : Nat → Prop) (e : Rv) (w : World), RuleAt S w e r → Calls Tryz.prog 12 #[e.val] w fun rr w' => ∃ g : El, rr = .returned g.val ∧ TreeAt (fun b => w.heap.size ≤ b) w' g (ruleT r) ∧ Ext w w'
set_option maxRecDepth 20000 in
set_option maxHeartbeats 8000000 in
theorem told2_mk (k : Int) (x : ByteArray) (ps : List (ByteArray × T)) (ks : List Rl) (ns : List ByteArray) (rs : List Rl) (hF : FitR (.mk k x ps ks ns rs)) (hSm : SmallR 1048576 (.mk k x ps ks ns rs)) (hk : ∀ r ∈ ks, Told2 r) (hr : ∀ r ∈ rs, Told2 r) : Told2 (.mk k x ps ks ns rs) := by
  rintro S ⟨ek, ex, esa, esn, esc, eka, ekn, ekc, eva, evn, evc⟩ w h
  obtain ⟨h1, h2, hP, hK, hV⟩ := h.parts
  simp only at h1 h2 hP hK hV
  subst h1 h2
  simp only [FitR] at hF
  obtain ⟨f0, f5, fP, -⟩ := hF
  have HSC := Lib.hid (params_scalar fP (rowsR ek))
  simp only [SmallR] at hSm
  have hkn : ekn ≤ 2147483647 := by have := hK.1; omega
  have hvn : evn ≤ 2147483647 := by have := hV.1; omega
  have HP := Lib.hid fun (w1 : World) (x : Ext w w1) => hP.ext x
  have HKS := Lib.hid hK
  have HVS := Lib.hid hV
  have HRK := Lib.hid hk
  have HRR := Lib.hid hr
  clear h hP hK hV hk hr hSm fP
  simp only [Rv.val]
  go_enter Tryz.func12, Tryz.ntmps12
  go_upto_region 1 with fail
  have hbR : Box ((w.alloc (.cells #[.int .i64 ek, .string ex, .slice esa esn esc, .slice eka ekn ekc, .slice eva evn evc] 29)).alloc (.cells (El.arr El0) 35)) w.heap.size #[.int .i64 ek, .string ex, .slice esa esn esc, .slice eka ekn ekc, .slice eva evn evc] 29 := (Box.at rfl _ _).alloc _
  have hb0 : Box ((w.alloc (.cells #[.int .i64 ek, .string ex, .slice esa esn esc, .slice eka ekn ekc, .slice eva evn evc] 29)).alloc (.cells (El.arr El0) 35)) (w.heap.size + 1) (El.arr El0) 35 := Box.at (by simp) _ _
  have hx0 : Ext w ((w.alloc (.cells #[.int .i64 ek, .string ex, .slice esa esn esc, .slice eka ekn ekc, .slice eva evn evc] 29)).alloc (.cells (El.arr El0) 35)) := ext_alloc (ext_alloc (ext_refl _) _) _
  have hs0 : ((w.alloc (.cells #[.int .i64 ek, .string ex, .slice esa esn esc, .slice eka ekn ekc, .slice eva evn evc] 29)).alloc (.cells (El.arr El0) 35)).heap.size = w.heap.size + 1 + 1 := by simp
  generalize hWW : ((w.alloc (.cells #[.int .i64 ek, .string ex, .slice esa esn esc, .slice eka ekn ekc, .slice eva evn evc] 29)).alloc (.cells #[.int .i64 0, .string ⟨#[]⟩, .float .f64 0, .bool false, .slice none 0 0, .slice none 0 0] 35)) = w0
  have hWW2 : ((w.alloc (.cells #[.int .i64 ek, .string ex, .slice esa esn esc, .slice eka ekn ekc, .slice eva evn evc] 29)).alloc (.cells (El.arr El0) 35)) = w0 := hWW
  rw [hWW2] at hbR hb0 hx0 hs0
  clear hWW hWW2
  refine wp_region_order (fun (w' : World) => w'.cell? ⟨w.heap.size, 0, none⟩ = some (.int .i64 ek) ∧ w'.cell? ⟨w.heap.size, 2, none⟩ = some (.slice esa esn esc)) [0, 1, 3, 4] [0, 1, 3, 4, 2, 5, 6] (by kernel_rfl) (by kernel_rfl) (fun d _ _ _ _ h => by cases d <;> exact h) (by kernel_rfl) ?_
  have hS : (fun (w' : World) => w'.cell? ⟨w.heap.size, 0, none⟩ = some (.int .i64 ek) ∧ w'.cell? ⟨w.heap.size, 2, none⟩ = some (.slice esa esn esc)) _ := ⟨hbR.cell 0 _ rfl, hbR.cell 2 _ rfl⟩
  (apply ord_held rfl rfl (by assumption) rfl; (focus ((intro w' hS'); go_simp; (try with_reducible rfl))); (try simp only [Act.put, List.setIfInBounds_toArray, List.set_cons_zero, List.set_cons_succ]))
  (apply ord_held rfl rfl (by assumption) rfl; (focus ((intro w' hS'); go_simp; (try with_reducible rfl))); (try simp only [Act.put, List.setIfInBounds_toArray, List.set_cons_zero, List.set_cons_succ]))
  (apply ord_held rfl rfl (by assumption) rfl; (focus ((intro w' hS'); go_simp; (try with_reducible rfl))); (try simp only [Act.put, List.setIfInBounds_toArray, List.set_cons_zero, List.set_cons_succ]))
  (apply ord_held rfl rfl (by assumption) rfl; (focus ((intro w' hS'); go_simp; (try with_reducible rfl))); (try simp only [Act.put, List.setIfInBounds_toArray, List.set_cons_zero, List.set_cons_succ]))
  (apply ord_loud rfl rfl rfl; intro K hK; go_simp)
  refine (ruleTable_any ek _).mono ?_
  rintro r w9 ⟨rfl, hw9⟩
  rw [hw9]
  clear hw9
  refine hK _ _ (fun _ => hS) ?_
  clear hK K
  (try simp only [Act.put, List.setIfInBounds_toArray, List.set_cons_zero, List.set_cons_succ])
  (apply ord_loud rfl rfl rfl; intro K hK; go_simp)
  refine (paramsR_any (S := S) ek _ _ _ ps w0.drew (HP.out w0.drew (ext_drew hx0))).mono ?_
  rintro r w1 ⟨pv, es0, rfl, hO0, hPk0, hx1⟩
  have hS1 : (fun (w' : World) => w'.cell? ⟨w.heap.size, 0, none⟩ = some (.int .i64 ek) ∧ w'.cell? ⟨w.heap.size, 2, none⟩ = some (.slice esa esn esc)) w1 := ⟨(hbR.drew.ext hx1).cell 0 _ rfl, (hbR.drew.ext hx1).cell 2 _ rfl⟩
  refine hK _ _ (fun _ => hS1) ?_
  clear hK K
  (try simp only [Act.put, List.setIfInBounds_toArray, List.set_cons_zero, List.set_cons_succ])
  (apply ord_last rfl rfl rfl (by kernel_rfl); intro K hK; go_simp; refine hK _ _ ?_; clear hK K; (try simp only [Act.put, List.setIfInBounds_toArray, List.set_cons_zero, List.set_cons_succ]))
  refine ord_end ?_
  have hx1w : Ext w w1 := ext_trans (ext_drew hx0) hx1
  have hsd : w0.drew.heap.size = w.heap.size + 1 + 1 := hs0
  rw [hsd] at hO0
  have hs1 := hx1.sz
  rw [hsd] at hs1
  have hPf : Pk (fun _ => False) w1 es0 (paramsL (rowsR ek) ps) := pk_free hPk0 HSC.out
  have hbR1 := hbR.drew.ext hx1
  have hb01 := hb0.drew.ext hx1
  have hl0 : es0.length ≤ 5 := by
    have h1 := hPk0.1
    have h2 := params_len (rowsR ek) ps
    have h3 : (rowsR ek).length ≤ 5 := by rcases kind_cases ek with ⟨-, e⟩ | ⟨-, e⟩ | ⟨-, e⟩ | ⟨-, e⟩ | ⟨-, e⟩ <;> rw [e] <;> decide
    omega
  have hO1 : OwnPairs (w1.alloc (.cells #[] 66)) (w.heap.size + 1 + 1) pv es0 := hO0.ext (ext_alloc (ext_refl _) _)
  have hpvb : ∀ q, pv.ownBlock = some q → w.heap.size + 1 + 1 ≤ q ∧ q < w1.heap.size := fun q hq => World.ownsRow.lt hO0 q hq
  have HPK := Lib.hid (hPf.ext (ext_alloc (ext_refl w1) (.cells #[] 66)))
  clear hPk0 hO0 hPf hx1 hS1 hS
  go_wp2_with fail
  go_loopw [4, 5] (fun v i wr => Ext w wr ∧ w1.heap.size ≤ wr.heap.size ∧ Box wr w.heap.size #[.int .i64 ek, .string ex, .slice esa esn esc, .slice eka ekn ekc, .slice eva evn evc] 29 ∧ Box wr (w.heap.size + 1) (El.arr El0) 35 ∧ OwnPairs wr (w.heap.size + 1 + 1) pv es0 ∧ Pk (fun _ => False) wr es0 (paramsL (rowsR ek) ps) ∧ ∃ (j : Nat) (fes : List (ByteArray × El)) (fv : Value), fv = v ∧ j ≤ evn ∧ i = .int .i64 j ∧ fes.length = j ∧ OwnPairs wr w1.heap.size fv fes ∧ Pk (fun b => w1.heap.size ≤ b ∧ fv.ownBlock ≠ some b) wr fes ((ns.zip (rulesT rs)).take j)) (fun _ i _ => evn - (intOf i).toNat)
  case atStart => exact ⟨ext_alloc hx1w _, by simp, hbR1.alloc _, hb01.alloc _, hO1, HPK.out, 0, [], _, rfl, Nat.zero_le _, rfl, rfl, ⟨rfl, .inr ⟨w1.heap.size, 0, #[], rfl, Nat.le_refl _, Box.at rfl _ _, Nat.le_refl _, by simp [maxLen], rfl, rfl⟩⟩, ⟨rfl, fun _ _ _ h => by simp at h⟩⟩
  case round =>
    obtain ⟨hx, hsz, hbRr, hb0r, hOp, hPp, j, fes, fv, hfv, hj, rfl, hfl, hO, hPk⟩ := hrel
    subst hfv
    have HO := Lib.hid hO
    have HPk := Lib.hid hPk
    have HFL := Lib.hid hfl
    have HOP := Lib.hid hOp
    have HPP := Lib.hid hPp
    clear hO hPk hfl hOp hPp
    have k4 := hbRr.cell 4 _ rfl
    by_cases hlt : j < evn
    case pos =>
      obtain ⟨hl, hnl, -, -, hnm, hrr⟩ := HVS.out
      obtain ⟨nm, hnj⟩ := some_of_lt hnl hlt
      obtain ⟨r0, hr0⟩ := some_of_lt hl hlt
      obtain ⟨b, off, rfl, -, hcn⟩ := hnm j nm hnj
      obtain ⟨b', off', e, hbe, -, hrc, hra⟩ := hrr.get hr0
      cases hbe
      rw [Nat.zero_add] at hrc
      have hbw0 : b < w.heap.size := lt_of_cell hcn
      have z0 := hx.cell hcn
      have hrc := RCells.ext hx hrc
      have hRu := Lib.hid (fun (w1 : World) (x : Ext w w1) => HRR.out r0 (List.mem_of_getElem? hr0) S _ w1 (RuleAt.ext x hra))
      have HZ := Lib.hid (zip_takeT ns rs j nm r0 hnj hr0)
      clear hra hcn hnj hr0 hl hnl hnm hrr
      obtain ⟨rk, rx, rsa, rsn, rsc, rka, rkn, rkc, rva, rvn, rvc⟩ := e
      go_upto_region 6 with fail
      refine wp_region_order (fun (w' : World) => w'.cell? ⟨w.heap.size, 4, none⟩ = some (.slice (some ⟨b, off, none⟩) evn evc) ∧ w'.cell? ⟨b, off + j * 6, none⟩ = some (.string nm) ∧ RCells w' b (off + j * 6 + 1) (⟨rk, rx, rsa, rsn, rsc, rka, rkn, rkc, rva, rvn, rvc⟩ : Rv)) [0, 1, 2, 3, 4, 5, 6, 7, 8, 9, 10, 11, 12, 14] [0, 1, 2, 3, 4, 5, 6, 7, 8, 9, 10, 11, 12, 13, 14, 15, 16, 17] (by kernel_rfl) (by kernel_rfl) (fun d _ _ _ _ h => by cases d <;> exact h) (by kernel_rfl) ?_
      have hS : (fun (w' : World) => w'.cell? ⟨w.heap.size, 4, none⟩ = some (.slice (some ⟨b, off, none⟩) evn evc) ∧ w'.cell? ⟨b, off + j * 6, none⟩ = some (.string nm) ∧ RCells w' b (off + j * 6 + 1) (⟨rk, rx, rsa, rsn, rsc, rka, rkn, rkc, rva, rvn, rvc⟩ : Rv)) _ := ⟨k4, z0, hrc⟩
      (apply ord_held rfl rfl (by assumption) rfl; (focus ((intro w' hS'); go_simp; (try with_reducible rfl))); (try simp only [Act.put, List.setIfInBounds_toArray, List.set_cons_zero, List.set_cons_succ]))
      (apply ord_held rfl rfl (by assumption) rfl; (focus ((intro w' hS'); go_simp; (try with_reducible rfl))); (try simp only [Act.put, List.setIfInBounds_toArray, List.set_cons_zero, List.set_cons_succ]))
      (apply ord_held rfl rfl (by assumption) rfl; (focus ((intro w' hS'); go_simp; (try with_reducible rfl))); (try simp only [Act.put, List.setIfInBounds_toArray, List.set_cons_zero, List.set_cons_succ]))
      (apply ord_held rfl rfl (by assumption) rfl; (focus ((intro w' hS'); go_simp; (try with_reducible rfl))); (try simp only [Act.put, List.setIfInBounds_toArray, List.set_cons_zero, List.set_cons_succ]))
      (apply ord_held rfl rfl (by assumption) rfl; (focus ((intro w' hS'); go_simp; (try with_reducible rfl))); (try simp only [Act.put, List.setIfInBounds_toArray, List.set_cons_zero, List.set_cons_succ]))
      (apply ord_held rfl rfl (by assumption) rfl; (focus ((intro w' hS'); go_simp; (try with_reducible rfl))); (try simp only [Act.put, List.setIfInBounds_toArray, List.set_cons_zero, List.set_cons_succ]))
      (apply ord_held rfl rfl (by assumption) rfl; (focus ((intro w' hS'); go_simp; (try with_reducible rfl))); (try simp only [Act.put, List.setIfInBounds_toArray, List.set_cons_zero, List.set_cons_succ]))
      (apply ord_held rfl rfl (by assumption) rfl; (focus ((intro w' hS'); go_simp; (try with_reducible rfl))); (try simp only [Act.put, List.setIfInBounds_toArray, List.set_cons_zero, List.set_cons_succ]))
      (apply ord_held rfl rfl (by assumption) rfl; (focus ((intro w' hS'); go_simp; (try with_reducible rfl))); (try simp only [Act.put, List.setIfInBounds_toArray, List.set_cons_zero, List.set_cons_succ]))
      (apply ord_held rfl rfl (by assumption) rfl; (focus ((intro w' hS'); go_simp; (try with_reducible rfl))); (try simp only [Act.put, List.setIfInBounds_toArray, List.set_cons_zero, List.set_cons_succ]))
      (apply ord_held rfl rfl (by assumption) rfl; (focus ((intro w' hS'); go_simp; (try with_reducible rfl))); (try simp only [Act.put, List.setIfInBounds_toArray, List.set_cons_zero, List.set_cons_succ]))
      (apply ord_held rfl rfl (by assumption) rfl; (focus ((intro w' hS'); go_simp; (try with_reducible rfl))); (try simp only [Act.put, List.setIfInBounds_toArray, List.set_cons_zero, List.set_cons_succ]))
      (apply ord_held rfl rfl (by assumption) rfl; (focus ((intro w' hS'); go_simp; (try with_reducible rfl))); (try simp only [Act.put, List.setIfInBounds_toArray, List.set_cons_zero, List.set_cons_succ]))
      (apply ord_loud rfl rfl rfl; intro K hK; go_simp)
      refine (hRu.out _ (ext_drew hx)).mono ?_
      rintro r w2 ⟨g, rfl, hT2, hx2⟩
      have x2 : Ext wr w2 := ext_trans (ext_drew (ext_refl _)) hx2
      have hS2 : (fun (w' : World) => w'.cell? ⟨w.heap.size, 4, none⟩ = some (.slice (some ⟨b, off, none⟩) evn evc) ∧ w'.cell? ⟨b, off + j * 6, none⟩ = some (.string nm) ∧ RCells w' b (off + j * 6 + 1) (⟨rk, rx, rsa, rsn, rsc, rka, rkn, rkc, rva, rvn, rvc⟩ : Rv)) w2 := ⟨x2.cell k4, x2.cell z0, RCells.ext x2 hrc⟩
      refine hK _ _ (fun _ => hS2) ?_
      clear hK K
      simp only [El.val]
      (try simp only [Act.put, List.setIfInBounds_toArray, List.set_cons_zero, List.set_cons_succ])
      (apply ord_held rfl rfl (by assumption) rfl; (focus ((intro w' hS'); go_simp; (try with_reducible rfl))); (try simp only [Act.put, List.setIfInBounds_toArray, List.set_cons_zero, List.set_cons_succ]))
      (apply ord_loud rfl rfl rfl; intro K hK; go_simp)
      have x3 : Ext wr (w2.alloc (.cells #[.string nm, .int .i64 g.k, .string g.x, .float .f64 g.d, .bool g.y, .slice g.ka g.n g.kc, .slice g.ca g.m g.cc] 66)) := ext_alloc x2 _
      have hbp : Box (w2.alloc (.cells #[.string nm, .int .i64 g.k, .string g.x, .float .f64 g.d, .bool g.y, .slice g.ka g.n g.kc, .slice g.ca g.m g.cc] 66)) w2.heap.size #[.string nm, .int .i64 g.k, .string g.x, .float .f64 g.d, .bool g.y, .slice g.ka g.n g.kc, .slice g.ca g.m g.cc] 66 := Box.at rfl _ _
      have hT3 := hT2.ext (ext_alloc (ext_refl w2) (.cells #[.string nm, .int .i64 g.k, .string g.x, .float .f64 g.d, .bool g.y, .slice g.ka g.n g.kc, .slice g.ca g.m g.cc] 66))
      have hS3 : (fun (w' : World) => w'.cell? ⟨w.heap.size, 4, none⟩ = some (.slice (some ⟨b, off, none⟩) evn evc) ∧ w'.cell? ⟨b, off + j * 6, none⟩ = some (.string nm) ∧ RCells w' b (off + j * 6 + 1) (⟨rk, rx, rsa, rsn, rsc, rka, rkn, rkc, rva, rvn, rvc⟩ : Rv)) (w2.alloc (.cells #[.string nm, .int .i64 g.k, .string g.x, .float .f64 g.d, .bool g.y, .slice g.ka g.n g.kc, .slice g.ca g.m g.cc] 66)) := ⟨x3.cell k4, x3.cell z0, RCells.ext x3 hrc⟩
      refine hK _ _ (fun _ => hS3) ?_
      clear hK K
      (try simp only [Act.put, List.setIfInBounds_toArray, List.set_cons_zero, List.set_cons_succ])
      apply ord_loud rfl rfl rfl
      intro K hK
      refine wp_append_pairs _ _ _ rfl w1.heap.size fv fes rfl (HO.out.ext x3) w2.heap.size 0 1 [(nm, g)] (by simp) rfl (fun i p hp => by
        cases i with
        | zero => simp at hp; subst hp; exact ⟨hbp.cell 0 _ rfl, hbp.cell 1 _ rfl, hbp.cell 2 _ rfl, hbp.cell 3 _ rfl, hbp.cell 4 _ rfl, hbp.cell 5 _ rfl, hbp.cell 6 _ rfl⟩
        | succ i => simp at hp) (by have := HFL.out; simp; omega) (by have := x3.sz; have := hsz; omega) ?_
      intro g1 cap1 w4 hown hgrow hlies hglt
      have hbw : ∀ q, fv.ownBlock = some q → w1.heap.size ≤ q ∧ q < wr.heap.size := fun q hq => World.ownsRow.lt HO.out q hq
      have hS4 : (fun (w' : World) => w'.cell? ⟨w.heap.size, 4, none⟩ = some (.slice (some ⟨b, off, none⟩) evn evc) ∧ w'.cell? ⟨b, off + j * 6, none⟩ = some (.string nm) ∧ RCells w' b (off + j * 6 + 1) (⟨rk, rx, rsa, rsn, rsc, rka, rkn, rkc, rva, rvn, rvc⟩ : Rv)) w4 := ⟨hgrow.cell (x3.cell k4) (fun e => by have := hbw _ e.symm; simp at this; omega), hgrow.cell (x3.cell z0) (fun e => by have := hbw _ e.symm; simp at this; omega), ?_⟩
      rotate_left
      · obtain ⟨c0, c1, c2, c3, c4⟩ := hrc
        have hq : ∀ (p : Addr) (u : Value), p.block = b → wr.cell? p = some u → w4.cell? p = some u := fun p u hp hc => hgrow.cell (x3.cell hc) (fun e => by have := hbw _ e.symm; omega)
        exact ⟨hq _ _ rfl c0, hq _ _ rfl c1, hq _ _ rfl c2, hq _ _ rfl c3, hq _ _ rfl c4⟩
      refine hK _ _ (fun _ => hS4) ?_
      clear hK K
      (try simp only [Act.put, List.setIfInBounds_toArray, List.set_cons_zero, List.set_cons_succ])
      (apply ord_last rfl rfl rfl (by kernel_rfl); intro K hK; go_simp; refine hK _ _ ?_; clear hK K; (try simp only [Act.put, List.setIfInBounds_toArray, List.set_cons_zero, List.set_cons_succ]))
      refine ord_end ?_
      have hx5 : Ext w w4 := ext_grown (ext_trans hx x3) hgrow (fun k hk => by have := hbw k hk; have := hx1w.sz; omega)
      have hbR5 := (hbRr.ext x3).grown hgrow (fun e => by have := hbw _ e.symm; omega)
      have hb05 := (hb0r.ext x3).grown hgrow (fun e => by have := hbw _ e.symm; omega)
      have hOp5 := Lib.hid ((HOP.out.ext x3).grown hgrow (by
        cases hpo : pv.ownBlock with
        | none => exact .inl rfl
        | some q => exact .inr (fun e => by have := hpvb q hpo; have := hbw q e.symm; omega)))
      have hPp5 := Lib.hid (Pk.keep (S' := fun _ => False) (fun _ h _ => h) (fun _ h => h.elim) HPP.out : Pk (fun _ => False) w4 es0 (paramsL (rowsR ek) ps))
      have hPk5 := Lib.hid (pk_snoc (g := g1) (cap := cap1) (n := fes.length + 1) (k := nm) ((HPk.out.ext x3)) (hT3.to (S' := fun b => w1.heap.size ≤ b ∧ fv.ownBlock ≠ some b) (fun q hq _ => ⟨by have h3 : wr.heap.size ≤ q := hq; omega, fun e => by have h3 : wr.heap.size ≤ q := hq; have := (hbw q e).2; omega⟩)) hgrow hlies)
      have hown5 := Lib.hid hown
      have hsz5 := hgrow.size
      have hx3s := x3.sz
      clear hown hgrow hlies hS4 hS3 hS2 hS
      go_wp2_with fail
      go_roundw
      case rel =>
        refine ⟨hx5, by omega, hbR5, hb05, hOp5.out, hPp5.out, j + 1, fes ++ [(nm, g)], _, rfl, by omega, by go_num, by simp [HFL.out], by simpa using hown5.out, ?_⟩
        rw [take_snoc HZ.out]
        exact hPk5.out
      case measure => simp [intOf]; omega
    have hjn : j = evn := by omega
    have hfull : (ns.zip (rulesT rs)).take j = ns.zip (rulesT rs) := List.take_of_length_le (by
      rw [List.length_zip, rulesT_eq, List.length_map]
      have h1 := HVS.out.1
      omega)
    have hPk := HPk.out
    rw [hfull] at hPk
    obtain ⟨fa, fc, rfl, hPA⟩ := HO.out.pairs (S := fun b => w1.heap.size ≤ b) (ps := ns.zip (rulesT rs)) hPk.1 (fun b hb => (World.ownsRow.lt HO.out b hb).1) (fun i e p he hp => ⟨(hPk.2 i e p he hp).1, (hPk.2 i e p he hp).2.to (fun b hb _ => hb.1)⟩)
    have hzl : (ns.zip (rulesT rs)).length = evn := by have h1 := hPk.1; have h2 := HFL.out; omega
    rw [hzl] at hPA
    rw [hzl]
    clear hjn
    have hMp := Lib.hid fun w' (x : Ext wr w') => map_any (S := fun b => w1.heap.size ≤ b) fa evn fc _ w' (hPA.ext x) (by omega)
    clear HO HPk hPk hPA
    have hPf2 : Pk (fun b => w.heap.size + 1 + 1 ≤ b ∧ pv.ownBlock ≠ some b) wr es0 (paramsL (rowsR ek) ps) := Pk.keep (fun _ h _ => h.elim) (fun _ h => h.elim) HPP.out
    have hto := fun (w2 : World) (g : El) (t : T) (S1 : Nat → Prop) (h : TreeAt S1 w2 g t) (hs : ∀ b, S1 b → w1.heap.size ≤ b) => TreeAt.to (S' := fun b => w.heap.size + 1 + 1 ≤ b ∧ pv.ownBlock ≠ some b) h (fun q hq _ => ⟨by have := hs q hq; omega, fun e => by have := hpvb q e; have := hs q hq; omega⟩)
    have HPF2 := Lib.hid hPf2
    have HTO := Lib.hid hto
    clear hPf2 hto
    go_upto_if 41 with fail
    go_cut [3] (fun v wc => Ext w wc ∧ w1.heap.size ≤ wc.heap.size ∧ Box wc w.heap.size #[.int .i64 ek, .string ex, .slice esa esn esc, .slice eka ekn ekc, .slice eva evn evc] 29 ∧ Box wc (w.heap.size + 1) (El.arr El0) 35 ∧ ∃ (es : List (ByteArray × El)) (qv : Value), qv = v ∧ es.length ≤ 6 ∧ OwnPairs wc (w.heap.size + 1 + 1) qv es ∧ Pk (fun b => w.heap.size + 1 + 1 ≤ b ∧ qv.ownBlock ≠ some b) wc es (paramsL (rowsR ek) ps ++ filL ns (rulesT rs)))
    case first =>
      by_cases hvp : 0 < evn
      · have tokA := trivial
        go_wp2_with (first
          | (go_at_call 25; refine (hMp.out _ (by (repeat (first | exact ext_refl _ | assumption | refine ext_alloc ?_ _ | refine ext_drew ?_ | refine ext_set ?_ (by simp) _ | refine ext_trans ?_ (by assumption))))).mono ?_; rintro r w2 ⟨g, rfl, hT2, hx2⟩; simp only [El.val]
             have x3 : Ext wr (w2.alloc (.cells #[.string s_filter, .int .i64 g.k, .string g.x, .float .f64 g.d, .bool g.y, .slice g.ka g.n g.kc, .slice g.ca g.m g.cc] 66)) := ext_alloc hx2 _
             have hbp : Box (w2.alloc (.cells #[.string s_filter, .int .i64 g.k, .string g.x, .float .f64 g.d, .bool g.y, .slice g.ka g.n g.kc, .slice g.ca g.m g.cc] 66)) w2.heap.size #[.string s_filter, .int .i64 g.k, .string g.x, .float .f64 g.d, .bool g.y, .slice g.ka g.n g.kc, .slice g.ca g.m g.cc] 66 := Box.at rfl _ _
             have hT3 := hT2.ext (ext_alloc (ext_refl w2) (.cells #[.string s_filter, .int .i64 g.k, .string g.x, .float .f64 g.d, .bool g.y, .slice g.ka g.n g.kc, .slice g.ca g.m g.cc] 66)))
          | (at_builtin; have _t := tokA; clear _t tokA; refine list_append_pairs _ rfl _ _ rfl (w.heap.size + 1 + 1) _ es0 rfl (HOP.out.ext x3) w2.heap.size 0 1 [(s_filter, g)] (by simp) rfl (fun i p hp => by
               cases i with
               | zero => simp at hp; subst hp; exact ⟨hbp.cell 0 _ rfl, hbp.cell 1 _ rfl, hbp.cell 2 _ rfl, hbp.cell 3 _ rfl, hbp.cell 4 _ rfl, hbp.cell 5 _ rfl, hbp.cell 6 _ rfl⟩
               | succ i => simp at hp) (by simp; omega) (Nat.le_trans (by omega) x3.sz) ?_; intro g1 cap1 w4 hown hgrow hlies hglt)
          | fail)
        have hxs3 := x3.sz
        have hPk5 := pk_snoc (g := g1) (cap := cap1) (n := es0.length + 1) (k := s_filter) (HPF2.out.ext x3) (HTO.out _ g _ _ hT3 (fun q hq => by
          rcases hq with hq | hq
          · exact hq.1
          · exact Nat.le_trans hsz hq)) hgrow hlies
        have hsz5 := hgrow.size
        go_meet
        case rel =>
          have hne : (rulesT rs).isEmpty = false := by
            cases rs with
            | nil => have := HVS.out.1; simp at this; omega
            | cons _ _ => rfl
          refine ⟨ext_grown (ext_trans hx x3) hgrow (fun k hk => by have := hpvb k hk; omega), Nat.le_trans (Nat.le_trans hsz x3.sz) hgrow.size, (hbRr.ext x3).grown hgrow (fun e => by have := hpvb _ e.symm; omega), (hb0r.ext x3).grown hgrow (fun e => by have := hpvb _ e.symm; omega), es0 ++ [(s_filter, g)], _, rfl, by simp; omega, hown, ?_⟩
          rw [show filL ns (rulesT rs) = [(s_filter, mapT (ns.zip (rulesT rs)))] by unfold filL; rw [hne]; rfl]
          simpa using hPk5
      · go_wp2_with fail
        go_meet
        case rel =>
          have hne : rs = [] := List.length_eq_zero_iff.1 (by have := HVS.out.1; omega)
          refine ⟨hx, hsz, hbRr, hb0r, es0, _, rfl, by omega, HOP.out, ?_⟩
          rw [show filL ns (rulesT rs) = [] by rw [hne]; rfl, List.append_nil]
          exact Pk.keep (fun _ h _ => h.elim) (fun _ h => h.elim) HPP.out
    case rest =>
      obtain ⟨hxc, hszc, hbRc, hb0c, es, qv, hqv, hesl, hOc, hPc⟩ := hcut
      subst hqv
      have hqvb : ∀ q, qv.ownBlock = some q → w.heap.size + 1 + 1 ≤ q ∧ q < wc.heap.size := fun q hq => World.ownsRow.lt hOc q hq
      have HOC := Lib.hid hOc
      have HPC := Lib.hid hPc
      clear hOc hPc HOP HPP HPK hMp
      have k3 := hbRc.cell 3 _ rfl
      go_wp2_with (go_at_call 27; refine (list_exact none 0 0 _).mono ?_; rintro r w5 ⟨rfl, hx5⟩; simp only [El.val])
      have hxw5 := ext_trans hxc hx5
      have hs5 := hx5.sz
      go_loopw [7] (fun i wr => Ext w wr ∧ w5.heap.size + 1 ≤ wr.heap.size ∧ Box wr w.heap.size #[.int .i64 ek, .string ex, .slice esa esn esc, .slice eka ekn ekc, .slice eva evn evc] 29 ∧ Box wr (w.heap.size + 1) (El.arr El0) 35 ∧ OwnPairs wr (w.heap.size + 1 + 1) qv es ∧ Pk (fun b => w.heap.size + 1 + 1 ≤ b ∧ qv.ownBlock ≠ some b ∧ b < w5.heap.size) wr es (paramsL (rowsR ek) ps ++ filL ns (rulesT rs)) ∧
        ∃ (j : Nat) (kes : List El) (ca : Option Addr) (cn cc : Nat), j ≤ ekn ∧ i = .int .i64 j ∧ kes.length = j ∧ Making wr (w5.heap.size + 1) w5.heap.size 4 [] kes none 0 0 ca cn cc ∧ Kin wr (w5.heap.size + 1) (.slice ca cn cc) kes ((rulesT ks).take j)) (fun i _ => ekn - (intOf i).toNat)
      case atStart => exact ⟨ext_alloc hxw5 _, by simp, (hbRc.ext hx5).alloc _, (hb0c.ext hx5).alloc _, (HOC.out.ext hx5).ext (ext_alloc (ext_refl _) _), (Pk.keep (S' := fun b => w.heap.size + 1 + 1 ≤ b ∧ qv.ownBlock ≠ some b ∧ b < w5.heap.size) (fun b hb hl => ⟨hb.1, hb.2, by omega⟩) ((ext_trans hx5 (ext_alloc (ext_refl _) _)).keeps _) HPC.out), 0, [], none, 0, 0, Nat.zero_le _, rfl, rfl, ⟨Box.at rfl _ _, World.ownsRow_nil _ _ _ _, World.ownsRow_nil _ _ _ _, by omega, fun _ h => by cases h⟩, Kin.nil _ _ _⟩
      case round =>
        obtain ⟨hx, hsz, hbRr, hb0r, hOp, hPp, j, kes, ca, cn, cc, hj, rfl, hes, M, HK⟩ := hrel
        have HES := Lib.hid hes
        have HK := Lib.hid HK
        have HOP := Lib.hid hOp
        have HPP := Lib.hid hPp
        clear hes hOp hPp
        have k3 := hbRr.cell 3 _ rfl
        by_cases hlt : j < ekn
        case pos =>
          obtain ⟨hl, -, -, hrr⟩ := HKS.out
          obtain ⟨r0, hr0⟩ := some_of_lt hl hlt
          obtain ⟨b, off, e, rfl, -, hrc, hra⟩ := hrr.get hr0
          rw [Nat.zero_add, Nat.add_zero] at hrc
          have hbw0 : b < w.heap.size := lt_of_cell hrc.1
          have hrc := RCells.ext hx hrc
          have hRu := Lib.hid (fun (w1 : World) (x : Ext w w1) => HRK.out r0 (List.mem_of_getElem? hr0) S _ w1 (RuleAt.ext x hra))
          have HZ := Lib.hid (show (rulesT ks)[j]? = some (ruleT r0) by rw [rulesT_eq, List.getElem?_map, hr0]; rfl)
          clear hra hr0 hl hrr
          obtain ⟨rk, rx, rsa, rsn, rsc, rka, rkn, rkc, rva, rvn, rvc⟩ := e
          obtain ⟨o0, o1, o2, o3, o4, o5⟩ := M.box.six
          go_upto_region 13 with fail
          refine wp_region_order (fun (w' : World) => w'.cell? ⟨w5.heap.size, 5, none⟩ = some (.slice ca cn cc) ∧ w'.cell? ⟨w.heap.size, 3, none⟩ = some (.slice (some ⟨b, off, none⟩) ekn ekc) ∧ RCells w' b (off + j * 5) (⟨rk, rx, rsa, rsn, rsc, rka, rkn, rkc, rva, rvn, rvc⟩ : Rv)) [0, 1, 2, 3, 4, 5, 6, 10] [0, 1, 2, 3, 4, 5, 6, 7, 8, 9, 10, 11] (by kernel_rfl) (by kernel_rfl) (fun d _ _ _ _ h => by cases d <;> exact h) (by kernel_rfl) ?_
          have hS : (fun (w' : World) => w'.cell? ⟨w5.heap.size, 5, none⟩ = some (.slice ca cn cc) ∧ w'.cell? ⟨w.heap.size, 3, none⟩ = some (.slice (some ⟨b, off, none⟩) ekn ekc) ∧ RCells w' b (off + j * 5) (⟨rk, rx, rsa, rsn, rsc, rka, rkn, rkc, rva, rvn, rvc⟩ : Rv)) _ := ⟨o5, k3, hrc⟩
          (apply ord_held rfl rfl (by assumption) rfl; (focus ((intro w' hS'); go_simp; (try with_reducible rfl))); (try simp only [Act.put, List.setIfInBounds_toArray, List.set_cons_zero, List.set_cons_succ]))
          (apply ord_held rfl rfl (by assumption) rfl; (focus ((intro w' hS'); go_simp; (try with_reducible rfl))); (try simp only [Act.put, List.setIfInBounds_toArray, List.set_cons_zero, List.set_cons_succ]))
          (apply ord_held rfl rfl (by assumption) rfl; (focus ((intro w' hS'); go_simp; (try with_reducible rfl))); (try simp only [Act.put, List.setIfInBounds_toArray, List.set_cons_zero, List.set_cons_succ]))
          (apply ord_held rfl rfl (by assumption) rfl; (focus ((intro w' hS'); go_simp; (try with_reducible rfl))); (try simp only [Act.put, List.setIfInBounds_toArray, List.set_cons_zero, List.set_cons_succ]))
          (apply ord_held rfl rfl (by assumption) rfl; (focus ((intro w' hS'); go_simp; (try with_reducible rfl))); (try simp only [Act.put, List.setIfInBounds_toArray, List.set_cons_zero, List.set_cons_succ]))
          (apply ord_held rfl rfl (by assumption) rfl; (focus ((intro w' hS'); go_simp; (try with_reducible rfl))); (try simp only [Act.put, List.setIfInBounds_toArray, List.set_cons_zero, List.set_cons_succ]))
          (apply ord_held rfl rfl (by assumption) rfl; (focus ((intro w' hS'); go_simp; (try with_reducible rfl))); (try simp only [Act.put, List.setIfInBounds_toArray, List.set_cons_zero, List.set_cons_succ]))
          (apply ord_loud rfl rfl rfl; intro K hK; go_simp)
          refine (hRu.out _ (ext_drew hx)).mono ?_
          rintro r w2 ⟨e2, rfl, hT2, hx2⟩
          have x2 : Ext wr w2 := ext_trans (ext_drew (ext_refl _)) hx2
          have hS2 : (fun (w' : World) => w'.cell? ⟨w5.heap.size, 5, none⟩ = some (.slice ca cn cc) ∧ w'.cell? ⟨w.heap.size, 3, none⟩ = some (.slice (some ⟨b, off, none⟩) ekn ekc) ∧ RCells w' b (off + j * 5) (⟨rk, rx, rsa, rsn, rsc, rka, rkn, rkc, rva, rvn, rvc⟩ : Rv)) w2 := ⟨x2.cell o5, x2.cell k3, RCells.ext x2 hrc⟩
          refine hK _ _ (fun _ => hS2) ?_
          clear hK K
          simp only [El.val]
          (try simp only [Act.put, List.setIfInBounds_toArray, List.set_cons_zero, List.set_cons_succ])
          (apply ord_loud rfl rfl rfl; intro K hK; go_simp)
          have x3 : Ext wr (w2.alloc (.cells #[.int .i64 e2.k, .string e2.x, .float .f64 e2.d, .bool e2.y, .slice e2.ka e2.n e2.kc, .slice e2.ca e2.m e2.cc] 35)) := ext_alloc x2 _
          have hbz : Box (w2.alloc (.cells #[.int .i64 e2.k, .string e2.x, .float .f64 e2.d, .bool e2.y, .slice e2.ka e2.n e2.kc, .slice e2.ca e2.m e2.cc] 35)) w2.heap.size e2.arr 35 := Box.new _ _ _
          have hT3 := hT2.ext (ext_alloc (ext_refl w2) (.cells #[.int .i64 e2.k, .string e2.x, .float .f64 e2.d, .bool e2.y, .slice e2.ka e2.n e2.kc, .slice e2.ca e2.m e2.cc] 35))
          have hS3 : (fun (w' : World) => w'.cell? ⟨w5.heap.size, 5, none⟩ = some (.slice ca cn cc) ∧ w'.cell? ⟨w.heap.size, 3, none⟩ = some (.slice (some ⟨b, off, none⟩) ekn ekc) ∧ RCells w' b (off + j * 5) (⟨rk, rx, rsa, rsn, rsc, rka, rkn, rkc, rva, rvn, rvc⟩ : Rv)) (w2.alloc (.cells #[.int .i64 e2.k, .string e2.x, .float .f64 e2.d, .bool e2.y, .slice e2.ka e2.n e2.kc, .slice e2.ca e2.m e2.cc] 35)) := ⟨x3.cell o5, x3.cell k3, RCells.ext x3 hrc⟩
          refine hK _ _ (fun _ => hS3) ?_
          clear hK K
          have M1 := M.ext x3
          have hs2 := x2.sz
          have hbd : ∀ q, (Value.slice ca cn cc).ownBlock = some q → w5.heap.size + 1 ≤ q ∧ q < wr.heap.size := fun q h => M.kids.block h
          (try simp only [Act.put, List.setIfInBounds_toArray, List.set_cons_zero, List.set_cons_succ])
          apply ord_loud rfl rfl rfl
          intro K hK
          refine wp_append_tree _ _ _ rfl (w5.heap.size + 1) _ kes rfl M1.kids w2.heap.size e2 rfl (boxCells hbz) (by have := HES.out; omega) (by simp; omega) ?_
          intro g1 cap1 w4 hown hgrow hlies hglt
          have hS4 : (fun (w' : World) => w'.cell? ⟨w5.heap.size, 5, none⟩ = some (.slice ca cn cc) ∧ w'.cell? ⟨w.heap.size, 3, none⟩ = some (.slice (some ⟨b, off, none⟩) ekn ekc) ∧ RCells w' b (off + j * 5) (⟨rk, rx, rsa, rsn, rsc, rka, rkn, rkc, rva, rvn, rvc⟩ : Rv)) w4 := ⟨hgrow.cell (x3.cell o5) (fun e => by have := hbd _ e.symm; simp at this; omega), hgrow.cell (x3.cell k3) (fun e => by have := hbd _ e.symm; simp at this; omega), ?_⟩
          rotate_left
          · obtain ⟨c0, c1, c2, c3, c4⟩ := hrc
            have hq : ∀ (p : Addr) (u : Value), p.block = b → wr.cell? p = some u → w4.cell? p = some u := fun p u hp hc => hgrow.cell (x3.cell hc) (fun e => by have := hbd _ e.symm; omega)
            exact ⟨hq _ _ rfl c0, hq _ _ rfl c1, hq _ _ rfl c2, hq _ _ rfl c3, hq _ _ rfl c4⟩
          have q5 := (M1.boxMid' hgrow).free 5
          refine hK _ _ (fun _ => hS4) ?_
          clear hK K
          (try simp only [Act.put, List.setIfInBounds_toArray, List.set_cons_zero, List.set_cons_succ])
          have o5 := hS4.1
          (apply ord_held rfl rfl (by assumption) rfl; (focus ((intro w' hS'); go_simp; (try with_reducible rfl))); (try simp only [Act.put, List.setIfInBounds_toArray, List.set_cons_zero, List.set_cons_succ]))
          (apply ord_last rfl rfl rfl (by kernel_rfl); intro K hK; go_simp; refine hK _ _ ?_; clear hK K; (try simp only [Act.put, List.setIfInBounds_toArray, List.set_cons_zero, List.set_cons_succ]))
          refine ord_end ?_
          have M2 := M1.kid hown hgrow hlies
          have hMw := hxw5.sz
          have hb2 := M1.boxKid (hb0r.ext x3) (by omega) (by omega) hgrow 5 (.slice (some ⟨g1, 0, none⟩) (kes.length + 1) cap1)
          have hbR2 := M1.boxKid (hbRr.ext x3) (by omega) (by omega) hgrow 5 (.slice (some ⟨g1, 0, none⟩) (kes.length + 1) cap1)
          have x4 := M1.extKid (ext_trans hx x3) (by omega) hgrow 5 (.slice (some ⟨g1, 0, none⟩) (kes.length + 1) cap1)
          have HK2 := Lib.hid ((HK.out.ext x3).step (hT3.to fun q h1 h2 => ⟨by have h3 : wr.heap.size ≤ q := h1; omega, fun e => by have h3 : wr.heap.size ≤ q := h1; have := (hbd q e).2; omega⟩) hgrow hlies (by omega : w5.heap.size < w5.heap.size + 1) 5 (.slice (some ⟨g1, 0, none⟩) (kes.length + 1) cap1) (kes.length + 1) cap1)
          have hkeep : Keeps (fun b => w.heap.size + 1 + 1 ≤ b ∧ qv.ownBlock ≠ some b ∧ b < w5.heap.size) wr (w4.setCell ⟨w5.heap.size, 5, none⟩ (.slice (some ⟨g1, 0, none⟩) (kes.length + 1) cap1)) := fun q hq hl => (Below.heap_setCell _ _ _ _ (by simp; omega)).trans ((hgrow.block q (by have := x3.sz; omega) (fun e => by have := hbd _ e.symm; omega)).trans (x3.block q hl))
          have HPP2 := Lib.hid (HPP.out.keep (fun _ h _ => h) hkeep)
          have HOP2 := Lib.hid (((HOP.out.ext x3).grown hgrow (by
            cases hpo : qv.ownBlock with
            | none => exact .inl rfl
            | some q => exact .inr (fun e => by have := hqvb q hpo; have := hbd q e.symm; omega))).grown (grown_set _ ⟨w5.heap.size, 5, none⟩ (.slice (some ⟨g1, 0, none⟩) (kes.length + 1) cap1)) (by
            cases hpo : qv.ownBlock with
            | none => exact .inl rfl
            | some q => exact .inr (fun e => by have := hqvb q hpo; simp at e; omega)))
          have hszz : w5.heap.size + 1 ≤ (w4.setCell ⟨w5.heap.size, 5, none⟩ (.slice (some ⟨g1, 0, none⟩) (kes.length + 1) cap1)).heap.size := by have h1 := hgrow.size; have h2 := x3.sz; simp; omega
          clear hown hgrow hlies hglt hS q5 M1 M o0 o1 o2 o3 o4 o5 hT2 hT3 hbz HK HPP HOP hkeep hS4 hS3 hS2 hbd
          generalize w4.setCell ⟨w5.heap.size, 5, none⟩ (.slice (some ⟨g1, 0, none⟩) (kes.length + 1) cap1) = w6 at M2 hb2 hbR2 x4 HK2 HPP2 HOP2 hszz ⊢
          go_wp2_with fail
          go_roundw
          case rel =>
            first
              | exact ⟨x4, hszz, hbR2, hb2, HOP2.out, HPP2.out, j + 1, kes ++ [e2], _, _, _, by omega, by go_num, by simp [HES.out], M2, by rw [take_snoc HZ.out]; exact HK2.out⟩
              | (repeat apply Exists.intro
                 refine And.intro ?_ rfl
                 exact ⟨x4, hszz, hbR2, hb2, HOP2.out, HPP2.out, j + 1, kes ++ [e2], _, _, _, by omega, by go_num, by simp [HES.out], M2, by rw [take_snoc HZ.out]; exact HK2.out⟩)
          case measure => simp [intOf]; omega
        have hjn : j = ekn := by omega
        have hfull : (rulesT ks).take j = rulesT ks := List.take_of_length_le (by
          rw [rulesT_eq, List.length_map]
          have h1 := HKS.out.1
          omega)
        have hK := HK.out
        rw [hfull] at hK
        have hTK : TreeAt (fun b => w5.heap.size + 1 ≤ b) wr ⟨4, ⟨#[]⟩, 0, false, none, 0, 0, ca, cn, cc⟩ (listT (rulesT ks)) := M.tree (ss := []) hK.1 (fun b hb => by cases hb) (fun b hb => (M.kids.block hb).1) fun i e t h1 h2 => TreeAt.to (hK.2 i e t h1 h2) (fun b hb _ => hb.1)
        obtain ⟨o0, o1, o2, o3, o4, o5⟩ := M.box.six
        have hMl := M.box.lt
        have k0 := hbRr.cell 0 _ rfl
        have k1 := hbRr.cell 1 _ rfl
        have HTK := Lib.hid hTK
        have hqvr : ∀ q, qv.ownBlock = some q → w.heap.size + 1 + 1 ≤ q ∧ q < w5.heap.size := fun q hq => by have := hqvb q hq; omega
        clear hTK hK HK M
        by_cases e1 : ek = 1
        case pos =>
          subst e1
          have tokA := trivial
          go_wp2_with (first
            | (go_at_call 28; refine (text_any ex _).mono ?_; rintro r w7 ⟨gt, rfl, hgt, hx7⟩; simp only [El.val]
               have x3 : Ext wr (w7.alloc (.cells #[.string s_prefix, .int .i64 gt.k, .string gt.x, .float .f64 gt.d, .bool gt.y, .slice gt.ka gt.n gt.kc, .slice gt.ca gt.m gt.cc] 66)) := ext_alloc hx7 _
               have hbp : Box (w7.alloc (.cells #[.string s_prefix, .int .i64 gt.k, .string gt.x, .float .f64 gt.d, .bool gt.y, .slice gt.ka gt.n gt.kc, .slice gt.ca gt.m gt.cc] 66)) w7.heap.size #[.string s_prefix, .int .i64 gt.k, .string gt.x, .float .f64 gt.d, .bool gt.y, .slice gt.ka gt.n gt.kc, .slice gt.ca gt.m gt.cc] 66 := Box.at rfl _ _
               have hTt : TreeAt (fun b => w.heap.size + 1 + 1 ≤ b ∧ qv.ownBlock ≠ some b) (w7.alloc (.cells #[.string s_prefix, .int .i64 gt.k, .string gt.x, .float .f64 gt.d, .bool gt.y, .slice gt.ka gt.n gt.kc, .slice gt.ca gt.m gt.cc] 66)) gt (textT ex) := TreeAt.ext (ext_alloc (ext_refl w7) _) (hgt _))
            | (at_builtin; have _t := tokA; clear _t tokA; refine list_append_pairs _ rfl _ _ rfl (w.heap.size + 1 + 1) qv es rfl (HOP.out.ext x3) w7.heap.size 0 1 [(s_prefix, gt)] (by simp) rfl (fun i p hp => by
                 cases i with
                 | zero => simp at hp; subst hp; exact ⟨hbp.cell 0 _ rfl, hbp.cell 1 _ rfl, hbp.cell 2 _ rfl, hbp.cell 3 _ rfl, hbp.cell 4 _ rfl, hbp.cell 5 _ rfl, hbp.cell 6 _ rfl⟩
                 | succ i => simp at hp) (by simp; omega) (Nat.le_trans (by omega) x3.sz) ?_; intro g1 cap1 w8 hown hgrow hlies hglt
               have hPk8 := pk_snoc (g := g1) (cap := cap1) (n := es.length + 1) (k := s_prefix) ((HPP.out.ext x3).keep (S' := fun b => w.heap.size + 1 + 1 ≤ b ∧ qv.ownBlock ≠ some b) (fun b hb _ => ⟨hb.1, hb.2.1⟩) (fun _ _ _ => rfl)) hTt hgrow hlies
               obtain ⟨pa, pc, hpe, hPA⟩ := hown.pairs (S := fun b => w.heap.size + 1 + 1 ≤ b) hPk8.1 (fun b hb => (World.ownsRow.lt hown b hb).1) (fun i e p he hp => ⟨(hPk8.2 i e p he hp).1, (hPk8.2 i e p he hp).2.to (fun b hb _ => hb.1)⟩)
               have hpl : (paramsL (rowsR (1)) ps ++ filL ns (rulesT rs) ++ [(s_prefix, textT ex)]).length = es.length + 1 := by rw [hPk8.1]; simp
               rw [hpl] at hpe hPA
               simp only [List.length_cons, List.length_nil, Nat.zero_add, Value.slice.injEq] at hpe
               obtain ⟨rfl, -, rfl⟩ := hpe
               have hB := Lib.hid (beside_any s_prefix _ _ _ _ w8 hPA (by omega))
               have hx8 : Ext w w8 := ext_grown (ext_trans hx x3) hgrow (fun k hk => by have := hqvr k hk; omega)
               have hb8 := (hb0r.ext x3).grown hgrow (fun e => by have := hqvr _ e.symm; omega)
               have hl8 := hb8.lt
               clear hown hgrow hlies hPk8 hPA)
            | (go_at_call 24; refine hB.out.mono ?_; rintro r w9 ⟨g2, rfl, hT9, hx9⟩; simp only [El.val]
               have hb9 := hb8.ext hx9; obtain ⟨o0, o1, o2, o3, o4, o5⟩ := hb9.six; have f0 := hb9.free 0; have f1 := hb9.free 1; have f2 := hb9.free 2; have f3 := hb9.free 3; have f4 := hb9.free 4; have f5 := hb9.free 5)
            | fail)
          have hx9w := ext_trans hx8 hx9
          refine post_tree rfl rfl (hb9.sto g2) rfl ⟨g2, rfl, ?_, ext_sto6 hx9w (by omega) _ _ _ _ _ _⟩
          rw [ruleT]
          refine TreeAt.keep (S := fun b => w.heap.size + 1 + 1 ≤ b) (fun b hb _ => by omega) (keeps_sto w9 (by omega) g2) _ ?_
          exact hT9.to (fun q hq _ => by rcases hq with hq | hq; exact hq.1; omega)
        by_cases e2 : ek = 2
        case pos =>
          subst e2
          have tokA := trivial
          go_wp2_with (first
            | (go_at_call 28; refine (text_any ex _).mono ?_; rintro r w7 ⟨gt, rfl, hgt, hx7⟩; simp only [El.val]
               have x3 : Ext wr (w7.alloc (.cells #[.string s_pattern, .int .i64 gt.k, .string gt.x, .float .f64 gt.d, .bool gt.y, .slice gt.ka gt.n gt.kc, .slice gt.ca gt.m gt.cc] 66)) := ext_alloc hx7 _
               have hbp : Box (w7.alloc (.cells #[.string s_pattern, .int .i64 gt.k, .string gt.x, .float .f64 gt.d, .bool gt.y, .slice gt.ka gt.n gt.kc, .slice gt.ca gt.m gt.cc] 66)) w7.heap.size #[.string s_pattern, .int .i64 gt.k, .string gt.x, .float .f64 gt.d, .bool gt.y, .slice gt.ka gt.n gt.kc, .slice gt.ca gt.m gt.cc] 66 := Box.at rfl _ _
               have hTt : TreeAt (fun b => w.heap.size + 1 + 1 ≤ b ∧ qv.ownBlock ≠ some b) (w7.alloc (.cells #[.string s_pattern, .int .i64 gt.k, .string gt.x, .float .f64 gt.d, .bool gt.y, .slice gt.ka gt.n gt.kc, .slice gt.ca gt.m gt.cc] 66)) gt (textT ex) := TreeAt.ext (ext_alloc (ext_refl w7) _) (hgt _))
            | (at_builtin; have _t := tokA; clear _t tokA; refine list_append_pairs _ rfl _ _ rfl (w.heap.size + 1 + 1) qv es rfl (HOP.out.ext x3) w7.heap.size 0 1 [(s_pattern, gt)] (by simp) rfl (fun i p hp => by
                 cases i with
                 | zero => simp at hp; subst hp; exact ⟨hbp.cell 0 _ rfl, hbp.cell 1 _ rfl, hbp.cell 2 _ rfl, hbp.cell 3 _ rfl, hbp.cell 4 _ rfl, hbp.cell 5 _ rfl, hbp.cell 6 _ rfl⟩
                 | succ i => simp at hp) (by simp; omega) (Nat.le_trans (by omega) x3.sz) ?_; intro g1 cap1 w8 hown hgrow hlies hglt
               have hPk8 := pk_snoc (g := g1) (cap := cap1) (n := es.length + 1) (k := s_pattern) ((HPP.out.ext x3).keep (S' := fun b => w.heap.size + 1 + 1 ≤ b ∧ qv.ownBlock ≠ some b) (fun b hb _ => ⟨hb.1, hb.2.1⟩) (fun _ _ _ => rfl)) hTt hgrow hlies
               obtain ⟨pa, pc, hpe, hPA⟩ := hown.pairs (S := fun b => w.heap.size + 1 + 1 ≤ b) hPk8.1 (fun b hb => (World.ownsRow.lt hown b hb).1) (fun i e p he hp => ⟨(hPk8.2 i e p he hp).1, (hPk8.2 i e p he hp).2.to (fun b hb _ => hb.1)⟩)
               have hpl : (paramsL (rowsR (2)) ps ++ filL ns (rulesT rs) ++ [(s_pattern, textT ex)]).length = es.length + 1 := by rw [hPk8.1]; simp
               rw [hpl] at hpe hPA
               simp only [List.length_cons, List.length_nil, Nat.zero_add, Value.slice.injEq] at hpe
               obtain ⟨rfl, -, rfl⟩ := hpe
               have hB := Lib.hid (beside_any s_wildcard _ _ _ _ w8 hPA (by omega))
               have hx8 : Ext w w8 := ext_grown (ext_trans hx x3) hgrow (fun k hk => by have := hqvr k hk; omega)
               have hb8 := (hb0r.ext x3).grown hgrow (fun e => by have := hqvr _ e.symm; omega)
               have hl8 := hb8.lt
               clear hown hgrow hlies hPk8 hPA)
            | (go_at_call 24; refine hB.out.mono ?_; rintro r w9 ⟨g2, rfl, hT9, hx9⟩; simp only [El.val]
               have hb9 := hb8.ext hx9; obtain ⟨o0, o1, o2, o3, o4, o5⟩ := hb9.six; have f0 := hb9.free 0; have f1 := hb9.free 1; have f2 := hb9.free 2; have f3 := hb9.free 3; have f4 := hb9.free 4; have f5 := hb9.free 5)
            | fail)
          have hx9w := ext_trans hx8 hx9
          refine post_tree rfl rfl (hb9.sto g2) rfl ⟨g2, rfl, ?_, ext_sto6 hx9w (by omega) _ _ _ _ _ _⟩
          rw [ruleT]
          refine TreeAt.keep (S := fun b => w.heap.size + 1 + 1 ≤ b) (fun b hb _ => by omega) (keeps_sto w9 (by omega) g2) _ ?_
          exact hT9.to (fun q hq _ => by rcases hq with hq | hq; exact hq.1; omega)
        by_cases e3 : ek = 3
        case pos =>
          subst e3
          have tokA := trivial
          go_wp2_with (first
            | (go_at_call 28; refine (text_any ex _).mono ?_; rintro r w7 ⟨gt, rfl, hgt, hx7⟩; simp only [El.val]
               have x3 : Ext wr (w7.alloc (.cells #[.string s_term, .int .i64 gt.k, .string gt.x, .float .f64 gt.d, .bool gt.y, .slice gt.ka gt.n gt.kc, .slice gt.ca gt.m gt.cc] 66)) := ext_alloc hx7 _
               have hbp : Box (w7.alloc (.cells #[.string s_term, .int .i64 gt.k, .string gt.x, .float .f64 gt.d, .bool gt.y, .slice gt.ka gt.n gt.kc, .slice gt.ca gt.m gt.cc] 66)) w7.heap.size #[.string s_term, .int .i64 gt.k, .string gt.x, .float .f64 gt.d, .bool gt.y, .slice gt.ka gt.n gt.kc, .slice gt.ca gt.m gt.cc] 66 := Box.at rfl _ _
               have hTt : TreeAt (fun b => w.heap.size + 1 + 1 ≤ b ∧ qv.ownBlock ≠ some b) (w7.alloc (.cells #[.string s_term, .int .i64 gt.k, .string gt.x, .float .f64 gt.d, .bool gt.y, .slice gt.ka gt.n gt.kc, .slice gt.ca gt.m gt.cc] 66)) gt (textT ex) := TreeAt.ext (ext_alloc (ext_refl w7) _) (hgt _))
            | (at_builtin; have _t := tokA; clear _t tokA; refine list_append_pairs _ rfl _ _ rfl (w.heap.size + 1 + 1) qv es rfl (HOP.out.ext x3) w7.heap.size 0 1 [(s_term, gt)] (by simp) rfl (fun i p hp => by
                 cases i with
                 | zero => simp at hp; subst hp; exact ⟨hbp.cell 0 _ rfl, hbp.cell 1 _ rfl, hbp.cell 2 _ rfl, hbp.cell 3 _ rfl, hbp.cell 4 _ rfl, hbp.cell 5 _ rfl, hbp.cell 6 _ rfl⟩
                 | succ i => simp at hp) (by simp; omega) (Nat.le_trans (by omega) x3.sz) ?_; intro g1 cap1 w8 hown hgrow hlies hglt
               have hPk8 := pk_snoc (g := g1) (cap := cap1) (n := es.length + 1) (k := s_term) ((HPP.out.ext x3).keep (S' := fun b => w.heap.size + 1 + 1 ≤ b ∧ qv.ownBlock ≠ some b) (fun b hb _ => ⟨hb.1, hb.2.1⟩) (fun _ _ _ => rfl)) hTt hgrow hlies
               obtain ⟨pa, pc, hpe, hPA⟩ := hown.pairs (S := fun b => w.heap.size + 1 + 1 ≤ b) hPk8.1 (fun b hb => (World.ownsRow.lt hown b hb).1) (fun i e p he hp => ⟨(hPk8.2 i e p he hp).1, (hPk8.2 i e p he hp).2.to (fun b hb _ => hb.1)⟩)
               have hpl : (paramsL (rowsR (3)) ps ++ filL ns (rulesT rs) ++ [(s_term, textT ex)]).length = es.length + 1 := by rw [hPk8.1]; simp
               rw [hpl] at hpe hPA
               simp only [List.length_cons, List.length_nil, Nat.zero_add, Value.slice.injEq] at hpe
               obtain ⟨rfl, -, rfl⟩ := hpe
               have hB := Lib.hid (beside_any s_fuzzy _ _ _ _ w8 hPA (by omega))
               have hx8 : Ext w w8 := ext_grown (ext_trans hx x3) hgrow (fun k hk => by have := hqvr k hk; omega)
               have hb8 := (hb0r.ext x3).grown hgrow (fun e => by have := hqvr _ e.symm; omega)
               have hl8 := hb8.lt
               clear hown hgrow hlies hPk8 hPA)
            | (go_at_call 24; refine hB.out.mono ?_; rintro r w9 ⟨g2, rfl, hT9, hx9⟩; simp only [El.val]
               have hb9 := hb8.ext hx9; obtain ⟨o0, o1, o2, o3, o4, o5⟩ := hb9.six; have f0 := hb9.free 0; have f1 := hb9.free 1; have f2 := hb9.free 2; have f3 := hb9.free 3; have f4 := hb9.free 4; have f5 := hb9.free 5)
            | fail)
          have hx9w := ext_trans hx8 hx9
          refine post_tree rfl rfl (hb9.sto g2) rfl ⟨g2, rfl, ?_, ext_sto6 hx9w (by omega) _ _ _ _ _ _⟩
          rw [ruleT]
          refine TreeAt.keep (S := fun b => w.heap.size + 1 + 1 ≤ b) (fun b hb _ => by omega) (keeps_sto w9 (by omega) g2) _ ?_
          exact hT9.to (fun q hq _ => by rcases hq with hq | hq; exact hq.1; omega)
        by_cases e4 : ek = 4
        case pos =>
          subst e4
          have tokA := trivial
          have x3 : Ext wr (wr.alloc (.cells #[.string s_intervals, .int .i64 4, .string ⟨#[]⟩, .float .f64 0, .bool false, .slice none 0 0, .slice ca cn cc] 66)) := ext_alloc (ext_refl wr) _
          have hbp : Box (wr.alloc (.cells #[.string s_intervals, .int .i64 4, .string ⟨#[]⟩, .float .f64 0, .bool false, .slice none 0 0, .slice ca cn cc] 66)) wr.heap.size #[.string s_intervals, .int .i64 4, .string ⟨#[]⟩, .float .f64 0, .bool false, .slice none 0 0, .slice ca cn cc] 66 := Box.at rfl _ _
          have hTt : TreeAt (fun b => w.heap.size + 1 + 1 ≤ b ∧ qv.ownBlock ≠ some b) (wr.alloc (.cells #[.string s_intervals, .int .i64 4, .string ⟨#[]⟩, .float .f64 0, .bool false, .slice none 0 0, .slice ca cn cc] 66)) (⟨4, ⟨#[]⟩, 0, false, none, 0, 0, ca, cn, cc⟩ : El) (listT (rulesT ks)) := (TreeAt.ext x3 HTK.out).to (fun q hq _ => ⟨by omega, fun e => by have := hqvr q e; omega⟩)
          go_wp2_with (first
            | (at_builtin; have _t := tokA; clear _t tokA; refine list_append_pairs _ rfl _ _ rfl (w.heap.size + 1 + 1) qv es rfl (HOP.out.ext x3) wr.heap.size 0 1 [(s_intervals, (⟨4, ⟨#[]⟩, 0, false, none, 0, 0, ca, cn, cc⟩ : El))] (by simp) rfl (fun i p hp => by
                 cases i with
                 | zero => simp at hp; subst hp; exact ⟨hbp.cell 0 _ rfl, hbp.cell 1 _ rfl, hbp.cell 2 _ rfl, hbp.cell 3 _ rfl, hbp.cell 4 _ rfl, hbp.cell 5 _ rfl, hbp.cell 6 _ rfl⟩
                 | succ i => simp at hp) (by simp; omega) (Nat.le_trans (by omega) x3.sz) ?_; intro g1 cap1 w8 hown hgrow hlies hglt
               have hPk8 := pk_snoc (g := g1) (cap := cap1) (n := es.length + 1) (k := s_intervals) ((HPP.out.ext x3).keep (S' := fun b => w.heap.size + 1 + 1 ≤ b ∧ qv.ownBlock ≠ some b) (fun b hb _ => ⟨hb.1, hb.2.1⟩) (fun _ _ _ => rfl)) hTt hgrow hlies
               obtain ⟨pa, pc, hpe, hPA⟩ := hown.pairs (S := fun b => w.heap.size + 1 + 1 ≤ b) hPk8.1 (fun b hb => (World.ownsRow.lt hown b hb).1) (fun i e p he hp => ⟨(hPk8.2 i e p he hp).1, (hPk8.2 i e p he hp).2.to (fun b hb _ => hb.1)⟩)
               have hpl : (paramsL (rowsR (4)) ps ++ filL ns (rulesT rs) ++ [(s_intervals, listT (rulesT ks))]).length = es.length + 1 := by rw [hPk8.1]; simp
               rw [hpl] at hpe hPA
               simp only [List.length_cons, List.length_nil, Nat.zero_add, Value.slice.injEq] at hpe
               obtain ⟨rfl, -, rfl⟩ := hpe
               have hB := Lib.hid (beside_any s_all_of _ _ _ _ w8 hPA (by omega))
               have hx8 : Ext w w8 := ext_grown (ext_trans hx x3) hgrow (fun k hk => by have := hqvr k hk; omega)
               have hb8 := (hb0r.ext x3).grown hgrow (fun e => by have := hqvr _ e.symm; omega)
               have hl8 := hb8.lt
               clear hown hgrow hlies hPk8 hPA)
            | (go_at_call 24; refine hB.out.mono ?_; rintro r w9 ⟨g2, rfl, hT9, hx9⟩; simp only [El.val]
               have hb9 := hb8.ext hx9; obtain ⟨o0, o1, o2, o3, o4, o5⟩ := hb9.six; have f0 := hb9.free 0; have f1 := hb9.free 1; have f2 := hb9.free 2; have f3 := hb9.free 3; have f4 := hb9.free 4; have f5 := hb9.free 5)
            | fail)
          have hx9w := ext_trans hx8 hx9
          refine post_tree rfl rfl (hb9.sto g2) rfl ⟨g2, rfl, ?_, ext_sto6 hx9w (by omega) _ _ _ _ _ _⟩
          rw [ruleT]
          refine TreeAt.keep (S := fun b => w.heap.size + 1 + 1 ≤ b) (fun b hb _ => by omega) (keeps_sto w9 (by omega) g2) _ ?_
          exact hT9.to (fun q hq _ => by rcases hq with hq | hq; exact hq.1; omega)
        by_cases e5 : ek = 5
        case pos =>
          subst e5
          have tokA := trivial
          have x3 : Ext wr (wr.alloc (.cells #[.string s_intervals, .int .i64 4, .string ⟨#[]⟩, .float .f64 0, .bool false, .slice none 0 0, .slice ca cn cc] 66)) := ext_alloc (ext_refl wr) _
          have hbp : Box (wr.alloc (.cells #[.string s_intervals, .int .i64 4, .string ⟨#[]⟩, .float .f64 0, .bool false, .slice none 0 0, .slice ca cn cc] 66)) wr.heap.size #[.string s_intervals, .int .i64 4, .string ⟨#[]⟩, .float .f64 0, .bool false, .slice none 0 0, .slice ca cn cc] 66 := Box.at rfl _ _
          have hTt : TreeAt (fun b => w.heap.size + 1 + 1 ≤ b ∧ qv.ownBlock ≠ some b) (wr.alloc (.cells #[.string s_intervals, .int .i64 4, .string ⟨#[]⟩, .float .f64 0, .bool false, .slice none 0 0, .slice ca cn cc] 66)) (⟨4, ⟨#[]⟩, 0, false, none, 0, 0, ca, cn, cc⟩ : El) (listT (rulesT ks)) := (TreeAt.ext x3 HTK.out).to (fun q hq _ => ⟨by omega, fun e => by have := hqvr q e; omega⟩)
          go_wp2_with (first
            | (at_builtin; have _t := tokA; clear _t tokA; refine list_append_pairs _ rfl _ _ rfl (w.heap.size + 1 + 1) qv es rfl (HOP.out.ext x3) wr.heap.size 0 1 [(s_intervals, (⟨4, ⟨#[]⟩, 0, false, none, 0, 0, ca, cn, cc⟩ : El))] (by simp) rfl (fun i p hp => by
                 cases i with
                 | zero => simp at hp; subst hp; exact ⟨hbp.cell 0 _ rfl, hbp.cell 1 _ rfl, hbp.cell 2 _ rfl, hbp.cell 3 _ rfl, hbp.cell 4 _ rfl, hbp.cell 5 _ rfl, hbp.cell 6 _ rfl⟩
                 | succ i => simp at hp) (by simp; omega) (Nat.le_trans (by omega) x3.sz) ?_; intro g1 cap1 w8 hown hgrow hlies hglt
               have hPk8 := pk_snoc (g := g1) (cap := cap1) (n := es.length + 1) (k := s_intervals) ((HPP.out.ext x3).keep (S' := fun b => w.heap.size + 1 + 1 ≤ b ∧ qv.ownBlock ≠ some b) (fun b hb _ => ⟨hb.1, hb.2.1⟩) (fun _ _ _ => rfl)) hTt hgrow hlies
               obtain ⟨pa, pc, hpe, hPA⟩ := hown.pairs (S := fun b => w.heap.size + 1 + 1 ≤ b) hPk8.1 (fun b hb => (World.ownsRow.lt hown b hb).1) (fun i e p he hp => ⟨(hPk8.2 i e p he hp).1, (hPk8.2 i e p he hp).2.to (fun b hb _ => hb.1)⟩)
               have hpl : (paramsL (rowsR (5)) ps ++ filL ns (rulesT rs) ++ [(s_intervals, listT (rulesT ks))]).length = es.length + 1 := by rw [hPk8.1]; simp
               rw [hpl] at hpe hPA
               simp only [List.length_cons, List.length_nil, Nat.zero_add, Value.slice.injEq] at hpe
               obtain ⟨rfl, -, rfl⟩ := hpe
               have hB := Lib.hid (beside_any s_any_of _ _ _ _ w8 hPA (by omega))
               have hx8 : Ext w w8 := ext_grown (ext_trans hx x3) hgrow (fun k hk => by have := hqvr k hk; omega)
               have hb8 := (hb0r.ext x3).grown hgrow (fun e => by have := hqvr _ e.symm; omega)
               have hl8 := hb8.lt
               clear hown hgrow hlies hPk8 hPA)
            | (go_at_call 24; refine hB.out.mono ?_; rintro r w9 ⟨g2, rfl, hT9, hx9⟩; simp only [El.val]
               have hb9 := hb8.ext hx9; obtain ⟨o0, o1, o2, o3, o4, o5⟩ := hb9.six; have f0 := hb9.free 0; have f1 := hb9.free 1; have f2 := hb9.free 2; have f3 := hb9.free 3; have f4 := hb9.free 4; have f5 := hb9.free 5)
            | fail)
          have hx9w := ext_trans hx8 hx9
          refine post_tree rfl rfl (hb9.sto g2) rfl ⟨g2, rfl, ?_, ext_sto6 hx9w (by omega) _ _ _ _ _ _⟩
          rw [ruleT]
          refine TreeAt.keep (S := fun b => w.heap.size + 1 + 1 ≤ b) (fun b hb _ => by omega) (keeps_sto w9 (by omega) g2) _ ?_
          exact hT9.to (fun q hq _ => by rcases hq with hq | hq; exact hq.1; omega)
        obtain rfl : ek = 0 := by omega
        have tokA := trivial
        go_wp2_with (first
          | (go_at_call 28; refine (text_any ex _).mono ?_; rintro r w7 ⟨gt, rfl, hgt, hx7⟩; simp only [El.val]
             have x3 : Ext wr (w7.alloc (.cells #[.string s_query, .int .i64 gt.k, .string gt.x, .float .f64 gt.d, .bool gt.y, .slice gt.ka gt.n gt.kc, .slice gt.ca gt.m gt.cc] 66)) := ext_alloc hx7 _
             have hbp : Box (w7.alloc (.cells #[.string s_query, .int .i64 gt.k, .string gt.x, .float .f64 gt.d, .bool gt.y, .slice gt.ka gt.n gt.kc, .slice gt.ca gt.m gt.cc] 66)) w7.heap.size #[.string s_query, .int .i64 gt.k, .string gt.x, .float .f64 gt.d, .bool gt.y, .slice gt.ka gt.n gt.kc, .slice gt.ca gt.m gt.cc] 66 := Box.at rfl _ _
             have hTt : TreeAt (fun b => w.heap.size + 1 + 1 ≤ b ∧ qv.ownBlock ≠ some b) (w7.alloc (.cells #[.string s_query, .int .i64 gt.k, .string gt.x, .float .f64 gt.d, .bool gt.y, .slice gt.ka gt.n gt.kc, .slice gt.ca gt.m gt.cc] 66)) gt (textT ex) := TreeAt.ext (ext_alloc (ext_refl w7) _) (hgt _))
          | (at_builtin; have _t := tokA; clear _t tokA; refine list_append_pairs _ rfl _ _ rfl (w.heap.size + 1 + 1) qv es rfl (HOP.out.ext x3) w7.heap.size 0 1 [(s_query, gt)] (by simp) rfl (fun i p hp => by
               cases i with
               | zero => simp at hp; subst hp; exact ⟨hbp.cell 0 _ rfl, hbp.cell 1 _ rfl, hbp.cell 2 _ rfl, hbp.cell 3 _ rfl, hbp.cell 4 _ rfl, hbp.cell 5 _ rfl, hbp.cell 6 _ rfl⟩
               | succ i => simp at hp) (by simp; omega) (Nat.le_trans (by omega) x3.sz) ?_; intro g1 cap1 w8 hown hgrow hlies hglt
             have hPk8 := pk_snoc (g := g1) (cap := cap1) (n := es.length + 1) (k := s_query) ((HPP.out.ext x3).keep (S' := fun b => w.heap.size + 1 + 1 ≤ b ∧ qv.ownBlock ≠ some b) (fun b hb _ => ⟨hb.1, hb.2.1⟩) (fun _ _ _ => rfl)) hTt hgrow hlies
             obtain ⟨pa, pc, hpe, hPA⟩ := hown.pairs (S := fun b => w.heap.size + 1 + 1 ≤ b) hPk8.1 (fun b hb => (World.ownsRow.lt hown b hb).1) (fun i e p he hp => ⟨(hPk8.2 i e p he hp).1, (hPk8.2 i e p he hp).2.to (fun b hb _ => hb.1)⟩)
             have hpl : (paramsL (rowsR (0)) ps ++ filL ns (rulesT rs) ++ [(s_query, textT ex)]).length = es.length + 1 := by rw [hPk8.1]; simp
             rw [hpl] at hpe hPA
             simp only [List.length_cons, List.length_nil, Nat.zero_add, Value.slice.injEq] at hpe
             obtain ⟨rfl, -, rfl⟩ := hpe
             have hB := Lib.hid (beside_any s_match _ _ _ _ w8 hPA (by omega))
             have hx8 : Ext w w8 := ext_grown (ext_trans hx x3) hgrow (fun k hk => by have := hqvr k hk; omega)
             have hb8 := (hb0r.ext x3).grown hgrow (fun e => by have := hqvr _ e.symm; omega)
             have hl8 := hb8.lt
             clear hown hgrow hlies hPk8 hPA)
          | (go_at_call 24; refine hB.out.mono ?_; rintro r w9 ⟨g2, rfl, hT9, hx9⟩; simp only [El.val]
             have hb9 := hb8.ext hx9; obtain ⟨o0, o1, o2, o3, o4, o5⟩ := hb9.six; have f0 := hb9.free 0; have f1 := hb9.free 1; have f2 := hb9.free 2; have f3 := hb9.free 3; have f4 := hb9.free 4; have f5 := hb9.free 5)
          | fail)
        have hx9w := ext_trans hx8 hx9
        refine post_tree rfl rfl (hb9.sto g2) rfl ⟨g2, rfl, ?_, ext_sto6 hx9w (by omega) _ _ _ _ _ _⟩
        rw [ruleT]
        refine TreeAt.keep (S := fun b => w.heap.size + 1 + 1 ≤ b) (fun b hb _ => by omega) (keeps_sto w9 (by omega) g2) _ ?_
        exact hT9.to (fun q hq _ => by rcases hq with hq | hq; exact hq.1; omega)
mutual
theorem told2 : ∀ r : Rl, FitR r → SmallR 1048576 r → Told2 r
  | .mk k x ps ks ns rs, h, h2 => told2_mk k x ps ks ns rs h h2 (told2s ks (by simp only [FitR] at h; exact h.2.2.2.2.2.1) (by simp only [SmallR] at h2; exact h2.2.2.1)) (told2s rs (by simp only [FitR] at h; exact h.2.2.2.2.2.2.2) (by simp only [SmallR] at h2; exact h2.2.2.2))
theorem told2s : ∀ l : List Rl, FitRs l → SmallRs 1048576 l → ∀ r ∈ l, Told2 r
  | [], _, _, r, h => by cases h
  | q :: l, h, h2, r, hr => by
    simp only [FitRs] at h
    simp only [SmallRs] at h2
    rcases List.mem_cons.1 hr with e | hr
    · rw [e]; exact told2 q h.1 h2.1
    · exact told2s l h.2 h2.2 r hr
end
end Go.Proofs.YtdjojnlejkljdaaGreat

namespace Go.Proofs.YtdjojnlejkljdaaGreat
open Go.RowKit

def OwnSets (w : World) (base : Nat) (v : Value) (es : List (ByteArray × El)) : Prop := w.ownsRow base 73 7 v es.length (es.flatMap cells7)
theorem OwnSets.ext {w w' : World} {base : Nat} {v : Value} {es : List (ByteArray × El)} (h : OwnSets w base v es) (x : Ext w w') : OwnSets w' base v es := World.ownsRow.kept h (grown_of_ext x none) (by cases v.ownBlock <;> simp)
theorem OwnSets.grown {w w' : World} {base : Nat} {v : Value} {es : List (ByteArray × El)} (h : OwnSets w base v es) {r : Option Nat} (g : w.grownBy w' r) (hne : v.ownBlock = none ∨ v.ownBlock ≠ r) : OwnSets w' base v es := World.ownsRow.kept h g hne
theorem OwnSets.block {w : World} {base : Nat} {v : Value} {es : List (ByteArray × El)} (h : OwnSets w base v es) {g : Nat} (hg : v.ownBlock = some g) : base ≤ g ∧ g < w.heap.size := World.ownsRow.lt h g hg
theorem OwnSets.sets {S : Nat → Prop} {w : World} {base : Nat} {v : Value} {es : List (ByteArray × El)} {ps : List (ByteArray × T)} (h : OwnSets w base v es) (hl : ps.length = es.length) (hS : ∀ b, v.ownBlock = some b → S b)
    (ht : ∀ (i : Nat) (e : ByteArray × El) (p : ByteArray × T), es[i]? = some e → ps[i]? = some p → e.1 = p.1 ∧ TreeAt S w e.2 p.2) : ∃ a c, v = .slice a ps.length c ∧ PairsAt S w a ps.length c ps := by
  obtain ⟨h1, h2⟩ := id h
  rcases h2 with ⟨rfl, h0⟩ | ⟨g, cap, cur, rfl, hg, hh, h3, h4, h5, h6⟩
  · refine ⟨none, 0, by rw [hl, h0], rfl, by omega, by simp [maxLen], fun i s hi => ?_⟩
    rw [List.length_eq_zero_iff.1 (hl.trans h0)] at hi
    cases hi
  · refine ⟨_, _, by rw [hl], rfl, by omega, h4, fun i p hi => ?_⟩
    obtain ⟨e, he⟩ := some_of_lt (l := es) rfl (show i < es.length by have := (List.getElem?_eq_some_iff.1 hi).1; omega)
    obtain ⟨e1, e2⟩ := ht i e p he hi
    have hc : ∀ j v, (cells7 e)[j]? = some v → w.cell? ⟨g, 0 + i * 7 + j, none⟩ = some v := fun j v hv => by
      have := World.ownsRow.cells h (g := g) rfl (i * 7 + j) v (flat7_get es i e he j v hv)
      rw [Addr.add_lit] at this
      rw [show 0 + i * 7 + j = 0 + (i * 7 + j) by omega]
      exact this
    exact ⟨g, 0, e.2, rfl, hS g rfl, ⟨by rw [← e1]; exact hc 0 _ rfl, hc 1 _ rfl, hc 2 _ rfl, hc 3 _ rfl, hc 4 _ rfl, hc 5 _ rfl, hc 6 _ rfl⟩, e2⟩
theorem info_set : (Tryz.prog.info? 73).map (fun i => (i.zero, i.size, i.bytes)) = some (some (.agg #[.string ⟨#[]⟩, .int .i64 0, .string ⟨#[]⟩, .float .f64 0, .bool false, .slice none 0 0, .slice none 0 0]), 7, 104) := by kernel_rfl

/-- Names with trees that lie one behind the other. -/
theorem wp_append_sets {o : Oper} {a : Act} {Q : Exit → Act → World → Prop} (w : World) {K : Act → World → Prop} (s x : Operand) (ho : o.op = .call { callee := .builtin .append, args := #[s, x], argTypes := #[26, 26] })
    (base : Nat) (v : Value) (es : List (ByteArray × El)) (hs : a.eval s = v) (hown : OwnSets w base v es) (b off cap : Nat) (fs : List (ByteArray × El)) (hf : 0 < fs.length) (hx : a.eval x = .slice (some ⟨b, off, none⟩) fs.length cap)
    (hc : ∀ i f, fs[i]? = some f → Cells7 w b (off + i * 7) f.1 f.2)
    (hb : (es.length + fs.length) * 104 ≤ 140737488355328) (hbase : base ≤ w.heap.size)
    (h : ∀ g cap w', OwnSets w' base (.slice (some ⟨g, 0, none⟩) (es.length + fs.length) cap) (es ++ fs) → w.grownBy w' v.ownBlock → Lies w v g → g < w'.heap.size → K (a.put o.dst (.slice (some ⟨g, 0, none⟩) (es.length + fs.length) cap)) w') : o.wp Tryz.prog a w K Q := by
  obtain ⟨i, hi, hz, hsz, hby⟩ := info_parts info_set
  have hlen : ∀ l : List (ByteArray × El), (l.flatMap cells7).length = l.length * 7 := fun l => by
    induction l with
    | nil => rfl
    | cons e r ih => rw [List.flatMap_cons, List.length_append, ih]; simp [cells7, El.cells]; omega
  refine wp_append_lies w s x 26 ho base 73 i _ 7 104 Tryz.underlying26 hi hz hsz hby rfl (by omega) v es.length _ hs hown ⟨b, off, none⟩ fs.length cap (fs.flatMap cells7) hx (hlen fs) ?_ ?_ hf (by unfold maxLen; omega) hb hbase _ rfl ?_
  · intro j u hu
    rw [Addr.add_lit]
    have hj := (List.getElem?_eq_some_iff.1 hu).1
    rw [hlen] at hj
    obtain ⟨f, hf'⟩ := some_of_lt (l := fs) rfl (show j / 7 < fs.length by omega)
    obtain ⟨c0, c1, c2, c3, c4, c5, c6⟩ := hc (j / 7) f hf'
    have hjm : j % 7 < 7 := Nat.mod_lt _ (by omega)
    have he : j = j / 7 * 7 + j % 7 := by omega
    have key : ∀ r u, (cells7 f)[r]? = some u → w.cell? ⟨b, off + (j / 7 * 7 + r), none⟩ = some u := fun r u hr => by
      have hr7 : off + (j / 7 * 7 + r) = off + j / 7 * 7 + r := by omega
      rw [hr7]
      match r, hr with
      | 0, hr => simp [cells7, El.cells] at hr; subst hr; simpa using c0
      | 1, hr => simp [cells7, El.cells] at hr; subst hr; simpa using c1
      | 2, hr => simp [cells7, El.cells] at hr; subst hr; simpa using c2
      | 3, hr => simp [cells7, El.cells] at hr; subst hr; simpa using c3
      | 4, hr => simp [cells7, El.cells] at hr; subst hr; simpa using c4
      | 5, hr => simp [cells7, El.cells] at hr; subst hr; simpa using c5
      | 6, hr => simp [cells7, El.cells] at hr; subst hr; simpa using c6
      | r + 7, hr => simp [cells7, El.cells] at hr
    obtain ⟨u', hu'⟩ := some_of_lt (l := cells7 f) (n := 7) rfl hjm
    have := flat7_get fs (j / 7) f hf' (j % 7) u' hu'
    rw [← he, hu] at this
    cases this
    rw [he]
    have h2 := key (j % 7) u hu'
    have h3 : (j / 7 * 7 + j % 7) / 7 = j / 7 := by omega
    exact h2
  · intro u hu
    obtain ⟨f, _, hf2⟩ := List.mem_flatMap.1 hu
    simp [cells7, El.cells] at hf2
    rcases hf2 with rfl | rfl | rfl | rfl | rfl | rfl | rfl <;> rfl
  · intro g cap w' hown' hg hl hlt
    refine h g cap w' ?_ hg hl hlt
    unfold OwnSets
    rw [List.length_append, List.flatMap_append]
    exact hown'
theorem list_append_sets {ops : Array Oper} {rest : List Oper} {o : Oper} {a : Act} {Q : Exit → Act → World → Prop} (w : World) (hgd : o.guard = none) (s x : Operand) (ho : o.op = .call { callee := .builtin .append, args := #[s, x], argTypes := #[26, 26] })
    (base : Nat) (v : Value) (es : List (ByteArray × El)) (hs : a.eval s = v) (hown : OwnSets w base v es) (b : Nat) (f : ByteArray × El) (hx : a.eval x = .slice (some ⟨b, 0, none⟩) 1 1) (hc : Cells7 w b 0 f.1 f.2)
    (hb : (es.length + 1) * 104 ≤ 140737488355328) (hbase : base ≤ w.heap.size)
    (h : ∀ g cap w', OwnSets w' base (.slice (some ⟨g, 0, none⟩) (es.length + 1) cap) (es ++ [f]) → w.grownBy w' v.ownBlock → Lies w v g → g < w'.heap.size → wpList Tryz.prog ops Q rest (a.put o.dst (.slice (some ⟨g, 0, none⟩) (es.length + 1) cap)) w') : wpList Tryz.prog ops Q (o :: rest) a w :=
  wpList_plain hgd fun _ hK => wp_append_sets w s x ho base v es hs hown b 0 1 [f] (by simp) hx (fun i f' hf => by
    cases i with
    | zero => simp at hf; subst hf; simpa using hc
    | succ i => simp at hf) hb hbase fun g cap w' h1 h2 h3 h4 => hK _ _ (h g cap w' h1 h2 h3 h4)

set_option maxHeartbeats 1000000 in
theorem is_any {S : Nat → Prop} (a : Option Addr) (n c : Nat) (ps : List (ByteArray × T)) (name : ByteArray) (w : World) (h : PairsAt S w a n c ps) :
    Calls Tryz.prog 18 #[.slice a n c, .string name] w fun r w' => r = .returned (.bool (lastOf ps name).isSome) ∧ Ext w w' := by
  have hL := Lib.hid (last_any a n c ps name w h)
  clear h
  go_enter Tryz.func18, Tryz.ntmps18
  go_wp2_with (go_at_call 31; refine hL.out.mono ?_; rintro r w2 ⟨g, rfl, -, hx⟩; simp only [El.val])
  go_ret
  exact ⟨rfl, ext_alloc hx _⟩
end Go.Proofs.YtdjojnlejkljdaaGreat

namespace Go.Proofs.YtdjojnlejkljdaaGreat
open Go.RowKit

theorem hasS_mem {l : List ByteArray} {s : ByteArray} (h : hasS l s = true) : s ∈ l := by
  simp only [hasS, List.any_eq_true] at h
  obtain ⟨x, hx, hs⟩ := h
  rw [← seq_iff.1 hs]
  exact hx
theorem sieveNames_any (w : World) : Calls Tryz.prog 19 #[] w fun r w' => ∃ v : Nat, r = .returned (.slice (some ⟨v, 0, none⟩) 8 8) ∧ StrsAt (fun _ => True) w' (some ⟨v, 0, none⟩) 8 8 sieveNames ∧ Ext w w' := by
  go_enter Tryz.func19, Tryz.ntmps19
  go_wp2_with fail
  go_ret
  have hb : Box (w.alloc (.cells #[.string s_after, .string s_before, .string s_contained_by, .string s_containing, .string s_not_contained_by, .string s_not_containing, .string s_not_overlapping, .string s_overlapping] 9)) w.heap.size #[.string s_after, .string s_before, .string s_contained_by, .string s_containing, .string s_not_contained_by, .string s_not_containing, .string s_not_overlapping, .string s_overlapping] 9 := Box.at rfl _ _
  exact ⟨_, rfl, ⟨rfl, Nat.le_refl _, by simp [maxLen], fun i s hi => ⟨_, 0, rfl, trivial, by
    match i, hi with
    | 0, hi => simp [sieveNames] at hi; subst hi; exact hb.cell 0 _ rfl
    | 1, hi => simp [sieveNames] at hi; subst hi; exact hb.cell 1 _ rfl
    | 2, hi => simp [sieveNames] at hi; subst hi; exact hb.cell 2 _ rfl
    | 3, hi => simp [sieveNames] at hi; subst hi; exact hb.cell 3 _ rfl
    | 4, hi => simp [sieveNames] at hi; subst hi; exact hb.cell 4 _ rfl
    | 5, hi => simp [sieveNames] at hi; subst hi; exact hb.cell 5 _ rfl
    | 6, hi => simp [sieveNames] at hi; subst hi; exact hb.cell 6 _ rfl
    | 7, hi => simp [sieveNames] at hi; subst hi; exact hb.cell 7 _ rfl
    | i + 8, hi => simp [sieveNames] at hi⟩⟩, by (repeat (first | exact ext_refl _ | assumption | refine ext_alloc ?_ _ | refine ext_drew ?_ | refine ext_set ?_ (by simp) _ | refine ext_trans ?_ (by assumption)))⟩
def Fit2 (r : Rl) (d : Int) : Prop := ∀ (S : Nat → Prop) (e : Rv) (w : World), RuleAt S w e r → Calls Tryz.prog 7 #[e.val, .int .i64 d] w (Yes (FitR r) w)
set_option maxRecDepth 20000 in
set_option maxHeartbeats 8000000 in
theorem fits_zero_mk (k : Int) (x : ByteArray) (ps : List (ByteArray × T)) (ks : List Rl) (ns : List ByteArray) (rs : List Rl) : Fit2 (.mk k x ps ks ns rs) 0 := by
  rintro S ⟨ek, ex, esa, esn, esc, eka, ekn, ekc, eva, evn, evc⟩ w h
  obtain ⟨h1, h2, hP, hK, hV⟩ := h.parts
  simp only at h1 h2 hP hK hV
  subst h1 h2
  have HP := Lib.hid fun (w1 : World) (x : Ext w w1) => hP.ext x
  have HKS := Lib.hid hK
  have HVS := Lib.hid hV
  have hkn : ekn ≤ 9223372036854775807 := by have h1 := hK.2.1; have h2 := hK.2.2.1; unfold maxLen at h2; omega
  have hvn : evn ≤ 9223372036854775807 := by have h1 := hV.2.2.1; have h2 := hV.2.2.2.1; unfold maxLen at h2; omega
  clear h hP hK hV
  simp only [Rv.val]
  go_enter Tryz.func7, Tryz.ntmps7
  go_upto_region 1 with fail
  have hbR : Box (w.alloc (.cells #[.int .i64 ek, .string ex, .slice esa esn esc, .slice eka ekn ekc, .slice eva evn evc] 29)) w.heap.size #[.int .i64 ek, .string ex, .slice esa esn esc, .slice eka ekn ekc, .slice eva evn evc] 29 := Box.at rfl _ _
  have hx0 : Ext w (w.alloc (.cells #[.int .i64 ek, .string ex, .slice esa esn esc, .slice eka ekn ekc, .slice eva evn evc] 29)) := ext_alloc (ext_refl _) _
  generalize (w.alloc (.cells #[.int .i64 ek, .string ex, .slice esa esn esc, .slice eka ekn ekc, .slice eva evn evc] 29)) = w0 at hbR hx0 ⊢
  have hxd : Ext w w0.drew := ext_drew hx0
  refine wp_region_order (fun (w' : World) => w'.cell? ⟨w.heap.size, 0, none⟩ = some (.int .i64 ek) ∧ w'.cell? ⟨w.heap.size, 2, none⟩ = some (.slice esa esn esc)) [0, 1, 2, 3, 4, 5, 6, 7, 8, 9, 10, 11, 12, 13, 14, 16, 17, 19, 20, 21, 22, 23, 24, 25, 26, 27, 29, 30, 31] [0, 1, 2, 3, 4, 5, 6, 7, 8, 9, 10, 11, 12, 13, 14, 16, 17, 15, 18, 19, 20, 21, 22, 23, 24, 25, 26, 27, 28, 29, 30, 31] (by kernel_rfl) (by kernel_rfl) (fun d _ _ _ _ h => by cases d <;> exact h) (by kernel_rfl) ?_
  have hS : (fun (w' : World) => w'.cell? ⟨w.heap.size, 0, none⟩ = some (.int .i64 ek) ∧ w'.cell? ⟨w.heap.size, 2, none⟩ = some (.slice esa esn esc)) _ := ⟨hbR.cell 0 _ rfl, hbR.cell 2 _ rfl⟩
  (apply ord_held rfl rfl (by assumption) rfl; (focus ((intro w' hS'); go_simp; (try with_reducible rfl))); (try simp only [Act.put, List.setIfInBounds_toArray, List.set_cons_zero, List.set_cons_succ]))
  (apply ord_held rfl rfl (by assumption) rfl; (focus ((intro w' hS'); go_simp; (try with_reducible rfl))); (try simp only [Act.put, List.setIfInBounds_toArray, List.set_cons_zero, List.set_cons_succ]))
  (apply ord_held rfl rfl (by assumption) rfl; (focus ((intro w' hS'); go_simp; (try with_reducible rfl))); (try simp only [Act.put, List.setIfInBounds_toArray, List.set_cons_zero, List.set_cons_succ]))
  (apply ord_pass rfl rfl (by assumption) rfl; (try simp only [Act.put, List.setIfInBounds_toArray, List.set_cons_zero, List.set_cons_succ]))
  (apply ord_pass rfl rfl (by assumption) rfl; (try simp only [Act.put, List.setIfInBounds_toArray, List.set_cons_zero, List.set_cons_succ]))
  (apply ord_pass rfl rfl (by assumption) rfl; (try simp only [Act.put, List.setIfInBounds_toArray, List.set_cons_zero, List.set_cons_succ]))
  (apply ord_held rfl rfl (by assumption) rfl; (focus ((intro w' hS'); go_simp; (try with_reducible rfl))); (try simp only [Act.put, List.setIfInBounds_toArray, List.set_cons_zero, List.set_cons_succ]))
  (apply ord_held rfl rfl (by assumption) rfl; (focus ((intro w' hS'); go_simp; (try with_reducible rfl))); (try simp only [Act.put, List.setIfInBounds_toArray, List.set_cons_zero, List.set_cons_succ]))
  (apply ord_pass rfl rfl (by assumption) rfl; (try simp only [Act.put, List.setIfInBounds_toArray, List.set_cons_zero, List.set_cons_succ]))
  (apply ord_pass rfl rfl (by assumption) rfl; (try simp only [Act.put, List.setIfInBounds_toArray, List.set_cons_zero, List.set_cons_succ]))
  (apply ord_pass rfl rfl (by assumption) rfl; (try simp only [Act.put, List.setIfInBounds_toArray, List.set_cons_zero, List.set_cons_succ]))
  (apply ord_held rfl rfl (by assumption) rfl; (focus ((intro w' hS'); go_simp; (try with_reducible rfl))); (try simp only [Act.put, List.setIfInBounds_toArray, List.set_cons_zero, List.set_cons_succ]))
  (apply ord_held rfl rfl (by assumption) rfl; (focus ((intro w' hS'); go_simp; (try with_reducible rfl))); (try simp only [Act.put, List.setIfInBounds_toArray, List.set_cons_zero, List.set_cons_succ]))
  (apply ord_pass rfl rfl (by assumption) rfl; (try simp only [Act.put, List.setIfInBounds_toArray, List.set_cons_zero, List.set_cons_succ]))
  (apply ord_pass rfl rfl (by assumption) rfl; (try simp only [Act.put, List.setIfInBounds_toArray, List.set_cons_zero, List.set_cons_succ]))
  (apply ord_pass rfl rfl (by assumption) rfl; (try simp only [Act.put, List.setIfInBounds_toArray, List.set_cons_zero, List.set_cons_succ]))
  (apply ord_pass rfl rfl (by assumption) rfl; (try simp only [Act.put, List.setIfInBounds_toArray, List.set_cons_zero, List.set_cons_succ]))
  (apply ord_skip rfl rfl (by assumption) rfl; (try simp only [Act.put, List.setIfInBounds_toArray, List.set_cons_zero, List.set_cons_succ]))
  (apply ord_skip rfl rfl (by assumption) rfl; (try simp only [Act.put, List.setIfInBounds_toArray, List.set_cons_zero, List.set_cons_succ]))
  (apply ord_pass rfl rfl (by assumption) rfl; (try simp only [Act.put, List.setIfInBounds_toArray, List.set_cons_zero, List.set_cons_succ]))
  (apply ord_held rfl rfl (by assumption) rfl; (focus ((intro w' hS'); go_simp; (try with_reducible rfl))); (try simp only [Act.put, List.setIfInBounds_toArray, List.set_cons_zero, List.set_cons_succ]))
  (apply ord_held rfl rfl (by assumption) rfl; (focus ((intro w' hS'); go_simp; (try with_reducible rfl))); (try simp only [Act.put, List.setIfInBounds_toArray, List.set_cons_zero, List.set_cons_succ]))
  (apply ord_pass rfl rfl (by assumption) rfl; (try simp only [Act.put, List.setIfInBounds_toArray, List.set_cons_zero, List.set_cons_succ]))
  (apply ord_pass rfl rfl (by assumption) rfl; (try simp only [Act.put, List.setIfInBounds_toArray, List.set_cons_zero, List.set_cons_succ]))
  (apply ord_pass rfl rfl (by assumption) rfl; (try simp only [Act.put, List.setIfInBounds_toArray, List.set_cons_zero, List.set_cons_succ]))
  (apply ord_pass rfl rfl (by assumption) rfl; (try simp only [Act.put, List.setIfInBounds_toArray, List.set_cons_zero, List.set_cons_succ]))
  (apply ord_pass rfl rfl (by assumption) rfl; (try simp only [Act.put, List.setIfInBounds_toArray, List.set_cons_zero, List.set_cons_succ]))
  (apply ord_pass rfl rfl (by assumption) rfl; (try simp only [Act.put, List.setIfInBounds_toArray, List.set_cons_zero, List.set_cons_succ]))
  (apply ord_skip rfl rfl (by assumption) rfl; (try simp only [Act.put, List.setIfInBounds_toArray, List.set_cons_zero, List.set_cons_succ]))
  (apply ord_pass rfl rfl (by assumption) rfl; (try simp only [Act.put, List.setIfInBounds_toArray, List.set_cons_zero, List.set_cons_succ]))
  (apply ord_pass rfl rfl (by assumption) rfl; (try simp only [Act.put, List.setIfInBounds_toArray, List.set_cons_zero, List.set_cons_succ]))
  (apply ord_held rfl rfl (by assumption) rfl; (focus ((intro w' hS'); go_simp; (try with_reducible rfl))); (try simp only [Act.put, List.setIfInBounds_toArray, List.set_cons_zero, List.set_cons_succ]))
  refine ord_end ?_
  go_wp2_with fail
  go_ret
  exact ⟨false, rfl, (by intro h; cases h), by (repeat (first | exact ext_refl _ | assumption | refine ext_alloc ?_ _ | refine ext_drew ?_ | refine ext_set ?_ (by simp) _ | refine ext_trans ?_ (by assumption)))⟩
theorem fits_zero : ∀ r, Fit2 r 0
  | .mk k x ps ks ns rs => fits_zero_mk k x ps ks ns rs
set_option maxRecDepth 20000 in
set_option maxHeartbeats 8000000 in
theorem fits_low (n : Int) (hn1 : 1 ≤ n) (hn2 : n ≤ 1000) (k : Int) (x : ByteArray) (ps : List (ByteArray × T)) (ks : List Rl) (ns : List ByteArray) (rs : List Rl) (hk : k < 0) : Fit2 (.mk k x ps ks ns rs) n := by
  rintro S ⟨ek, ex, esa, esn, esc, eka, ekn, ekc, eva, evn, evc⟩ w h
  obtain ⟨h1, h2, hP, hK, hV⟩ := h.parts
  simp only at h1 h2 hP hK hV
  subst h1 h2
  have HP := Lib.hid fun (w1 : World) (x : Ext w w1) => hP.ext x
  have HKS := Lib.hid hK
  have HVS := Lib.hid hV
  have hkn : ekn ≤ 9223372036854775807 := by have h1 := hK.2.1; have h2 := hK.2.2.1; unfold maxLen at h2; omega
  have hvn : evn ≤ 9223372036854775807 := by have h1 := hV.2.2.1; have h2 := hV.2.2.2.1; unfold maxLen at h2; omega
  clear h hP hK hV
  simp only [Rv.val]
  go_enter Tryz.func7, Tryz.ntmps7
  go_upto_region 1 with fail
  have hbR : Box (w.alloc (.cells #[.int .i64 ek, .string ex, .slice esa esn esc, .slice eka ekn ekc, .slice eva evn evc] 29)) w.heap.size #[.int .i64 ek, .string ex, .slice esa esn esc, .slice eka ekn ekc, .slice eva evn evc] 29 := Box.at rfl _ _
  have hx0 : Ext w (w.alloc (.cells #[.int .i64 ek, .string ex, .slice esa esn esc, .slice eka ekn ekc, .slice eva evn evc] 29)) := ext_alloc (ext_refl _) _
  generalize (w.alloc (.cells #[.int .i64 ek, .string ex, .slice esa esn esc, .slice eka ekn ekc, .slice eva evn evc] 29)) = w0 at hbR hx0 ⊢
  have hxd : Ext w w0.drew := ext_drew hx0
  refine wp_region_order (fun (w' : World) => w'.cell? ⟨w.heap.size, 0, none⟩ = some (.int .i64 ek) ∧ w'.cell? ⟨w.heap.size, 2, none⟩ = some (.slice esa esn esc)) [0, 1, 2, 3, 4, 5, 6, 7, 8, 9, 10, 11, 12, 13, 14, 16, 17, 19, 20, 21, 22, 23, 24, 25, 26, 27, 29, 30, 31] [0, 1, 2, 3, 4, 5, 6, 7, 8, 9, 10, 11, 12, 13, 14, 16, 17, 15, 18, 19, 20, 21, 22, 23, 24, 25, 26, 27, 28, 29, 30, 31] (by kernel_rfl) (by kernel_rfl) (fun d _ _ _ _ h => by cases d <;> exact h) (by kernel_rfl) ?_
  have hS : (fun (w' : World) => w'.cell? ⟨w.heap.size, 0, none⟩ = some (.int .i64 ek) ∧ w'.cell? ⟨w.heap.size, 2, none⟩ = some (.slice esa esn esc)) _ := ⟨hbR.cell 0 _ rfl, hbR.cell 2 _ rfl⟩
  have hd0 : (n == 0) = false := by simp; omega
  have hdl : decide (ek < 0) = true := by simp; omega
  (apply ord_held rfl rfl (by assumption) rfl; (focus ((intro w' hS'); go_simp; (try with_reducible rfl))); (try simp only [Act.put, List.setIfInBounds_toArray, List.set_cons_zero, List.set_cons_succ]))
  (apply ord_held rfl rfl (by assumption) rfl; (focus ((intro w' hS'); go_simp; (try with_reducible rfl))); (try simp only [Act.put, List.setIfInBounds_toArray, List.set_cons_zero, List.set_cons_succ]))
  try simp only [hd0]
  (apply ord_held rfl rfl (by assumption) rfl; (focus ((intro w' hS'); go_simp; (try with_reducible rfl))); (try simp only [Act.put, List.setIfInBounds_toArray, List.set_cons_zero, List.set_cons_succ]))
  (apply ord_guard rfl rfl (by assumption) rfl; (focus ((intro w' hS'); go_simp; (try with_reducible rfl))); (try simp only [Act.put, List.setIfInBounds_toArray, List.set_cons_zero, List.set_cons_succ]))
  (apply ord_guard rfl rfl (by assumption) rfl; (focus ((intro w' hS'); go_simp; (try with_reducible rfl))); (try simp only [Act.put, List.setIfInBounds_toArray, List.set_cons_zero, List.set_cons_succ]))
  (apply ord_guard rfl rfl (by assumption) rfl; (focus ((intro w' hS'); go_simp; (try with_reducible rfl))); (try simp only [Act.put, List.setIfInBounds_toArray, List.set_cons_zero, List.set_cons_succ]))
  try simp only [hdl]
  (apply ord_held rfl rfl (by assumption) rfl; (focus ((intro w' hS'); go_simp; (try with_reducible rfl))); (try simp only [Act.put, List.setIfInBounds_toArray, List.set_cons_zero, List.set_cons_succ]))
  (apply ord_held rfl rfl (by assumption) rfl; (focus ((intro w' hS'); go_simp; (try with_reducible rfl))); (try simp only [Act.put, List.setIfInBounds_toArray, List.set_cons_zero, List.set_cons_succ]))
  (apply ord_pass rfl rfl (by assumption) rfl; (try simp only [Act.put, List.setIfInBounds_toArray, List.set_cons_zero, List.set_cons_succ]))
  (apply ord_pass rfl rfl (by assumption) rfl; (try simp only [Act.put, List.setIfInBounds_toArray, List.set_cons_zero, List.set_cons_succ]))
  (apply ord_pass rfl rfl (by assumption) rfl; (try simp only [Act.put, List.setIfInBounds_toArray, List.set_cons_zero, List.set_cons_succ]))
  (apply ord_held rfl rfl (by assumption) rfl; (focus ((intro w' hS'); go_simp; (try with_reducible rfl))); (try simp only [Act.put, List.setIfInBounds_toArray, List.set_cons_zero, List.set_cons_succ]))
  (apply ord_held rfl rfl (by assumption) rfl; (focus ((intro w' hS'); go_simp; (try with_reducible rfl))); (try simp only [Act.put, List.setIfInBounds_toArray, List.set_cons_zero, List.set_cons_succ]))
  (apply ord_pass rfl rfl (by assumption) rfl; (try simp only [Act.put, List.setIfInBounds_toArray, List.set_cons_zero, List.set_cons_succ]))
  (apply ord_pass rfl rfl (by assumption) rfl; (try simp only [Act.put, List.setIfInBounds_toArray, List.set_cons_zero, List.set_cons_succ]))
  (apply ord_pass rfl rfl (by assumption) rfl; (try simp only [Act.put, List.setIfInBounds_toArray, List.set_cons_zero, List.set_cons_succ]))
  (apply ord_pass rfl rfl (by assumption) rfl; (try simp only [Act.put, List.setIfInBounds_toArray, List.set_cons_zero, List.set_cons_succ]))
  (apply ord_skip rfl rfl (by assumption) rfl; (try simp only [Act.put, List.setIfInBounds_toArray, List.set_cons_zero, List.set_cons_succ]))
  (apply ord_skip rfl rfl (by assumption) rfl; (try simp only [Act.put, List.setIfInBounds_toArray, List.set_cons_zero, List.set_cons_succ]))
  (apply ord_pass rfl rfl (by assumption) rfl; (try simp only [Act.put, List.setIfInBounds_toArray, List.set_cons_zero, List.set_cons_succ]))
  (apply ord_held rfl rfl (by assumption) rfl; (focus ((intro w' hS'); go_simp; (try with_reducible rfl))); (try simp only [Act.put, List.setIfInBounds_toArray, List.set_cons_zero, List.set_cons_succ]))
  (apply ord_held rfl rfl (by assumption) rfl; (focus ((intro w' hS'); go_simp; (try with_reducible rfl))); (try simp only [Act.put, List.setIfInBounds_toArray, List.set_cons_zero, List.set_cons_succ]))
  (apply ord_pass rfl rfl (by assumption) rfl; (try simp only [Act.put, List.setIfInBounds_toArray, List.set_cons_zero, List.set_cons_succ]))
  (apply ord_pass rfl rfl (by assumption) rfl; (try simp only [Act.put, List.setIfInBounds_toArray, List.set_cons_zero, List.set_cons_succ]))
  (apply ord_pass rfl rfl (by assumption) rfl; (try simp only [Act.put, List.setIfInBounds_toArray, List.set_cons_zero, List.set_cons_succ]))
  (apply ord_pass rfl rfl (by assumption) rfl; (try simp only [Act.put, List.setIfInBounds_toArray, List.set_cons_zero, List.set_cons_succ]))
  (apply ord_pass rfl rfl (by assumption) rfl; (try simp only [Act.put, List.setIfInBounds_toArray, List.set_cons_zero, List.set_cons_succ]))
  (apply ord_pass rfl rfl (by assumption) rfl; (try simp only [Act.put, List.setIfInBounds_toArray, List.set_cons_zero, List.set_cons_succ]))
  (apply ord_skip rfl rfl (by assumption) rfl; (try simp only [Act.put, List.setIfInBounds_toArray, List.set_cons_zero, List.set_cons_succ]))
  (apply ord_pass rfl rfl (by assumption) rfl; (try simp only [Act.put, List.setIfInBounds_toArray, List.set_cons_zero, List.set_cons_succ]))
  (apply ord_pass rfl rfl (by assumption) rfl; (try simp only [Act.put, List.setIfInBounds_toArray, List.set_cons_zero, List.set_cons_succ]))
  (apply ord_held rfl rfl (by assumption) rfl; (focus ((intro w' hS'); go_simp; (try with_reducible rfl))); (try simp only [Act.put, List.setIfInBounds_toArray, List.set_cons_zero, List.set_cons_succ]))
  refine ord_end ?_
  go_wp2_with fail
  go_ret
  exact ⟨false, rfl, (by intro h; cases h), by (repeat (first | exact ext_refl _ | assumption | refine ext_alloc ?_ _ | refine ext_drew ?_ | refine ext_set ?_ (by simp) _ | refine ext_trans ?_ (by assumption)))⟩
set_option maxRecDepth 20000 in
set_option maxHeartbeats 8000000 in
theorem fits_high (n : Int) (hn1 : 1 ≤ n) (hn2 : n ≤ 1000) (k : Int) (x : ByteArray) (ps : List (ByteArray × T)) (ks : List Rl) (ns : List ByteArray) (rs : List Rl) (hk : 5 < k) : Fit2 (.mk k x ps ks ns rs) n := by
  rintro S ⟨ek, ex, esa, esn, esc, eka, ekn, ekc, eva, evn, evc⟩ w h
  obtain ⟨h1, h2, hP, hK, hV⟩ := h.parts
  simp only at h1 h2 hP hK hV
  subst h1 h2
  have HP := Lib.hid fun (w1 : World) (x : Ext w w1) => hP.ext x
  have HKS := Lib.hid hK
  have HVS := Lib.hid hV
  have hkn : ekn ≤ 9223372036854775807 := by have h1 := hK.2.1; have h2 := hK.2.2.1; unfold maxLen at h2; omega
  have hvn : evn ≤ 9223372036854775807 := by have h1 := hV.2.2.1; have h2 := hV.2.2.2.1; unfold maxLen at h2; omega
  clear h hP hK hV
  simp only [Rv.val]
  go_enter Tryz.func7, Tryz.ntmps7
  go_upto_region 1 with fail
  have hbR : Box (w.alloc (.cells #[.int .i64 ek, .string ex, .slice esa esn esc, .slice eka ekn ekc, .slice eva evn evc] 29)) w.heap.size #[.int .i64 ek, .string ex, .slice esa esn esc, .slice eka ekn ekc, .slice eva evn evc] 29 := Box.at rfl _ _
  have hx0 : Ext w (w.alloc (.cells #[.int .i64 ek, .string ex, .slice esa esn esc, .slice eka ekn ekc, .slice eva evn evc] 29)) := ext_alloc (ext_refl _) _
  generalize (w.alloc (.cells #[.int .i64 ek, .string ex, .slice esa esn esc, .slice eka ekn ekc, .slice eva evn evc] 29)) = w0 at hbR hx0 ⊢
  have hxd : Ext w w0.drew := ext_drew hx0
  refine wp_region_order (fun (w' : World) => w'.cell? ⟨w.heap.size, 0, none⟩ = some (.int .i64 ek) ∧ w'.cell? ⟨w.heap.size, 2, none⟩ = some (.slice esa esn esc)) [0, 1, 2, 3, 4, 5, 6, 7, 8, 9, 10, 11, 12, 13, 14, 16, 17, 19, 20, 21, 22, 23, 24, 25, 26, 27, 29, 30, 31] [0, 1, 2, 3, 4, 5, 6, 7, 8, 9, 10, 11, 12, 13, 14, 16, 17, 15, 18, 19, 20, 21, 22, 23, 24, 25, 26, 27, 28, 29, 30, 31] (by kernel_rfl) (by kernel_rfl) (fun d _ _ _ _ h => by cases d <;> exact h) (by kernel_rfl) ?_
  have hS : (fun (w' : World) => w'.cell? ⟨w.heap.size, 0, none⟩ = some (.int .i64 ek) ∧ w'.cell? ⟨w.heap.size, 2, none⟩ = some (.slice esa esn esc)) _ := ⟨hbR.cell 0 _ rfl, hbR.cell 2 _ rfl⟩
  have hd0 : (n == 0) = false := by simp; omega
  have hdl : decide (ek < 0) = false := by simp; omega
  have hdh : decide (5 < ek) = true := by simp; omega
  have hdg : decide (ek > 5) = true := by simp; omega
  (apply ord_held rfl rfl (by assumption) rfl; (focus ((intro w' hS'); go_simp; (try with_reducible rfl))); (try simp only [Act.put, List.setIfInBounds_toArray, List.set_cons_zero, List.set_cons_succ]))
  (apply ord_held rfl rfl (by assumption) rfl; (focus ((intro w' hS'); go_simp; (try with_reducible rfl))); (try simp only [Act.put, List.setIfInBounds_toArray, List.set_cons_zero, List.set_cons_succ]))
  try simp only [hd0]
  (apply ord_held rfl rfl (by assumption) rfl; (focus ((intro w' hS'); go_simp; (try with_reducible rfl))); (try simp only [Act.put, List.setIfInBounds_toArray, List.set_cons_zero, List.set_cons_succ]))
  (apply ord_guard rfl rfl (by assumption) rfl; (focus ((intro w' hS'); go_simp; (try with_reducible rfl))); (try simp only [Act.put, List.setIfInBounds_toArray, List.set_cons_zero, List.set_cons_succ]))
  (apply ord_guard rfl rfl (by assumption) rfl; (focus ((intro w' hS'); go_simp; (try with_reducible rfl))); (try simp only [Act.put, List.setIfInBounds_toArray, List.set_cons_zero, List.set_cons_succ]))
  (apply ord_guard rfl rfl (by assumption) rfl; (focus ((intro w' hS'); go_simp; (try with_reducible rfl))); (try simp only [Act.put, List.setIfInBounds_toArray, List.set_cons_zero, List.set_cons_succ]))
  try simp only [hdl]
  (apply ord_held rfl rfl (by assumption) rfl; (focus ((intro w' hS'); go_simp; (try with_reducible rfl))); (try simp only [Act.put, List.setIfInBounds_toArray, List.set_cons_zero, List.set_cons_succ]))
  (apply ord_held rfl rfl (by assumption) rfl; (focus ((intro w' hS'); go_simp; (try with_reducible rfl))); (try simp only [Act.put, List.setIfInBounds_toArray, List.set_cons_zero, List.set_cons_succ]))
  (apply ord_guard rfl rfl (by assumption) rfl; (focus ((intro w' hS'); go_simp; (try with_reducible rfl))); (try simp only [Act.put, List.setIfInBounds_toArray, List.set_cons_zero, List.set_cons_succ]))
  (apply ord_guard rfl rfl (by assumption) rfl; (focus ((intro w' hS'); go_simp; (try with_reducible rfl))); (try simp only [Act.put, List.setIfInBounds_toArray, List.set_cons_zero, List.set_cons_succ]))
  (apply ord_guard rfl rfl (by assumption) rfl; (focus ((intro w' hS'); go_simp; (try with_reducible rfl))); (try simp only [Act.put, List.setIfInBounds_toArray, List.set_cons_zero, List.set_cons_succ]))
  try simp only [hdh, hdg]
  (apply ord_held rfl rfl (by assumption) rfl; (focus ((intro w' hS'); go_simp; (try with_reducible rfl))); (try simp only [Act.put, List.setIfInBounds_toArray, List.set_cons_zero, List.set_cons_succ]))
  (apply ord_held rfl rfl (by assumption) rfl; (focus ((intro w' hS'); go_simp; (try with_reducible rfl))); (try simp only [Act.put, List.setIfInBounds_toArray, List.set_cons_zero, List.set_cons_succ]))
  (apply ord_pass rfl rfl (by assumption) rfl; (try simp only [Act.put, List.setIfInBounds_toArray, List.set_cons_zero, List.set_cons_succ]))
  (apply ord_pass rfl rfl (by assumption) rfl; (try simp only [Act.put, List.setIfInBounds_toArray, List.set_cons_zero, List.set_cons_succ]))
  (apply ord_pass rfl rfl (by assumption) rfl; (try simp only [Act.put, List.setIfInBounds_toArray, List.set_cons_zero, List.set_cons_succ]))
  (apply ord_pass rfl rfl (by assumption) rfl; (try simp only [Act.put, List.setIfInBounds_toArray, List.set_cons_zero, List.set_cons_succ]))
  (apply ord_skip rfl rfl (by assumption) rfl; (try simp only [Act.put, List.setIfInBounds_toArray, List.set_cons_zero, List.set_cons_succ]))
  (apply ord_skip rfl rfl (by assumption) rfl; (try simp only [Act.put, List.setIfInBounds_toArray, List.set_cons_zero, List.set_cons_succ]))
  (apply ord_pass rfl rfl (by assumption) rfl; (try simp only [Act.put, List.setIfInBounds_toArray, List.set_cons_zero, List.set_cons_succ]))
  (apply ord_held rfl rfl (by assumption) rfl; (focus ((intro w' hS'); go_simp; (try with_reducible rfl))); (try simp only [Act.put, List.setIfInBounds_toArray, List.set_cons_zero, List.set_cons_succ]))
  (apply ord_held rfl rfl (by assumption) rfl; (focus ((intro w' hS'); go_simp; (try with_reducible rfl))); (try simp only [Act.put, List.setIfInBounds_toArray, List.set_cons_zero, List.set_cons_succ]))
  (apply ord_pass rfl rfl (by assumption) rfl; (try simp only [Act.put, List.setIfInBounds_toArray, List.set_cons_zero, List.set_cons_succ]))
  (apply ord_pass rfl rfl (by assumption) rfl; (try simp only [Act.put, List.setIfInBounds_toArray, List.set_cons_zero, List.set_cons_succ]))
  (apply ord_pass rfl rfl (by assumption) rfl; (try simp only [Act.put, List.setIfInBounds_toArray, List.set_cons_zero, List.set_cons_succ]))
  (apply ord_pass rfl rfl (by assumption) rfl; (try simp only [Act.put, List.setIfInBounds_toArray, List.set_cons_zero, List.set_cons_succ]))
  (apply ord_pass rfl rfl (by assumption) rfl; (try simp only [Act.put, List.setIfInBounds_toArray, List.set_cons_zero, List.set_cons_succ]))
  (apply ord_pass rfl rfl (by assumption) rfl; (try simp only [Act.put, List.setIfInBounds_toArray, List.set_cons_zero, List.set_cons_succ]))
  (apply ord_skip rfl rfl (by assumption) rfl; (try simp only [Act.put, List.setIfInBounds_toArray, List.set_cons_zero, List.set_cons_succ]))
  (apply ord_pass rfl rfl (by assumption) rfl; (try simp only [Act.put, List.setIfInBounds_toArray, List.set_cons_zero, List.set_cons_succ]))
  (apply ord_pass rfl rfl (by assumption) rfl; (try simp only [Act.put, List.setIfInBounds_toArray, List.set_cons_zero, List.set_cons_succ]))
  (apply ord_held rfl rfl (by assumption) rfl; (focus ((intro w' hS'); go_simp; (try with_reducible rfl))); (try simp only [Act.put, List.setIfInBounds_toArray, List.set_cons_zero, List.set_cons_succ]))
  refine ord_end ?_
  go_wp2_with fail
  go_ret
  exact ⟨false, rfl, (by intro h; cases h), by (repeat (first | exact ext_refl _ | assumption | refine ext_alloc ?_ _ | refine ext_drew ?_ | refine ext_set ?_ (by simp) _ | refine ext_trans ?_ (by assumption)))⟩
end Go.Proofs.YtdjojnlejkljdaaGreat

namespace Go.Proofs.YtdjojnlejkljdaaGreat
open Go.RowKit

set_option maxRecDepth 20000 in
set_option maxHeartbeats 8000000 in
theorem fits_0 (n : Int) (hn1 : 1 ≤ n) (hn2 : n ≤ 1000) (ih : ∀ r, Fit2 r (n - 1)) (x : ByteArray) (ps : List (ByteArray × T)) (ks : List Rl) (ns : List ByteArray) (rs : List Rl) : Fit2 (.mk 0 x ps ks ns rs) n := by
  rintro S ⟨ek, ex, esa, esn, esc, eka, ekn, ekc, eva, evn, evc⟩ w h
  obtain ⟨h1, h2, hP, hK, hV⟩ := h.parts
  simp only at h1 h2 hP hK hV
  subst h1 h2
  have HP := Lib.hid fun (w1 : World) (x : Ext w w1) => hP.ext x
  have HKS := Lib.hid hK
  have HVS := Lib.hid hV
  have hkn : ekn ≤ 9223372036854775807 := by have h1 := hK.2.1; have h2 := hK.2.2.1; unfold maxLen at h2; omega
  have hvn : evn ≤ 9223372036854775807 := by have h1 := hV.2.2.1; have h2 := hV.2.2.2.1; unfold maxLen at h2; omega
  clear h hP hK hV
  simp only [Rv.val]
  go_enter Tryz.func7, Tryz.ntmps7
  go_upto_region 1 with fail
  have hbR : Box (w.alloc (.cells #[.int .i64 0, .string ex, .slice esa esn esc, .slice eka ekn ekc, .slice eva evn evc] 29)) w.heap.size #[.int .i64 0, .string ex, .slice esa esn esc, .slice eka ekn ekc, .slice eva evn evc] 29 := Box.at rfl _ _
  have hx0 : Ext w (w.alloc (.cells #[.int .i64 0, .string ex, .slice esa esn esc, .slice eka ekn ekc, .slice eva evn evc] 29)) := ext_alloc (ext_refl _) _
  generalize (w.alloc (.cells #[.int .i64 0, .string ex, .slice esa esn esc, .slice eka ekn ekc, .slice eva evn evc] 29)) = w0 at hbR hx0 ⊢
  have hxd : Ext w w0.drew := ext_drew hx0
  refine wp_region_order (fun (w' : World) => w'.cell? ⟨w.heap.size, 0, none⟩ = some (.int .i64 0) ∧ w'.cell? ⟨w.heap.size, 2, none⟩ = some (.slice esa esn esc)) [0, 1, 2, 3, 4, 5, 6, 7, 8, 9, 10, 11, 12, 13, 14, 16, 17, 19, 20, 21, 22, 23, 24, 25, 26, 27, 29, 30, 31] [0, 1, 2, 3, 4, 5, 6, 7, 8, 9, 10, 11, 12, 13, 14, 16, 17, 15, 18, 19, 20, 21, 22, 23, 24, 25, 26, 27, 28, 29, 30, 31] (by kernel_rfl) (by kernel_rfl) (fun d _ _ _ _ h => by cases d <;> exact h) (by kernel_rfl) ?_
  have hS : (fun (w' : World) => w'.cell? ⟨w.heap.size, 0, none⟩ = some (.int .i64 0) ∧ w'.cell? ⟨w.heap.size, 2, none⟩ = some (.slice esa esn esc)) _ := ⟨hbR.cell 0 _ rfl, hbR.cell 2 _ rfl⟩
  have HI := Lib.hid ih
  clear ih
  have hwr : IntKind.i64.wrap (n - 1) = n - 1 := IntWalk.i64_in _ (by omega)
  have hd0 : (n == 0) = false := by simp; omega
  (apply ord_held rfl rfl (by assumption) rfl; (focus ((intro w' hS'); go_simp; (try with_reducible rfl))); (try simp only [Act.put, List.setIfInBounds_toArray, List.set_cons_zero, List.set_cons_succ]))
  (apply ord_held rfl rfl (by assumption) rfl; (focus ((intro w' hS'); go_simp; (try with_reducible rfl))); (try simp only [Act.put, List.setIfInBounds_toArray, List.set_cons_zero, List.set_cons_succ]))
  try simp only [hd0]
  (apply ord_held rfl rfl (by assumption) rfl; (focus ((intro w' hS'); go_simp; (try with_reducible rfl))); (try simp only [Act.put, List.setIfInBounds_toArray, List.set_cons_zero, List.set_cons_succ]))
  (apply ord_guard rfl rfl (by assumption) rfl; (focus ((intro w' hS'); go_simp; (try with_reducible rfl))); (try simp only [Act.put, List.setIfInBounds_toArray, List.set_cons_zero, List.set_cons_succ]))
  (apply ord_guard rfl rfl (by assumption) rfl; (focus ((intro w' hS'); go_simp; (try with_reducible rfl))); (try simp only [Act.put, List.setIfInBounds_toArray, List.set_cons_zero, List.set_cons_succ]))
  (apply ord_guard rfl rfl (by assumption) rfl; (focus ((intro w' hS'); go_simp; (try with_reducible rfl))); (try simp only [Act.put, List.setIfInBounds_toArray, List.set_cons_zero, List.set_cons_succ]))
  (apply ord_held rfl rfl (by assumption) rfl; (focus ((intro w' hS'); go_simp; (try with_reducible rfl))); (try simp only [Act.put, List.setIfInBounds_toArray, List.set_cons_zero, List.set_cons_succ]))
  (apply ord_held rfl rfl (by assumption) rfl; (focus ((intro w' hS'); go_simp; (try with_reducible rfl))); (try simp only [Act.put, List.setIfInBounds_toArray, List.set_cons_zero, List.set_cons_succ]))
  (apply ord_guard rfl rfl (by assumption) rfl; (focus ((intro w' hS'); go_simp; (try with_reducible rfl))); (try simp only [Act.put, List.setIfInBounds_toArray, List.set_cons_zero, List.set_cons_succ]))
  (apply ord_guard rfl rfl (by assumption) rfl; (focus ((intro w' hS'); go_simp; (try with_reducible rfl))); (try simp only [Act.put, List.setIfInBounds_toArray, List.set_cons_zero, List.set_cons_succ]))
  (apply ord_guard rfl rfl (by assumption) rfl; (focus ((intro w' hS'); go_simp; (try with_reducible rfl))); (try simp only [Act.put, List.setIfInBounds_toArray, List.set_cons_zero, List.set_cons_succ]))
  (apply ord_held rfl rfl (by assumption) rfl; (focus ((intro w' hS'); go_simp; (try with_reducible rfl))); (try simp only [Act.put, List.setIfInBounds_toArray, List.set_cons_zero, List.set_cons_succ]))
  (apply ord_held rfl rfl (by assumption) rfl; (focus ((intro w' hS'); go_simp; (try with_reducible rfl))); (try simp only [Act.put, List.setIfInBounds_toArray, List.set_cons_zero, List.set_cons_succ]))
  (apply ord_guard rfl rfl (by assumption) rfl; (focus ((intro w' hS'); go_simp; (try with_reducible rfl))); (try simp only [Act.put, List.setIfInBounds_toArray, List.set_cons_zero, List.set_cons_succ]))
  (apply ord_guard rfl rfl (by assumption) rfl; (focus ((intro w' hS'); go_simp; (try with_reducible rfl))); (try simp only [Act.put, List.setIfInBounds_toArray, List.set_cons_zero, List.set_cons_succ]))
  (apply ord_guard rfl rfl (by assumption) rfl; (focus ((intro w' hS'); go_simp; (try with_reducible rfl))); (try simp only [Act.put, List.setIfInBounds_toArray, List.set_cons_zero, List.set_cons_succ]))
  (apply ord_guard rfl rfl (by assumption) rfl; (focus ((intro w' hS'); go_simp; (try with_reducible rfl))); (try simp only [Act.put, List.setIfInBounds_toArray, List.set_cons_zero, List.set_cons_succ]))
  (apply ord_want rfl rfl rfl; intro K hK; go_simp)
  refine (ruleTable_any 0 _).mono ?_
  rintro r w9 ⟨rfl, hw9⟩
  rw [hw9]
  clear hw9
  refine hK _ _ (fun _ => hS) ?_
  clear hK K
  (try simp only [Act.put, List.setIfInBounds_toArray, List.set_cons_zero, List.set_cons_succ])
  (apply ord_want rfl rfl rfl; intro K hK; go_simp)
  refine (fitsR_any (S := S) 0 _ _ _ ps w0.drew (HP.out _ hxd)).mono ?_
  rintro r w1 ⟨b1, rfl, hb1, hx1⟩
  have hS1 : (fun (w' : World) => w'.cell? ⟨w.heap.size, 0, none⟩ = some (.int .i64 0) ∧ w'.cell? ⟨w.heap.size, 2, none⟩ = some (.slice esa esn esc)) w1 := ⟨hx1.cell hS.1, hx1.cell hS.2⟩
  refine hK _ _ (fun _ => hS1) ?_
  clear hK K
  (try simp only [Act.put, List.setIfInBounds_toArray, List.set_cons_zero, List.set_cons_succ])
  have hxw1 : Ext w w1 := ext_trans hxd hx1
  have hbR1 := hbR.drew.ext hx1
  have HB1 := Lib.hid hb1
  clear hb1 hS
  cases b1
  case false =>
    (apply ord_guard rfl rfl (by assumption) rfl; (focus ((intro w' hS'); go_simp; (try with_reducible rfl))); (try simp only [Act.put, List.setIfInBounds_toArray, List.set_cons_zero, List.set_cons_succ]))
    (apply ord_held rfl rfl (by assumption) rfl; (focus ((intro w' hS'); go_simp; (try with_reducible rfl))); (try simp only [Act.put, List.setIfInBounds_toArray, List.set_cons_zero, List.set_cons_succ]))
    (apply ord_held rfl rfl (by assumption) rfl; (focus ((intro w' hS'); go_simp; (try with_reducible rfl))); (try simp only [Act.put, List.setIfInBounds_toArray, List.set_cons_zero, List.set_cons_succ]))
    (apply ord_pass rfl rfl (by assumption) rfl; (try simp only [Act.put, List.setIfInBounds_toArray, List.set_cons_zero, List.set_cons_succ]))
    (apply ord_pass rfl rfl (by assumption) rfl; (try simp only [Act.put, List.setIfInBounds_toArray, List.set_cons_zero, List.set_cons_succ]))
    (apply ord_pass rfl rfl (by assumption) rfl; (try simp only [Act.put, List.setIfInBounds_toArray, List.set_cons_zero, List.set_cons_succ]))
    (apply ord_pass rfl rfl (by assumption) rfl; (try simp only [Act.put, List.setIfInBounds_toArray, List.set_cons_zero, List.set_cons_succ]))
    (apply ord_pass rfl rfl (by assumption) rfl; (try simp only [Act.put, List.setIfInBounds_toArray, List.set_cons_zero, List.set_cons_succ]))
    (apply ord_pass rfl rfl (by assumption) rfl; (try simp only [Act.put, List.setIfInBounds_toArray, List.set_cons_zero, List.set_cons_succ]))
    (apply ord_skip rfl rfl (by assumption) rfl; (try simp only [Act.put, List.setIfInBounds_toArray, List.set_cons_zero, List.set_cons_succ]))
    (apply ord_pass rfl rfl (by assumption) rfl; (try simp only [Act.put, List.setIfInBounds_toArray, List.set_cons_zero, List.set_cons_succ]))
    (apply ord_pass rfl rfl (by assumption) rfl; (try simp only [Act.put, List.setIfInBounds_toArray, List.set_cons_zero, List.set_cons_succ]))
    (apply ord_held rfl rfl (by assumption) rfl; (focus ((intro w' hS'); go_simp; (try with_reducible rfl))); (try simp only [Act.put, List.setIfInBounds_toArray, List.set_cons_zero, List.set_cons_succ]))
    refine ord_end ?_
    go_wp2_with fail
    go_ret
    exact ⟨false, rfl, (by intro h; cases h), by (repeat (first | exact ext_refl _ | assumption | refine ext_alloc ?_ _ | refine ext_drew ?_ | refine ext_set ?_ (by simp) _ | refine ext_trans ?_ (by assumption)))⟩
  (apply ord_guard rfl rfl (by assumption) rfl; (focus ((intro w' hS'); go_simp; (try with_reducible rfl))); (try simp only [Act.put, List.setIfInBounds_toArray, List.set_cons_zero, List.set_cons_succ]))
  (apply ord_held rfl rfl (by assumption) rfl; (focus ((intro w' hS'); go_simp; (try with_reducible rfl))); (try simp only [Act.put, List.setIfInBounds_toArray, List.set_cons_zero, List.set_cons_succ]))
  (apply ord_held rfl rfl (by assumption) rfl; (focus ((intro w' hS'); go_simp; (try with_reducible rfl))); (try simp only [Act.put, List.setIfInBounds_toArray, List.set_cons_zero, List.set_cons_succ]))
  (apply ord_guard rfl rfl (by assumption) rfl; (focus ((intro w' hS'); go_simp; (try with_reducible rfl))); (try simp only [Act.put, List.setIfInBounds_toArray, List.set_cons_zero, List.set_cons_succ]))
  (apply ord_guard rfl rfl (by assumption) rfl; (focus ((intro w' hS'); go_simp; (try with_reducible rfl))); (try simp only [Act.put, List.setIfInBounds_toArray, List.set_cons_zero, List.set_cons_succ]))
  (apply ord_guard rfl rfl (by assumption) rfl; (focus ((intro w' hS'); go_simp; (try with_reducible rfl))); (try simp only [Act.put, List.setIfInBounds_toArray, List.set_cons_zero, List.set_cons_succ]))
  (apply ord_guard rfl rfl (by assumption) rfl; (focus ((intro w' hS'); go_simp; (try with_reducible rfl))); (try simp only [Act.put, List.setIfInBounds_toArray, List.set_cons_zero, List.set_cons_succ]))
  (apply ord_pass rfl rfl (by assumption) rfl; (try simp only [Act.put, List.setIfInBounds_toArray, List.set_cons_zero, List.set_cons_succ]))
  (apply ord_pass rfl rfl (by assumption) rfl; (try simp only [Act.put, List.setIfInBounds_toArray, List.set_cons_zero, List.set_cons_succ]))
  (apply ord_skip rfl rfl (by assumption) rfl; (try simp only [Act.put, List.setIfInBounds_toArray, List.set_cons_zero, List.set_cons_succ]))
  (apply ord_pass rfl rfl (by assumption) rfl; (try simp only [Act.put, List.setIfInBounds_toArray, List.set_cons_zero, List.set_cons_succ]))
  (apply ord_guard rfl rfl (by assumption) rfl; (focus ((intro w' hS'); go_simp; (try with_reducible rfl))); (try simp only [Act.put, List.setIfInBounds_toArray, List.set_cons_zero, List.set_cons_succ]))
  (apply ord_held rfl rfl (by assumption) rfl; (focus ((intro w' hS'); go_simp; (try with_reducible rfl))); (try simp only [Act.put, List.setIfInBounds_toArray, List.set_cons_zero, List.set_cons_succ]))
  refine ord_end ?_
  have hxL : Ext w w1 := hxw1
  have hbL := hbR1
  have k1 := hbL.cell 1 _ rfl
  have k3 := hbL.cell 3 _ rfl
  have k4 := hbL.cell 4 _ rfl
  by_cases hk0 : 0 < ekn
  case pos =>
    go_wp2_with fail
    all_goals (go_ret; exact ⟨false, rfl, (by intro h; cases h), by (repeat (first | exact ext_refl _ | assumption | refine ext_alloc ?_ _ | refine ext_drew ?_ | refine ext_set ?_ (by simp) _ | refine ext_trans ?_ (by assumption)))⟩)
  cases hE : ex.toList.isEmpty
  case true =>
    go_wp2_with fail
    all_goals (go_ret; exact ⟨false, rfl, (by intro h; cases h), by (repeat (first | exact ext_refl _ | assumption | refine ext_alloc ?_ _ | refine ext_drew ?_ | refine ext_set ?_ (by simp) _ | refine ext_trans ?_ (by assumption)))⟩)
  go_wp2_with fail
  go_loopw [6] (fun i wr => Ext w wr ∧ Box wr w.heap.size #[.int .i64 0, .string ex, .slice esa esn esc, .slice eka ekn ekc, .slice eva evn evc] 29 ∧ ∃ j : Nat, j ≤ ekn ∧ i = .int .i64 j ∧ ∀ r ∈ ks.take j, FitR r) (fun i _ => ekn - (intOf i).toNat)
  case atStart => exact ⟨hxL, hbL, 0, Nat.zero_le _, rfl, by simp⟩
  case round =>
    obtain ⟨hx, hbr, j, hj, rfl, hfk⟩ := hrel
    have HFK := Lib.hid hfk
    clear hfk
    have k3 := hbr.cell 3 _ rfl
    by_cases hlt : j < ekn
    case pos => omega
    have hjn : j = ekn := by omega
    have HFK2 := Lib.hid (show ∀ r ∈ ks, FitR r by
      have h1 := HFK.out
      rw [List.take_of_length_le (by have := HKS.out.1; omega)] at h1
      exact h1)
    clear HFK hjn
    have k4 := hbr.cell 4 _ rfl
    go_wp2_with fail
    go_loopw [7] (fun i wr => Ext w wr ∧ Box wr w.heap.size #[.int .i64 0, .string ex, .slice esa esn esc, .slice eka ekn ekc, .slice eva evn evc] 29 ∧ ∃ j : Nat, j ≤ evn ∧ i = .int .i64 j ∧ (∀ nm ∈ ns.take j, nm ∈ sieveNames) ∧ ∀ r ∈ rs.take j, FitR r) (fun i _ => evn - (intOf i).toNat)
    case atStart => exact ⟨hx, hbr, 0, Nat.zero_le _, rfl, by simp, by simp⟩
    case round =>
      clear hx hbr k3 k4 hj hlt
      obtain ⟨hx, hbr, j, hj, rfl, hfn, hfk⟩ := hrel
      have HFN := Lib.hid hfn
      have HFK := Lib.hid hfk
      clear hfk hfn
      have k4 := hbr.cell 4 _ rfl
      by_cases hlt : j < evn
      case pos =>
        obtain ⟨hl, hnl, -, -, hnm, hrr⟩ := HVS.out
        obtain ⟨nm, hnj⟩ := some_of_lt hnl hlt
        obtain ⟨r0, hr0⟩ := some_of_lt hl hlt
        obtain ⟨b, off, rfl, -, hcn⟩ := hnm j nm hnj
        obtain ⟨b', off', e, hbe, -, hrc, hra⟩ := hrr.get hr0
        cases hbe
        rw [Nat.zero_add] at hrc
        have z0 := hx.cell hcn
        have hrc := RCells.ext hx hrc
        have hRu := Lib.hid (fun (w1 : World) (x : Ext w w1) => HI.out r0 S _ w1 (RuleAt.ext x hra))
        have HZ := Lib.hid hr0
        have HN := Lib.hid hnj
        clear hra hr0 hcn hnj hl hnl hnm hrr
        obtain ⟨rk, rx, rsa, rsn, rsc, rka, rkn, rkc, rva, rvn, rvc⟩ := e
        go_upto_region 14 with fail
        refine wp_region_order (fun (w' : World) => w'.cell? ⟨w.heap.size, 4, none⟩ = some (.slice (some ⟨b, off, none⟩) evn evc) ∧ w'.cell? ⟨b, off + j * 6, none⟩ = some (.string nm) ∧ RCells w' b (off + j * 6 + 1) (⟨rk, rx, rsa, rsn, rsc, rka, rkn, rkc, rva, rvn, rvc⟩ : Rv)) [1, 2, 3, 4, 5, 6, 8, 9, 10, 11, 12, 13, 14, 15, 16, 17, 19, 20] [1, 2, 3, 4, 5, 6, 0, 7, 8, 9, 10, 11, 12, 13, 14, 15, 16, 17, 18, 19, 20] (by kernel_rfl) (by kernel_rfl) (fun d _ _ _ _ h => by cases d <;> exact h) (by kernel_rfl) ?_
        have hS : (fun (w' : World) => w'.cell? ⟨w.heap.size, 4, none⟩ = some (.slice (some ⟨b, off, none⟩) evn evc) ∧ w'.cell? ⟨b, off + j * 6, none⟩ = some (.string nm) ∧ RCells w' b (off + j * 6 + 1) (⟨rk, rx, rsa, rsn, rsc, rka, rkn, rkc, rva, rvn, rvc⟩ : Rv)) _ := ⟨k4, z0, hrc⟩
        (apply ord_held rfl rfl (by assumption) rfl; (focus ((intro w' hS'); go_simp; (try with_reducible rfl))); (try simp only [Act.put, List.setIfInBounds_toArray, List.set_cons_zero, List.set_cons_succ]))
        (apply ord_held rfl rfl (by assumption) rfl; (focus ((intro w' hS'); go_simp; (try with_reducible rfl))); (try simp only [Act.put, List.setIfInBounds_toArray, List.set_cons_zero, List.set_cons_succ]))
        (apply ord_held rfl rfl (by assumption) rfl; (focus ((intro w' hS'); go_simp; (try with_reducible rfl))); (try simp only [Act.put, List.setIfInBounds_toArray, List.set_cons_zero, List.set_cons_succ]))
        (apply ord_held rfl rfl (by assumption) rfl; (focus ((intro w' hS'); go_simp; (try with_reducible rfl))); (try simp only [Act.put, List.setIfInBounds_toArray, List.set_cons_zero, List.set_cons_succ]))
        (apply ord_held rfl rfl (by assumption) rfl; (focus ((intro w' hS'); go_simp; (try with_reducible rfl))); (try simp only [Act.put, List.setIfInBounds_toArray, List.set_cons_zero, List.set_cons_succ]))
        (apply ord_held rfl rfl (by assumption) rfl; (focus ((intro w' hS'); go_simp; (try with_reducible rfl))); (try simp only [Act.put, List.setIfInBounds_toArray, List.set_cons_zero, List.set_cons_succ]))
        (apply ord_loud rfl rfl rfl; intro K hK; go_simp)
        refine (sieveNames_any _).mono ?_
        rintro r w5 ⟨v5, rfl, hs5, hx5⟩
        have x5 : Ext wr w5 := ext_trans (ext_drew (ext_refl _)) hx5
        have hS5 : (fun (w' : World) => w'.cell? ⟨w.heap.size, 4, none⟩ = some (.slice (some ⟨b, off, none⟩) evn evc) ∧ w'.cell? ⟨b, off + j * 6, none⟩ = some (.string nm) ∧ RCells w' b (off + j * 6 + 1) (⟨rk, rx, rsa, rsn, rsc, rka, rkn, rkc, rva, rvn, rvc⟩ : Rv)) w5 := ⟨x5.cell k4, x5.cell z0, RCells.ext x5 hrc⟩
        have HS5 := Lib.hid hs5
        clear hs5 hS
        refine hK _ _ (fun _ => hS5) ?_
        clear hK K
        (try simp only [Act.put, List.setIfInBounds_toArray, List.set_cons_zero, List.set_cons_succ])
        (apply ord_loud rfl rfl rfl; intro K hK; go_simp)
        refine (has_any _ _ _ sieveNames nm _ HS5.out).mono ?_
        rintro r w6 ⟨rfl, hw6⟩
        subst hw6
        refine hK _ _ (fun _ => hS5) ?_
        clear hK K
        (try simp only [Act.put, List.setIfInBounds_toArray, List.set_cons_zero, List.set_cons_succ])
        cases hhas : hasS sieveNames nm
        case false =>
          (apply ord_held rfl rfl (by assumption) rfl; (focus ((intro w' hS'); go_simp; (try with_reducible rfl))); (try simp only [Act.put, List.setIfInBounds_toArray, List.set_cons_zero, List.set_cons_succ]))
          (apply ord_held rfl rfl (by assumption) rfl; (focus ((intro w' hS'); go_simp; (try with_reducible rfl))); (try simp only [Act.put, List.setIfInBounds_toArray, List.set_cons_zero, List.set_cons_succ]))
          (apply ord_pass rfl rfl (by assumption) rfl; (try simp only [Act.put, List.setIfInBounds_toArray, List.set_cons_zero, List.set_cons_succ]))
          (apply ord_pass rfl rfl (by assumption) rfl; (try simp only [Act.put, List.setIfInBounds_toArray, List.set_cons_zero, List.set_cons_succ]))
          (apply ord_pass rfl rfl (by assumption) rfl; (try simp only [Act.put, List.setIfInBounds_toArray, List.set_cons_zero, List.set_cons_succ]))
          (apply ord_pass rfl rfl (by assumption) rfl; (try simp only [Act.put, List.setIfInBounds_toArray, List.set_cons_zero, List.set_cons_succ]))
          (apply ord_pass rfl rfl (by assumption) rfl; (try simp only [Act.put, List.setIfInBounds_toArray, List.set_cons_zero, List.set_cons_succ]))
          (apply ord_pass rfl rfl (by assumption) rfl; (try simp only [Act.put, List.setIfInBounds_toArray, List.set_cons_zero, List.set_cons_succ]))
          (apply ord_pass rfl rfl (by assumption) rfl; (try simp only [Act.put, List.setIfInBounds_toArray, List.set_cons_zero, List.set_cons_succ]))
          (apply ord_pass rfl rfl (by assumption) rfl; (try simp only [Act.put, List.setIfInBounds_toArray, List.set_cons_zero, List.set_cons_succ]))
          (apply ord_skip rfl rfl (by assumption) rfl; (try simp only [Act.put, List.setIfInBounds_toArray, List.set_cons_zero, List.set_cons_succ]))
          (apply ord_pass rfl rfl (by assumption) rfl; (try simp only [Act.put, List.setIfInBounds_toArray, List.set_cons_zero, List.set_cons_succ]))
          (apply ord_held rfl rfl (by assumption) rfl; (focus ((intro w' hS'); go_simp; (try with_reducible rfl))); (try simp only [Act.put, List.setIfInBounds_toArray, List.set_cons_zero, List.set_cons_succ]))
          refine ord_end ?_
          go_wp2_with fail
          go_ret
          exact ⟨false, rfl, (by intro h; cases h), by (repeat (first | exact ext_refl _ | assumption | refine ext_alloc ?_ _ | refine ext_drew ?_ | refine ext_set ?_ (by simp) _ | refine ext_trans ?_ (by assumption)))⟩
        (apply ord_held rfl rfl (by assumption) rfl; (focus ((intro w' hS'); go_simp; (try with_reducible rfl))); (try simp only [Act.put, List.setIfInBounds_toArray, List.set_cons_zero, List.set_cons_succ]))
        (apply ord_held rfl rfl (by assumption) rfl; (focus ((intro w' hS'); go_simp; (try with_reducible rfl))); (try simp only [Act.put, List.setIfInBounds_toArray, List.set_cons_zero, List.set_cons_succ]))
        (apply ord_guard rfl rfl (by assumption) rfl; (focus ((intro w' hS'); go_simp; (try with_reducible rfl))); (try simp only [Act.put, List.setIfInBounds_toArray, List.set_cons_zero, List.set_cons_succ]))
        (apply ord_guard rfl rfl (by assumption) rfl; (focus ((intro w' hS'); go_simp; (try with_reducible rfl))); (try simp only [Act.put, List.setIfInBounds_toArray, List.set_cons_zero, List.set_cons_succ]))
        (apply ord_guard rfl rfl (by assumption) rfl; (focus ((intro w' hS'); go_simp; (try with_reducible rfl))); (try simp only [Act.put, List.setIfInBounds_toArray, List.set_cons_zero, List.set_cons_succ]))
        (apply ord_guard rfl rfl (by assumption) rfl; (focus ((intro w' hS'); go_simp; (try with_reducible rfl))); (try simp only [Act.put, List.setIfInBounds_toArray, List.set_cons_zero, List.set_cons_succ]))
        (apply ord_guard rfl rfl (by assumption) rfl; (focus ((intro w' hS'); go_simp; (try with_reducible rfl))); (try simp only [Act.put, List.setIfInBounds_toArray, List.set_cons_zero, List.set_cons_succ]))
        (apply ord_guard rfl rfl (by assumption) rfl; (focus ((intro w' hS'); go_simp; (try with_reducible rfl))); (try simp only [Act.put, List.setIfInBounds_toArray, List.set_cons_zero, List.set_cons_succ]))
        (apply ord_guard rfl rfl (by assumption) rfl; (focus ((intro w' hS'); go_simp; (try with_reducible rfl))); (try simp only [Act.put, List.setIfInBounds_toArray, List.set_cons_zero, List.set_cons_succ]))
        (apply ord_guard rfl rfl (by assumption) rfl; (focus ((intro w' hS'); go_simp; (try with_reducible rfl))); (try simp only [Act.put, List.setIfInBounds_toArray, List.set_cons_zero, List.set_cons_succ]))
        (apply ord_want rfl rfl rfl; intro K hK; go_simp)
        try rw [hwr]
        refine (hRu.out _ (ext_trans hx x5)).mono ?_
        rintro r w8 ⟨b8, rfl, hb8, hx8⟩
        have hS8 : (fun (w' : World) => w'.cell? ⟨w.heap.size, 4, none⟩ = some (.slice (some ⟨b, off, none⟩) evn evc) ∧ w'.cell? ⟨b, off + j * 6, none⟩ = some (.string nm) ∧ RCells w' b (off + j * 6 + 1) (⟨rk, rx, rsa, rsn, rsc, rka, rkn, rkc, rva, rvn, rvc⟩ : Rv)) w8 := ⟨hx8.cell hS5.1, hx8.cell hS5.2.1, RCells.ext hx8 hS5.2.2⟩
        have HB8 := Lib.hid hb8
        clear hb8 hS5
        refine hK _ _ (fun _ => hS8) ?_
        clear hK K
        (try simp only [Act.put, List.setIfInBounds_toArray, List.set_cons_zero, List.set_cons_succ])
        cases b8
        case false =>
          (apply ord_guard rfl rfl (by assumption) rfl; (focus ((intro w' hS'); go_simp; (try with_reducible rfl))); (try simp only [Act.put, List.setIfInBounds_toArray, List.set_cons_zero, List.set_cons_succ]))
          (apply ord_held rfl rfl (by assumption) rfl; (focus ((intro w' hS'); go_simp; (try with_reducible rfl))); (try simp only [Act.put, List.setIfInBounds_toArray, List.set_cons_zero, List.set_cons_succ]))
          refine ord_end ?_
          go_wp2_with fail
          go_ret
          exact ⟨false, rfl, (by intro h; cases h), by (repeat (first | exact ext_refl _ | assumption | refine ext_alloc ?_ _ | refine ext_drew ?_ | refine ext_set ?_ (by simp) _ | refine ext_trans ?_ (by assumption)))⟩
        (apply ord_guard rfl rfl (by assumption) rfl; (focus ((intro w' hS'); go_simp; (try with_reducible rfl))); (try simp only [Act.put, List.setIfInBounds_toArray, List.set_cons_zero, List.set_cons_succ]))
        (apply ord_held rfl rfl (by assumption) rfl; (focus ((intro w' hS'); go_simp; (try with_reducible rfl))); (try simp only [Act.put, List.setIfInBounds_toArray, List.set_cons_zero, List.set_cons_succ]))
        refine ord_end ?_
        have x8 : Ext w w8 := ext_trans (ext_trans hx x5) hx8
        go_wp2_with fail
        go_roundw
        case rel => exact ⟨x8, hbr.ext (ext_trans x5 hx8), j + 1, by omega, by go_num, fun q hq => by
          rw [take_snoc HN.out] at hq
          rcases List.mem_append.1 hq with hq | hq
          · exact HFN.out q hq
          · rw [List.mem_singleton.1 hq]; exact hasS_mem hhas, fun r hr => by
          rw [take_snoc HZ.out] at hr
          rcases List.mem_append.1 hr with hr | hr
          · exact HFK.out r hr
          · rw [List.mem_singleton.1 hr]; exact HB8.out (by trivial)⟩
        case measure => simp [intOf]; omega
      have hjn : j = evn := by omega
      have hfn : ∀ nm ∈ ns, nm ∈ sieveNames := by
        have h1 := HFN.out
        rw [List.take_of_length_le (by have := HVS.out.2.1; omega)] at h1
        exact h1
      have hfk : ∀ r ∈ rs, FitR r := by
        have h1 := HFK.out
        rw [List.take_of_length_le (by have := HVS.out.1; omega)] at h1
        exact h1
      have hrl := HVS.out.1
      clear hjn
      go_wp2_with fail
      go_ret
      refine ⟨true, rfl, fun _ => ?_, hx⟩
      simp only [FitR]
      exact ⟨by decide, by decide, HB1.out (by trivial), fun h => absurd h (by decide), fun _ => by decide, (fitRs_iff _).2 HFK2.out, hfn, (fitRs_iff _).2 hfk⟩
end Go.Proofs.YtdjojnlejkljdaaGreat

namespace Go.Proofs.YtdjojnlejkljdaaGreat
open Go.RowKit

set_option maxRecDepth 20000 in
set_option maxHeartbeats 8000000 in
theorem fits_1 (n : Int) (hn1 : 1 ≤ n) (hn2 : n ≤ 1000) (ih : ∀ r, Fit2 r (n - 1)) (x : ByteArray) (ps : List (ByteArray × T)) (ks : List Rl) (ns : List ByteArray) (rs : List Rl) : Fit2 (.mk 1 x ps ks ns rs) n := by
  rintro S ⟨ek, ex, esa, esn, esc, eka, ekn, ekc, eva, evn, evc⟩ w h
  obtain ⟨h1, h2, hP, hK, hV⟩ := h.parts
  simp only at h1 h2 hP hK hV
  subst h1 h2
  have HP := Lib.hid fun (w1 : World) (x : Ext w w1) => hP.ext x
  have HKS := Lib.hid hK
  have HVS := Lib.hid hV
  have hkn : ekn ≤ 9223372036854775807 := by have h1 := hK.2.1; have h2 := hK.2.2.1; unfold maxLen at h2; omega
  have hvn : evn ≤ 9223372036854775807 := by have h1 := hV.2.2.1; have h2 := hV.2.2.2.1; unfold maxLen at h2; omega
  clear h hP hK hV
  simp only [Rv.val]
  go_enter Tryz.func7, Tryz.ntmps7
  go_upto_region 1 with fail
  have hbR : Box (w.alloc (.cells #[.int .i64 1, .string ex, .slice esa esn esc, .slice eka ekn ekc, .slice eva evn evc] 29)) w.heap.size #[.int .i64 1, .string ex, .slice esa esn esc, .slice eka ekn ekc, .slice eva evn evc] 29 := Box.at rfl _ _
  have hx0 : Ext w (w.alloc (.cells #[.int .i64 1, .string ex, .slice esa esn esc, .slice eka ekn ekc, .slice eva evn evc] 29)) := ext_alloc (ext_refl _) _
  generalize (w.alloc (.cells #[.int .i64 1, .string ex, .slice esa esn esc, .slice eka ekn ekc, .slice eva evn evc] 29)) = w0 at hbR hx0 ⊢
  have hxd : Ext w w0.drew := ext_drew hx0
  refine wp_region_order (fun (w' : World) => w'.cell? ⟨w.heap.size, 0, none⟩ = some (.int .i64 1) ∧ w'.cell? ⟨w.heap.size, 2, none⟩ = some (.slice esa esn esc)) [0, 1, 2, 3, 4, 5, 6, 7, 8, 9, 10, 11, 12, 13, 14, 16, 17, 19, 20, 21, 22, 23, 24, 25, 26, 27, 29, 30, 31] [0, 1, 2, 3, 4, 5, 6, 7, 8, 9, 10, 11, 12, 13, 14, 16, 17, 15, 18, 19, 20, 21, 22, 23, 24, 25, 26, 27, 28, 29, 30, 31] (by kernel_rfl) (by kernel_rfl) (fun d _ _ _ _ h => by cases d <;> exact h) (by kernel_rfl) ?_
  have hS : (fun (w' : World) => w'.cell? ⟨w.heap.size, 0, none⟩ = some (.int .i64 1) ∧ w'.cell? ⟨w.heap.size, 2, none⟩ = some (.slice esa esn esc)) _ := ⟨hbR.cell 0 _ rfl, hbR.cell 2 _ rfl⟩
  have HI := Lib.hid ih
  clear ih
  have hwr : IntKind.i64.wrap (n - 1) = n - 1 := IntWalk.i64_in _ (by omega)
  have hd0 : (n == 0) = false := by simp; omega
  (apply ord_held rfl rfl (by assumption) rfl; (focus ((intro w' hS'); go_simp; (try with_reducible rfl))); (try simp only [Act.put, List.setIfInBounds_toArray, List.set_cons_zero, List.set_cons_succ]))
  (apply ord_held rfl rfl (by assumption) rfl; (focus ((intro w' hS'); go_simp; (try with_reducible rfl))); (try simp only [Act.put, List.setIfInBounds_toArray, List.set_cons_zero, List.set_cons_succ]))
  try simp only [hd0]
  (apply ord_held rfl rfl (by assumption) rfl; (focus ((intro w' hS'); go_simp; (try with_reducible rfl))); (try simp only [Act.put, List.setIfInBounds_toArray, List.set_cons_zero, List.set_cons_succ]))
  (apply ord_guard rfl rfl (by assumption) rfl; (focus ((intro w' hS'); go_simp; (try with_reducible rfl))); (try simp only [Act.put, List.setIfInBounds_toArray, List.set_cons_zero, List.set_cons_succ]))
  (apply ord_guard rfl rfl (by assumption) rfl; (focus ((intro w' hS'); go_simp; (try with_reducible rfl))); (try simp only [Act.put, List.setIfInBounds_toArray, List.set_cons_zero, List.set_cons_succ]))
  (apply ord_guard rfl rfl (by assumption) rfl; (focus ((intro w' hS'); go_simp; (try with_reducible rfl))); (try simp only [Act.put, List.setIfInBounds_toArray, List.set_cons_zero, List.set_cons_succ]))
  (apply ord_held rfl rfl (by assumption) rfl; (focus ((intro w' hS'); go_simp; (try with_reducible rfl))); (try simp only [Act.put, List.setIfInBounds_toArray, List.set_cons_zero, List.set_cons_succ]))
  (apply ord_held rfl rfl (by assumption) rfl; (focus ((intro w' hS'); go_simp; (try with_reducible rfl))); (try simp only [Act.put, List.setIfInBounds_toArray, List.set_cons_zero, List.set_cons_succ]))
  (apply ord_guard rfl rfl (by assumption) rfl; (focus ((intro w' hS'); go_simp; (try with_reducible rfl))); (try simp only [Act.put, List.setIfInBounds_toArray, List.set_cons_zero, List.set_cons_succ]))
  (apply ord_guard rfl rfl (by assumption) rfl; (focus ((intro w' hS'); go_simp; (try with_reducible rfl))); (try simp only [Act.put, List.setIfInBounds_toArray, List.set_cons_zero, List.set_cons_succ]))
  (apply ord_guard rfl rfl (by assumption) rfl; (focus ((intro w' hS'); go_simp; (try with_reducible rfl))); (try simp only [Act.put, List.setIfInBounds_toArray, List.set_cons_zero, List.set_cons_succ]))
  (apply ord_held rfl rfl (by assumption) rfl; (focus ((intro w' hS'); go_simp; (try with_reducible rfl))); (try simp only [Act.put, List.setIfInBounds_toArray, List.set_cons_zero, List.set_cons_succ]))
  (apply ord_held rfl rfl (by assumption) rfl; (focus ((intro w' hS'); go_simp; (try with_reducible rfl))); (try simp only [Act.put, List.setIfInBounds_toArray, List.set_cons_zero, List.set_cons_succ]))
  (apply ord_guard rfl rfl (by assumption) rfl; (focus ((intro w' hS'); go_simp; (try with_reducible rfl))); (try simp only [Act.put, List.setIfInBounds_toArray, List.set_cons_zero, List.set_cons_succ]))
  (apply ord_guard rfl rfl (by assumption) rfl; (focus ((intro w' hS'); go_simp; (try with_reducible rfl))); (try simp only [Act.put, List.setIfInBounds_toArray, List.set_cons_zero, List.set_cons_succ]))
  (apply ord_guard rfl rfl (by assumption) rfl; (focus ((intro w' hS'); go_simp; (try with_reducible rfl))); (try simp only [Act.put, List.setIfInBounds_toArray, List.set_cons_zero, List.set_cons_succ]))
  (apply ord_guard rfl rfl (by assumption) rfl; (focus ((intro w' hS'); go_simp; (try with_reducible rfl))); (try simp only [Act.put, List.setIfInBounds_toArray, List.set_cons_zero, List.set_cons_succ]))
  (apply ord_want rfl rfl rfl; intro K hK; go_simp)
  refine (ruleTable_any 1 _).mono ?_
  rintro r w9 ⟨rfl, hw9⟩
  rw [hw9]
  clear hw9
  refine hK _ _ (fun _ => hS) ?_
  clear hK K
  (try simp only [Act.put, List.setIfInBounds_toArray, List.set_cons_zero, List.set_cons_succ])
  (apply ord_want rfl rfl rfl; intro K hK; go_simp)
  refine (fitsR_any (S := S) 1 _ _ _ ps w0.drew (HP.out _ hxd)).mono ?_
  rintro r w1 ⟨b1, rfl, hb1, hx1⟩
  have hS1 : (fun (w' : World) => w'.cell? ⟨w.heap.size, 0, none⟩ = some (.int .i64 1) ∧ w'.cell? ⟨w.heap.size, 2, none⟩ = some (.slice esa esn esc)) w1 := ⟨hx1.cell hS.1, hx1.cell hS.2⟩
  refine hK _ _ (fun _ => hS1) ?_
  clear hK K
  (try simp only [Act.put, List.setIfInBounds_toArray, List.set_cons_zero, List.set_cons_succ])
  have hxw1 : Ext w w1 := ext_trans hxd hx1
  have hbR1 := hbR.drew.ext hx1
  have HB1 := Lib.hid hb1
  clear hb1 hS
  cases b1
  case false =>
    (apply ord_guard rfl rfl (by assumption) rfl; (focus ((intro w' hS'); go_simp; (try with_reducible rfl))); (try simp only [Act.put, List.setIfInBounds_toArray, List.set_cons_zero, List.set_cons_succ]))
    (apply ord_held rfl rfl (by assumption) rfl; (focus ((intro w' hS'); go_simp; (try with_reducible rfl))); (try simp only [Act.put, List.setIfInBounds_toArray, List.set_cons_zero, List.set_cons_succ]))
    (apply ord_held rfl rfl (by assumption) rfl; (focus ((intro w' hS'); go_simp; (try with_reducible rfl))); (try simp only [Act.put, List.setIfInBounds_toArray, List.set_cons_zero, List.set_cons_succ]))
    (apply ord_pass rfl rfl (by assumption) rfl; (try simp only [Act.put, List.setIfInBounds_toArray, List.set_cons_zero, List.set_cons_succ]))
    (apply ord_pass rfl rfl (by assumption) rfl; (try simp only [Act.put, List.setIfInBounds_toArray, List.set_cons_zero, List.set_cons_succ]))
    (apply ord_pass rfl rfl (by assumption) rfl; (try simp only [Act.put, List.setIfInBounds_toArray, List.set_cons_zero, List.set_cons_succ]))
    (apply ord_pass rfl rfl (by assumption) rfl; (try simp only [Act.put, List.setIfInBounds_toArray, List.set_cons_zero, List.set_cons_succ]))
    (apply ord_pass rfl rfl (by assumption) rfl; (try simp only [Act.put, List.setIfInBounds_toArray, List.set_cons_zero, List.set_cons_succ]))
    (apply ord_pass rfl rfl (by assumption) rfl; (try simp only [Act.put, List.setIfInBounds_toArray, List.set_cons_zero, List.set_cons_succ]))
    (apply ord_skip rfl rfl (by assumption) rfl; (try simp only [Act.put, List.setIfInBounds_toArray, List.set_cons_zero, List.set_cons_succ]))
    (apply ord_pass rfl rfl (by assumption) rfl; (try simp only [Act.put, List.setIfInBounds_toArray, List.set_cons_zero, List.set_cons_succ]))
    (apply ord_pass rfl rfl (by assumption) rfl; (try simp only [Act.put, List.setIfInBounds_toArray, List.set_cons_zero, List.set_cons_succ]))
    (apply ord_held rfl rfl (by assumption) rfl; (focus ((intro w' hS'); go_simp; (try with_reducible rfl))); (try simp only [Act.put, List.setIfInBounds_toArray, List.set_cons_zero, List.set_cons_succ]))
    refine ord_end ?_
    go_wp2_with fail
    go_ret
    exact ⟨false, rfl, (by intro h; cases h), by (repeat (first | exact ext_refl _ | assumption | refine ext_alloc ?_ _ | refine ext_drew ?_ | refine ext_set ?_ (by simp) _ | refine ext_trans ?_ (by assumption)))⟩
  (apply ord_guard rfl rfl (by assumption) rfl; (focus ((intro w' hS'); go_simp; (try with_reducible rfl))); (try simp only [Act.put, List.setIfInBounds_toArray, List.set_cons_zero, List.set_cons_succ]))
  (apply ord_held rfl rfl (by assumption) rfl; (focus ((intro w' hS'); go_simp; (try with_reducible rfl))); (try simp only [Act.put, List.setIfInBounds_toArray, List.set_cons_zero, List.set_cons_succ]))
  (apply ord_held rfl rfl (by assumption) rfl; (focus ((intro w' hS'); go_simp; (try with_reducible rfl))); (try simp only [Act.put, List.setIfInBounds_toArray, List.set_cons_zero, List.set_cons_succ]))
  (apply ord_guard rfl rfl (by assumption) rfl; (focus ((intro w' hS'); go_simp; (try with_reducible rfl))); (try simp only [Act.put, List.setIfInBounds_toArray, List.set_cons_zero, List.set_cons_succ]))
  (apply ord_guard rfl rfl (by assumption) rfl; (focus ((intro w' hS'); go_simp; (try with_reducible rfl))); (try simp only [Act.put, List.setIfInBounds_toArray, List.set_cons_zero, List.set_cons_succ]))
  (apply ord_guard rfl rfl (by assumption) rfl; (focus ((intro w' hS'); go_simp; (try with_reducible rfl))); (try simp only [Act.put, List.setIfInBounds_toArray, List.set_cons_zero, List.set_cons_succ]))
  (apply ord_guard rfl rfl (by assumption) rfl; (focus ((intro w' hS'); go_simp; (try with_reducible rfl))); (try simp only [Act.put, List.setIfInBounds_toArray, List.set_cons_zero, List.set_cons_succ]))
  (apply ord_pass rfl rfl (by assumption) rfl; (try simp only [Act.put, List.setIfInBounds_toArray, List.set_cons_zero, List.set_cons_succ]))
  (apply ord_pass rfl rfl (by assumption) rfl; (try simp only [Act.put, List.setIfInBounds_toArray, List.set_cons_zero, List.set_cons_succ]))
  (apply ord_skip rfl rfl (by assumption) rfl; (try simp only [Act.put, List.setIfInBounds_toArray, List.set_cons_zero, List.set_cons_succ]))
  (apply ord_pass rfl rfl (by assumption) rfl; (try simp only [Act.put, List.setIfInBounds_toArray, List.set_cons_zero, List.set_cons_succ]))
  (apply ord_guard rfl rfl (by assumption) rfl; (focus ((intro w' hS'); go_simp; (try with_reducible rfl))); (try simp only [Act.put, List.setIfInBounds_toArray, List.set_cons_zero, List.set_cons_succ]))
  (apply ord_held rfl rfl (by assumption) rfl; (focus ((intro w' hS'); go_simp; (try with_reducible rfl))); (try simp only [Act.put, List.setIfInBounds_toArray, List.set_cons_zero, List.set_cons_succ]))
  refine ord_end ?_
  have hxL : Ext w w1 := hxw1
  have hbL := hbR1
  have k1 := hbL.cell 1 _ rfl
  have k3 := hbL.cell 3 _ rfl
  have k4 := hbL.cell 4 _ rfl
  by_cases hk0 : 0 < ekn
  case pos =>
    go_wp2_with fail
    all_goals (go_ret; exact ⟨false, rfl, (by intro h; cases h), by (repeat (first | exact ext_refl _ | assumption | refine ext_alloc ?_ _ | refine ext_drew ?_ | refine ext_set ?_ (by simp) _ | refine ext_trans ?_ (by assumption)))⟩)
  cases hE : ex.toList.isEmpty
  case true =>
    go_wp2_with fail
    all_goals (go_ret; exact ⟨false, rfl, (by intro h; cases h), by (repeat (first | exact ext_refl _ | assumption | refine ext_alloc ?_ _ | refine ext_drew ?_ | refine ext_set ?_ (by simp) _ | refine ext_trans ?_ (by assumption)))⟩)
  by_cases hv0 : 0 < evn
  case pos =>
    go_wp2_with fail
    all_goals (go_ret; exact ⟨false, rfl, (by intro h; cases h), by (repeat (first | exact ext_refl _ | assumption | refine ext_alloc ?_ _ | refine ext_drew ?_ | refine ext_set ?_ (by simp) _ | refine ext_trans ?_ (by assumption)))⟩)
  go_wp2_with fail
  go_loopw [6] (fun i wr => Ext w wr ∧ Box wr w.heap.size #[.int .i64 1, .string ex, .slice esa esn esc, .slice eka ekn ekc, .slice eva evn evc] 29 ∧ ∃ j : Nat, j ≤ ekn ∧ i = .int .i64 j ∧ ∀ r ∈ ks.take j, FitR r) (fun i _ => ekn - (intOf i).toNat)
  case atStart => exact ⟨hxL, hbL, 0, Nat.zero_le _, rfl, by simp⟩
  case round =>
    obtain ⟨hx, hbr, j, hj, rfl, hfk⟩ := hrel
    have HFK := Lib.hid hfk
    clear hfk
    have k3 := hbr.cell 3 _ rfl
    by_cases hlt : j < ekn
    case pos => omega
    have hjn : j = ekn := by omega
    have HFK2 := Lib.hid (show ∀ r ∈ ks, FitR r by
      have h1 := HFK.out
      rw [List.take_of_length_le (by have := HKS.out.1; omega)] at h1
      exact h1)
    clear HFK hjn
    have k4 := hbr.cell 4 _ rfl
    go_wp2_with fail
    go_loopw [7] (fun i wr => Ext w wr ∧ Box wr w.heap.size #[.int .i64 1, .string ex, .slice esa esn esc, .slice eka ekn ekc, .slice eva evn evc] 29 ∧ ∃ j : Nat, j ≤ evn ∧ i = .int .i64 j ∧ (∀ nm ∈ ns.take j, nm ∈ sieveNames) ∧ ∀ r ∈ rs.take j, FitR r) (fun i _ => evn - (intOf i).toNat)
    case atStart => exact ⟨hx, hbr, 0, Nat.zero_le _, rfl, by simp, by simp⟩
    case round =>
      clear hx hbr k3 k4 hj hlt
      obtain ⟨hx, hbr, j, hj, rfl, hfn, hfk⟩ := hrel
      have HFN := Lib.hid hfn
      have HFK := Lib.hid hfk
      clear hfk hfn
      have k4 := hbr.cell 4 _ rfl
      by_cases hlt : j < evn
      case pos => omega
      have hjn : j = evn := by omega
      have hfn : ∀ nm ∈ ns, nm ∈ sieveNames := by
        have h1 := HFN.out
        rw [List.take_of_length_le (by have := HVS.out.2.1; omega)] at h1
        exact h1
      have hfk : ∀ r ∈ rs, FitR r := by
        have h1 := HFK.out
        rw [List.take_of_length_le (by have := HVS.out.1; omega)] at h1
        exact h1
      have hrl := HVS.out.1
      clear hjn
      go_wp2_with fail
      go_ret
      refine ⟨true, rfl, fun _ => ?_, hx⟩
      simp only [FitR]
      exact ⟨by decide, by decide, HB1.out (by trivial), fun h => absurd h (by decide), fun h => absurd (List.length_eq_zero_iff.1 (by omega)) h, (fitRs_iff _).2 HFK2.out, hfn, (fitRs_iff _).2 hfk⟩
end Go.Proofs.YtdjojnlejkljdaaGreat

namespace Go.Proofs.YtdjojnlejkljdaaGreat
open Go.RowKit

set_option maxRecDepth 20000 in
set_option maxHeartbeats 8000000 in
theorem fits_2 (n : Int) (hn1 : 1 ≤ n) (hn2 : n ≤ 1000) (ih : ∀ r, Fit2 r (n - 1)) (x : ByteArray) (ps : List (ByteArray × T)) (ks : List Rl) (ns : List ByteArray) (rs : List Rl) : Fit2 (.mk 2 x ps ks ns rs) n := by
  rintro S ⟨ek, ex, esa, esn, esc, eka, ekn, ekc, eva, evn, evc⟩ w h
  obtain ⟨h1, h2, hP, hK, hV⟩ := h.parts
  simp only at h1 h2 hP hK hV
  subst h1 h2
  have HP := Lib.hid fun (w1 : World) (x : Ext w w1) => hP.ext x
  have HKS := Lib.hid hK
  have HVS := Lib.hid hV
  have hkn : ekn ≤ 9223372036854775807 := by have h1 := hK.2.1; have h2 := hK.2.2.1; unfold maxLen at h2; omega
  have hvn : evn ≤ 9223372036854775807 := by have h1 := hV.2.2.1; have h2 := hV.2.2.2.1; unfold maxLen at h2; omega
  clear h hP hK hV
  simp only [Rv.val]
  go_enter Tryz.func7, Tryz.ntmps7
  go_upto_region 1 with fail
  have hbR : Box (w.alloc (.cells #[.int .i64 2, .string ex, .slice esa esn esc, .slice eka ekn ekc, .slice eva evn evc] 29)) w.heap.size #[.int .i64 2, .string ex, .slice esa esn esc, .slice eka ekn ekc, .slice eva evn evc] 29 := Box.at rfl _ _
  have hx0 : Ext w (w.alloc (.cells #[.int .i64 2, .string ex, .slice esa esn esc, .slice eka ekn ekc, .slice eva evn evc] 29)) := ext_alloc (ext_refl _) _
  generalize (w.alloc (.cells #[.int .i64 2, .string ex, .slice esa esn esc, .slice eka ekn ekc, .slice eva evn evc] 29)) = w0 at hbR hx0 ⊢
  have hxd : Ext w w0.drew := ext_drew hx0
  refine wp_region_order (fun (w' : World) => w'.cell? ⟨w.heap.size, 0, none⟩ = some (.int .i64 2) ∧ w'.cell? ⟨w.heap.size, 2, none⟩ = some (.slice esa esn esc)) [0, 1, 2, 3, 4, 5, 6, 7, 8, 9, 10, 11, 12, 13, 14, 16, 17, 19, 20, 21, 22, 23, 24, 25, 26, 27, 29, 30, 31] [0, 1, 2, 3, 4, 5, 6, 7, 8, 9, 10, 11, 12, 13, 14, 16, 17, 15, 18, 19, 20, 21, 22, 23, 24, 25, 26, 27, 28, 29, 30, 31] (by kernel_rfl) (by kernel_rfl) (fun d _ _ _ _ h => by cases d <;> exact h) (by kernel_rfl) ?_
  have hS : (fun (w' : World) => w'.cell? ⟨w.heap.size, 0, none⟩ = some (.int .i64 2) ∧ w'.cell? ⟨w.heap.size, 2, none⟩ = some (.slice esa esn esc)) _ := ⟨hbR.cell 0 _ rfl, hbR.cell 2 _ rfl⟩
  have HI := Lib.hid ih
  clear ih
  have hwr : IntKind.i64.wrap (n - 1) = n - 1 := IntWalk.i64_in _ (by omega)
  have hd0 : (n == 0) = false := by simp; omega
  (apply ord_held rfl rfl (by assumption) rfl; (focus ((intro w' hS'); go_simp; (try with_reducible rfl))); (try simp only [Act.put, List.setIfInBounds_toArray, List.set_cons_zero, List.set_cons_succ]))
  (apply ord_held rfl rfl (by assumption) rfl; (focus ((intro w' hS'); go_simp; (try with_reducible rfl))); (try simp only [Act.put, List.setIfInBounds_toArray, List.set_cons_zero, List.set_cons_succ]))
  try simp only [hd0]
  (apply ord_held rfl rfl (by assumption) rfl; (focus ((intro w' hS'); go_simp; (try with_reducible rfl))); (try simp only [Act.put, List.setIfInBounds_toArray, List.set_cons_zero, List.set_cons_succ]))
  (apply ord_guard rfl rfl (by assumption) rfl; (focus ((intro w' hS'); go_simp; (try with_reducible rfl))); (try simp only [Act.put, List.setIfInBounds_toArray, List.set_cons_zero, List.set_cons_succ]))
  (apply ord_guard rfl rfl (by assumption) rfl; (focus ((intro w' hS'); go_simp; (try with_reducible rfl))); (try simp only [Act.put, List.setIfInBounds_toArray, List.set_cons_zero, List.set_cons_succ]))
  (apply ord_guard rfl rfl (by assumption) rfl; (focus ((intro w' hS'); go_simp; (try with_reducible rfl))); (try simp only [Act.put, List.setIfInBounds_toArray, List.set_cons_zero, List.set_cons_succ]))
  (apply ord_held rfl rfl (by assumption) rfl; (focus ((intro w' hS'); go_simp; (try with_reducible rfl))); (try simp only [Act.put, List.setIfInBounds_toArray, List.set_cons_zero, List.set_cons_succ]))
  (apply ord_held rfl rfl (by assumption) rfl; (focus ((intro w' hS'); go_simp; (try with_reducible rfl))); (try simp only [Act.put, List.setIfInBounds_toArray, List.set_cons_zero, List.set_cons_succ]))
  (apply ord_guard rfl rfl (by assumption) rfl; (focus ((intro w' hS'); go_simp; (try with_reducible rfl))); (try simp only [Act.put, List.setIfInBounds_toArray, List.set_cons_zero, List.set_cons_succ]))
  (apply ord_guard rfl rfl (by assumption) rfl; (focus ((intro w' hS'); go_simp; (try with_reducible rfl))); (try simp only [Act.put, List.setIfInBounds_toArray, List.set_cons_zero, List.set_cons_succ]))
  (apply ord_guard rfl rfl (by assumption) rfl; (focus ((intro w' hS'); go_simp; (try with_reducible rfl))); (try simp only [Act.put, List.setIfInBounds_toArray, List.set_cons_zero, List.set_cons_succ]))
  (apply ord_held rfl rfl (by assumption) rfl; (focus ((intro w' hS'); go_simp; (try with_reducible rfl))); (try simp only [Act.put, List.setIfInBounds_toArray, List.set_cons_zero, List.set_cons_succ]))
  (apply ord_held rfl rfl (by assumption) rfl; (focus ((intro w' hS'); go_simp; (try with_reducible rfl))); (try simp only [Act.put, List.setIfInBounds_toArray, List.set_cons_zero, List.set_cons_succ]))
  (apply ord_guard rfl rfl (by assumption) rfl; (focus ((intro w' hS'); go_simp; (try with_reducible rfl))); (try simp only [Act.put, List.setIfInBounds_toArray, List.set_cons_zero, List.set_cons_succ]))
  (apply ord_guard rfl rfl (by assumption) rfl; (focus ((intro w' hS'); go_simp; (try with_reducible rfl))); (try simp only [Act.put, List.setIfInBounds_toArray, List.set_cons_zero, List.set_cons_succ]))
  (apply ord_guard rfl rfl (by assumption) rfl; (focus ((intro w' hS'); go_simp; (try with_reducible rfl))); (try simp only [Act.put, List.setIfInBounds_toArray, List.set_cons_zero, List.set_cons_succ]))
  (apply ord_guard rfl rfl (by assumption) rfl; (focus ((intro w' hS'); go_simp; (try with_reducible rfl))); (try simp only [Act.put, List.setIfInBounds_toArray, List.set_cons_zero, List.set_cons_succ]))
  (apply ord_want rfl rfl rfl; intro K hK; go_simp)
  refine (ruleTable_any 2 _).mono ?_
  rintro r w9 ⟨rfl, hw9⟩
  rw [hw9]
  clear hw9
  refine hK _ _ (fun _ => hS) ?_
  clear hK K
  (try simp only [Act.put, List.setIfInBounds_toArray, List.set_cons_zero, List.set_cons_succ])
  (apply ord_want rfl rfl rfl; intro K hK; go_simp)
  refine (fitsR_any (S := S) 2 _ _ _ ps w0.drew (HP.out _ hxd)).mono ?_
  rintro r w1 ⟨b1, rfl, hb1, hx1⟩
  have hS1 : (fun (w' : World) => w'.cell? ⟨w.heap.size, 0, none⟩ = some (.int .i64 2) ∧ w'.cell? ⟨w.heap.size, 2, none⟩ = some (.slice esa esn esc)) w1 := ⟨hx1.cell hS.1, hx1.cell hS.2⟩
  refine hK _ _ (fun _ => hS1) ?_
  clear hK K
  (try simp only [Act.put, List.setIfInBounds_toArray, List.set_cons_zero, List.set_cons_succ])
  have hxw1 : Ext w w1 := ext_trans hxd hx1
  have hbR1 := hbR.drew.ext hx1
  have HB1 := Lib.hid hb1
  clear hb1 hS
  cases b1
  case false =>
    (apply ord_guard rfl rfl (by assumption) rfl; (focus ((intro w' hS'); go_simp; (try with_reducible rfl))); (try simp only [Act.put, List.setIfInBounds_toArray, List.set_cons_zero, List.set_cons_succ]))
    (apply ord_held rfl rfl (by assumption) rfl; (focus ((intro w' hS'); go_simp; (try with_reducible rfl))); (try simp only [Act.put, List.setIfInBounds_toArray, List.set_cons_zero, List.set_cons_succ]))
    (apply ord_held rfl rfl (by assumption) rfl; (focus ((intro w' hS'); go_simp; (try with_reducible rfl))); (try simp only [Act.put, List.setIfInBounds_toArray, List.set_cons_zero, List.set_cons_succ]))
    (apply ord_pass rfl rfl (by assumption) rfl; (try simp only [Act.put, List.setIfInBounds_toArray, List.set_cons_zero, List.set_cons_succ]))
    (apply ord_pass rfl rfl (by assumption) rfl; (try simp only [Act.put, List.setIfInBounds_toArray, List.set_cons_zero, List.set_cons_succ]))
    (apply ord_pass rfl rfl (by assumption) rfl; (try simp only [Act.put, List.setIfInBounds_toArray, List.set_cons_zero, List.set_cons_succ]))
    (apply ord_pass rfl rfl (by assumption) rfl; (try simp only [Act.put, List.setIfInBounds_toArray, List.set_cons_zero, List.set_cons_succ]))
    (apply ord_pass rfl rfl (by assumption) rfl; (try simp only [Act.put, List.setIfInBounds_toArray, List.set_cons_zero, List.set_cons_succ]))
    (apply ord_pass rfl rfl (by assumption) rfl; (try simp only [Act.put, List.setIfInBounds_toArray, List.set_cons_zero, List.set_cons_succ]))
    (apply ord_skip rfl rfl (by assumption) rfl; (try simp only [Act.put, List.setIfInBounds_toArray, List.set_cons_zero, List.set_cons_succ]))
    (apply ord_pass rfl rfl (by assumption) rfl; (try simp only [Act.put, List.setIfInBounds_toArray, List.set_cons_zero, List.set_cons_succ]))
    (apply ord_pass rfl rfl (by assumption) rfl; (try simp only [Act.put, List.setIfInBounds_toArray, List.set_cons_zero, List.set_cons_succ]))
    (apply ord_held rfl rfl (by assumption) rfl; (focus ((intro w' hS'); go_simp; (try with_reducible rfl))); (try simp only [Act.put, List.setIfInBounds_toArray, List.set_cons_zero, List.set_cons_succ]))
    refine ord_end ?_
    go_wp2_with fail
    go_ret
    exact ⟨false, rfl, (by intro h; cases h), by (repeat (first | exact ext_refl _ | assumption | refine ext_alloc ?_ _ | refine ext_drew ?_ | refine ext_set ?_ (by simp) _ | refine ext_trans ?_ (by assumption)))⟩
  (apply ord_guard rfl rfl (by assumption) rfl; (focus ((intro w' hS'); go_simp; (try with_reducible rfl))); (try simp only [Act.put, List.setIfInBounds_toArray, List.set_cons_zero, List.set_cons_succ]))
  (apply ord_held rfl rfl (by assumption) rfl; (focus ((intro w' hS'); go_simp; (try with_reducible rfl))); (try simp only [Act.put, List.setIfInBounds_toArray, List.set_cons_zero, List.set_cons_succ]))
  (apply ord_held rfl rfl (by assumption) rfl; (focus ((intro w' hS'); go_simp; (try with_reducible rfl))); (try simp only [Act.put, List.setIfInBounds_toArray, List.set_cons_zero, List.set_cons_succ]))
  (apply ord_guard rfl rfl (by assumption) rfl; (focus ((intro w' hS'); go_simp; (try with_reducible rfl))); (try simp only [Act.put, List.setIfInBounds_toArray, List.set_cons_zero, List.set_cons_succ]))
  (apply ord_guard rfl rfl (by assumption) rfl; (focus ((intro w' hS'); go_simp; (try with_reducible rfl))); (try simp only [Act.put, List.setIfInBounds_toArray, List.set_cons_zero, List.set_cons_succ]))
  (apply ord_guard rfl rfl (by assumption) rfl; (focus ((intro w' hS'); go_simp; (try with_reducible rfl))); (try simp only [Act.put, List.setIfInBounds_toArray, List.set_cons_zero, List.set_cons_succ]))
  (apply ord_guard rfl rfl (by assumption) rfl; (focus ((intro w' hS'); go_simp; (try with_reducible rfl))); (try simp only [Act.put, List.setIfInBounds_toArray, List.set_cons_zero, List.set_cons_succ]))
  (apply ord_pass rfl rfl (by assumption) rfl; (try simp only [Act.put, List.setIfInBounds_toArray, List.set_cons_zero, List.set_cons_succ]))
  (apply ord_pass rfl rfl (by assumption) rfl; (try simp only [Act.put, List.setIfInBounds_toArray, List.set_cons_zero, List.set_cons_succ]))
  (apply ord_skip rfl rfl (by assumption) rfl; (try simp only [Act.put, List.setIfInBounds_toArray, List.set_cons_zero, List.set_cons_succ]))
  (apply ord_pass rfl rfl (by assumption) rfl; (try simp only [Act.put, List.setIfInBounds_toArray, List.set_cons_zero, List.set_cons_succ]))
  (apply ord_guard rfl rfl (by assumption) rfl; (focus ((intro w' hS'); go_simp; (try with_reducible rfl))); (try simp only [Act.put, List.setIfInBounds_toArray, List.set_cons_zero, List.set_cons_succ]))
  (apply ord_held rfl rfl (by assumption) rfl; (focus ((intro w' hS'); go_simp; (try with_reducible rfl))); (try simp only [Act.put, List.setIfInBounds_toArray, List.set_cons_zero, List.set_cons_succ]))
  refine ord_end ?_
  have hxL : Ext w w1 := hxw1
  have hbL := hbR1
  have k1 := hbL.cell 1 _ rfl
  have k3 := hbL.cell 3 _ rfl
  have k4 := hbL.cell 4 _ rfl
  by_cases hk0 : 0 < ekn
  case pos =>
    go_wp2_with fail
    all_goals (go_ret; exact ⟨false, rfl, (by intro h; cases h), by (repeat (first | exact ext_refl _ | assumption | refine ext_alloc ?_ _ | refine ext_drew ?_ | refine ext_set ?_ (by simp) _ | refine ext_trans ?_ (by assumption)))⟩)
  cases hE : ex.toList.isEmpty
  case true =>
    go_wp2_with fail
    all_goals (go_ret; exact ⟨false, rfl, (by intro h; cases h), by (repeat (first | exact ext_refl _ | assumption | refine ext_alloc ?_ _ | refine ext_drew ?_ | refine ext_set ?_ (by simp) _ | refine ext_trans ?_ (by assumption)))⟩)
  by_cases hv0 : 0 < evn
  case pos =>
    go_wp2_with fail
    all_goals (go_ret; exact ⟨false, rfl, (by intro h; cases h), by (repeat (first | exact ext_refl _ | assumption | refine ext_alloc ?_ _ | refine ext_drew ?_ | refine ext_set ?_ (by simp) _ | refine ext_trans ?_ (by assumption)))⟩)
  go_wp2_with fail
  go_loopw [6] (fun i wr => Ext w wr ∧ Box wr w.heap.size #[.int .i64 2, .string ex, .slice esa esn esc, .slice eka ekn ekc, .slice eva evn evc] 29 ∧ ∃ j : Nat, j ≤ ekn ∧ i = .int .i64 j ∧ ∀ r ∈ ks.take j, FitR r) (fun i _ => ekn - (intOf i).toNat)
  case atStart => exact ⟨hxL, hbL, 0, Nat.zero_le _, rfl, by simp⟩
  case round =>
    obtain ⟨hx, hbr, j, hj, rfl, hfk⟩ := hrel
    have HFK := Lib.hid hfk
    clear hfk
    have k3 := hbr.cell 3 _ rfl
    by_cases hlt : j < ekn
    case pos => omega
    have hjn : j = ekn := by omega
    have HFK2 := Lib.hid (show ∀ r ∈ ks, FitR r by
      have h1 := HFK.out
      rw [List.take_of_length_le (by have := HKS.out.1; omega)] at h1
      exact h1)
    clear HFK hjn
    have k4 := hbr.cell 4 _ rfl
    go_wp2_with fail
    go_loopw [7] (fun i wr => Ext w wr ∧ Box wr w.heap.size #[.int .i64 2, .string ex, .slice esa esn esc, .slice eka ekn ekc, .slice eva evn evc] 29 ∧ ∃ j : Nat, j ≤ evn ∧ i = .int .i64 j ∧ (∀ nm ∈ ns.take j, nm ∈ sieveNames) ∧ ∀ r ∈ rs.take j, FitR r) (fun i _ => evn - (intOf i).toNat)
    case atStart => exact ⟨hx, hbr, 0, Nat.zero_le _, rfl, by simp, by simp⟩
    case round =>
      clear hx hbr k3 k4 hj hlt
      obtain ⟨hx, hbr, j, hj, rfl, hfn, hfk⟩ := hrel
      have HFN := Lib.hid hfn
      have HFK := Lib.hid hfk
      clear hfk hfn
      have k4 := hbr.cell 4 _ rfl
      by_cases hlt : j < evn
      case pos => omega
      have hjn : j = evn := by omega
      have hfn : ∀ nm ∈ ns, nm ∈ sieveNames := by
        have h1 := HFN.out
        rw [List.take_of_length_le (by have := HVS.out.2.1; omega)] at h1
        exact h1
      have hfk : ∀ r ∈ rs, FitR r := by
        have h1 := HFK.out
        rw [List.take_of_length_le (by have := HVS.out.1; omega)] at h1
        exact h1
      have hrl := HVS.out.1
      clear hjn
      go_wp2_with fail
      go_ret
      refine ⟨true, rfl, fun _ => ?_, hx⟩
      simp only [FitR]
      exact ⟨by decide, by decide, HB1.out (by trivial), fun h => absurd h (by decide), fun h => absurd (List.length_eq_zero_iff.1 (by omega)) h, (fitRs_iff _).2 HFK2.out, hfn, (fitRs_iff _).2 hfk⟩
end Go.Proofs.YtdjojnlejkljdaaGreat

namespace Go.Proofs.YtdjojnlejkljdaaGreat
open Go.RowKit

set_option maxRecDepth 20000 in
set_option maxHeartbeats 8000000 in
theorem fits_3 (n : Int) (hn1 : 1 ≤ n) (hn2 : n ≤ 1000) (ih : ∀ r, Fit2 r (n - 1)) (x : ByteArray) (ps : List (ByteArray × T)) (ks : List Rl) (ns : List ByteArray) (rs : List Rl) : Fit2 (.mk 3 x ps ks ns rs) n := by
  rintro S ⟨ek, ex, esa, esn, esc, eka, ekn, ekc, eva, evn, evc⟩ w h
  obtain ⟨h1, h2, hP, hK, hV⟩ := h.parts
  simp only at h1 h2 hP hK hV
  subst h1 h2
  have HP := Lib.hid fun (w1 : World) (x : Ext w w1) => hP.ext x
  have HKS := Lib.hid hK
  have HVS := Lib.hid hV
  have hkn : ekn ≤ 9223372036854775807 := by have h1 := hK.2.1; have h2 := hK.2.2.1; unfold maxLen at h2; omega
  have hvn : evn ≤ 9223372036854775807 := by have h1 := hV.2.2.1; have h2 := hV.2.2.2.1; unfold maxLen at h2; omega
  clear h hP hK hV
  simp only [Rv.val]
  go_enter Tryz.func7, Tryz.ntmps7
  go_upto_region 1 with fail
  have hbR : Box (w.alloc (.cells #[.int .i64 3, .string ex, .slice esa esn esc, .slice eka ekn ekc, .slice eva evn evc] 29)) w.heap.size #[.int .i64 3, .string ex, .slice esa esn esc, .slice eka ekn ekc, .slice eva evn evc] 29 := Box.at rfl _ _
  have hx0 : Ext w (w.alloc (.cells #[.int .i64 3, .string ex, .slice esa esn esc, .slice eka ekn ekc, .slice eva evn evc] 29)) := ext_alloc (ext_refl _) _
  generalize (w.alloc (.cells #[.int .i64 3, .string ex, .slice esa esn esc, .slice eka ekn ekc, .slice eva evn evc] 29)) = w0 at hbR hx0 ⊢
  have hxd : Ext w w0.drew := ext_drew hx0
  refine wp_region_order (fun (w' : World) => w'.cell? ⟨w.heap.size, 0, none⟩ = some (.int .i64 3) ∧ w'.cell? ⟨w.heap.size, 2, none⟩ = some (.slice esa esn esc)) [0, 1, 2, 3, 4, 5, 6, 7, 8, 9, 10, 11, 12, 13, 14, 16, 17, 19, 20, 21, 22, 23, 24, 25, 26, 27, 29, 30, 31] [0, 1, 2, 3, 4, 5, 6, 7, 8, 9, 10, 11, 12, 13, 14, 16, 17, 15, 18, 19, 20, 21, 22, 23, 24, 25, 26, 27, 28, 29, 30, 31] (by kernel_rfl) (by kernel_rfl) (fun d _ _ _ _ h => by cases d <;> exact h) (by kernel_rfl) ?_
  have hS : (fun (w' : World) => w'.cell? ⟨w.heap.size, 0, none⟩ = some (.int .i64 3) ∧ w'.cell? ⟨w.heap.size, 2, none⟩ = some (.slice esa esn esc)) _ := ⟨hbR.cell 0 _ rfl, hbR.cell 2 _ rfl⟩
  have HI := Lib.hid ih
  clear ih
  have hwr : IntKind.i64.wrap (n - 1) = n - 1 := IntWalk.i64_in _ (by omega)
  have hd0 : (n == 0) = false := by simp; omega
  (apply ord_held rfl rfl (by assumption) rfl; (focus ((intro w' hS'); go_simp; (try with_reducible rfl))); (try simp only [Act.put, List.setIfInBounds_toArray, List.set_cons_zero, List.set_cons_succ]))
  (apply ord_held rfl rfl (by assumption) rfl; (focus ((intro w' hS'); go_simp; (try with_reducible rfl))); (try simp only [Act.put, List.setIfInBounds_toArray, List.set_cons_zero, List.set_cons_succ]))
  try simp only [hd0]
  (apply ord_held rfl rfl (by assumption) rfl; (focus ((intro w' hS'); go_simp; (try with_reducible rfl))); (try simp only [Act.put, List.setIfInBounds_toArray, List.set_cons_zero, List.set_cons_succ]))
  (apply ord_guard rfl rfl (by assumption) rfl; (focus ((intro w' hS'); go_simp; (try with_reducible rfl))); (try simp only [Act.put, List.setIfInBounds_toArray, List.set_cons_zero, List.set_cons_succ]))
  (apply ord_guard rfl rfl (by assumption) rfl; (focus ((intro w' hS'); go_simp; (try with_reducible rfl))); (try simp only [Act.put, List.setIfInBounds_toArray, List.set_cons_zero, List.set_cons_succ]))
  (apply ord_guard rfl rfl (by assumption) rfl; (focus ((intro w' hS'); go_simp; (try with_reducible rfl))); (try simp only [Act.put, List.setIfInBounds_toArray, List.set_cons_zero, List.set_cons_succ]))
  (apply ord_held rfl rfl (by assumption) rfl; (focus ((intro w' hS'); go_simp; (try with_reducible rfl))); (try simp only [Act.put, List.setIfInBounds_toArray, List.set_cons_zero, List.set_cons_succ]))
  (apply ord_held rfl rfl (by assumption) rfl; (focus ((intro w' hS'); go_simp; (try with_reducible rfl))); (try simp only [Act.put, List.setIfInBounds_toArray, List.set_cons_zero, List.set_cons_succ]))
  (apply ord_guard rfl rfl (by assumption) rfl; (focus ((intro w' hS'); go_simp; (try with_reducible rfl))); (try simp only [Act.put, List.setIfInBounds_toArray, List.set_cons_zero, List.set_cons_succ]))
  (apply ord_guard rfl rfl (by assumption) rfl; (focus ((intro w' hS'); go_simp; (try with_reducible rfl))); (try simp only [Act.put, List.setIfInBounds_toArray, List.set_cons_zero, List.set_cons_succ]))
  (apply ord_guard rfl rfl (by assumption) rfl; (focus ((intro w' hS'); go_simp; (try with_reducible rfl))); (try simp only [Act.put, List.setIfInBounds_toArray, List.set_cons_zero, List.set_cons_succ]))
  (apply ord_held rfl rfl (by assumption) rfl; (focus ((intro w' hS'); go_simp; (try with_reducible rfl))); (try simp only [Act.put, List.setIfInBounds_toArray, List.set_cons_zero, List.set_cons_succ]))
  (apply ord_held rfl rfl (by assumption) rfl; (focus ((intro w' hS'); go_simp; (try with_reducible rfl))); (try simp only [Act.put, List.setIfInBounds_toArray, List.set_cons_zero, List.set_cons_succ]))
  (apply ord_guard rfl rfl (by assumption) rfl; (focus ((intro w' hS'); go_simp; (try with_reducible rfl))); (try simp only [Act.put, List.setIfInBounds_toArray, List.set_cons_zero, List.set_cons_succ]))
  (apply ord_guard rfl rfl (by assumption) rfl; (focus ((intro w' hS'); go_simp; (try with_reducible rfl))); (try simp only [Act.put, List.setIfInBounds_toArray, List.set_cons_zero, List.set_cons_succ]))
  (apply ord_guard rfl rfl (by assumption) rfl; (focus ((intro w' hS'); go_simp; (try with_reducible rfl))); (try simp only [Act.put, List.setIfInBounds_toArray, List.set_cons_zero, List.set_cons_succ]))
  (apply ord_guard rfl rfl (by assumption) rfl; (focus ((intro w' hS'); go_simp; (try with_reducible rfl))); (try simp only [Act.put, List.setIfInBounds_toArray, List.set_cons_zero, List.set_cons_succ]))
  (apply ord_want rfl rfl rfl; intro K hK; go_simp)
  refine (ruleTable_any 3 _).mono ?_
  rintro r w9 ⟨rfl, hw9⟩
  rw [hw9]
  clear hw9
  refine hK _ _ (fun _ => hS) ?_
  clear hK K
  (try simp only [Act.put, List.setIfInBounds_toArray, List.set_cons_zero, List.set_cons_succ])
  (apply ord_want rfl rfl rfl; intro K hK; go_simp)
  refine (fitsR_any (S := S) 3 _ _ _ ps w0.drew (HP.out _ hxd)).mono ?_
  rintro r w1 ⟨b1, rfl, hb1, hx1⟩
  have hS1 : (fun (w' : World) => w'.cell? ⟨w.heap.size, 0, none⟩ = some (.int .i64 3) ∧ w'.cell? ⟨w.heap.size, 2, none⟩ = some (.slice esa esn esc)) w1 := ⟨hx1.cell hS.1, hx1.cell hS.2⟩
  refine hK _ _ (fun _ => hS1) ?_
  clear hK K
  (try simp only [Act.put, List.setIfInBounds_toArray, List.set_cons_zero, List.set_cons_succ])
  have hxw1 : Ext w w1 := ext_trans hxd hx1
  have hbR1 := hbR.drew.ext hx1
  have HB1 := Lib.hid hb1
  clear hb1 hS
  cases b1
  case false =>
    (apply ord_guard rfl rfl (by assumption) rfl; (focus ((intro w' hS'); go_simp; (try with_reducible rfl))); (try simp only [Act.put, List.setIfInBounds_toArray, List.set_cons_zero, List.set_cons_succ]))
    (apply ord_held rfl rfl (by assumption) rfl; (focus ((intro w' hS'); go_simp; (try with_reducible rfl))); (try simp only [Act.put, List.setIfInBounds_toArray, List.set_cons_zero, List.set_cons_succ]))
    (apply ord_held rfl rfl (by assumption) rfl; (focus ((intro w' hS'); go_simp; (try with_reducible rfl))); (try simp only [Act.put, List.setIfInBounds_toArray, List.set_cons_zero, List.set_cons_succ]))
    (apply ord_pass rfl rfl (by assumption) rfl; (try simp only [Act.put, List.setIfInBounds_toArray, List.set_cons_zero, List.set_cons_succ]))
    (apply ord_pass rfl rfl (by assumption) rfl; (try simp only [Act.put, List.setIfInBounds_toArray, List.set_cons_zero, List.set_cons_succ]))
    (apply ord_pass rfl rfl (by assumption) rfl; (try simp only [Act.put, List.setIfInBounds_toArray, List.set_cons_zero, List.set_cons_succ]))
    (apply ord_pass rfl rfl (by assumption) rfl; (try simp only [Act.put, List.setIfInBounds_toArray, List.set_cons_zero, List.set_cons_succ]))
    (apply ord_pass rfl rfl (by assumption) rfl; (try simp only [Act.put, List.setIfInBounds_toArray, List.set_cons_zero, List.set_cons_succ]))
    (apply ord_pass rfl rfl (by assumption) rfl; (try simp only [Act.put, List.setIfInBounds_toArray, List.set_cons_zero, List.set_cons_succ]))
    (apply ord_skip rfl rfl (by assumption) rfl; (try simp only [Act.put, List.setIfInBounds_toArray, List.set_cons_zero, List.set_cons_succ]))
    (apply ord_pass rfl rfl (by assumption) rfl; (try simp only [Act.put, List.setIfInBounds_toArray, List.set_cons_zero, List.set_cons_succ]))
    (apply ord_pass rfl rfl (by assumption) rfl; (try simp only [Act.put, List.setIfInBounds_toArray, List.set_cons_zero, List.set_cons_succ]))
    (apply ord_held rfl rfl (by assumption) rfl; (focus ((intro w' hS'); go_simp; (try with_reducible rfl))); (try simp only [Act.put, List.setIfInBounds_toArray, List.set_cons_zero, List.set_cons_succ]))
    refine ord_end ?_
    go_wp2_with fail
    go_ret
    exact ⟨false, rfl, (by intro h; cases h), by (repeat (first | exact ext_refl _ | assumption | refine ext_alloc ?_ _ | refine ext_drew ?_ | refine ext_set ?_ (by simp) _ | refine ext_trans ?_ (by assumption)))⟩
  (apply ord_guard rfl rfl (by assumption) rfl; (focus ((intro w' hS'); go_simp; (try with_reducible rfl))); (try simp only [Act.put, List.setIfInBounds_toArray, List.set_cons_zero, List.set_cons_succ]))
  (apply ord_held rfl rfl (by assumption) rfl; (focus ((intro w' hS'); go_simp; (try with_reducible rfl))); (try simp only [Act.put, List.setIfInBounds_toArray, List.set_cons_zero, List.set_cons_succ]))
  (apply ord_held rfl rfl (by assumption) rfl; (focus ((intro w' hS'); go_simp; (try with_reducible rfl))); (try simp only [Act.put, List.setIfInBounds_toArray, List.set_cons_zero, List.set_cons_succ]))
  (apply ord_guard rfl rfl (by assumption) rfl; (focus ((intro w' hS'); go_simp; (try with_reducible rfl))); (try simp only [Act.put, List.setIfInBounds_toArray, List.set_cons_zero, List.set_cons_succ]))
  (apply ord_guard rfl rfl (by assumption) rfl; (focus ((intro w' hS'); go_simp; (try with_reducible rfl))); (try simp only [Act.put, List.setIfInBounds_toArray, List.set_cons_zero, List.set_cons_succ]))
  (apply ord_guard rfl rfl (by assumption) rfl; (focus ((intro w' hS'); go_simp; (try with_reducible rfl))); (try simp only [Act.put, List.setIfInBounds_toArray, List.set_cons_zero, List.set_cons_succ]))
  (apply ord_guard rfl rfl (by assumption) rfl; (focus ((intro w' hS'); go_simp; (try with_reducible rfl))); (try simp only [Act.put, List.setIfInBounds_toArray, List.set_cons_zero, List.set_cons_succ]))
  (apply ord_guard rfl rfl (by assumption) rfl; (focus ((intro w' hS'); go_simp; (try with_reducible rfl))); (try simp only [Act.put, List.setIfInBounds_toArray, List.set_cons_zero, List.set_cons_succ]))
  (apply ord_guard rfl rfl (by assumption) rfl; (focus ((intro w' hS'); go_simp; (try with_reducible rfl))); (try simp only [Act.put, List.setIfInBounds_toArray, List.set_cons_zero, List.set_cons_succ]))
  (apply ord_want rfl rfl rfl; intro K hK; go_simp)
  refine (is_any _ _ _ ps s_fuzziness w1 (HP.out _ hxw1)).mono ?_
  rintro r w2 ⟨rfl, hx2⟩
  have hS2 : (fun (w' : World) => w'.cell? ⟨w.heap.size, 0, none⟩ = some (.int .i64 3) ∧ w'.cell? ⟨w.heap.size, 2, none⟩ = some (.slice esa esn esc)) w2 := ⟨hx2.cell hS1.1, hx2.cell hS1.2⟩
  refine hK _ _ (fun _ => hS2) ?_
  clear hK K
  (try simp only [Act.put, List.setIfInBounds_toArray, List.set_cons_zero, List.set_cons_succ])
  have hxw2 : Ext w w2 := ext_trans hxw1 hx2
  have hbR2 := hbR1.ext hx2
  clear hS1
  cases hfz : (lastOf ps s_fuzziness).isSome
  case false =>
    (apply ord_guard rfl rfl (by assumption) rfl; (focus ((intro w' hS'); go_simp; (try with_reducible rfl))); (try simp only [Act.put, List.setIfInBounds_toArray, List.set_cons_zero, List.set_cons_succ]))
    (apply ord_guard rfl rfl (by assumption) rfl; (focus ((intro w' hS'); go_simp; (try with_reducible rfl))); (try simp only [Act.put, List.setIfInBounds_toArray, List.set_cons_zero, List.set_cons_succ]))
    (apply ord_held rfl rfl (by assumption) rfl; (focus ((intro w' hS'); go_simp; (try with_reducible rfl))); (try simp only [Act.put, List.setIfInBounds_toArray, List.set_cons_zero, List.set_cons_succ]))
    refine ord_end ?_
    go_wp2_with fail
    go_ret
    exact ⟨false, rfl, (by intro h; cases h), by (repeat (first | exact ext_refl _ | assumption | refine ext_alloc ?_ _ | refine ext_drew ?_ | refine ext_set ?_ (by simp) _ | refine ext_trans ?_ (by assumption)))⟩
  (apply ord_guard rfl rfl (by assumption) rfl; (focus ((intro w' hS'); go_simp; (try with_reducible rfl))); (try simp only [Act.put, List.setIfInBounds_toArray, List.set_cons_zero, List.set_cons_succ]))
  (apply ord_guard rfl rfl (by assumption) rfl; (focus ((intro w' hS'); go_simp; (try with_reducible rfl))); (try simp only [Act.put, List.setIfInBounds_toArray, List.set_cons_zero, List.set_cons_succ]))
  (apply ord_held rfl rfl (by assumption) rfl; (focus ((intro w' hS'); go_simp; (try with_reducible rfl))); (try simp only [Act.put, List.setIfInBounds_toArray, List.set_cons_zero, List.set_cons_succ]))
  refine ord_end ?_
  have hxL : Ext w w2 := hxw2
  have hbL := hbR2
  have k1 := hbL.cell 1 _ rfl
  have k3 := hbL.cell 3 _ rfl
  have k4 := hbL.cell 4 _ rfl
  by_cases hk0 : 0 < ekn
  case pos =>
    go_wp2_with fail
    all_goals (go_ret; exact ⟨false, rfl, (by intro h; cases h), by (repeat (first | exact ext_refl _ | assumption | refine ext_alloc ?_ _ | refine ext_drew ?_ | refine ext_set ?_ (by simp) _ | refine ext_trans ?_ (by assumption)))⟩)
  cases hE : ex.toList.isEmpty
  case true =>
    go_wp2_with fail
    all_goals (go_ret; exact ⟨false, rfl, (by intro h; cases h), by (repeat (first | exact ext_refl _ | assumption | refine ext_alloc ?_ _ | refine ext_drew ?_ | refine ext_set ?_ (by simp) _ | refine ext_trans ?_ (by assumption)))⟩)
  by_cases hv0 : 0 < evn
  case pos =>
    go_wp2_with fail
    all_goals (go_ret; exact ⟨false, rfl, (by intro h; cases h), by (repeat (first | exact ext_refl _ | assumption | refine ext_alloc ?_ _ | refine ext_drew ?_ | refine ext_set ?_ (by simp) _ | refine ext_trans ?_ (by assumption)))⟩)
  go_wp2_with fail
  go_loopw [6] (fun i wr => Ext w wr ∧ Box wr w.heap.size #[.int .i64 3, .string ex, .slice esa esn esc, .slice eka ekn ekc, .slice eva evn evc] 29 ∧ ∃ j : Nat, j ≤ ekn ∧ i = .int .i64 j ∧ ∀ r ∈ ks.take j, FitR r) (fun i _ => ekn - (intOf i).toNat)
  case atStart => exact ⟨hxL, hbL, 0, Nat.zero_le _, rfl, by simp⟩
  case round =>
    obtain ⟨hx, hbr, j, hj, rfl, hfk⟩ := hrel
    have HFK := Lib.hid hfk
    clear hfk
    have k3 := hbr.cell 3 _ rfl
    by_cases hlt : j < ekn
    case pos => omega
    have hjn : j = ekn := by omega
    have HFK2 := Lib.hid (show ∀ r ∈ ks, FitR r by
      have h1 := HFK.out
      rw [List.take_of_length_le (by have := HKS.out.1; omega)] at h1
      exact h1)
    clear HFK hjn
    have k4 := hbr.cell 4 _ rfl
    go_wp2_with fail
    go_loopw [7] (fun i wr => Ext w wr ∧ Box wr w.heap.size #[.int .i64 3, .string ex, .slice esa esn esc, .slice eka ekn ekc, .slice eva evn evc] 29 ∧ ∃ j : Nat, j ≤ evn ∧ i = .int .i64 j ∧ (∀ nm ∈ ns.take j, nm ∈ sieveNames) ∧ ∀ r ∈ rs.take j, FitR r) (fun i _ => evn - (intOf i).toNat)
    case atStart => exact ⟨hx, hbr, 0, Nat.zero_le _, rfl, by simp, by simp⟩
    case round =>
      clear hx hbr k3 k4 hj hlt
      obtain ⟨hx, hbr, j, hj, rfl, hfn, hfk⟩ := hrel
      have HFN := Lib.hid hfn
      have HFK := Lib.hid hfk
      clear hfk hfn
      have k4 := hbr.cell 4 _ rfl
      by_cases hlt : j < evn
      case pos => omega
      have hjn : j = evn := by omega
      have hfn : ∀ nm ∈ ns, nm ∈ sieveNames := by
        have h1 := HFN.out
        rw [List.take_of_length_le (by have := HVS.out.2.1; omega)] at h1
        exact h1
      have hfk : ∀ r ∈ rs, FitR r := by
        have h1 := HFK.out
        rw [List.take_of_length_le (by have := HVS.out.1; omega)] at h1
        exact h1
      have hrl := HVS.out.1
      clear hjn
      go_wp2_with fail
      go_ret
      refine ⟨true, rfl, fun _ => ?_, hx⟩
      simp only [FitR]
      exact ⟨by decide, by decide, HB1.out (by trivial), fun _ => Option.isSome_iff_exists.1 hfz, fun h => absurd (List.length_eq_zero_iff.1 (by omega)) h, (fitRs_iff _).2 HFK2.out, hfn, (fitRs_iff _).2 hfk⟩
end Go.Proofs.YtdjojnlejkljdaaGreat

namespace Go.Proofs.YtdjojnlejkljdaaGreat
open Go.RowKit

set_option maxRecDepth 20000 in
set_option maxHeartbeats 8000000 in
theorem fits_4 (n : Int) (hn1 : 1 ≤ n) (hn2 : n ≤ 1000) (ih : ∀ r, Fit2 r (n - 1)) (x : ByteArray) (ps : List (ByteArray × T)) (ks : List Rl) (ns : List ByteArray) (rs : List Rl) : Fit2 (.mk 4 x ps ks ns rs) n := by
  rintro S ⟨ek, ex, esa, esn, esc, eka, ekn, ekc, eva, evn, evc⟩ w h
  obtain ⟨h1, h2, hP, hK, hV⟩ := h.parts
  simp only at h1 h2 hP hK hV
  subst h1 h2
  have HP := Lib.hid fun (w1 : World) (x : Ext w w1) => hP.ext x
  have HKS := Lib.hid hK
  have HVS := Lib.hid hV
  have hkn : ekn ≤ 9223372036854775807 := by have h1 := hK.2.1; have h2 := hK.2.2.1; unfold maxLen at h2; omega
  have hvn : evn ≤ 9223372036854775807 := by have h1 := hV.2.2.1; have h2 := hV.2.2.2.1; unfold maxLen at h2; omega
  clear h hP hK hV
  simp only [Rv.val]
  go_enter Tryz.func7, Tryz.ntmps7
  go_upto_region 1 with fail
  have hbR : Box (w.alloc (.cells #[.int .i64 4, .string ex, .slice esa esn esc, .slice eka ekn ekc, .slice eva evn evc] 29)) w.heap.size #[.int .i64 4, .string ex, .slice esa esn esc, .slice eka ekn ekc, .slice eva evn evc] 29 := Box.at rfl _ _
  have hx0 : Ext w (w.alloc (.cells #[.int .i64 4, .string ex, .slice esa esn esc, .slice eka ekn ekc, .slice eva evn evc] 29)) := ext_alloc (ext_refl _) _
  generalize (w.alloc (.cells #[.int .i64 4, .string ex, .slice esa esn esc, .slice eka ekn ekc, .slice eva evn evc] 29)) = w0 at hbR hx0 ⊢
  have hxd : Ext w w0.drew := ext_drew hx0
  refine wp_region_order (fun (w' : World) => w'.cell? ⟨w.heap.size, 0, none⟩ = some (.int .i64 4) ∧ w'.cell? ⟨w.heap.size, 2, none⟩ = some (.slice esa esn esc)) [0, 1, 2, 3, 4, 5, 6, 7, 8, 9, 10, 11, 12, 13, 14, 16, 17, 19, 20, 21, 22, 23, 24, 25, 26, 27, 29, 30, 31] [0, 1, 2, 3, 4, 5, 6, 7, 8, 9, 10, 11, 12, 13, 14, 16, 17, 15, 18, 19, 20, 21, 22, 23, 24, 25, 26, 27, 28, 29, 30, 31] (by kernel_rfl) (by kernel_rfl) (fun d _ _ _ _ h => by cases d <;> exact h) (by kernel_rfl) ?_
  have hS : (fun (w' : World) => w'.cell? ⟨w.heap.size, 0, none⟩ = some (.int .i64 4) ∧ w'.cell? ⟨w.heap.size, 2, none⟩ = some (.slice esa esn esc)) _ := ⟨hbR.cell 0 _ rfl, hbR.cell 2 _ rfl⟩
  have HI := Lib.hid ih
  clear ih
  have hwr : IntKind.i64.wrap (n - 1) = n - 1 := IntWalk.i64_in _ (by omega)
  have hd0 : (n == 0) = false := by simp; omega
  (apply ord_held rfl rfl (by assumption) rfl; (focus ((intro w' hS'); go_simp; (try with_reducible rfl))); (try simp only [Act.put, List.setIfInBounds_toArray, List.set_cons_zero, List.set_cons_succ]))
  (apply ord_held rfl rfl (by assumption) rfl; (focus ((intro w' hS'); go_simp; (try with_reducible rfl))); (try simp only [Act.put, List.setIfInBounds_toArray, List.set_cons_zero, List.set_cons_succ]))
  try simp only [hd0]
  (apply ord_held rfl rfl (by assumption) rfl; (focus ((intro w' hS'); go_simp; (try with_reducible rfl))); (try simp only [Act.put, List.setIfInBounds_toArray, List.set_cons_zero, List.set_cons_succ]))
  (apply ord_guard rfl rfl (by assumption) rfl; (focus ((intro w' hS'); go_simp; (try with_reducible rfl))); (try simp only [Act.put, List.setIfInBounds_toArray, List.set_cons_zero, List.set_cons_succ]))
  (apply ord_guard rfl rfl (by assumption) rfl; (focus ((intro w' hS'); go_simp; (try with_reducible rfl))); (try simp only [Act.put, List.setIfInBounds_toArray, List.set_cons_zero, List.set_cons_succ]))
  (apply ord_guard rfl rfl (by assumption) rfl; (focus ((intro w' hS'); go_simp; (try with_reducible rfl))); (try simp only [Act.put, List.setIfInBounds_toArray, List.set_cons_zero, List.set_cons_succ]))
  (apply ord_held rfl rfl (by assumption) rfl; (focus ((intro w' hS'); go_simp; (try with_reducible rfl))); (try simp only [Act.put, List.setIfInBounds_toArray, List.set_cons_zero, List.set_cons_succ]))
  (apply ord_held rfl rfl (by assumption) rfl; (focus ((intro w' hS'); go_simp; (try with_reducible rfl))); (try simp only [Act.put, List.setIfInBounds_toArray, List.set_cons_zero, List.set_cons_succ]))
  (apply ord_guard rfl rfl (by assumption) rfl; (focus ((intro w' hS'); go_simp; (try with_reducible rfl))); (try simp only [Act.put, List.setIfInBounds_toArray, List.set_cons_zero, List.set_cons_succ]))
  (apply ord_guard rfl rfl (by assumption) rfl; (focus ((intro w' hS'); go_simp; (try with_reducible rfl))); (try simp only [Act.put, List.setIfInBounds_toArray, List.set_cons_zero, List.set_cons_succ]))
  (apply ord_guard rfl rfl (by assumption) rfl; (focus ((intro w' hS'); go_simp; (try with_reducible rfl))); (try simp only [Act.put, List.setIfInBounds_toArray, List.set_cons_zero, List.set_cons_succ]))
  (apply ord_held rfl rfl (by assumption) rfl; (focus ((intro w' hS'); go_simp; (try with_reducible rfl))); (try simp only [Act.put, List.setIfInBounds_toArray, List.set_cons_zero, List.set_cons_succ]))
  (apply ord_held rfl rfl (by assumption) rfl; (focus ((intro w' hS'); go_simp; (try with_reducible rfl))); (try simp only [Act.put, List.setIfInBounds_toArray, List.set_cons_zero, List.set_cons_succ]))
  (apply ord_guard rfl rfl (by assumption) rfl; (focus ((intro w' hS'); go_simp; (try with_reducible rfl))); (try simp only [Act.put, List.setIfInBounds_toArray, List.set_cons_zero, List.set_cons_succ]))
  (apply ord_guard rfl rfl (by assumption) rfl; (focus ((intro w' hS'); go_simp; (try with_reducible rfl))); (try simp only [Act.put, List.setIfInBounds_toArray, List.set_cons_zero, List.set_cons_succ]))
  (apply ord_guard rfl rfl (by assumption) rfl; (focus ((intro w' hS'); go_simp; (try with_reducible rfl))); (try simp only [Act.put, List.setIfInBounds_toArray, List.set_cons_zero, List.set_cons_succ]))
  (apply ord_guard rfl rfl (by assumption) rfl; (focus ((intro w' hS'); go_simp; (try with_reducible rfl))); (try simp only [Act.put, List.setIfInBounds_toArray, List.set_cons_zero, List.set_cons_succ]))
  (apply ord_want rfl rfl rfl; intro K hK; go_simp)
  refine (ruleTable_any 4 _).mono ?_
  rintro r w9 ⟨rfl, hw9⟩
  rw [hw9]
  clear hw9
  refine hK _ _ (fun _ => hS) ?_
  clear hK K
  (try simp only [Act.put, List.setIfInBounds_toArray, List.set_cons_zero, List.set_cons_succ])
  (apply ord_want rfl rfl rfl; intro K hK; go_simp)
  refine (fitsR_any (S := S) 4 _ _ _ ps w0.drew (HP.out _ hxd)).mono ?_
  rintro r w1 ⟨b1, rfl, hb1, hx1⟩
  have hS1 : (fun (w' : World) => w'.cell? ⟨w.heap.size, 0, none⟩ = some (.int .i64 4) ∧ w'.cell? ⟨w.heap.size, 2, none⟩ = some (.slice esa esn esc)) w1 := ⟨hx1.cell hS.1, hx1.cell hS.2⟩
  refine hK _ _ (fun _ => hS1) ?_
  clear hK K
  (try simp only [Act.put, List.setIfInBounds_toArray, List.set_cons_zero, List.set_cons_succ])
  have hxw1 : Ext w w1 := ext_trans hxd hx1
  have hbR1 := hbR.drew.ext hx1
  have HB1 := Lib.hid hb1
  clear hb1 hS
  cases b1
  case false =>
    (apply ord_guard rfl rfl (by assumption) rfl; (focus ((intro w' hS'); go_simp; (try with_reducible rfl))); (try simp only [Act.put, List.setIfInBounds_toArray, List.set_cons_zero, List.set_cons_succ]))
    (apply ord_held rfl rfl (by assumption) rfl; (focus ((intro w' hS'); go_simp; (try with_reducible rfl))); (try simp only [Act.put, List.setIfInBounds_toArray, List.set_cons_zero, List.set_cons_succ]))
    (apply ord_held rfl rfl (by assumption) rfl; (focus ((intro w' hS'); go_simp; (try with_reducible rfl))); (try simp only [Act.put, List.setIfInBounds_toArray, List.set_cons_zero, List.set_cons_succ]))
    (apply ord_pass rfl rfl (by assumption) rfl; (try simp only [Act.put, List.setIfInBounds_toArray, List.set_cons_zero, List.set_cons_succ]))
    (apply ord_pass rfl rfl (by assumption) rfl; (try simp only [Act.put, List.setIfInBounds_toArray, List.set_cons_zero, List.set_cons_succ]))
    (apply ord_pass rfl rfl (by assumption) rfl; (try simp only [Act.put, List.setIfInBounds_toArray, List.set_cons_zero, List.set_cons_succ]))
    (apply ord_pass rfl rfl (by assumption) rfl; (try simp only [Act.put, List.setIfInBounds_toArray, List.set_cons_zero, List.set_cons_succ]))
    (apply ord_pass rfl rfl (by assumption) rfl; (try simp only [Act.put, List.setIfInBounds_toArray, List.set_cons_zero, List.set_cons_succ]))
    (apply ord_pass rfl rfl (by assumption) rfl; (try simp only [Act.put, List.setIfInBounds_toArray, List.set_cons_zero, List.set_cons_succ]))
    (apply ord_skip rfl rfl (by assumption) rfl; (try simp only [Act.put, List.setIfInBounds_toArray, List.set_cons_zero, List.set_cons_succ]))
    (apply ord_pass rfl rfl (by assumption) rfl; (try simp only [Act.put, List.setIfInBounds_toArray, List.set_cons_zero, List.set_cons_succ]))
    (apply ord_pass rfl rfl (by assumption) rfl; (try simp only [Act.put, List.setIfInBounds_toArray, List.set_cons_zero, List.set_cons_succ]))
    (apply ord_held rfl rfl (by assumption) rfl; (focus ((intro w' hS'); go_simp; (try with_reducible rfl))); (try simp only [Act.put, List.setIfInBounds_toArray, List.set_cons_zero, List.set_cons_succ]))
    refine ord_end ?_
    go_wp2_with fail
    go_ret
    exact ⟨false, rfl, (by intro h; cases h), by (repeat (first | exact ext_refl _ | assumption | refine ext_alloc ?_ _ | refine ext_drew ?_ | refine ext_set ?_ (by simp) _ | refine ext_trans ?_ (by assumption)))⟩
  (apply ord_guard rfl rfl (by assumption) rfl; (focus ((intro w' hS'); go_simp; (try with_reducible rfl))); (try simp only [Act.put, List.setIfInBounds_toArray, List.set_cons_zero, List.set_cons_succ]))
  (apply ord_held rfl rfl (by assumption) rfl; (focus ((intro w' hS'); go_simp; (try with_reducible rfl))); (try simp only [Act.put, List.setIfInBounds_toArray, List.set_cons_zero, List.set_cons_succ]))
  (apply ord_held rfl rfl (by assumption) rfl; (focus ((intro w' hS'); go_simp; (try with_reducible rfl))); (try simp only [Act.put, List.setIfInBounds_toArray, List.set_cons_zero, List.set_cons_succ]))
  (apply ord_guard rfl rfl (by assumption) rfl; (focus ((intro w' hS'); go_simp; (try with_reducible rfl))); (try simp only [Act.put, List.setIfInBounds_toArray, List.set_cons_zero, List.set_cons_succ]))
  (apply ord_guard rfl rfl (by assumption) rfl; (focus ((intro w' hS'); go_simp; (try with_reducible rfl))); (try simp only [Act.put, List.setIfInBounds_toArray, List.set_cons_zero, List.set_cons_succ]))
  (apply ord_guard rfl rfl (by assumption) rfl; (focus ((intro w' hS'); go_simp; (try with_reducible rfl))); (try simp only [Act.put, List.setIfInBounds_toArray, List.set_cons_zero, List.set_cons_succ]))
  (apply ord_guard rfl rfl (by assumption) rfl; (focus ((intro w' hS'); go_simp; (try with_reducible rfl))); (try simp only [Act.put, List.setIfInBounds_toArray, List.set_cons_zero, List.set_cons_succ]))
  (apply ord_pass rfl rfl (by assumption) rfl; (try simp only [Act.put, List.setIfInBounds_toArray, List.set_cons_zero, List.set_cons_succ]))
  (apply ord_pass rfl rfl (by assumption) rfl; (try simp only [Act.put, List.setIfInBounds_toArray, List.set_cons_zero, List.set_cons_succ]))
  (apply ord_skip rfl rfl (by assumption) rfl; (try simp only [Act.put, List.setIfInBounds_toArray, List.set_cons_zero, List.set_cons_succ]))
  (apply ord_pass rfl rfl (by assumption) rfl; (try simp only [Act.put, List.setIfInBounds_toArray, List.set_cons_zero, List.set_cons_succ]))
  (apply ord_guard rfl rfl (by assumption) rfl; (focus ((intro w' hS'); go_simp; (try with_reducible rfl))); (try simp only [Act.put, List.setIfInBounds_toArray, List.set_cons_zero, List.set_cons_succ]))
  (apply ord_held rfl rfl (by assumption) rfl; (focus ((intro w' hS'); go_simp; (try with_reducible rfl))); (try simp only [Act.put, List.setIfInBounds_toArray, List.set_cons_zero, List.set_cons_succ]))
  refine ord_end ?_
  have hxL : Ext w w1 := hxw1
  have hbL := hbR1
  have k1 := hbL.cell 1 _ rfl
  have k3 := hbL.cell 3 _ rfl
  have k4 := hbL.cell 4 _ rfl
  by_cases hk0 : 0 < ekn
  case neg =>
    go_wp2_with fail
    all_goals (go_ret; exact ⟨false, rfl, (by intro h; cases h), by (repeat (first | exact ext_refl _ | assumption | refine ext_alloc ?_ _ | refine ext_drew ?_ | refine ext_set ?_ (by simp) _ | refine ext_trans ?_ (by assumption)))⟩)
  go_wp2_with fail
  go_loopw [6] (fun i wr => Ext w wr ∧ Box wr w.heap.size #[.int .i64 4, .string ex, .slice esa esn esc, .slice eka ekn ekc, .slice eva evn evc] 29 ∧ ∃ j : Nat, j ≤ ekn ∧ i = .int .i64 j ∧ ∀ r ∈ ks.take j, FitR r) (fun i _ => ekn - (intOf i).toNat)
  case atStart => exact ⟨hxL, hbL, 0, Nat.zero_le _, rfl, by simp⟩
  case round =>
    obtain ⟨hx, hbr, j, hj, rfl, hfk⟩ := hrel
    have HFK := Lib.hid hfk
    clear hfk
    have k3 := hbr.cell 3 _ rfl
    by_cases hlt : j < ekn
    case pos =>
      obtain ⟨r0, hr0⟩ := some_of_lt HKS.out.1 hlt
      obtain ⟨b, off, e, rfl, -, hrc, hra⟩ := HKS.out.2.2.2.get hr0
      rw [Nat.zero_add, Nat.add_zero] at hrc
      have hrc := RCells.ext hx hrc
      have hRu := Lib.hid (fun (w1 : World) (x : Ext w w1) => HI.out r0 S _ w1 (RuleAt.ext x hra))
      have HZ := Lib.hid hr0
      clear hra hr0
      obtain ⟨rk, rx, rsa, rsn, rsc, rka, rkn, rkc, rva, rvn, rvc⟩ := e
      obtain ⟨c0, c1, c2, c3, c4⟩ := hrc
      go_wp2_with (first
        | (go_at_call 7; refine (hRu.out _ (by (repeat (first | exact ext_refl _ | assumption | refine ext_alloc ?_ _ | refine ext_drew ?_ | refine ext_set ?_ (by simp) _ | refine ext_trans ?_ (by assumption))))).mono ?_; rintro r w8 ⟨b8, rfl, hb8, hx8⟩; have HB8 := Lib.hid hb8; clear hb8; cases b8)
        | fail)
      all_goals (try (go_ret; exact ⟨false, rfl, (by intro h; cases h), by (repeat (first | exact ext_refl _ | assumption | refine ext_alloc ?_ _ | refine ext_drew ?_ | refine ext_set ?_ (by simp) _ | refine ext_trans ?_ (by assumption)))⟩))
      have x8 : Ext w w8 := by (repeat (first | exact ext_refl _ | assumption | refine ext_alloc ?_ _ | refine ext_drew ?_ | refine ext_set ?_ (by simp) _ | refine ext_trans ?_ (by assumption)))
      go_roundw
      case rel => exact ⟨x8, by first | exact hbr.ext hx8 | exact (hbr.alloc _).ext hx8, j + 1, by omega, by go_num, fun r hr => by
        rw [take_snoc HZ.out] at hr
        rcases List.mem_append.1 hr with hr | hr
        · exact HFK.out r hr
        · rw [List.mem_singleton.1 hr]; exact HB8.out (by trivial)⟩
      case measure => simp [intOf]; omega
    have hjn : j = ekn := by omega
    have HFK2 := Lib.hid (show ∀ r ∈ ks, FitR r by
      have h1 := HFK.out
      rw [List.take_of_length_le (by have := HKS.out.1; omega)] at h1
      exact h1)
    clear HFK hjn
    have k4 := hbr.cell 4 _ rfl
    go_wp2_with fail
    go_loopw [7] (fun i wr => Ext w wr ∧ Box wr w.heap.size #[.int .i64 4, .string ex, .slice esa esn esc, .slice eka ekn ekc, .slice eva evn evc] 29 ∧ ∃ j : Nat, j ≤ evn ∧ i = .int .i64 j ∧ (∀ nm ∈ ns.take j, nm ∈ sieveNames) ∧ ∀ r ∈ rs.take j, FitR r) (fun i _ => evn - (intOf i).toNat)
    case atStart => exact ⟨hx, hbr, 0, Nat.zero_le _, rfl, by simp, by simp⟩
    case round =>
      clear hx hbr k3 k4 hj hlt
      obtain ⟨hx, hbr, j, hj, rfl, hfn, hfk⟩ := hrel
      have HFN := Lib.hid hfn
      have HFK := Lib.hid hfk
      clear hfk hfn
      have k4 := hbr.cell 4 _ rfl
      by_cases hlt : j < evn
      case pos =>
        obtain ⟨hl, hnl, -, -, hnm, hrr⟩ := HVS.out
        obtain ⟨nm, hnj⟩ := some_of_lt hnl hlt
        obtain ⟨r0, hr0⟩ := some_of_lt hl hlt
        obtain ⟨b, off, rfl, -, hcn⟩ := hnm j nm hnj
        obtain ⟨b', off', e, hbe, -, hrc, hra⟩ := hrr.get hr0
        cases hbe
        rw [Nat.zero_add] at hrc
        have z0 := hx.cell hcn
        have hrc := RCells.ext hx hrc
        have hRu := Lib.hid (fun (w1 : World) (x : Ext w w1) => HI.out r0 S _ w1 (RuleAt.ext x hra))
        have HZ := Lib.hid hr0
        have HN := Lib.hid hnj
        clear hra hr0 hcn hnj hl hnl hnm hrr
        obtain ⟨rk, rx, rsa, rsn, rsc, rka, rkn, rkc, rva, rvn, rvc⟩ := e
        go_upto_region 14 with fail
        refine wp_region_order (fun (w' : World) => w'.cell? ⟨w.heap.size, 4, none⟩ = some (.slice (some ⟨b, off, none⟩) evn evc) ∧ w'.cell? ⟨b, off + j * 6, none⟩ = some (.string nm) ∧ RCells w' b (off + j * 6 + 1) (⟨rk, rx, rsa, rsn, rsc, rka, rkn, rkc, rva, rvn, rvc⟩ : Rv)) [1, 2, 3, 4, 5, 6, 8, 9, 10, 11, 12, 13, 14, 15, 16, 17, 19, 20] [1, 2, 3, 4, 5, 6, 0, 7, 8, 9, 10, 11, 12, 13, 14, 15, 16, 17, 18, 19, 20] (by kernel_rfl) (by kernel_rfl) (fun d _ _ _ _ h => by cases d <;> exact h) (by kernel_rfl) ?_
        have hS : (fun (w' : World) => w'.cell? ⟨w.heap.size, 4, none⟩ = some (.slice (some ⟨b, off, none⟩) evn evc) ∧ w'.cell? ⟨b, off + j * 6, none⟩ = some (.string nm) ∧ RCells w' b (off + j * 6 + 1) (⟨rk, rx, rsa, rsn, rsc, rka, rkn, rkc, rva, rvn, rvc⟩ : Rv)) _ := ⟨k4, z0, hrc⟩
        (apply ord_held rfl rfl (by assumption) rfl; (focus ((intro w' hS'); go_simp; (try with_reducible rfl))); (try simp only [Act.put, List.setIfInBounds_toArray, List.set_cons_zero, List.set_cons_succ]))
        (apply ord_held rfl rfl (by assumption) rfl; (focus ((intro w' hS'); go_simp; (try with_reducible rfl))); (try simp only [Act.put, List.setIfInBounds_toArray, List.set_cons_zero, List.set_cons_succ]))
        (apply ord_held rfl rfl (by assumption) rfl; (focus ((intro w' hS'); go_simp; (try with_reducible rfl))); (try simp only [Act.put, List.setIfInBounds_toArray, List.set_cons_zero, List.set_cons_succ]))
        (apply ord_held rfl rfl (by assumption) rfl; (focus ((intro w' hS'); go_simp; (try with_reducible rfl))); (try simp only [Act.put, List.setIfInBounds_toArray, List.set_cons_zero, List.set_cons_succ]))
        (apply ord_held rfl rfl (by assumption) rfl; (focus ((intro w' hS'); go_simp; (try with_reducible rfl))); (try simp only [Act.put, List.setIfInBounds_toArray, List.set_cons_zero, List.set_cons_succ]))
        (apply ord_held rfl rfl (by assumption) rfl; (focus ((intro w' hS'); go_simp; (try with_reducible rfl))); (try simp only [Act.put, List.setIfInBounds_toArray, List.set_cons_zero, List.set_cons_succ]))
        (apply ord_loud rfl rfl rfl; intro K hK; go_simp)
        refine (sieveNames_any _).mono ?_
        rintro r w5 ⟨v5, rfl, hs5, hx5⟩
        have x5 : Ext wr w5 := ext_trans (ext_drew (ext_refl _)) hx5
        have hS5 : (fun (w' : World) => w'.cell? ⟨w.heap.size, 4, none⟩ = some (.slice (some ⟨b, off, none⟩) evn evc) ∧ w'.cell? ⟨b, off + j * 6, none⟩ = some (.string nm) ∧ RCells w' b (off + j * 6 + 1) (⟨rk, rx, rsa, rsn, rsc, rka, rkn, rkc, rva, rvn, rvc⟩ : Rv)) w5 := ⟨x5.cell k4, x5.cell z0, RCells.ext x5 hrc⟩
        have HS5 := Lib.hid hs5
        clear hs5 hS
        refine hK _ _ (fun _ => hS5) ?_
        clear hK K
        (try simp only [Act.put, List.setIfInBounds_toArray, List.set_cons_zero, List.set_cons_succ])
        (apply ord_loud rfl rfl rfl; intro K hK; go_simp)
        refine (has_any _ _ _ sieveNames nm _ HS5.out).mono ?_
        rintro r w6 ⟨rfl, hw6⟩
        subst hw6
        refine hK _ _ (fun _ => hS5) ?_
        clear hK K
        (try simp only [Act.put, List.setIfInBounds_toArray, List.set_cons_zero, List.set_cons_succ])
        cases hhas : hasS sieveNames nm
        case false =>
          (apply ord_held rfl rfl (by assumption) rfl; (focus ((intro w' hS'); go_simp; (try with_reducible rfl))); (try simp only [Act.put, List.setIfInBounds_toArray, List.set_cons_zero, List.set_cons_succ]))
          (apply ord_held rfl rfl (by assumption) rfl; (focus ((intro w' hS'); go_simp; (try with_reducible rfl))); (try simp only [Act.put, List.setIfInBounds_toArray, List.set_cons_zero, List.set_cons_succ]))
          (apply ord_pass rfl rfl (by assumption) rfl; (try simp only [Act.put, List.setIfInBounds_toArray, List.set_cons_zero, List.set_cons_succ]))
          (apply ord_pass rfl rfl (by assumption) rfl; (try simp only [Act.put, List.setIfInBounds_toArray, List.set_cons_zero, List.set_cons_succ]))
          (apply ord_pass rfl rfl (by assumption) rfl; (try simp only [Act.put, List.setIfInBounds_toArray, List.set_cons_zero, List.set_cons_succ]))
          (apply ord_pass rfl rfl (by assumption) rfl; (try simp only [Act.put, List.setIfInBounds_toArray, List.set_cons_zero, List.set_cons_succ]))
          (apply ord_pass rfl rfl (by assumption) rfl; (try simp only [Act.put, List.setIfInBounds_toArray, List.set_cons_zero, List.set_cons_succ]))
          (apply ord_pass rfl rfl (by assumption) rfl; (try simp only [Act.put, List.setIfInBounds_toArray, List.set_cons_zero, List.set_cons_succ]))
          (apply ord_pass rfl rfl (by assumption) rfl; (try simp only [Act.put, List.setIfInBounds_toArray, List.set_cons_zero, List.set_cons_succ]))
          (apply ord_pass rfl rfl (by assumption) rfl; (try simp only [Act.put, List.setIfInBounds_toArray, List.set_cons_zero, List.set_cons_succ]))
          (apply ord_skip rfl rfl (by assumption) rfl; (try simp only [Act.put, List.setIfInBounds_toArray, List.set_cons_zero, List.set_cons_succ]))
          (apply ord_pass rfl rfl (by assumption) rfl; (try simp only [Act.put, List.setIfInBounds_toArray, List.set_cons_zero, List.set_cons_succ]))
          (apply ord_held rfl rfl (by assumption) rfl; (focus ((intro w' hS'); go_simp; (try with_reducible rfl))); (try simp only [Act.put, List.setIfInBounds_toArray, List.set_cons_zero, List.set_cons_succ]))
          refine ord_end ?_
          go_wp2_with fail
          go_ret
          exact ⟨false, rfl, (by intro h; cases h), by (repeat (first | exact ext_refl _ | assumption | refine ext_alloc ?_ _ | refine ext_drew ?_ | refine ext_set ?_ (by simp) _ | refine ext_trans ?_ (by assumption)))⟩
        (apply ord_held rfl rfl (by assumption) rfl; (focus ((intro w' hS'); go_simp; (try with_reducible rfl))); (try simp only [Act.put, List.setIfInBounds_toArray, List.set_cons_zero, List.set_cons_succ]))
        (apply ord_held rfl rfl (by assumption) rfl; (focus ((intro w' hS'); go_simp; (try with_reducible rfl))); (try simp only [Act.put, List.setIfInBounds_toArray, List.set_cons_zero, List.set_cons_succ]))
        (apply ord_guard rfl rfl (by assumption) rfl; (focus ((intro w' hS'); go_simp; (try with_reducible rfl))); (try simp only [Act.put, List.setIfInBounds_toArray, List.set_cons_zero, List.set_cons_succ]))
        (apply ord_guard rfl rfl (by assumption) rfl; (focus ((intro w' hS'); go_simp; (try with_reducible rfl))); (try simp only [Act.put, List.setIfInBounds_toArray, List.set_cons_zero, List.set_cons_succ]))
        (apply ord_guard rfl rfl (by assumption) rfl; (focus ((intro w' hS'); go_simp; (try with_reducible rfl))); (try simp only [Act.put, List.setIfInBounds_toArray, List.set_cons_zero, List.set_cons_succ]))
        (apply ord_guard rfl rfl (by assumption) rfl; (focus ((intro w' hS'); go_simp; (try with_reducible rfl))); (try simp only [Act.put, List.setIfInBounds_toArray, List.set_cons_zero, List.set_cons_succ]))
        (apply ord_guard rfl rfl (by assumption) rfl; (focus ((intro w' hS'); go_simp; (try with_reducible rfl))); (try simp only [Act.put, List.setIfInBounds_toArray, List.set_cons_zero, List.set_cons_succ]))
        (apply ord_guard rfl rfl (by assumption) rfl; (focus ((intro w' hS'); go_simp; (try with_reducible rfl))); (try simp only [Act.put, List.setIfInBounds_toArray, List.set_cons_zero, List.set_cons_succ]))
        (apply ord_guard rfl rfl (by assumption) rfl; (focus ((intro w' hS'); go_simp; (try with_reducible rfl))); (try simp only [Act.put, List.setIfInBounds_toArray, List.set_cons_zero, List.set_cons_succ]))
        (apply ord_guard rfl rfl (by assumption) rfl; (focus ((intro w' hS'); go_simp; (try with_reducible rfl))); (try simp only [Act.put, List.setIfInBounds_toArray, List.set_cons_zero, List.set_cons_succ]))
        (apply ord_want rfl rfl rfl; intro K hK; go_simp)
        try rw [hwr]
        refine (hRu.out _ (ext_trans hx x5)).mono ?_
        rintro r w8 ⟨b8, rfl, hb8, hx8⟩
        have hS8 : (fun (w' : World) => w'.cell? ⟨w.heap.size, 4, none⟩ = some (.slice (some ⟨b, off, none⟩) evn evc) ∧ w'.cell? ⟨b, off + j * 6, none⟩ = some (.string nm) ∧ RCells w' b (off + j * 6 + 1) (⟨rk, rx, rsa, rsn, rsc, rka, rkn, rkc, rva, rvn, rvc⟩ : Rv)) w8 := ⟨hx8.cell hS5.1, hx8.cell hS5.2.1, RCells.ext hx8 hS5.2.2⟩
        have HB8 := Lib.hid hb8
        clear hb8 hS5
        refine hK _ _ (fun _ => hS8) ?_
        clear hK K
        (try simp only [Act.put, List.setIfInBounds_toArray, List.set_cons_zero, List.set_cons_succ])
        cases b8
        case false =>
          (apply ord_guard rfl rfl (by assumption) rfl; (focus ((intro w' hS'); go_simp; (try with_reducible rfl))); (try simp only [Act.put, List.setIfInBounds_toArray, List.set_cons_zero, List.set_cons_succ]))
          (apply ord_held rfl rfl (by assumption) rfl; (focus ((intro w' hS'); go_simp; (try with_reducible rfl))); (try simp only [Act.put, List.setIfInBounds_toArray, List.set_cons_zero, List.set_cons_succ]))
          refine ord_end ?_
          go_wp2_with fail
          go_ret
          exact ⟨false, rfl, (by intro h; cases h), by (repeat (first | exact ext_refl _ | assumption | refine ext_alloc ?_ _ | refine ext_drew ?_ | refine ext_set ?_ (by simp) _ | refine ext_trans ?_ (by assumption)))⟩
        (apply ord_guard rfl rfl (by assumption) rfl; (focus ((intro w' hS'); go_simp; (try with_reducible rfl))); (try simp only [Act.put, List.setIfInBounds_toArray, List.set_cons_zero, List.set_cons_succ]))
        (apply ord_held rfl rfl (by assumption) rfl; (focus ((intro w' hS'); go_simp; (try with_reducible rfl))); (try simp only [Act.put, List.setIfInBounds_toArray, List.set_cons_zero, List.set_cons_succ]))
        refine ord_end ?_
        have x8 : Ext w w8 := ext_trans (ext_trans hx x5) hx8
        go_wp2_with fail
        go_roundw
        case rel => exact ⟨x8, hbr.ext (ext_trans x5 hx8), j + 1, by omega, by go_num, fun q hq => by
          rw [take_snoc HN.out] at hq
          rcases List.mem_append.1 hq with hq | hq
          · exact HFN.out q hq
          · rw [List.mem_singleton.1 hq]; exact hasS_mem hhas, fun r hr => by
          rw [take_snoc HZ.out] at hr
          rcases List.mem_append.1 hr with hr | hr
          · exact HFK.out r hr
          · rw [List.mem_singleton.1 hr]; exact HB8.out (by trivial)⟩
        case measure => simp [intOf]; omega
      have hjn : j = evn := by omega
      have hfn : ∀ nm ∈ ns, nm ∈ sieveNames := by
        have h1 := HFN.out
        rw [List.take_of_length_le (by have := HVS.out.2.1; omega)] at h1
        exact h1
      have hfk : ∀ r ∈ rs, FitR r := by
        have h1 := HFK.out
        rw [List.take_of_length_le (by have := HVS.out.1; omega)] at h1
        exact h1
      have hrl := HVS.out.1
      clear hjn
      go_wp2_with fail
      go_ret
      refine ⟨true, rfl, fun _ => ?_, hx⟩
      simp only [FitR]
      exact ⟨by decide, by decide, HB1.out (by trivial), fun h => absurd h (by decide), fun _ => by decide, (fitRs_iff _).2 HFK2.out, hfn, (fitRs_iff _).2 hfk⟩
end Go.Proofs.YtdjojnlejkljdaaGreat

namespace Go.Proofs.YtdjojnlejkljdaaGreat
open Go.RowKit

set_option maxRecDepth 20000 in
set_option maxHeartbeats 8000000 in
theorem fits_5 (n : Int) (hn1 : 1 ≤ n) (hn2 : n ≤ 1000) (ih : ∀ r, Fit2 r (n - 1)) (x : ByteArray) (ps : List (ByteArray × T)) (ks : List Rl) (ns : List ByteArray) (rs : List Rl) : Fit2 (.mk 5 x ps ks ns rs) n := by
  rintro S ⟨ek, ex, esa, esn, esc, eka, ekn, ekc, eva, evn, evc⟩ w h
  obtain ⟨h1, h2, hP, hK, hV⟩ := h.parts
  simp only at h1 h2 hP hK hV
  subst h1 h2
  have HP := Lib.hid fun (w1 : World) (x : Ext w w1) => hP.ext x
  have HKS := Lib.hid hK
  have HVS := Lib.hid hV
  have hkn : ekn ≤ 9223372036854775807 := by have h1 := hK.2.1; have h2 := hK.2.2.1; unfold maxLen at h2; omega
  have hvn : evn ≤ 9223372036854775807 := by have h1 := hV.2.2.1; have h2 := hV.2.2.2.1; unfold maxLen at h2; omega
  clear h hP hK hV
  simp only [Rv.val]
  go_enter Tryz.func7, Tryz.ntmps7
  go_upto_region 1 with fail
  have hbR : Box (w.alloc (.cells #[.int .i64 5, .string ex, .slice esa esn esc, .slice eka ekn ekc, .slice eva evn evc] 29)) w.heap.size #[.int .i64 5, .string ex, .slice esa esn esc, .slice eka ekn ekc, .slice eva evn evc] 29 := Box.at rfl _ _
  have hx0 : Ext w (w.alloc (.cells #[.int .i64 5, .string ex, .slice esa esn esc, .slice eka ekn ekc, .slice eva evn evc] 29)) := ext_alloc (ext_refl _) _
  generalize (w.alloc (.cells #[.int .i64 5, .string ex, .slice esa esn esc, .slice eka ekn ekc, .slice eva evn evc] 29)) = w0 at hbR hx0 ⊢
  have hxd : Ext w w0.drew := ext_drew hx0
  refine wp_region_order (fun (w' : World) => w'.cell? ⟨w.heap.size, 0, none⟩ = some (.int .i64 5) ∧ w'.cell? ⟨w.heap.size, 2, none⟩ = some (.slice esa esn esc)) [0, 1, 2, 3, 4, 5, 6, 7, 8, 9, 10, 11, 12, 13, 14, 16, 17, 19, 20, 21, 22, 23, 24, 25, 26, 27, 29, 30, 31] [0, 1, 2, 3, 4, 5, 6, 7, 8, 9, 10, 11, 12, 13, 14, 16, 17, 15, 18, 19, 20, 21, 22, 23, 24, 25, 26, 27, 28, 29, 30, 31] (by kernel_rfl) (by kernel_rfl) (fun d _ _ _ _ h => by cases d <;> exact h) (by kernel_rfl) ?_
  have hS : (fun (w' : World) => w'.cell? ⟨w.heap.size, 0, none⟩ = some (.int .i64 5) ∧ w'.cell? ⟨w.heap.size, 2, none⟩ = some (.slice esa esn esc)) _ := ⟨hbR.cell 0 _ rfl, hbR.cell 2 _ rfl⟩
  have HI := Lib.hid ih
  clear ih
  have hwr : IntKind.i64.wrap (n - 1) = n - 1 := IntWalk.i64_in _ (by omega)
  have hd0 : (n == 0) = false := by simp; omega
  (apply ord_held rfl rfl (by assumption) rfl; (focus ((intro w' hS'); go_simp; (try with_reducible rfl))); (try simp only [Act.put, List.setIfInBounds_toArray, List.set_cons_zero, List.set_cons_succ]))
  (apply ord_held rfl rfl (by assumption) rfl; (focus ((intro w' hS'); go_simp; (try with_reducible rfl))); (try simp only [Act.put, List.setIfInBounds_toArray, List.set_cons_zero, List.set_cons_succ]))
  try simp only [hd0]
  (apply ord_held rfl rfl (by assumption) rfl; (focus ((intro w' hS'); go_simp; (try with_reducible rfl))); (try simp only [Act.put, List.setIfInBounds_toArray, List.set_cons_zero, List.set_cons_succ]))
  (apply ord_guard rfl rfl (by assumption) rfl; (focus ((intro w' hS'); go_simp; (try with_reducible rfl))); (try simp only [Act.put, List.setIfInBounds_toArray, List.set_cons_zero, List.set_cons_succ]))
  (apply ord_guard rfl rfl (by assumption) rfl; (focus ((intro w' hS'); go_simp; (try with_reducible rfl))); (try simp only [Act.put, List.setIfInBounds_toArray, List.set_cons_zero, List.set_cons_succ]))
  (apply ord_guard rfl rfl (by assumption) rfl; (focus ((intro w' hS'); go_simp; (try with_reducible rfl))); (try simp only [Act.put, List.setIfInBounds_toArray, List.set_cons_zero, List.set_cons_succ]))
  (apply ord_held rfl rfl (by assumption) rfl; (focus ((intro w' hS'); go_simp; (try with_reducible rfl))); (try simp only [Act.put, List.setIfInBounds_toArray, List.set_cons_zero, List.set_cons_succ]))
  (apply ord_held rfl rfl (by assumption) rfl; (focus ((intro w' hS'); go_simp; (try with_reducible rfl))); (try simp only [Act.put, List.setIfInBounds_toArray, List.set_cons_zero, List.set_cons_succ]))
  (apply ord_guard rfl rfl (by assumption) rfl; (focus ((intro w' hS'); go_simp; (try with_reducible rfl))); (try simp only [Act.put, List.setIfInBounds_toArray, List.set_cons_zero, List.set_cons_succ]))
  (apply ord_guard rfl rfl (by assumption) rfl; (focus ((intro w' hS'); go_simp; (try with_reducible rfl))); (try simp only [Act.put, List.setIfInBounds_toArray, List.set_cons_zero, List.set_cons_succ]))
  (apply ord_guard rfl rfl (by assumption) rfl; (focus ((intro w' hS'); go_simp; (try with_reducible rfl))); (try simp only [Act.put, List.setIfInBounds_toArray, List.set_cons_zero, List.set_cons_succ]))
  (apply ord_held rfl rfl (by assumption) rfl; (focus ((intro w' hS'); go_simp; (try with_reducible rfl))); (try simp only [Act.put, List.setIfInBounds_toArray, List.set_cons_zero, List.set_cons_succ]))
  (apply ord_held rfl rfl (by assumption) rfl; (focus ((intro w' hS'); go_simp; (try with_reducible rfl))); (try simp only [Act.put, List.setIfInBounds_toArray, List.set_cons_zero, List.set_cons_succ]))
  (apply ord_guard rfl rfl (by assumption) rfl; (focus ((intro w' hS'); go_simp; (try with_reducible rfl))); (try simp only [Act.put, List.setIfInBounds_toArray, List.set_cons_zero, List.set_cons_succ]))
  (apply ord_guard rfl rfl (by assumption) rfl; (focus ((intro w' hS'); go_simp; (try with_reducible rfl))); (try simp only [Act.put, List.setIfInBounds_toArray, List.set_cons_zero, List.set_cons_succ]))
  (apply ord_guard rfl rfl (by assumption) rfl; (focus ((intro w' hS'); go_simp; (try with_reducible rfl))); (try simp only [Act.put, List.setIfInBounds_toArray, List.set_cons_zero, List.set_cons_succ]))
  (apply ord_guard rfl rfl (by assumption) rfl; (focus ((intro w' hS'); go_simp; (try with_reducible rfl))); (try simp only [Act.put, List.setIfInBounds_toArray, List.set_cons_zero, List.set_cons_succ]))
  (apply ord_want rfl rfl rfl; intro K hK; go_simp)
  refine (ruleTable_any 5 _).mono ?_
  rintro r w9 ⟨rfl, hw9⟩
  rw [hw9]
  clear hw9
  refine hK _ _ (fun _ => hS) ?_
  clear hK K
  (try simp only [Act.put, List.setIfInBounds_toArray, List.set_cons_zero, List.set_cons_succ])
  (apply ord_want rfl rfl rfl; intro K hK; go_simp)
  refine (fitsR_any (S := S) 5 _ _ _ ps w0.drew (HP.out _ hxd)).mono ?_
  rintro r w1 ⟨b1, rfl, hb1, hx1⟩
  have hS1 : (fun (w' : World) => w'.cell? ⟨w.heap.size, 0, none⟩ = some (.int .i64 5) ∧ w'.cell? ⟨w.heap.size, 2, none⟩ = some (.slice esa esn esc)) w1 := ⟨hx1.cell hS.1, hx1.cell hS.2⟩
  refine hK _ _ (fun _ => hS1) ?_
  clear hK K
  (try simp only [Act.put, List.setIfInBounds_toArray, List.set_cons_zero, List.set_cons_succ])
  have hxw1 : Ext w w1 := ext_trans hxd hx1
  have hbR1 := hbR.drew.ext hx1
  have HB1 := Lib.hid hb1
  clear hb1 hS
  cases b1
  case false =>
    (apply ord_guard rfl rfl (by assumption) rfl; (focus ((intro w' hS'); go_simp; (try with_reducible rfl))); (try simp only [Act.put, List.setIfInBounds_toArray, List.set_cons_zero, List.set_cons_succ]))
    (apply ord_held rfl rfl (by assumption) rfl; (focus ((intro w' hS'); go_simp; (try with_reducible rfl))); (try simp only [Act.put, List.setIfInBounds_toArray, List.set_cons_zero, List.set_cons_succ]))
    (apply ord_held rfl rfl (by assumption) rfl; (focus ((intro w' hS'); go_simp; (try with_reducible rfl))); (try simp only [Act.put, List.setIfInBounds_toArray, List.set_cons_zero, List.set_cons_succ]))
    (apply ord_pass rfl rfl (by assumption) rfl; (try simp only [Act.put, List.setIfInBounds_toArray, List.set_cons_zero, List.set_cons_succ]))
    (apply ord_pass rfl rfl (by assumption) rfl; (try simp only [Act.put, List.setIfInBounds_toArray, List.set_cons_zero, List.set_cons_succ]))
    (apply ord_pass rfl rfl (by assumption) rfl; (try simp only [Act.put, List.setIfInBounds_toArray, List.set_cons_zero, List.set_cons_succ]))
    (apply ord_pass rfl rfl (by assumption) rfl; (try simp only [Act.put, List.setIfInBounds_toArray, List.set_cons_zero, List.set_cons_succ]))
    (apply ord_pass rfl rfl (by assumption) rfl; (try simp only [Act.put, List.setIfInBounds_toArray, List.set_cons_zero, List.set_cons_succ]))
    (apply ord_pass rfl rfl (by assumption) rfl; (try simp only [Act.put, List.setIfInBounds_toArray, List.set_cons_zero, List.set_cons_succ]))
    (apply ord_skip rfl rfl (by assumption) rfl; (try simp only [Act.put, List.setIfInBounds_toArray, List.set_cons_zero, List.set_cons_succ]))
    (apply ord_pass rfl rfl (by assumption) rfl; (try simp only [Act.put, List.setIfInBounds_toArray, List.set_cons_zero, List.set_cons_succ]))
    (apply ord_pass rfl rfl (by assumption) rfl; (try simp only [Act.put, List.setIfInBounds_toArray, List.set_cons_zero, List.set_cons_succ]))
    (apply ord_held rfl rfl (by assumption) rfl; (focus ((intro w' hS'); go_simp; (try with_reducible rfl))); (try simp only [Act.put, List.setIfInBounds_toArray, List.set_cons_zero, List.set_cons_succ]))
    refine ord_end ?_
    go_wp2_with fail
    go_ret
    exact ⟨false, rfl, (by intro h; cases h), by (repeat (first | exact ext_refl _ | assumption | refine ext_alloc ?_ _ | refine ext_drew ?_ | refine ext_set ?_ (by simp) _ | refine ext_trans ?_ (by assumption)))⟩
  (apply ord_guard rfl rfl (by assumption) rfl; (focus ((intro w' hS'); go_simp; (try with_reducible rfl))); (try simp only [Act.put, List.setIfInBounds_toArray, List.set_cons_zero, List.set_cons_succ]))
  (apply ord_held rfl rfl (by assumption) rfl; (focus ((intro w' hS'); go_simp; (try with_reducible rfl))); (try simp only [Act.put, List.setIfInBounds_toArray, List.set_cons_zero, List.set_cons_succ]))
  (apply ord_held rfl rfl (by assumption) rfl; (focus ((intro w' hS'); go_simp; (try with_reducible rfl))); (try simp only [Act.put, List.setIfInBounds_toArray, List.set_cons_zero, List.set_cons_succ]))
  (apply ord_guard rfl rfl (by assumption) rfl; (focus ((intro w' hS'); go_simp; (try with_reducible rfl))); (try simp only [Act.put, List.setIfInBounds_toArray, List.set_cons_zero, List.set_cons_succ]))
  (apply ord_guard rfl rfl (by assumption) rfl; (focus ((intro w' hS'); go_simp; (try with_reducible rfl))); (try simp only [Act.put, List.setIfInBounds_toArray, List.set_cons_zero, List.set_cons_succ]))
  (apply ord_guard rfl rfl (by assumption) rfl; (focus ((intro w' hS'); go_simp; (try with_reducible rfl))); (try simp only [Act.put, List.setIfInBounds_toArray, List.set_cons_zero, List.set_cons_succ]))
  (apply ord_guard rfl rfl (by assumption) rfl; (focus ((intro w' hS'); go_simp; (try with_reducible rfl))); (try simp only [Act.put, List.setIfInBounds_toArray, List.set_cons_zero, List.set_cons_succ]))
  (apply ord_pass rfl rfl (by assumption) rfl; (try simp only [Act.put, List.setIfInBounds_toArray, List.set_cons_zero, List.set_cons_succ]))
  (apply ord_pass rfl rfl (by assumption) rfl; (try simp only [Act.put, List.setIfInBounds_toArray, List.set_cons_zero, List.set_cons_succ]))
  (apply ord_skip rfl rfl (by assumption) rfl; (try simp only [Act.put, List.setIfInBounds_toArray, List.set_cons_zero, List.set_cons_succ]))
  (apply ord_pass rfl rfl (by assumption) rfl; (try simp only [Act.put, List.setIfInBounds_toArray, List.set_cons_zero, List.set_cons_succ]))
  (apply ord_guard rfl rfl (by assumption) rfl; (focus ((intro w' hS'); go_simp; (try with_reducible rfl))); (try simp only [Act.put, List.setIfInBounds_toArray, List.set_cons_zero, List.set_cons_succ]))
  (apply ord_held rfl rfl (by assumption) rfl; (focus ((intro w' hS'); go_simp; (try with_reducible rfl))); (try simp only [Act.put, List.setIfInBounds_toArray, List.set_cons_zero, List.set_cons_succ]))
  refine ord_end ?_
  have hxL : Ext w w1 := hxw1
  have hbL := hbR1
  have k1 := hbL.cell 1 _ rfl
  have k3 := hbL.cell 3 _ rfl
  have k4 := hbL.cell 4 _ rfl
  by_cases hk0 : 0 < ekn
  case neg =>
    go_wp2_with fail
    all_goals (go_ret; exact ⟨false, rfl, (by intro h; cases h), by (repeat (first | exact ext_refl _ | assumption | refine ext_alloc ?_ _ | refine ext_drew ?_ | refine ext_set ?_ (by simp) _ | refine ext_trans ?_ (by assumption)))⟩)
  go_wp2_with fail
  go_loopw [6] (fun i wr => Ext w wr ∧ Box wr w.heap.size #[.int .i64 5, .string ex, .slice esa esn esc, .slice eka ekn ekc, .slice eva evn evc] 29 ∧ ∃ j : Nat, j ≤ ekn ∧ i = .int .i64 j ∧ ∀ r ∈ ks.take j, FitR r) (fun i _ => ekn - (intOf i).toNat)
  case atStart => exact ⟨hxL, hbL, 0, Nat.zero_le _, rfl, by simp⟩
  case round =>
    obtain ⟨hx, hbr, j, hj, rfl, hfk⟩ := hrel
    have HFK := Lib.hid hfk
    clear hfk
    have k3 := hbr.cell 3 _ rfl
    by_cases hlt : j < ekn
    case pos =>
      obtain ⟨r0, hr0⟩ := some_of_lt HKS.out.1 hlt
      obtain ⟨b, off, e, rfl, -, hrc, hra⟩ := HKS.out.2.2.2.get hr0
      rw [Nat.zero_add, Nat.add_zero] at hrc
      have hrc := RCells.ext hx hrc
      have hRu := Lib.hid (fun (w1 : World) (x : Ext w w1) => HI.out r0 S _ w1 (RuleAt.ext x hra))
      have HZ := Lib.hid hr0
      clear hra hr0
      obtain ⟨rk, rx, rsa, rsn, rsc, rka, rkn, rkc, rva, rvn, rvc⟩ := e
      obtain ⟨c0, c1, c2, c3, c4⟩ := hrc
      go_wp2_with (first
        | (go_at_call 7; refine (hRu.out _ (by (repeat (first | exact ext_refl _ | assumption | refine ext_alloc ?_ _ | refine ext_drew ?_ | refine ext_set ?_ (by simp) _ | refine ext_trans ?_ (by assumption))))).mono ?_; rintro r w8 ⟨b8, rfl, hb8, hx8⟩; have HB8 := Lib.hid hb8; clear hb8; cases b8)
        | fail)
      all_goals (try (go_ret; exact ⟨false, rfl, (by intro h; cases h), by (repeat (first | exact ext_refl _ | assumption | refine ext_alloc ?_ _ | refine ext_drew ?_ | refine ext_set ?_ (by simp) _ | refine ext_trans ?_ (by assumption)))⟩))
      have x8 : Ext w w8 := by (repeat (first | exact ext_refl _ | assumption | refine ext_alloc ?_ _ | refine ext_drew ?_ | refine ext_set ?_ (by simp) _ | refine ext_trans ?_ (by assumption)))
      go_roundw
      case rel => exact ⟨x8, by first | exact hbr.ext hx8 | exact (hbr.alloc _).ext hx8, j + 1, by omega, by go_num, fun r hr => by
        rw [take_snoc HZ.out] at hr
        rcases List.mem_append.1 hr with hr | hr
        · exact HFK.out r hr
        · rw [List.mem_singleton.1 hr]; exact HB8.out (by trivial)⟩
      case measure => simp [intOf]; omega
    have hjn : j = ekn := by omega
    have HFK2 := Lib.hid (show ∀ r ∈ ks, FitR r by
      have h1 := HFK.out
      rw [List.take_of_length_le (by have := HKS.out.1; omega)] at h1
      exact h1)
    clear HFK hjn
    have k4 := hbr.cell 4 _ rfl
    go_wp2_with fail
    go_loopw [7] (fun i wr => Ext w wr ∧ Box wr w.heap.size #[.int .i64 5, .string ex, .slice esa esn esc, .slice eka ekn ekc, .slice eva evn evc] 29 ∧ ∃ j : Nat, j ≤ evn ∧ i = .int .i64 j ∧ (∀ nm ∈ ns.take j, nm ∈ sieveNames) ∧ ∀ r ∈ rs.take j, FitR r) (fun i _ => evn - (intOf i).toNat)
    case atStart => exact ⟨hx, hbr, 0, Nat.zero_le _, rfl, by simp, by simp⟩
    case round =>
      clear hx hbr k3 k4 hj hlt
      obtain ⟨hx, hbr, j, hj, rfl, hfn, hfk⟩ := hrel
      have HFN := Lib.hid hfn
      have HFK := Lib.hid hfk
      clear hfk hfn
      have k4 := hbr.cell 4 _ rfl
      by_cases hlt : j < evn
      case pos =>
        obtain ⟨hl, hnl, -, -, hnm, hrr⟩ := HVS.out
        obtain ⟨nm, hnj⟩ := some_of_lt hnl hlt
        obtain ⟨r0, hr0⟩ := some_of_lt hl hlt
        obtain ⟨b, off, rfl, -, hcn⟩ := hnm j nm hnj
        obtain ⟨b', off', e, hbe, -, hrc, hra⟩ := hrr.get hr0
        cases hbe
        rw [Nat.zero_add] at hrc
        have z0 := hx.cell hcn
        have hrc := RCells.ext hx hrc
        have hRu := Lib.hid (fun (w1 : World) (x : Ext w w1) => HI.out r0 S _ w1 (RuleAt.ext x hra))
        have HZ := Lib.hid hr0
        have HN := Lib.hid hnj
        clear hra hr0 hcn hnj hl hnl hnm hrr
        obtain ⟨rk, rx, rsa, rsn, rsc, rka, rkn, rkc, rva, rvn, rvc⟩ := e
        go_upto_region 14 with fail
        refine wp_region_order (fun (w' : World) => w'.cell? ⟨w.heap.size, 4, none⟩ = some (.slice (some ⟨b, off, none⟩) evn evc) ∧ w'.cell? ⟨b, off + j * 6, none⟩ = some (.string nm) ∧ RCells w' b (off + j * 6 + 1) (⟨rk, rx, rsa, rsn, rsc, rka, rkn, rkc, rva, rvn, rvc⟩ : Rv)) [1, 2, 3, 4, 5, 6, 8, 9, 10, 11, 12, 13, 14, 15, 16, 17, 19, 20] [1, 2, 3, 4, 5, 6, 0, 7, 8, 9, 10, 11, 12, 13, 14, 15, 16, 17, 18, 19, 20] (by kernel_rfl) (by kernel_rfl) (fun d _ _ _ _ h => by cases d <;> exact h) (by kernel_rfl) ?_
        have hS : (fun (w' : World) => w'.cell? ⟨w.heap.size, 4, none⟩ = some (.slice (some ⟨b, off, none⟩) evn evc) ∧ w'.cell? ⟨b, off + j * 6, none⟩ = some (.string nm) ∧ RCells w' b (off + j * 6 + 1) (⟨rk, rx, rsa, rsn, rsc, rka, rkn, rkc, rva, rvn, rvc⟩ : Rv)) _ := ⟨k4, z0, hrc⟩
        (apply ord_held rfl rfl (by assumption) rfl; (focus ((intro w' hS'); go_simp; (try with_reducible rfl))); (try simp only [Act.put, List.setIfInBounds_toArray, List.set_cons_zero, List.set_cons_succ]))
        (apply ord_held rfl rfl (by assumption) rfl; (focus ((intro w' hS'); go_simp; (try with_reducible rfl))); (try simp only [Act.put, List.setIfInBounds_toArray, List.set_cons_zero, List.set_cons_succ]))
        (apply ord_held rfl rfl (by assumption) rfl; (focus ((intro w' hS'); go_simp; (try with_reducible rfl))); (try simp only [Act.put, List.setIfInBounds_toArray, List.set_cons_zero, List.set_cons_succ]))
        (apply ord_held rfl rfl (by assumption) rfl; (focus ((intro w' hS'); go_simp; (try with_reducible rfl))); (try simp only [Act.put, List.setIfInBounds_toArray, List.set_cons_zero, List.set_cons_succ]))
        (apply ord_held rfl rfl (by assumption) rfl; (focus ((intro w' hS'); go_simp; (try with_reducible rfl))); (try simp only [Act.put, List.setIfInBounds_toArray, List.set_cons_zero, List.set_cons_succ]))
        (apply ord_held rfl rfl (by assumption) rfl; (focus ((intro w' hS'); go_simp; (try with_reducible rfl))); (try simp only [Act.put, List.setIfInBounds_toArray, List.set_cons_zero, List.set_cons_succ]))
        (apply ord_loud rfl rfl rfl; intro K hK; go_simp)
        refine (sieveNames_any _).mono ?_
        rintro r w5 ⟨v5, rfl, hs5, hx5⟩
        have x5 : Ext wr w5 := ext_trans (ext_drew (ext_refl _)) hx5
        have hS5 : (fun (w' : World) => w'.cell? ⟨w.heap.size, 4, none⟩ = some (.slice (some ⟨b, off, none⟩) evn evc) ∧ w'.cell? ⟨b, off + j * 6, none⟩ = some (.string nm) ∧ RCells w' b (off + j * 6 + 1) (⟨rk, rx, rsa, rsn, rsc, rka, rkn, rkc, rva, rvn, rvc⟩ : Rv)) w5 := ⟨x5.cell k4, x5.cell z0, RCells.ext x5 hrc⟩
        have HS5 := Lib.hid hs5
        clear hs5 hS
        refine hK _ _ (fun _ => hS5) ?_
        clear hK K
        (try simp only [Act.put, List.setIfInBounds_toArray, List.set_cons_zero, List.set_cons_succ])
        (apply ord_loud rfl rfl rfl; intro K hK; go_simp)
        refine (has_any _ _ _ sieveNames nm _ HS5.out).mono ?_
        rintro r w6 ⟨rfl, hw6⟩
        subst hw6
        refine hK _ _ (fun _ => hS5) ?_
        clear hK K
        (try simp only [Act.put, List.setIfInBounds_toArray, List.set_cons_zero, List.set_cons_succ])
        cases hhas : hasS sieveNames nm
        case false =>
          (apply ord_held rfl rfl (by assumption) rfl; (focus ((intro w' hS'); go_simp; (try with_reducible rfl))); (try simp only [Act.put, List.setIfInBounds_toArray, List.set_cons_zero, List.set_cons_succ]))
          (apply ord_held rfl rfl (by assumption) rfl; (focus ((intro w' hS'); go_simp; (try with_reducible rfl))); (try simp only [Act.put, List.setIfInBounds_toArray, List.set_cons_zero, List.set_cons_succ]))
          (apply ord_pass rfl rfl (by assumption) rfl; (try simp only [Act.put, List.setIfInBounds_toArray, List.set_cons_zero, List.set_cons_succ]))
          (apply ord_pass rfl rfl (by assumption) rfl; (try simp only [Act.put, List.setIfInBounds_toArray, List.set_cons_zero, List.set_cons_succ]))
          (apply ord_pass rfl rfl (by assumption) rfl; (try simp only [Act.put, List.setIfInBounds_toArray, List.set_cons_zero, List.set_cons_succ]))
          (apply ord_pass rfl rfl (by assumption) rfl; (try simp only [Act.put, List.setIfInBounds_toArray, List.set_cons_zero, List.set_cons_succ]))
          (apply ord_pass rfl rfl (by assumption) rfl; (try simp only [Act.put, List.setIfInBounds_toArray, List.set_cons_zero, List.set_cons_succ]))
          (apply ord_pass rfl rfl (by assumption) rfl; (try simp only [Act.put, List.setIfInBounds_toArray, List.set_cons_zero, List.set_cons_succ]))
          (apply ord_pass rfl rfl (by assumption) rfl; (try simp only [Act.put, List.setIfInBounds_toArray, List.set_cons_zero, List.set_cons_succ]))
          (apply ord_pass rfl rfl (by assumption) rfl; (try simp only [Act.put, List.setIfInBounds_toArray, List.set_cons_zero, List.set_cons_succ]))
          (apply ord_skip rfl rfl (by assumption) rfl; (try simp only [Act.put, List.setIfInBounds_toArray, List.set_cons_zero, List.set_cons_succ]))
          (apply ord_pass rfl rfl (by assumption) rfl; (try simp only [Act.put, List.setIfInBounds_toArray, List.set_cons_zero, List.set_cons_succ]))
          (apply ord_held rfl rfl (by assumption) rfl; (focus ((intro w' hS'); go_simp; (try with_reducible rfl))); (try simp only [Act.put, List.setIfInBounds_toArray, List.set_cons_zero, List.set_cons_succ]))
          refine ord_end ?_
          go_wp2_with fail
          go_ret
          exact ⟨false, rfl, (by intro h; cases h), by (repeat (first | exact ext_refl _ | assumption | refine ext_alloc ?_ _ | refine ext_drew ?_ | refine ext_set ?_ (by simp) _ | refine ext_trans ?_ (by assumption)))⟩
        (apply ord_held rfl rfl (by assumption) rfl; (focus ((intro w' hS'); go_simp; (try with_reducible rfl))); (try simp only [Act.put, List.setIfInBounds_toArray, List.set_cons_zero, List.set_cons_succ]))
        (apply ord_held rfl rfl (by assumption) rfl; (focus ((intro w' hS'); go_simp; (try with_reducible rfl))); (try simp only [Act.put, List.setIfInBounds_toArray, List.set_cons_zero, List.set_cons_succ]))
        (apply ord_guard rfl rfl (by assumption) rfl; (focus ((intro w' hS'); go_simp; (try with_reducible rfl))); (try simp only [Act.put, List.setIfInBounds_toArray, List.set_cons_zero, List.set_cons_succ]))
        (apply ord_guard rfl rfl (by assumption) rfl; (focus ((intro w' hS'); go_simp; (try with_reducible rfl))); (try simp only [Act.put, List.setIfInBounds_toArray, List.set_cons_zero, List.set_cons_succ]))
        (apply ord_guard rfl rfl (by assumption) rfl; (focus ((intro w' hS'); go_simp; (try with_reducible rfl))); (try simp only [Act.put, List.setIfInBounds_toArray, List.set_cons_zero, List.set_cons_succ]))
        (apply ord_guard rfl rfl (by assumption) rfl; (focus ((intro w' hS'); go_simp; (try with_reducible rfl))); (try simp only [Act.put, List.setIfInBounds_toArray, List.set_cons_zero, List.set_cons_succ]))
        (apply ord_guard rfl rfl (by assumption) rfl; (focus ((intro w' hS'); go_simp; (try with_reducible rfl))); (try simp only [Act.put, List.setIfInBounds_toArray, List.set_cons_zero, List.set_cons_succ]))
        (apply ord_guard rfl rfl (by assumption) rfl; (focus ((intro w' hS'); go_simp; (try with_reducible rfl))); (try simp only [Act.put, List.setIfInBounds_toArray, List.set_cons_zero, List.set_cons_succ]))
        (apply ord_guard rfl rfl (by assumption) rfl; (focus ((intro w' hS'); go_simp; (try with_reducible rfl))); (try simp only [Act.put, List.setIfInBounds_toArray, List.set_cons_zero, List.set_cons_succ]))
        (apply ord_guard rfl rfl (by assumption) rfl; (focus ((intro w' hS'); go_simp; (try with_reducible rfl))); (try simp only [Act.put, List.setIfInBounds_toArray, List.set_cons_zero, List.set_cons_succ]))
        (apply ord_want rfl rfl rfl; intro K hK; go_simp)
        try rw [hwr]
        refine (hRu.out _ (ext_trans hx x5)).mono ?_
        rintro r w8 ⟨b8, rfl, hb8, hx8⟩
        have hS8 : (fun (w' : World) => w'.cell? ⟨w.heap.size, 4, none⟩ = some (.slice (some ⟨b, off, none⟩) evn evc) ∧ w'.cell? ⟨b, off + j * 6, none⟩ = some (.string nm) ∧ RCells w' b (off + j * 6 + 1) (⟨rk, rx, rsa, rsn, rsc, rka, rkn, rkc, rva, rvn, rvc⟩ : Rv)) w8 := ⟨hx8.cell hS5.1, hx8.cell hS5.2.1, RCells.ext hx8 hS5.2.2⟩
        have HB8 := Lib.hid hb8
        clear hb8 hS5
        refine hK _ _ (fun _ => hS8) ?_
        clear hK K
        (try simp only [Act.put, List.setIfInBounds_toArray, List.set_cons_zero, List.set_cons_succ])
        cases b8
        case false =>
          (apply ord_guard rfl rfl (by assumption) rfl; (focus ((intro w' hS'); go_simp; (try with_reducible rfl))); (try simp only [Act.put, List.setIfInBounds_toArray, List.set_cons_zero, List.set_cons_succ]))
          (apply ord_held rfl rfl (by assumption) rfl; (focus ((intro w' hS'); go_simp; (try with_reducible rfl))); (try simp only [Act.put, List.setIfInBounds_toArray, List.set_cons_zero, List.set_cons_succ]))
          refine ord_end ?_
          go_wp2_with fail
          go_ret
          exact ⟨false, rfl, (by intro h; cases h), by (repeat (first | exact ext_refl _ | assumption | refine ext_alloc ?_ _ | refine ext_drew ?_ | refine ext_set ?_ (by simp) _ | refine ext_trans ?_ (by assumption)))⟩
        (apply ord_guard rfl rfl (by assumption) rfl; (focus ((intro w' hS'); go_simp; (try with_reducible rfl))); (try simp only [Act.put, List.setIfInBounds_toArray, List.set_cons_zero, List.set_cons_succ]))
        (apply ord_held rfl rfl (by assumption) rfl; (focus ((intro w' hS'); go_simp; (try with_reducible rfl))); (try simp only [Act.put, List.setIfInBounds_toArray, List.set_cons_zero, List.set_cons_succ]))
        refine ord_end ?_
        have x8 : Ext w w8 := ext_trans (ext_trans hx x5) hx8
        go_wp2_with fail
        go_roundw
        case rel => exact ⟨x8, hbr.ext (ext_trans x5 hx8), j + 1, by omega, by go_num, fun q hq => by
          rw [take_snoc HN.out] at hq
          rcases List.mem_append.1 hq with hq | hq
          · exact HFN.out q hq
          · rw [List.mem_singleton.1 hq]; exact hasS_mem hhas, fun r hr => by
          rw [take_snoc HZ.out] at hr
          rcases List.mem_append.1 hr with hr | hr
          · exact HFK.out r hr
          · rw [List.mem_singleton.1 hr]; exact HB8.out (by trivial)⟩
        case measure => simp [intOf]; omega
      have hjn : j = evn := by omega
      have hfn : ∀ nm ∈ ns, nm ∈ sieveNames := by
        have h1 := HFN.out
        rw [List.take_of_length_le (by have := HVS.out.2.1; omega)] at h1
        exact h1
      have hfk : ∀ r ∈ rs, FitR r := by
        have h1 := HFK.out
        rw [List.take_of_length_le (by have := HVS.out.1; omega)] at h1
        exact h1
      have hrl := HVS.out.1
      clear hjn
      go_wp2_with fail
      go_ret
      refine ⟨true, rfl, fun _ => ?_, hx⟩
      simp only [FitR]
      exact ⟨by decide, by decide, HB1.out (by trivial), fun h => absurd h (by decide), fun _ => by decide, (fitRs_iff _).2 HFK2.out, hfn, (fitRs_iff _).2 hfk⟩
end Go.Proofs.YtdjojnlejkljdaaGreat

namespace Go.Proofs.YtdjojnlejkljdaaGreat
open Go.RowKit

theorem fits_step (n : Int) (hn1 : 1 ≤ n) (hn2 : n ≤ 1000) (ih : ∀ r, Fit2 r (n - 1)) : ∀ r, Fit2 r n
  | .mk k x ps ks ns rs => by
    by_cases h0 : k < 0
    · exact fits_low n hn1 hn2 k x ps ks ns rs h0
    by_cases h5 : 5 < k
    · exact fits_high n hn1 hn2 k x ps ks ns rs h5
    have hk : k = 0 ∨ k = 1 ∨ k = 2 ∨ k = 3 ∨ k = 4 ∨ k = 5 := by omega
    rcases hk with rfl | rfl | rfl | rfl | rfl | rfl
    · exact fits_0 n hn1 hn2 ih x ps ks ns rs
    · exact fits_1 n hn1 hn2 ih x ps ks ns rs
    · exact fits_2 n hn1 hn2 ih x ps ks ns rs
    · exact fits_3 n hn1 hn2 ih x ps ks ns rs
    · exact fits_4 n hn1 hn2 ih x ps ks ns rs
    · exact fits_5 n hn1 hn2 ih x ps ks ns rs
theorem fits_at : ∀ (d : Nat) (_ : d ≤ 1000) (r : Rl), Fit2 r d
  | 0, _ => fits_zero
  | d + 1, h => fits_step ((d + 1 : Nat) : Int) (by omega) (by omega) (fun r => by
      have h2 : ((d + 1 : Nat) : Int) - 1 = (d : Int) := by omega
      rw [h2]
      exact fits_at d (by omega) r)
end Go.Proofs.YtdjojnlejkljdaaGreat

