/-
  What stands in a field; bounds on a rule.
-/
import Derived.Test.YtdjojnlejkljdaaGreatIRPrefix
import Derived.Test.YtdjojnlejkljdaaGreatIRWildcard
import Derived.Test.YtdjojnlejkljdaaGreatIRFuzzy
import Derived.Test.YtdjojnlejkljdaaGreatIRMatch
import Derived.Test.YtdjojnlejkljdaaGreatIRAllOf
import Derived.Test.YtdjojnlejkljdaaGreatIRAnyOf
import Derived.Test.YtdjojnlejkljdaaGreatRSie
import Derived.Test.YtdjojnlejkljdaaGreatDraw
import Derived.Test.YtdjojnlejkljdaaGreatRFit
import Derived.Test.YtdjojnlejkljdaaGreatZz
import Derived.Test.YtdjojnlejkljdaaGreatLx
namespace Go.Proofs.YtdjojnlejkljdaaGreat
open Go.RowKit Go.Maps

theorem info_irule : (Tryz.prog.info? 60).map (fun i => (i.zero, i.size, i.bytes)) = some (some .nilIface, 1, 16) := by kernel_rfl
section
variable {ops : Array Oper} {o : Oper} {rest : List Oper} {a : Act} {Q : Exit → Act → World → Prop}
theorem list_append_rule (w : World) (hgd : o.guard = none) (s x : Operand) (ho : o.op = .call { callee := .builtin .append, args := #[s, x], argTypes := #[121, 121] })
    (base : Nat) (v : Value) (ss : List Value) (hs : a.eval s = v) (hown : OwnV 60 w base v ss) (b off n cap : Nat) (fs : List Value) (hf : 0 < fs.length) (hn : fs.length = n) (hone : ∀ u ∈ fs, u.oneCell' = true) (hx : a.eval x = .slice (some ⟨b, off, none⟩) n cap)
    (hc : ∀ i f, fs[i]? = some f → w.cell? ⟨b, off + i, none⟩ = some f) (hb : (ss.length + fs.length) * 16 ≤ 140737488355328) (hbase : base ≤ w.heap.size)
    (h : ∀ g cap w', OwnV 60 w' base (.slice (some ⟨g, 0, none⟩) (ss.length + fs.length) cap) (ss ++ fs) → w.grownBy w' v.ownBlock → Lies w v g → g < w'.heap.size → wpList Tryz.prog ops Q rest (a.put o.dst (.slice (some ⟨g, 0, none⟩) (ss.length + fs.length) cap)) w') : wpList Tryz.prog ops Q (o :: rest) a w := by
  subst hn
  refine wpList_plain hgd fun K hK => ?_
  obtain ⟨i, hi, hz, hsz, hby⟩ := info_parts info_irule
  refine wp_append_lies w s x 121 ho base 60 i _ 1 16 Tryz.underlying121 hi hz hsz hby rfl (by omega) v ss.length ss hs hown ⟨b, off, none⟩ fs.length cap fs hx (by simp) ?_ hone hf (by unfold maxLen; omega) hb hbase _ rfl ?_
  · intro j u hu
    rw [Addr.add_lit]
    exact hc j u hu
  · intro g cap w' hown' hg hl hlt
    exact hK _ _ (h g cap w' (by simpa [OwnV] using hown') hg hl hlt)
end
set_option maxRecDepth 20000 in
set_option maxHeartbeats 2000000 in
theorem rules_any {S : Nat → Prop} (a : Option Addr) (n c : Nat) (ks : List Rl) (w : World) (h : RulesAt S w a n c ks) (hR : ∀ r ∈ ks, Ruled r) (hb : n ≤ 2147483647) :
    Calls Tryz.prog 71 #[.slice a n c] w fun r w' => ∃ ua uc, r = .returned (.slice ua n uc) ∧ QsAt (fun b => w.heap.size ≤ b) w' ua n uc (jRules ks) ∧ Ext w w' := by
  obtain ⟨hl, hn, hm, hrr⟩ := h
  unfold maxLen at hm
  have HL := Lib.hid hl
  have HRR := Lib.hid hrr
  have HR := Lib.hid hR
  clear hl hR hrr
  rw [jRules_eq]
  go_enter Tryz.func71, Tryz.ntmps71
  go_wp2_with fail
  go_loopw [3, 9] (fun v i wr => Ext w wr ∧ ∃ (j : Nat) (vs : List Value) (g cap : Nat), j ≤ n ∧ i = .int .i64 j ∧ v = .slice (some ⟨g, 0, none⟩) j cap ∧ vs.length = j ∧ OwnV 60 wr w.heap.size (.slice (some ⟨g, 0, none⟩) j cap) vs ∧ GivesL (fun b => w.heap.size ≤ b ∧ b ≠ g) wr vs ((ks.take j).map jRule)) (fun _ i _ => n - (intOf i).toNat)
  case atStart =>
    exact ⟨by (repeat (first | exact ext_refl _ | assumption | refine ext_alloc ?_ _ | refine ext_drew ?_ | refine ext_set ?_ (by simp) _ | refine ext_trans ?_ (by assumption))), 0, [], w.heap.size, 0, Nat.zero_le _, rfl, rfl, rfl, ⟨rfl, .inr ⟨w.heap.size, 0, #[], rfl, Nat.le_refl _, Box.at rfl _ _, Nat.le_refl _, by simp [maxLen], rfl, rfl⟩⟩, GivesL.nil _ _⟩
  case round =>
    obtain ⟨hx, j, vs, g0, cap0, hj, rfl, rfl, hvl, hO, hV⟩ := hrel
    have HO := Lib.hid hO
    have HV := Lib.hid hV
    have HVL := Lib.hid hvl
    have hg0 : w.heap.size ≤ g0 ∧ g0 < wr.heap.size := World.ownsRow.lt hO g0 rfl
    clear hO hV hvl
    by_cases hlt : j < n
    · obtain ⟨t, ht⟩ := some_of_lt HL.out hlt
      obtain ⟨b, off, e, rfl, -, hcell, hT⟩ := HRR.out.get ht
      obtain ⟨ek, ex, esa, esn, esc, eka, ekn, ekc, eva, evn, evc⟩ := e
      rw [Nat.zero_add, Nat.add_zero] at hcell
      have hcell := RCells.ext hx hcell
      have hRu := Lib.hid (fun (w1 : World) (x : Ext w w1) => HR.out t (List.mem_of_getElem? ht) S _ w1 (RuleAt.ext x hT))
      have HT := Lib.hid ht
      clear ht hT
      obtain ⟨c0, c1, c2, c3, c4⟩ := hcell
      have hsz := hx.sz
      have tokB := trivial
      have hxs : Ext wr (wr.alloc (.cells #[.int .i64 ek, .string ex, .slice esa esn esc, .slice eka ekn ekc, .slice eva evn evc] 29)) := ext_alloc (ext_refl _) _
      go_wp2_with (first
        | (go_at_call 22; refine (hRu.out _ (ext_trans hx hxs)).mono ?_; rintro r w2 ⟨q, rfl, hG, hx2⟩
           obtain ⟨qty, qx, qf, rfl, hq1, hq2, hq3⟩ := id hG
           clear hq1 hq2 hq3
           have hx3 : Ext wr w2 := ext_trans hxs hx2
           have hxn : Ext w2 (w2.alloc (.cells #[.iface qty qx] 60)) := ext_alloc (ext_refl _) _
           have hbn : Box (w2.alloc (.cells #[.iface qty qx] 60)) w2.heap.size #[.iface qty qx] 60 := Box.at rfl _ _
           have HG := Lib.hid (Gives.ext (hG.to (S' := fun b => wr.heap.size ≤ b) (fun q hq _ => by simp at hq; omega)) hxn)
           clear hG)
        | (at_builtin; have _t := tokB; clear _t tokB; refine list_append_rule _ rfl _ _ rfl w.heap.size (.slice (some ⟨g0, 0, none⟩) j cap0) vs rfl (HO.out.ext (ext_trans hx3 hxn)) w2.heap.size 0 1 1 [.iface qty qx] (by simp) rfl (fun u hu => by simp at hu; subst hu; rfl) rfl (fun i f hf => by
             cases i with
             | zero => simp at hf; subst hf; exact hbn.cell 0 _ rfl
             | succ i => simp at hf) (by have := HVL.out; simp; omega) (by have := (ext_trans hx3 hxn).sz; omega) ?_; intro g cap w4 hown hgrow hlies hglt)
        | fail)
      have hx5 : Ext w w4 := ext_grown (ext_trans hx (ext_trans hx3 hxn)) hgrow (fun k hk => by simp only [Value.ownBlock, Option.some.injEq] at hk; omega)
      have hszn := (ext_trans hx3 hxn).sz
      have hs4 : (w2.alloc (.cells #[.iface qty qx] 60)).heap.size ≤ w4.heap.size := hgrow.size
      have hne : ∀ b, (w.heap.size ≤ b ∧ b ≠ g0) → b < (w2.alloc (.cells #[.iface qty qx] 60)).heap.size → w.heap.size ≤ b ∧ b ≠ g := fun b hb hl => ⟨hb.1, fun e => by
        subst e
        rcases hlies with hl2 | hl2
        · simp only [Value.ownBlock, Option.some.injEq] at hl2; exact hb.2 hl2.symm
        · omega⟩
      have hkp : Keeps (fun b => w.heap.size ≤ b ∧ b ≠ g0) (w2.alloc (.cells #[.iface qty qx] 60)) w4 := keeps_grown hgrow (fun b hb e => by simp only [Value.ownBlock, Option.some.injEq] at e; exact hb.2 e)
      have hV5 := Lib.hid (GivesL.append ((HV.out.keep (fun _ h _ => h) ((ext_trans hx3 hxn).keeps _) hszn).keep hne hkp hs4) (GivesL.one ((HG.out.to (S' := fun b => w.heap.size ≤ b ∧ b ≠ g0) (fun b hb _ => by omega)).keep hne hkp hs4)))
      have hown2 := Lib.hid hown
      clear hown hgrow hlies hne hkp
      go_roundw
      case rel =>
        refine ⟨hx5, j + 1, vs ++ [.iface qty qx], g, cap, by omega, by go_num, by have := HVL.out; simp [this], by simp [HVL.out], by have := HVL.out; simpa [this] using hown2.out, ?_⟩
        rw [take_snoc HT.out, List.map_append]
        exact hV5.out
      case measure => simp [intOf]; omega
    · have hjn : j = n := by omega
      subst hjn
      have hfull : ks.take j = ks := List.take_of_length_le (by have := HL.out; omega)
      have hV := HV.out
      rw [hfull] at hV
      go_wp2_with fail
      go_ret
      obtain ⟨a, c, he, q1, q2, q3⟩ := HO.out.cells (S := fun b => w.heap.size ≤ b) (fun b hb => by cases hb; exact hg0.1)
      cases he
      exact ⟨_, _, rfl, ⟨vs, HVL.out, by have := HVL.out; omega, q2, q3, hV.keep (fun _ h _ => h.1) (fun _ _ _ => rfl) (Nat.le_refl _)⟩, hx⟩
set_option maxRecDepth 20000 in
set_option maxHeartbeats 2000000 in
theorem ruled_mk (k : Int) (x : ByteArray) (ps : List (ByteArray × T)) (ks : List Rl) (ns : List ByteArray) (rs : List Rl) (hF : FitR (.mk k x ps ks ns rs)) (hSm : SmallR 1048576 (.mk k x ps ks ns rs)) (hk : ∀ r ∈ ks, Ruled r) (hr : ∀ r ∈ rs, Ruled r) : Ruled (.mk k x ps ks ns rs) := by
  rintro S ⟨ek, ex, esa, esn, esc, eka, ekn, ekc, eva, evn, evc⟩ w h
  obtain ⟨h1, h2, hP, hK, hV⟩ := h.parts
  simp only at h1 h2 hP hK hV
  subst h1 h2
  simp only [FitR] at hF
  obtain ⟨f0, f5, fP, fz, -⟩ := hF
  simp only [SmallR] at hSm
  have hkn : ekn ≤ 2147483647 := by have := hK.1; omega
  have hjl : (jRules rs).length = evn := by rw [jRules_eq, List.length_map]; exact hV.1
  have HSV := fun (w0 w1 : World) (x0 : Ext w w0) (x1 : Ext w0 w1) => sieve_any eva evn evc ns rs w1 (hV.ext (ext_trans x0 x1)) hr
  have HRU := fun (w0 w1 : World) (x0 : Ext w w0) (x1 : Ext w0 w1) => rules_any eka ekn ekc ks w1 (hK.ext (ext_trans x0 x1)) hk hkn
  have H1 := Lib.hid (fun (w1 : World) (x : Ext w w1) => rPrefix_any esa esn esc ps w1 (⟨ek, ex, esa, esn, esc, eka, ekn, ekc, eva, evn, evc⟩ : Rv) (hP.ext x))
  have H2 := Lib.hid (fun (w1 : World) (x : Ext w w1) => rWildcard_any esa esn esc ps w1 (⟨ek, ex, esa, esn, esc, eka, ekn, ekc, eva, evn, evc⟩ : Rv) (hP.ext x))
  have H3 := Lib.hid (fun (w1 : World) (x : Ext w w1) (hw : WholeAt ps s_prefix_length) (hs : ScalarAt ps s_fuzziness) (tz : T) (hz : lastOf ps s_fuzziness = some tz) => rFuzzy_any esa esn esc ps w1 (⟨ek, ex, esa, esn, esc, eka, ekn, ekc, eva, evn, evc⟩ : Rv) hw hs tz hz (hP.ext x))
  have H4 := Lib.hid (fun (w1 : World) (x : Ext w w1) (hw : WholeAt ps s_max_gaps) => rAllOf_any esa esn esc ps w1 (⟨ek, ex, esa, esn, esc, eka, ekn, ekc, eva, evn, evc⟩ : Rv) hw ns (jRules rs) hjl (fun w2 x2 => HSV w1 w2 x x2) (jRules ks) hkn (fun w2 x2 => HRU w1 w2 x x2) (hP.ext x))
  have H5 := Lib.hid (fun (w1 : World) (x : Ext w w1) => rAnyOf_any w1 (⟨ek, ex, esa, esn, esc, eka, ekn, ekc, eva, evn, evc⟩ : Rv) ns (jRules rs) hjl (fun w2 x2 => HSV w1 w2 x x2) (jRules ks) hkn (fun w2 x2 => HRU w1 w2 x x2))
  have H0 := Lib.hid (fun (w1 : World) (x : Ext w w1) (hw : WholeAt ps s_max_gaps) => rMatch_any esa esn esc ps w1 (⟨ek, ex, esa, esn, esc, eka, ekn, ekc, eva, evn, evc⟩ : Rv) hw ns (jRules rs) hjl (fun w2 x2 => HSV w1 w2 x x2) (hP.ext x))
  have hx0 : Ext w (w.alloc (.cells #[.int .i64 ek, .string ex, .slice esa esn esc, .slice eka ekn ekc, .slice eva evn evc] 29)) := ext_alloc (ext_refl _) _
  clear HSV HRU h hK hV hP hjl
  simp only [Rv.val]
  go_enter Tryz.func22, Tryz.ntmps22
  by_cases e1 : ek = 1
  · subst e1
    go_wp2_with (go_at_call 33; refine (H1.out _ hx0).mono ?_; rintro r w2 ⟨q, rfl, hG, hx2⟩)
    go_ret
    exact ⟨q, rfl, by rw [jRule, if_pos rfl]; exact hG.to (fun b hb _ => by simp at hb; omega), ext_trans hx0 hx2⟩
  by_cases e2 : ek = 2
  · subst e2
    go_wp2_with (go_at_call 34; refine (H2.out _ hx0).mono ?_; rintro r w2 ⟨q, rfl, hG, hx2⟩)
    go_ret
    exact ⟨q, rfl, by rw [jRule, if_neg (by decide), if_pos rfl]; exact hG.to (fun b hb _ => by simp at hb; omega), ext_trans hx0 hx2⟩
  by_cases e3 : ek = 3
  · subst e3
    obtain ⟨tz, hz⟩ := fz rfl
    have hff : FitsP rRuleFuzzy ps := fP
    have H3 := Lib.hid (H3.out _ hx0 (whole_of hff (by rw [kindL_dec]; decide)) (scalar_of hff _) tz hz)
    clear hz fz
    go_wp2_with (go_at_call 35; refine H3.out.mono ?_; rintro r w2 ⟨q, rfl, hG, hx2⟩)
    go_ret
    exact ⟨q, rfl, by rw [jRule, if_neg (by decide), if_neg (by decide), if_pos rfl]; exact hG.to (fun b hb _ => by simp at hb; omega), ext_trans hx0 hx2⟩
  by_cases e4 : ek = 4
  · subst e4
    have hff : FitsP rRuleAllOf ps := fP
    have H4 := Lib.hid (H4.out _ hx0 (whole_of hff (by rw [kindL_dec]; decide)))
    go_wp2_with (go_at_call 36; refine H4.out.mono ?_; rintro r w2 ⟨q, rfl, hG, hx2⟩)
    go_ret
    exact ⟨q, rfl, by rw [jRule, if_neg (by decide), if_neg (by decide), if_neg (by decide), if_pos rfl, ← jF_fil]; exact hG.to (fun b hb _ => by simp at hb; omega), ext_trans hx0 hx2⟩
  by_cases e5 : ek = 5
  · subst e5
    go_wp2_with (go_at_call 37; refine (H5.out _ hx0).mono ?_; rintro r w2 ⟨q, rfl, hG, hx2⟩)
    go_ret
    exact ⟨q, rfl, by rw [jRule, if_neg (by decide), if_neg (by decide), if_neg (by decide), if_neg (by decide), if_pos rfl, ← jF_fil]; exact hG.to (fun b hb _ => by simp at hb; omega), ext_trans hx0 hx2⟩
  · obtain rfl : ek = 0 := by omega
    have hff : FitsP rRuleMatch ps := fP
    have H0 := Lib.hid (H0.out _ hx0 (whole_of hff (by rw [kindL_dec]; decide)))
    go_wp2_with (go_at_call 38; refine H0.out.mono ?_; rintro r w2 ⟨q, rfl, hG, hx2⟩)
    go_ret
    exact ⟨q, rfl, by rw [jRule, if_neg (by decide), if_neg (by decide), if_neg (by decide), if_neg (by decide), if_neg (by decide), ← jF_fil]; exact hG.to (fun b hb _ => by simp at hb; omega), ext_trans hx0 hx2⟩
mutual
theorem ruled : ∀ r : Rl, FitR r → SmallR 1048576 r → Ruled r
  | .mk k x ps ks ns rs, h, h2 => ruled_mk k x ps ks ns rs h h2 (ruleds ks (by simp only [FitR] at h; exact h.2.2.2.2.2.1) (by simp only [SmallR] at h2; exact h2.2.2.1)) (ruleds rs (by simp only [FitR] at h; exact h.2.2.2.2.2.2.2) (by simp only [SmallR] at h2; exact h2.2.2.2))
theorem ruleds : ∀ l : List Rl, FitRs l → SmallRs 1048576 l → ∀ r ∈ l, Ruled r
  | [], _, _, r, h => by cases h
  | q :: l, h, h2, r, hr => by
    simp only [FitRs] at h
    simp only [SmallRs] at h2
    rcases List.mem_cons.1 hr with e | hr
    · rw [e]; exact ruled q h.1 h2.1
    · exact ruleds l h.2 h2.2 r hr
end
set_option maxRecDepth 20000 in
set_option maxHeartbeats 2000000 in
theorem intervalQ_src {S : Nat → Prop} (w : World) (bq : Nat) (f : ByteArray) (hf : f.size ≤ maxLen) (q : Value) (j : J) (hq : Gives S w q j) (hbq : Box w bq #[.string f, q] 77) :
    Calls Tryz.prog 23 #[.pointer (some ⟨bq, 0, none⟩)] w fun r w' => ∃ v, r = .returned (.tuple #[v, .nilIface]) ∧ JAt (fun _ => True) w' v (jMap [(s_intervals, jMap [(f, j)])]) ∧ Ext w w' := by
  obtain ⟨qty, qx, qf, rfl, hqm, hqm2, hqC⟩ := hq
  have HQC := Lib.hid hqC
  clear hqC
  have hblt := hbq.lt
  have hc0 := hbq.cell 0 _ rfl
  have hc1 := hbq.cell 1 _ rfl
  have tokA := trivial
  go_enter Tryz.func23, Tryz.ntmps23
  go_wp2_with (first
    | (at_mapUpdate; have _t := tokA; clear _t tokA; refine wp_put _ rfl _ _ _ 79 rfl 20 Tryz.underlying79 w.heap.size [] rfl ((MapAt.at rfl).alloc _) (by simp [maxLen]) s_intervals rfl (by decide) (.iface 79 (.map (some (w.heap.size + 1)))) rfl ?_; intro w1 hm hg
       have hx1 : Ext w w1 := ext_put (ext_alloc (ext_alloc (ext_refl _) _) _) hg (Nat.le_refl _)
       have hl1 : MapAt w1 (w.heap.size + 1) [] := (MapAt.at (by simp)).grown hg (someNe (by omega))
       have hb1 := hbq.ext hx1
       have hc0 := hb1.cell 0 _ rfl
       have hc1 := hb1.cell 1 _ rfl
       have hs1 := hl1.lt
       clear hg)
    | ((with_reducible show Calls _ qf _ _ _); refine (HQC.out _ (Ext.keeps hx1 _) (Ext.sz hx1)).mono ?_; rintro r w2 ⟨jty, jx, rfl, hJ, hx2⟩
       have hm2 := MapAt.ext hm hx2
       have hl2 := MapAt.ext hl1 hx2
       have hx2w := ext_trans hx1 hx2
       have hb2 := hbq.ext hx2w
       have hc0 := hb2.cell 0 _ rfl
       have hc1 := hb2.cell 1 _ rfl)
    | (at_mapUpdate; refine wp_put _ rfl _ _ _ 79 rfl 20 Tryz.underlying79 (w.heap.size + 1) [] rfl hl2 (by simp [maxLen]) f rfl hf (.iface jty jx) rfl ?_; intro w3 hm3 hg3)
    | fail)
  go_ret2
  have hx3 := ext_put hx2w hg3 (by omega)
  refine ⟨_, rfl, ?_, hx3⟩
  have hJ3 := JAt.keep (S' := fun _ => True) (fun _ _ _ => trivial) (keeps_grown hg3 (fun b hb e => by simp only [Option.some.injEq] at e; omega)) _ hJ
  exact jMap_one (hm2.grown hg3 (someNe (by omega))) trivial (jMap_one hm3 trivial hJ3)
set_option maxRecDepth 20000 in
set_option maxHeartbeats 2000000 in
theorem intervals_any {S : Nat → Prop} (f : ByteArray) (hf : f.size ≤ maxLen) (e : Rv) (r0 : Rl) (w : World) (h : RuleAt S w e r0) (hF : FitR r0) (hSm : SmallR 1048576 r0) :
    Calls Tryz.prog 8 #[.string f, e.val] w fun r w' => ∃ g : El, r = .returned (.tuple #[g.val, .bool true]) ∧ TreeAt (fun b => w.heap.size + 1 ≤ b) w' g (treeJ (jMap [(s_intervals, jMap [(f, jRule r0)])])) ∧ Ext w w' := by
  obtain ⟨ek, ex, esa, esn, esc, eka, ekn, ekc, eva, evn, evc⟩ := e
  have HR := Lib.hid (fun (w1 : World) (x : Ext w w1) => ruled r0 hF hSm S _ w1 (RuleAt.ext x h))
  clear h
  simp only [Rv.val]
  have hxa : Ext w ((w.alloc (.cells #[.int .i64 ek, .string ex, .slice esa esn esc, .slice eka ekn ekc, .slice eva evn evc] 29)).alloc (.cells (El.arr El0) 35)) := ext_alloc (ext_alloc (ext_refl _) _) _
  have hb0 : Box ((w.alloc (.cells #[.int .i64 ek, .string ex, .slice esa esn esc, .slice eka ekn ekc, .slice eva evn evc] 29)).alloc (.cells (El.arr El0) 35)) (w.heap.size + 1) (El.arr El0) 35 := Box.at (by simp) _ _
  go_enter Tryz.func8, Tryz.ntmps8
  go_wp2_with (first
    | (go_at_call 22; refine (HR.out _ hxa).mono ?_; rintro r w2 ⟨q, rfl, hG, hx2⟩
       obtain ⟨qty, qx, qf, rfl, hq1, hq2, hq3⟩ := id hG
       clear hq1 hq2 hq3
       have hs2 := hx2.sz
       have hq2 := Gives.ext (hG.to (S' := fun _ => True) (fun _ _ _ => trivial)) (ext_alloc (ext_refl w2) (.cells #[.string f, .iface qty qx] 77))
       have hb2 : Box (w2.alloc (.cells #[.string f, .iface qty qx] 77)) w2.heap.size #[.string f, .iface qty qx] 77 := Box.at rfl _ _
       have hS := Lib.hid (intervalQ_src _ _ f hf (.iface qty qx) _ hq2 hb2)
       clear hG hq2)
    | (go_at_call 23; refine hS.out.mono ?_; rintro r w3 ⟨v, rfl, hJ, hx3⟩
       have hxt := ext_trans hxa (ext_trans (ext_trans hx2 (ext_alloc (ext_refl w2) (.cells #[.string f, .iface qty qx] 77))) hx3))
    | (go_at_call 20; refine (told_any v _ _ hJ).mono ?_; rintro r w4 ⟨e2, rfl, hT4, hx4⟩; simp only [El.val]
       have hb := ((hb0.ext hx2).ext (ext_trans (ext_alloc (ext_refl w2) (.cells #[.string f, .iface qty qx] 77)) hx3)).ext hx4; obtain ⟨o0, o1, o2, o3, o4, o5⟩ := hb.six; have f0 := hb.free 0; have f1 := hb.free 1; have f2 := hb.free 2; have f3 := hb.free 3; have f4 := hb.free 4; have f5 := hb.free 5)
    | go_in)
  have hx5 := ext_trans hxt hx4
  have hs3 := hx3.sz
  simp at hs2 hs3
  refine post_tree2 rfl rfl (hb.sto e2) rfl ⟨e2, rfl, ?_, ext_sto6 hx5 (by omega) _ _ _ _ _ _⟩
  exact TreeAt.keep (S := fun b => w3.heap.size ≤ b) (S' := fun b => w.heap.size + 1 ≤ b) (fun b hb _ => by omega) (keeps_sto (b := (w.heap.size + 1)) w4 (by omega) e2) _ hT4
end Go.Proofs.YtdjojnlejkljdaaGreat

namespace Go.Proofs.YtdjojnlejkljdaaGreat
open Go.RowKit

inductive Tr where
  | done
  | held (i : Nat) (t : Tr)
  | one (i : Nat) (t : Tr)
  | two (i : Nat) (t : Tr) (j : Nat) (u : Tr)
def Tr.depth : Tr → Nat
  | .done => 0
  | .held _ t => t.depth + 1
  | .one _ t => t.depth + 1
  | .two _ t _ _ => t.depth + 1

section
variable {P : Program} {ops : Array Oper} {Q : Exit → Act → World → Prop} {S : World → Prop}
def wpTree (P : Program) (ops : Array Oper) (Q : Exit → Act → World → Prop) (S : World → Prop) (held : List Nat) : Tr → Act → World → Prop
  | .done, a, w => Q .normal a w
  | .held i t, a, w => ∃ oi v, ops[i]? = some oi ∧ YieldsIf P ops S oi v a ∧ S w ∧ wpTree P ops Q S held t (a.put oi.dst v) w
  | .one i t, a, w => wpOp P ops Q i (fun a' w' => (needB .any ops held i = true → S w') ∧ wpTree P ops Q S held t a' w') a w
  | .two i t j u, a, w => wpOp P ops Q i (fun a' w' => (needB .any ops held i = true → S w') ∧ wpTree P ops Q S held t a' w') a w ∧
      wpOp P ops Q j (fun a' w' => (needB .any ops held j = true → S w') ∧ wpTree P ops Q S held u a' w') a w
def treeB (ops : Array Oper) (held : List Nat) : Tr → Array Bool → Bool
  | .done, listed => (Region.ready .any ops listed).isEmpty
  | .held i t, listed => held.contains i && (Region.ready .any ops listed).contains i && Region.free .any ops listed i && treeB ops held t (listed.setIfInBounds i true)
  | .one i t, listed => Region.ready .any ops listed == [i] && treeB ops held t (listed.setIfInBounds i true)
  | .two i t j u, listed => Region.ready .any ops listed == [i, j] && treeB ops held t (listed.setIfInBounds i true) && treeB ops held u (listed.setIfInBounds j true) && t.depth == u.depth
theorem wpAnyN_of_tree {held : List Nat} (hsel : Region.noSelect ops = true) (hQ : ∀ (d : Option Tmp) (v : Value) c a w, Q (.panic c) (a.put d v) w → Q (.panic c) a w) :
    ∀ (t : Tr) (listed : Array Bool) (a : Act) (w : World), treeB ops held t listed = true → wpTree P ops Q S held t a w → wpAnyN P .any ops Q S held t.depth listed a w
  | .done, listed, a, w, hB, h => ⟨by simpa [treeB] using hB, h⟩
  | .held i t, listed, a, w, hB, h => by
    simp only [treeB, Bool.and_eq_true] at hB
    obtain ⟨oi, v, hi, hy, hS, h⟩ := h
    exact wpAnyN_first (by simpa using hB.1.1.1) hi (Region.noSelect_spec hsel) (hQ oi.dst v) t.depth listed a w (Region.free_spec hi hB.1.2) (by simpa using hB.1.1.2) hy hS (wpAnyN_of_tree hsel hQ t _ _ _ hB.2 h)
  | .one i t, listed, a, w, hB, h => by
    simp only [treeB, Bool.and_eq_true] at hB
    have hr : Region.ready .any ops listed = [i] := by simpa using hB.1
    refine ⟨fun h0 => (by rw [h0] at hr; cases hr), fun j hj => ?_⟩
    rw [hr] at hj
    obtain rfl : j = i := by simpa using hj
    exact wpOp_mono (fun a' w' h' => ⟨h'.1, wpAnyN_of_tree hsel hQ t _ _ _ hB.2 h'.2⟩) h
  | .two i t k u, listed, a, w, hB, h => by
    simp only [treeB, Bool.and_eq_true] at hB
    have hr : Region.ready .any ops listed = [i, k] := by simpa using hB.1.1.1
    have hd : t.depth = u.depth := by simpa using hB.2
    refine ⟨fun h0 => (by rw [h0] at hr; cases hr), fun j hj => ?_⟩
    rw [hr] at hj
    have hj : j = i ∨ j = k := by simpa using hj
    rcases hj with rfl | rfl
    · exact wpOp_mono (fun a' w' h' => ⟨h'.1, wpAnyN_of_tree hsel hQ t _ _ _ hB.1.1.2 h'.2⟩) h.1
    · refine wpOp_mono (fun a' w' h' => ⟨h'.1, ?_⟩) h.2
      rw [hd]
      exact wpAnyN_of_tree hsel hQ u _ _ _ hB.1.2 h'.2
theorem wp_region_tree {id : Nat} {a : Act} {w : World} {l : List Oper} (S : World → Prop) (held : List Nat) (t : Tr) (hm : P.follows .mixedOrders = true) (hsel : Region.noSelect l.toArray = true)
    (hQ : ∀ (d : Option Tmp) (v : Value) c a w, Q (.panic c) (a.put d v) w → Q (.panic c) a w)
    (hB : (treeB l.toArray held t (Array.replicate l.toArray.size false) && t.depth == l.toArray.size) = true) (h : wpTree P l.toArray Q S held t a w.drew) : (Code.region id l.toArray true).wp P Q a w := by
  simp only [Bool.and_eq_true, beq_iff_eq] at hB
  refine wp_region_any hm ?_
  have := wpAny_of_N _ _ _ _ (wpAnyN_of_tree hsel hQ t _ _ _ hB.1 h)
  rw [hB.2] at this
  exact this
theorem tr_held {l : List Oper} {held : List Nat} {i : Nat} {t : Tr} {oi : Oper} {v : Value} {a : Act} {w : World} (hi : l[i]? = some oi) (hS : S w)
    (hg : oi.guard = none) (hy : ∀ w, S w → (execOp a.eval oi).run P w = .ok (.value v) w) (h : wpTree P l.toArray Q S held t (a.put oi.dst v) w) : wpTree P l.toArray Q S held (.held i t) a w :=
  ⟨oi, v, by simpa using hi, .inl ⟨by simp [Region.wanted, hg], hy⟩, hS, h⟩
theorem tr_guard {l : List Oper} {held : List Nat} {i : Nat} {t : Tr} {oi : Oper} {v : Value} {a : Act} {w : World} (hi : l[i]? = some oi) (hS : S w)
    (hg : Region.wanted oi (yielded l.toArray a.tmps) = true) (hy : ∀ w, S w → (execOp a.eval oi).run P w = .ok (.value v) w) (h : wpTree P l.toArray Q S held t (a.put oi.dst v) w) : wpTree P l.toArray Q S held (.held i t) a w :=
  ⟨oi, v, by simpa using hi, .inl ⟨hg, hy⟩, hS, h⟩
theorem op_loud {l : List Oper} {i : Nat} {oi : Oper} {a : Act} {w : World} {K : Act → World → Prop} (hi : l[i]? = some oi) (hg : oi.guard = none) (h : oi.wp P a w K Q) : wpOp P l.toArray Q i K a w := by
  unfold wpOp
  simp only [show l.toArray[i]? = some oi by simpa using hi]
  rw [if_pos (by simp [Region.wanted, hg])]
  exact .inl h
theorem op_want {l : List Oper} {i : Nat} {oi : Oper} {a : Act} {w : World} {K : Act → World → Prop} (hi : l[i]? = some oi) (hg : Region.wanted oi (yielded l.toArray a.tmps) = true) (h : oi.wp P a w K Q) : wpOp P l.toArray Q i K a w := by
  unfold wpOp
  simp only [show l.toArray[i]? = some oi by simpa using hi]
  rw [if_pos hg]
  exact .inl h
theorem tr_loud {l : List Oper} {held : List Nat} {i : Nat} {t : Tr} {oi : Oper} {a : Act} {w : World} (hi : l[i]? = some oi) (hg : oi.guard = none)
    (h : ∀ K : Act → World → Prop, (∀ a' w', (needB .any l.toArray held i = true → S w') → wpTree P l.toArray Q S held t a' w' → K a' w') → oi.wp P a w K Q) : wpTree P l.toArray Q S held (.one i t) a w :=
  op_loud hi hg (h _ fun _ _ h1 h2 => ⟨h1, h2⟩)
theorem tr_want {l : List Oper} {held : List Nat} {i : Nat} {t : Tr} {oi : Oper} {a : Act} {w : World} (hi : l[i]? = some oi) (hg : Region.wanted oi (yielded l.toArray a.tmps) = true)
    (h : ∀ K : Act → World → Prop, (∀ a' w', (needB .any l.toArray held i = true → S w') → wpTree P l.toArray Q S held t a' w' → K a' w') → oi.wp P a w K Q) : wpTree P l.toArray Q S held (.one i t) a w :=
  op_want hi hg (h _ fun _ _ h1 h2 => ⟨h1, h2⟩)
theorem tr_last {l : List Oper} {held : List Nat} {i : Nat} {t : Tr} {oi : Oper} {a : Act} {w : World} (hi : l[i]? = some oi) (hg : oi.guard = none) (hn : needB .any l.toArray held i = false)
    (h : ∀ K : Act → World → Prop, (∀ a' w', wpTree P l.toArray Q S held t a' w' → K a' w') → oi.wp P a w K Q) : wpTree P l.toArray Q S held (.one i t) a w :=
  tr_loud hi hg fun K hK => h K fun a' w' h2 => hK a' w' (fun h0 => by rw [hn] at h0; cases h0) h2
theorem tr_two {l : List Oper} {held : List Nat} {i j : Nat} {t u : Tr} {a : Act} {w : World} (h : wpTree P l.toArray Q S held (.one i t) a w) (h' : wpTree P l.toArray Q S held (.one j u) a w) : wpTree P l.toArray Q S held (.two i t j u) a w := ⟨h, h'⟩
theorem tr_end {l : List Oper} {held : List Nat} {a : Act} {w : World} (h : Q .normal a w) : wpTree P l.toArray Q S held .done a w := h
end
end Go.Proofs.YtdjojnlejkljdaaGreat

namespace Go.Proofs.YtdjojnlejkljdaaGreat
open Go.RowKit

set_option maxHeartbeats 1000000 in
theorem infield_any {S : Nat → Prop} (kind field : ByteArray) (a : Option Addr) (n c : Nat) (ps : List (ByteArray × T)) (w : World) (h : PairsAt S w a n c ps) (hb : (n + 3) * 88 ≤ 140737488355328) :
    Calls Tryz.prog 10 #[.string kind, .string field, .slice a n c] w fun r w' => ∃ g : El, r = .returned g.val ∧ TreeAt (fun b => (S b ∧ b < w.heap.size) ∨ w.heap.size ≤ b) w' g (mapT [(kind, mapT [(field, mapT ps)])]) ∧ Ext w w' := by
  have HP := Lib.hid (h.keep (S' := fun b => S b ∧ b < w.heap.size) (fun b h1 h2 => ⟨h1, h2⟩) (fun _ _ _ => rfl))
  clear h
  go_enter Tryz.func10, Tryz.ntmps10
  go_upto_region 1 with fail
  have hx0 : Ext w (w.alloc (.cells (El.arr El0) 35)) := ext_alloc (ext_refl _) _
  have hb0 : Box (w.alloc (.cells (El.arr El0) 35)) w.heap.size (El.arr El0) 35 := Box.at rfl _ _
  have hM1 := Lib.hid (map_any (S := fun b => S b ∧ b < w.heap.size) a n c ps _ (HP.out.ext hx0) hb)
  have hM2 := Lib.hid (fun (w2 : World) (v : Nat) (g : El) (t : T) (hb : Box w2 v #[.string field, .int .i64 g.k, .string g.x, .float .f64 g.d, .bool g.y, .slice g.ka g.n g.kc, .slice g.ca g.m g.cc] 66) (hv : w.heap.size + 1 ≤ v) (ht : TreeAt (fun b => (S b ∧ b < w.heap.size) ∨ w.heap.size + 1 ≤ b) w2 g t) =>
    beside_any (S := fun b => (S b ∧ b < w.heap.size) ∨ w.heap.size + 1 ≤ b) kind (some ⟨v, 0, none⟩) 1 1 [(field, t)] w2 (pairs_one hb (.inr hv) ht) (by decide))
  go_wp2_with (first
    | (go_at_call 25; refine hM1.out.mono ?_; rintro r w2 ⟨g1, rfl, hT1, hx1⟩; simp only [El.val]; clear hM1
       have hT1' : TreeAt (fun b => (S b ∧ b < w.heap.size) ∨ w.heap.size + 1 ≤ b) w2 g1 (mapT ps) := hT1.to fun b h1 _ => by
         rcases h1 with h1 | h1
         · exact .inl h1.1
         · simp at h1
           exact .inr h1
       have hM3 := hM2.out (w2.alloc (.cells #[.string field, .int .i64 g1.k, .string g1.x, .float .f64 g1.d, .bool g1.y, .slice g1.ka g1.n g1.kc, .slice g1.ca g1.m g1.cc] 66)) w2.heap.size g1 (mapT ps) (Box.at rfl _ _) (by have := hx1.sz; simp at this; omega) (hT1'.ext (ext_alloc (ext_refl _) _)))
    | (go_at_call 24; refine hM3.mono ?_; rintro r w3 ⟨g2, rfl, hT2, hx2⟩; simp only [El.val]
       have hb3 := (hb0.ext hx1).ext (ext_trans (ext_alloc (ext_refl _) _) hx2); obtain ⟨o0, o1, o2, o3, o4, o5⟩ := hb3.six; have f0 := hb3.free 0; have f1 := hb3.free 1; have f2 := hb3.free 2; have f3 := hb3.free 3; have f4 := hb3.free 4; have f5 := hb3.free 5))
  have hx3 : Ext w w3 := ext_trans (ext_trans hx0 (ext_trans hx1 (ext_alloc (ext_refl _) _))) hx2
  refine post_tree rfl rfl (hb3.sto g2) rfl ⟨g2, rfl, ?_, ext_sto6 hx3 (Nat.le_refl _) _ _ _ _ _ _⟩
  have hs1 := hx1.sz
  refine TreeAt.keep (S := fun b => (S b ∧ b < w.heap.size) ∨ w.heap.size + 1 ≤ b) (fun b hb _ => ?_) (keeps_sto w3 (by omega) g2) _ (hT2.to fun b h1 _ => ?_)
  · rcases hb with h | h
    · exact .inl h
    · exact .inr (by omega)
  · rcases h1 with h | h
    · exact h.1
    · simp at h hs1
      exact .inr (by omega)

theorem intervals_same (f : ByteArray) (r0 : Rl) (hF : FitR r0) : sameT (treeJ (jMap [(s_intervals, jMap [(f, jRule r0)])])) (mapT [(s_intervals, mapT [(f, ruleT r0)])]) = true := by
  rw [treeJ_jMap, List.map_cons, List.map_nil, treeJ_jMap, List.map_cons, List.map_nil]
  exact same_one _ (same_one _ (rule_same r0 hF))
/-- A rule as it is told is one name with its tree. -/
theorem ruleT_one : ∀ r : Rl, ∃ k t, ruleT r = mapOf [(k, t)]
  | .mk k x ps ks ns rs => ⟨_, _, by rw [ruleT, mapT_one]⟩
end Go.Proofs.YtdjojnlejkljdaaGreat

