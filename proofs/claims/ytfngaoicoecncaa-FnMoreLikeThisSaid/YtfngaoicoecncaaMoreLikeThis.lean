/-
  What the builder of a query (MoreLikeThis) makes of its settings.
-/
import Derived.Test.YtfngaoicoecncaaMl
namespace Go.Proofs.Ytfngaoicoecncaa
open Go.RowKit

set_option maxRecDepth 20000 in
set_option maxHeartbeats 40000000 in
theorem moreLikeThis_src {S : Nat → Prop} (w : World) (bq : Nat) (fsa : Option Addr) (fsn fsc : Nat) (fs : List ByteArray) (hfs : TextsO (fun b => b < w.heap.size) w fsa fsn fsc fs) (hfsb : fsn ≤ 4294967294) (dsa : Option Addr) (dsn dsc : Nat) (ds : List Doc) (hds : ItemsAt S w dsa dsn dsc ds) (hdsk : ∀ d ∈ ds, okItem d) (hdsb : dsn ≤ 4294967294) (hdsp : 0 < dsn) (esa : Option Addr) (esn esc : Nat) (es : List Doc) (hes : ItemsAt S w esa esn esc es) (hesk : ∀ d ∈ es, okItem d) (hesb : esn ≤ 4294967294) (v3 : Option Addr) (o3 : Option T) (h3 : FY S w v3 o3) (v4 : ByteArray) (o4 : Option T) (h4 : v4 = fT o4) (v5 : Option Addr) (o5 : Option T) (h5 : FW S w v5 o5) (v6 : Option Addr) (o6 : Option T) (h6 : FW S w v6 o6) (sta : Option Addr) (stn stc : Nat) (st : List ByteArray) (hst : TextsO (fun b => b < w.heap.size) w sta stn stc st) (hstb : stn ≤ 4294967294) (v8 : Option Addr) (o8 : Option T) (h8 : FW S w v8 o8) (v9 : Option Addr) (o9 : Option T) (h9 : FW S w v9 o9) (v10 : Option Addr) (o10 : Option T) (h10 : FW S w v10 o10) (v11 : Option Addr) (o11 : Option T) (h11 : FW S w v11 o11) (v12 : Option Addr) (o12 : Option T) (h12 : FN S w v12 o12) (v13 : Option Addr) (o13 : Option T) (h13 : FN S w v13 o13) (v14 : ByteArray) (o14 : Option T) (h14 : v14 = fT o14) (v15 : Option Addr) (o15 : Option T) (h15 : FY S w v15 o15) (v16 : ByteArray) (o16 : Option T) (h16 : v16 = fT o16) (hbq : Box w bq #[.slice fsa fsn fsc, .slice dsa dsn dsc, .slice esa esn esc, .pointer v3, .string v4, .pointer v5, .pointer v6, .slice sta stn stc, .pointer v8, .pointer v9, .pointer v10, .pointer v11, .pointer v12, .pointer v13, .string v14, .pointer v15, .string v16] 111) :
    Calls Try.prog 76 #[.pointer (some ⟨bq, 0, none⟩)] w fun r w' => ∃ v, r = .returned (.tuple #[v, .nilIface]) ∧ JAt (fun _ => True) w' v (jMap [(s_more_like_this, jMap (jTs s_fields fs ++ [(s_like, J.list (ds.map jItem))] ++ jLs s_unlike (es.map jItem) ++ jT s_minimum_should_match (o4) ++ jW s_min_term_freq (o5) ++ jW s_max_query_terms (o6) ++ jTs s_stop_words st ++ jW s_min_doc_freq (o8) ++ jW s_max_doc_freq (o9) ++ jW s_min_word_length (o10) ++ jW s_max_word_length (o11) ++ jN s_boost_terms (o12) ++ jN s_boost (o13) ++ jT s_analyzer (o14) ++ jY s_fail_on_unsupported_field (o15) ++ jT s_name (o16) ++ jY s_include (o3)))]) ∧ Ext w w' := by
  have tok0 := trivial
  have hblt := hbq.lt
  have H3 := Lib.hid h3
  have H4 := Lib.hid h4
  have H5 := Lib.hid h5
  have H6 := Lib.hid h6
  have H8 := Lib.hid h8
  have H9 := Lib.hid h9
  have H10 := Lib.hid h10
  have H11 := Lib.hid h11
  have H12 := Lib.hid h12
  have H13 := Lib.hid h13
  have H14 := Lib.hid h14
  have H15 := Lib.hid h15
  have H16 := Lib.hid h16
  clear h3 h4 h5 h6 h8 h9 h10 h11 h12 h13 h14 h15 h16
  have Hdsk := Lib.hid hdsk
  clear hdsk
  have Hesk := Lib.hid hesk
  clear hesk
  have Hfs := Lib.hid hfs
  clear hfs
  have Hds := Lib.hid hds
  clear hds
  have Hes := Lib.hid hes
  clear hes
  have Hst := Lib.hid hst
  clear hst
  have hc0 := hbq.cell 0 _ rfl
  have hc1 := hbq.cell 1 _ rfl
  have hc2 := hbq.cell 2 _ rfl
  have hc3 := hbq.cell 3 _ rfl
  have hc4 := hbq.cell 4 _ rfl
  have hc5 := hbq.cell 5 _ rfl
  have hc6 := hbq.cell 6 _ rfl
  have hc7 := hbq.cell 7 _ rfl
  have hc8 := hbq.cell 8 _ rfl
  have hc9 := hbq.cell 9 _ rfl
  have hc10 := hbq.cell 10 _ rfl
  have hc11 := hbq.cell 11 _ rfl
  have hc12 := hbq.cell 12 _ rfl
  have hc13 := hbq.cell 13 _ rfl
  have hc14 := hbq.cell 14 _ rfl
  have hc15 := hbq.cell 15 _ rfl
  have hc16 := hbq.cell 16 _ rfl
  go_enter Try.func76, Try.ntmps76
  go_upto_if 33 with (first
    | (at_mapUpdate; have _t := tok0; refine wp_put _ rfl _ _ _ 105 rfl 20 Try.underlying105 w.heap.size [] rfl ((MapAt.at (by simp)).alloc _) (by simp [maxLen]) s_more_like_this rfl (by decide) _ rfl ?_; intro w1 hm hg; clear tok0
       have hx1 : Ext w w1 := ext_put (ext_alloc (ext_alloc (ext_refl _) _) _) hg (by omega)
       have hl0_1 := hm
       have hs0_1 := hl0_1.lt
       have hl1_1 : MapAt w1 (w.heap.size + 1) [] := (MapAt.at (by simp)).grown hg (someNe (by omega))
       have hs1_1 := hl1_1.lt
       have hb1 := hbq.ext hx1
       have hc0 := hb1.cell 0 _ rfl
       have hc1 := hb1.cell 1 _ rfl
       have hc2 := hb1.cell 2 _ rfl
       have hc3 := hb1.cell 3 _ rfl
       have hc4 := hb1.cell 4 _ rfl
       have hc5 := hb1.cell 5 _ rfl
       have hc6 := hb1.cell 6 _ rfl
       have hc7 := hb1.cell 7 _ rfl
       have hc8 := hb1.cell 8 _ rfl
       have hc9 := hb1.cell 9 _ rfl
       have hc10 := hb1.cell 10 _ rfl
       have hc11 := hb1.cell 11 _ rfl
       have hc12 := hb1.cell 12 _ rfl
       have hc13 := hb1.cell 13 _ rfl
       have hc14 := hb1.cell 14 _ rfl
       have hc15 := hb1.cell 15 _ rfl
       have hc16 := hb1.cell 16 _ rfl
       clear hg hm)
    | fail)
  have hx0 : Ext w w1 := hx1
  have hm0 : MapAt w1 w.heap.size [(s_more_like_this, .iface 105 (.map (some (w.heap.size + 1))))] := hl0_1
  have hm1 : MapAt w1 (w.heap.size + 1) [] := hl1_1
  have hz0 := hm0.lt
  have hz1 := hm1.lt
  have hne0 : w.heap.size ≠ (w.heap.size + 1) := by omega
  have hw1 : w.heap.size ≤ (w.heap.size + 1) := by have := hx0.sz; omega
  have hp0 : PJ (fun b => b ≠ w.heap.size ∧ b ≠ w.heap.size + 1) w1 [] (([] : List (ByteArray × J))) := PJ.nil _ _
  go_cut [] (fun wc => Ext w wc ∧ MapAt wc w.heap.size [(s_more_like_this, .iface 105 (.map (some (w.heap.size + 1))))] ∧ ∃ rp, rp.length ≤ 1 ∧ MapAt wc (w.heap.size + 1) rp ∧ PJ (fun b => b ≠ w.heap.size ∧ b ≠ w.heap.size + 1) wc rp (jTs s_fields fs))
  case first => as_aux_lemma =>
    by_cases hE : 0 < fsn
    · have hE1 := jTs_some (k := s_fields) Hfs.out.1 hE
      go_wp2_with (at_mapUpdate; refine wp_put _ rfl _ _ _ 105 rfl 20 Try.underlying105 (w.heap.size + 1) [] rfl hm1 (by simp [maxLen]) s_fields rfl (by decide) _ rfl ?_; intro wn hnn hgn)
      go_meet
      case rel =>
        have hxn := ext_put hx0 hgn (by omega)
        refine ⟨hxn, hm0.grown hgn (someNe hne0), _, ?_, hnn, ?_⟩
        · rw [List.length_append]; exact Nat.succ_le_succ (by simp)
        · rw [hE1]
          exact PJ.snoc (hp0.keep (fun _ h _ => h) (keeps_grown hgn (fun b hb e => by simp only [Option.some.injEq] at e; omega))) (((TextsO.texts Hfs.out hE (by omega)).ext hxn).to (fun b hb _ => by omega))
    · have hE1 := jTs_none (k := s_fields) Hfs.out.1 hE
      go_wp2_with fail
      go_meet
      case rel =>
        refine ⟨hx0, hm0, [], by simp, hm1, ?_⟩
        rw [hE1]
        exact hp0
  case rest =>
    obtain ⟨hxc, hm0_0, rp, hr, hnc, hpc⟩ := hcut
    have hbc := hbq.ext hxc
    have hc1 := hbc.cell 1 _ rfl
    have hc2 := hbc.cell 2 _ rfl
    have hc3 := hbc.cell 3 _ rfl
    have hc4 := hbc.cell 4 _ rfl
    have hc5 := hbc.cell 5 _ rfl
    have hc6 := hbc.cell 6 _ rfl
    have hc7 := hbc.cell 7 _ rfl
    have hc8 := hbc.cell 8 _ rfl
    have hc9 := hbc.cell 9 _ rfl
    have hc10 := hbc.cell 10 _ rfl
    have hc11 := hbc.cell 11 _ rfl
    have hc12 := hbc.cell 12 _ rfl
    have hc13 := hbc.cell 13 _ rfl
    have hc14 := hbc.cell 14 _ rfl
    have hc15 := hbc.cell 15 _ rfl
    have hc16 := hbc.cell 16 _ rfl
    go_wp2_with fail
    obtain ⟨qvs, hvl, hvc, hvm, hvcell, hvG⟩ := (ItemsAt.ext Hds.out hxc)
    have HVL := Lib.hid hvl
    have HVC := Lib.hid hvcell
    have HVG := Lib.hid hvG
    clear hvl hvcell hvG
    go_loopw [6, 45] (fun v i wr => Ext wc wr ∧ ∃ (j : Nat) (us : List Value) (vv : Value), vv = v ∧ j ≤ dsn ∧ i = .int .i64 j ∧ us.length = j ∧ OwnAny wr wc.heap.size vv us ∧ (∀ x ∈ us, x.oneCell' = true) ∧ JsAt (fun b => wc.heap.size ≤ b ∧ vv.ownBlock ≠ some b) wr us ((ds.map jItem).take j)) (fun _ i _ => dsn - (intOf i).toNat)
    case atStart => exact ⟨ext_refl _, 0, [], _, rfl, Nat.zero_le _, rfl, rfl, ⟨rfl, .inl ⟨rfl, rfl⟩⟩, fun x hx => by simp at hx, by simp [JsAt]⟩
    case round =>
      obtain ⟨hxr, j, us, vv, hve, hj, rfl, hul, hO, h1, hV⟩ := hrel
      subst hve
      have HO := Lib.hid hO
      have HV := Lib.hid hV
      have HUL := Lib.hid hul
      have H1 := Lib.hid h1
      clear hO hV hul h1
      by_cases hlt : j < dsn
      case pos =>
        obtain ⟨qq, hqq⟩ := some_of_lt HVL.out hlt
        obtain ⟨jj, hjj⟩ := some_of_lt (l := ds) rfl (show j < ds.length by have h2 := HVG.out.1; have h3 := HVL.out; omega)
        obtain ⟨qb, qo, hqa, -, hqc⟩ := HVC.out j qq hqq
        have hqc := hxr.cell hqc
        obtain ⟨qp, hqe, -, hqb⟩ := HVG.out.2 j qq jj hqq hjj
        have hqb := hqb.ext hxr
        have hok := Hdsk.out jj (List.mem_of_getElem? hjj)
        have HT := Lib.hid (show (ds.map jItem)[j]? = some (jItem jj) by rw [List.getElem?_map, hjj]; rfl)
        have HQB := Lib.hid hqb
        have HOK := Lib.hid hok
        clear hqb hok hjj hqq
        subst hqe hqa
        have hszr := hxr.sz
        have tokB := trivial
        go_wp2_with (first
          | (go_at_call 91; refine (item_src _ qp jj (HQB.out.ext (by (repeat (first | exact ext_refl _ | assumption | refine ext_alloc ?_ _ | refine ext_drew ?_ | refine ext_set ?_ (by simp) _ | refine ext_trans ?_ (by assumption))))) HOK.out).mono ?_; rintro r w2 ⟨pty, px, rfl, hJ, hx2⟩
             have hx3 : Ext wr w2 := ext_trans (by (repeat (first | exact ext_refl _ | assumption | refine ext_alloc ?_ _ | refine ext_drew ?_ | refine ext_set ?_ (by simp) _ | refine ext_trans ?_ (by assumption)))) hx2
             have hJ := hJ.to (S' := fun b => wr.heap.size ≤ b) (fun b hb _ => by (try simp at hb); omega)
             have hxn : Ext w2 (w2.alloc (.cells #[.iface pty px] 20)) := ext_alloc (ext_refl _) _
             have hbn : Box (w2.alloc (.cells #[.iface pty px] 20)) w2.heap.size #[.iface pty px] 20 := Box.at rfl _ _
             have HJ := Lib.hid (hJ.ext hxn)
             clear hJ)
          | (at_builtin; have _t := tokB; clear _t tokB; refine list_append_any _ rfl _ _ rfl wc.heap.size vv us rfl (HO.out.ext (ext_trans hx3 hxn)) w2.heap.size 0 1 [.iface pty px] (by simp) (fun u hu => by simp at hu; subst hu; rfl) rfl (fun i f hf => by
               cases i with
               | zero => simp at hf; subst hf; exact hbn.cell 0 _ rfl
               | succ i => simp at hf) (by have := HUL.out; simp; omega) (by have := (ext_trans hx3 hxn).sz; omega) ?_; intro g cap w4 hown hgrow hlies hglt)
          | fail)
        have hszn := (ext_trans hx3 hxn).sz
        have hblk : ∀ k, vv.ownBlock = some k → wc.heap.size ≤ k ∧ k < wr.heap.size := fun k hk => World.ownsRow.lt HO.out k hk
        have hx5 : Ext wc w4 := ext_grown (ext_trans hxr (ext_trans hx3 hxn)) hgrow (fun k hk => (hblk k hk).1)
        have hne : ∀ b, (wc.heap.size ≤ b ∧ vv.ownBlock ≠ some b) → b < (w2.alloc (.cells #[.iface pty px] 20)).heap.size → wc.heap.size ≤ b ∧ (Value.slice (some ⟨g, 0, none⟩) (us.length + 1) cap).ownBlock ≠ some b := fun b hb hl => ⟨hb.1, fun e => by
          simp only [Value.ownBlock, Option.some.injEq] at e
          subst e
          rcases hlies with hl2 | hl2
          · exact hb.2 hl2
          · omega⟩
        have hkp : Keeps (fun b => wc.heap.size ≤ b ∧ vv.ownBlock ≠ some b) (w2.alloc (.cells #[.iface pty px] 20)) w4 := keeps_grown hgrow (fun b hb e => hb.2 e.symm)
        have hV5 := Lib.hid (JsAt.snoc (JsAt.keep hne hkp _ (HV.out.ext (ext_trans hx3 hxn))) (JAt.keep hne hkp _ (HJ.out.to (S' := fun b => wc.heap.size ≤ b ∧ vv.ownBlock ≠ some b) (fun b hb _ => ⟨by omega, fun e => by have := (hblk b e).2; omega⟩))))
        have hown2 := Lib.hid hown
        clear hown hgrow hlies hne hkp hblk
        go_roundw
        case rel =>
          first
            | refine ⟨hx5, j + 1, us ++ [.iface pty px], _, rfl, by omega, by go_num, by simp [HUL.out], by simpa using hown2.out, ?_, ?_⟩
            | (repeat apply Exists.intro
               refine And.intro ?_ rfl
               refine ⟨hx5, j + 1, us ++ [.iface pty px], _, rfl, by omega, by go_num, by simp [HUL.out], by simpa using hown2.out, ?_, ?_⟩)
          · intro x hx
            rcases List.mem_append.1 hx with hx | hx
            · exact H1.out x hx
            · simp at hx; subst hx; rfl
          · rw [take_snoc HT.out]
            exact hV5.out
        case measure => simp [intOf]; omega
      have hfull : (ds.map jItem).take j = (ds.map jItem) := List.take_of_length_le (by have h2 := HVG.out.1; rw [List.length_map]; have h3 := HVL.out; omega)
      have hulen : (ds.map jItem).length = us.length := by have h2 := HVG.out.1; rw [List.length_map]; have h3 := HVL.out; have h4 := HUL.out; omega
      have hV := HV.out
      rw [hfull] at hV
      obtain ⟨la, lc, rfl, hq1, hq2, hq3⟩ := HO.out.cells (S := fun b => wc.heap.size ≤ b) (fun b hb => (World.ownsRow.lt HO.out b hb).1)
      have hJl : JAt (fun b => wc.heap.size ≤ b) wr (.iface 103 (.slice la us.length lc)) (.list (ds.map jItem)) := by
        simp only [JAt]
        exact ⟨_, _, _, us, rfl, by have := HUL.out; omega, hulen, hq1, hq2, hq3, JsAt.keep (fun b hb _ => hb.1) (fun _ _ _ => rfl) _ hV⟩
      clear hq3 hV HO HV H1
      have hnl := hnc.ext hxr
      have hnlt := hnl.lt
      have hc0 := (hbc.ext hxr).cell 0 _ rfl
      have hc1 := (hbc.ext hxr).cell 1 _ rfl
      have hc2 := (hbc.ext hxr).cell 2 _ rfl
      have hc3 := (hbc.ext hxr).cell 3 _ rfl
      have hc4 := (hbc.ext hxr).cell 4 _ rfl
      have hc5 := (hbc.ext hxr).cell 5 _ rfl
      have hc6 := (hbc.ext hxr).cell 6 _ rfl
      have hc7 := (hbc.ext hxr).cell 7 _ rfl
      have hc8 := (hbc.ext hxr).cell 8 _ rfl
      have hc9 := (hbc.ext hxr).cell 9 _ rfl
      have hc10 := (hbc.ext hxr).cell 10 _ rfl
      have hc11 := (hbc.ext hxr).cell 11 _ rfl
      have hc12 := (hbc.ext hxr).cell 12 _ rfl
      have hc13 := (hbc.ext hxr).cell 13 _ rfl
      have hc14 := (hbc.ext hxr).cell 14 _ rfl
      have hc15 := (hbc.ext hxr).cell 15 _ rfl
      have hc16 := (hbc.ext hxr).cell 16 _ rfl
      go_upto_if 70 with (first
        | (at_mapUpdate; refine wp_put _ rfl _ _ _ 105 rfl 20 Try.underlying105 (w.heap.size + 1) rp rfl hnl (Nat.lt_of_le_of_lt hr (by decide)) s_like rfl (by decide) _ rfl ?_; intro wk hnk hgk
           have hxk : Ext w wk := ext_put (ext_trans hxc hxr) hgk (by omega)
           have hbk := hbq.ext hxk
           have hc0 := hbk.cell 0 _ rfl
           have hc1 := hbk.cell 1 _ rfl
           have hc2 := hbk.cell 2 _ rfl
           have hc3 := hbk.cell 3 _ rfl
           have hc4 := hbk.cell 4 _ rfl
           have hc5 := hbk.cell 5 _ rfl
           have hc6 := hbk.cell 6 _ rfl
           have hc7 := hbk.cell 7 _ rfl
           have hc8 := hbk.cell 8 _ rfl
           have hc9 := hbk.cell 9 _ rfl
           have hc10 := hbk.cell 10 _ rfl
           have hc11 := hbk.cell 11 _ rfl
           have hc12 := hbk.cell 12 _ rfl
           have hc13 := hbk.cell 13 _ rfl
           have hc14 := hbk.cell 14 _ rfl
           have hc15 := hbk.cell 15 _ rfl
           have hc16 := hbk.cell 16 _ rfl)
        | fail)
      have hm0k := (hm0_0.ext hxr).grown hgk (someNe hne0)
      have hkk : Keeps (fun b => b ≠ w.heap.size ∧ b ≠ w.heap.size + 1) wr wk := keeps_grown hgk (fun b hb e => by simp only [Option.some.injEq] at e; omega)
      have hpk : PJ (fun b => b ≠ w.heap.size ∧ b ≠ w.heap.size + 1) wk _ (jTs s_fields fs ++ [(s_like, J.list (ds.map jItem))]) := PJ.snoc (((hpc.keep (S' := (fun b => b ≠ w.heap.size ∧ b ≠ w.heap.size + 1)) (fun _ h _ => h) (Ext.keeps hxr _))).keep (fun _ h _ => h) hkk) (JAt.keep (S := (fun b => b ≠ w.heap.size ∧ b ≠ w.heap.size + 1)) (fun _ h _ => h) hkk _ (hJl.to (fun b hb _ => by have := hnc.lt; omega)))
      obtain ⟨rpk, hrk, hnk, hpk⟩ : ∃ rpk, rpk.length ≤ 2 ∧ MapAt wk (w.heap.size + 1) rpk ∧ PJ (fun b => b ≠ w.heap.size ∧ b ≠ w.heap.size + 1) wk rpk (jTs s_fields fs ++ [(s_like, J.list (ds.map jItem))]) := ⟨_, by rw [List.length_append]; exact Nat.succ_le_succ hr, hnk, hpk⟩
      clear hJl hkk hr hgk
      have hr := hrk
      go_cut [] (fun wc => Ext w wc ∧ MapAt wc w.heap.size [(s_more_like_this, .iface 105 (.map (some (w.heap.size + 1))))] ∧ ∃ rp, rp.length ≤ 3 ∧ MapAt wc (w.heap.size + 1) rp ∧ PJ (fun b => b ≠ w.heap.size ∧ b ≠ w.heap.size + 1) wc rp (jTs s_fields fs ++ [(s_like, J.list (ds.map jItem))] ++ jLs s_unlike (es.map jItem)))
      case first => as_aux_lemma =>
        by_cases hE : 0 < esn
        · skip
          go_wp2_with fail
          try simp only [hE, decide_true]
          obtain ⟨qvs, hvl, hvc, hvm, hvcell, hvG⟩ := (ItemsAt.ext Hes.out hxk)
          have HVL := Lib.hid hvl
          have HVC := Lib.hid hvcell
          have HVG := Lib.hid hvG
          clear hvl hvcell hvG
          go_loopw [11, 76] (fun v i wr => Ext wk wr ∧ ∃ (j : Nat) (us : List Value) (vv : Value), vv = v ∧ j ≤ esn ∧ i = .int .i64 j ∧ us.length = j ∧ OwnAny wr wk.heap.size vv us ∧ (∀ x ∈ us, x.oneCell' = true) ∧ JsAt (fun b => wk.heap.size ≤ b ∧ vv.ownBlock ≠ some b) wr us ((es.map jItem).take j)) (fun _ i _ => esn - (intOf i).toNat)
          case atStart => exact ⟨ext_refl _, 0, [], _, rfl, Nat.zero_le _, rfl, rfl, ⟨rfl, .inl ⟨rfl, rfl⟩⟩, fun x hx => by simp at hx, by simp [JsAt]⟩
          case round =>
            obtain ⟨hxr, j, us, vv, hve, hj, rfl, hul, hO, h1, hV⟩ := hrel
            subst hve
            have HO := Lib.hid hO
            have HV := Lib.hid hV
            have HUL := Lib.hid hul
            have H1 := Lib.hid h1
            clear hO hV hul h1
            by_cases hlt : j < esn
            case pos =>
              obtain ⟨qq, hqq⟩ := some_of_lt HVL.out hlt
              obtain ⟨jj, hjj⟩ := some_of_lt (l := es) rfl (show j < es.length by have h2 := HVG.out.1; have h3 := HVL.out; omega)
              obtain ⟨qb, qo, hqa, -, hqc⟩ := HVC.out j qq hqq
              have hqc := hxr.cell hqc
              obtain ⟨qp, hqe, -, hqb⟩ := HVG.out.2 j qq jj hqq hjj
              have hqb := hqb.ext hxr
              have hok := Hesk.out jj (List.mem_of_getElem? hjj)
              have HT := Lib.hid (show (es.map jItem)[j]? = some (jItem jj) by rw [List.getElem?_map, hjj]; rfl)
              have HQB := Lib.hid hqb
              have HOK := Lib.hid hok
              clear hqb hok hjj hqq
              subst hqe hqa
              have hszr := hxr.sz
              have tokB := trivial
              go_wp2_with (first
                | (go_at_call 91; refine (item_src _ qp jj (HQB.out.ext (by (repeat (first | exact ext_refl _ | assumption | refine ext_alloc ?_ _ | refine ext_drew ?_ | refine ext_set ?_ (by simp) _ | refine ext_trans ?_ (by assumption))))) HOK.out).mono ?_; rintro r w2 ⟨pty, px, rfl, hJ, hx2⟩
                   have hx3 : Ext wr w2 := ext_trans (by (repeat (first | exact ext_refl _ | assumption | refine ext_alloc ?_ _ | refine ext_drew ?_ | refine ext_set ?_ (by simp) _ | refine ext_trans ?_ (by assumption)))) hx2
                   have hJ := hJ.to (S' := fun b => wr.heap.size ≤ b) (fun b hb _ => by (try simp at hb); omega)
                   have hxn : Ext w2 (w2.alloc (.cells #[.iface pty px] 20)) := ext_alloc (ext_refl _) _
                   have hbn : Box (w2.alloc (.cells #[.iface pty px] 20)) w2.heap.size #[.iface pty px] 20 := Box.at rfl _ _
                   have HJ := Lib.hid (hJ.ext hxn)
                   clear hJ)
                | (at_builtin; have _t := tokB; clear _t tokB; refine list_append_any _ rfl _ _ rfl wk.heap.size vv us rfl (HO.out.ext (ext_trans hx3 hxn)) w2.heap.size 0 1 [.iface pty px] (by simp) (fun u hu => by simp at hu; subst hu; rfl) rfl (fun i f hf => by
                     cases i with
                     | zero => simp at hf; subst hf; exact hbn.cell 0 _ rfl
                     | succ i => simp at hf) (by have := HUL.out; simp; omega) (by have := (ext_trans hx3 hxn).sz; omega) ?_; intro g cap w4 hown hgrow hlies hglt)
                | fail)
              have hszn := (ext_trans hx3 hxn).sz
              have hblk : ∀ k, vv.ownBlock = some k → wk.heap.size ≤ k ∧ k < wr.heap.size := fun k hk => World.ownsRow.lt HO.out k hk
              have hx5 : Ext wk w4 := ext_grown (ext_trans hxr (ext_trans hx3 hxn)) hgrow (fun k hk => (hblk k hk).1)
              have hne : ∀ b, (wk.heap.size ≤ b ∧ vv.ownBlock ≠ some b) → b < (w2.alloc (.cells #[.iface pty px] 20)).heap.size → wk.heap.size ≤ b ∧ (Value.slice (some ⟨g, 0, none⟩) (us.length + 1) cap).ownBlock ≠ some b := fun b hb hl => ⟨hb.1, fun e => by
                simp only [Value.ownBlock, Option.some.injEq] at e
                subst e
                rcases hlies with hl2 | hl2
                · exact hb.2 hl2
                · omega⟩
              have hkp : Keeps (fun b => wk.heap.size ≤ b ∧ vv.ownBlock ≠ some b) (w2.alloc (.cells #[.iface pty px] 20)) w4 := keeps_grown hgrow (fun b hb e => hb.2 e.symm)
              have hV5 := Lib.hid (JsAt.snoc (JsAt.keep hne hkp _ (HV.out.ext (ext_trans hx3 hxn))) (JAt.keep hne hkp _ (HJ.out.to (S' := fun b => wk.heap.size ≤ b ∧ vv.ownBlock ≠ some b) (fun b hb _ => ⟨by omega, fun e => by have := (hblk b e).2; omega⟩))))
              have hown2 := Lib.hid hown
              clear hown hgrow hlies hne hkp hblk
              go_roundw
              case rel =>
                first
                  | refine ⟨hx5, j + 1, us ++ [.iface pty px], _, rfl, by omega, by go_num, by simp [HUL.out], by simpa using hown2.out, ?_, ?_⟩
                  | (repeat apply Exists.intro
                     refine And.intro ?_ rfl
                     refine ⟨hx5, j + 1, us ++ [.iface pty px], _, rfl, by omega, by go_num, by simp [HUL.out], by simpa using hown2.out, ?_, ?_⟩)
                · intro x hx
                  rcases List.mem_append.1 hx with hx | hx
                  · exact H1.out x hx
                  · simp at hx; subst hx; rfl
                · rw [take_snoc HT.out]
                  exact hV5.out
              case measure => simp [intOf]; omega
            have hfull : (es.map jItem).take j = (es.map jItem) := List.take_of_length_le (by have h2 := HVG.out.1; rw [List.length_map]; have h3 := HVL.out; omega)
            have hulen : (es.map jItem).length = us.length := by have h2 := HVG.out.1; rw [List.length_map]; have h3 := HVL.out; have h4 := HUL.out; omega
            have hV := HV.out
            rw [hfull] at hV
            obtain ⟨la, lc, rfl, hq1, hq2, hq3⟩ := HO.out.cells (S := fun b => wk.heap.size ≤ b) (fun b hb => (World.ownsRow.lt HO.out b hb).1)
            have hJl : JAt (fun b => wk.heap.size ≤ b) wr (.iface 103 (.slice la us.length lc)) (.list (es.map jItem)) := by
              simp only [JAt]
              exact ⟨_, _, _, us, rfl, by have := HUL.out; omega, hulen, hq1, hq2, hq3, JsAt.keep (fun b hb _ => hb.1) (fun _ _ _ => rfl) _ hV⟩
            clear hq3 hV HO HV H1
            have hnl := hnk.ext hxr
            have hnlt := hnl.lt
            have hc0 := (hbk.ext hxr).cell 0 _ rfl
            have hc1 := (hbk.ext hxr).cell 1 _ rfl
            have hc2 := (hbk.ext hxr).cell 2 _ rfl
            have hc3 := (hbk.ext hxr).cell 3 _ rfl
            have hc4 := (hbk.ext hxr).cell 4 _ rfl
            have hc5 := (hbk.ext hxr).cell 5 _ rfl
            have hc6 := (hbk.ext hxr).cell 6 _ rfl
            have hc7 := (hbk.ext hxr).cell 7 _ rfl
            have hc8 := (hbk.ext hxr).cell 8 _ rfl
            have hc9 := (hbk.ext hxr).cell 9 _ rfl
            have hc10 := (hbk.ext hxr).cell 10 _ rfl
            have hc11 := (hbk.ext hxr).cell 11 _ rfl
            have hc12 := (hbk.ext hxr).cell 12 _ rfl
            have hc13 := (hbk.ext hxr).cell 13 _ rfl
            have hc14 := (hbk.ext hxr).cell 14 _ rfl
            have hc15 := (hbk.ext hxr).cell 15 _ rfl
            have hc16 := (hbk.ext hxr).cell 16 _ rfl
            go_wp2_with (at_mapUpdate; refine wp_put _ rfl _ _ _ 105 rfl 20 Try.underlying105 (w.heap.size + 1) rpk rfl hnl (Nat.lt_of_le_of_lt hr (by decide)) s_unlike rfl (by decide) _ rfl ?_; intro wn hnn hgn)
            go_meet
            case rel =>
              have hxn := ext_put (ext_trans hxk hxr) hgn (by omega)
              have hkk : Keeps (fun b => b ≠ w.heap.size ∧ b ≠ w.heap.size + 1) wr wn := keeps_grown hgn (fun b hb e => by simp only [Option.some.injEq] at e; omega)
              refine ⟨hxn, (hm0k.ext hxr).grown hgn (someNe hne0), _, ?_, hnn, ?_⟩
              · rw [List.length_append]; exact Nat.succ_le_succ hr
              · rw [jLs_some (ItemsAt.len Hes.out) hE]
                exact PJ.snoc ((hpk.keep (S' := (fun b => b ≠ w.heap.size ∧ b ≠ w.heap.size + 1)) (fun _ h _ => h) (Ext.keeps hxr _)).keep (fun _ h _ => h) hkk) (JAt.keep (S := (fun b => b ≠ w.heap.size ∧ b ≠ w.heap.size + 1)) (fun _ h _ => h) hkk _ (hJl.to (fun b hb _ => by have := hnk.lt; omega)))
        · have hE1 := jLs_none (k := s_unlike) (ItemsAt.len Hes.out) hE
          go_wp2_with fail
          go_meet
          case rel =>
            refine ⟨hxk, hm0k, rpk, Nat.le_succ_of_le hr, hnk, ?_⟩
            rw [hE1, List.append_nil]
            exact hpk
      case rest => as_aux_lemma =>
        obtain ⟨hxc, hm0_2, rp, hr, hnc, hpc⟩ := hcut
        have hbc := hbq.ext hxc
        have hc3 := hbc.cell 3 _ rfl
        have hc4 := hbc.cell 4 _ rfl
        have hc5 := hbc.cell 5 _ rfl
        have hc6 := hbc.cell 6 _ rfl
        have hc7 := hbc.cell 7 _ rfl
        have hc8 := hbc.cell 8 _ rfl
        have hc9 := hbc.cell 9 _ rfl
        have hc10 := hbc.cell 10 _ rfl
        have hc11 := hbc.cell 11 _ rfl
        have hc12 := hbc.cell 12 _ rfl
        have hc13 := hbc.cell 13 _ rfl
        have hc14 := hbc.cell 14 _ rfl
        have hc15 := hbc.cell 15 _ rfl
        have hc16 := hbc.cell 16 _ rfl
        go_upto_if 100 with fail
        go_cut [] (fun wc => Ext w wc ∧ MapAt wc w.heap.size [(s_more_like_this, .iface 105 (.map (some (w.heap.size + 1))))] ∧ ∃ rp, rp.length ≤ 4 ∧ MapAt wc (w.heap.size + 1) rp ∧ PJ (fun b => b ≠ w.heap.size ∧ b ≠ w.heap.size + 1) wc rp (jTs s_fields fs ++ [(s_like, J.list (ds.map jItem))] ++ jLs s_unlike (es.map jItem) ++ jT s_minimum_should_match (o4)))
        case first => as_aux_lemma =>
          cases hE : v4.toList.isEmpty
          · have hE1 := jT_some (k := s_minimum_should_match) H4.out hE
            go_wp2_with (at_mapUpdate; refine wp_put _ rfl _ _ _ 105 rfl 20 Try.underlying105 (w.heap.size + 1) rp rfl hnc (Nat.lt_of_le_of_lt hr (by decide)) s_minimum_should_match rfl (by decide) _ rfl ?_; intro wn hnn hgn)
            go_meet
            case rel =>
              have hxn := ext_put hxc hgn (by omega)
              refine ⟨hxn, hm0_2.grown hgn (someNe hne0), _, ?_, hnn, ?_⟩
              · rw [List.length_append]; exact Nat.succ_le_succ (by exact hr)
              · rw [hE1]
                exact PJ.snoc (hpc.keep (fun _ h _ => h) (keeps_grown hgn (fun b hb e => by simp only [Option.some.injEq] at e; omega))) (by simp only [JAt]; rfl)
          · have hE1 := jT_none (k := s_minimum_should_match) H4.out hE
            go_wp2_with fail
            go_meet
            case rel =>
              refine ⟨hxc, hm0_2, rp, Nat.le_succ_of_le hr, hnc, ?_⟩
              rw [hE1, List.append_nil]
              exact hpc
        case rest => as_aux_lemma =>
          obtain ⟨hxc, hm0_3, rp, hr, hnc, hpc⟩ := hcut
          have hbc := hbq.ext hxc
          have hc3 := hbc.cell 3 _ rfl
          have hc5 := hbc.cell 5 _ rfl
          have hc6 := hbc.cell 6 _ rfl
          have hc7 := hbc.cell 7 _ rfl
          have hc8 := hbc.cell 8 _ rfl
          have hc9 := hbc.cell 9 _ rfl
          have hc10 := hbc.cell 10 _ rfl
          have hc11 := hbc.cell 11 _ rfl
          have hc12 := hbc.cell 12 _ rfl
          have hc13 := hbc.cell 13 _ rfl
          have hc14 := hbc.cell 14 _ rfl
          have hc15 := hbc.cell 15 _ rfl
          have hc16 := hbc.cell 16 _ rfl
          go_upto_if 111 with fail
          go_cut [] (fun wc => Ext w wc ∧ MapAt wc w.heap.size [(s_more_like_this, .iface 105 (.map (some (w.heap.size + 1))))] ∧ ∃ rp, rp.length ≤ 5 ∧ MapAt wc (w.heap.size + 1) rp ∧ PJ (fun b => b ≠ w.heap.size ∧ b ≠ w.heap.size + 1) wc rp (jTs s_fields fs ++ [(s_like, J.list (ds.map jItem))] ++ jLs s_unlike (es.map jItem) ++ jT s_minimum_should_match (o4) ++ jW s_min_term_freq (o5)))
          case first => as_aux_lemma =>
            cases o5 with
            | none =>
              have hv : v5 = none := H5.out
              subst hv
              go_wp2_with fail
              go_meet
              case rel =>
                refine ⟨hxc, hm0_3, rp, Nat.le_succ_of_le hr, hnc, ?_⟩
                rw [show jW s_min_term_freq none = [] from rfl, List.append_nil]
                exact hpc
            | some t5 =>
              obtain ⟨cc, z5, hv, hSc, hcc, hzz⟩ := H5.out
              subst hv
              have hcc := hxc.cell hcc
              go_wp2_with (at_mapUpdate; refine wp_put _ rfl _ _ _ 105 rfl 20 Try.underlying105 (w.heap.size + 1) rp rfl hnc (Nat.lt_of_le_of_lt hr (by decide)) s_min_term_freq rfl (by decide) _ rfl ?_; intro wn hnn hgn)
              go_meet
              case rel =>
                have hxn := ext_put hxc hgn (by omega)
                refine ⟨hxn, hm0_3.grown hgn (someNe hne0), _, ?_, hnn, ?_⟩
                · rw [List.length_append]; exact Nat.succ_le_succ (by exact hr)
                · rw [show jW s_min_term_freq (some t5) = [(s_min_term_freq, .int z5)] from jW_some hzz]
                  exact PJ.snoc (hpc.keep (fun _ h _ => h) (keeps_grown hgn (fun b hb e => by simp only [Option.some.injEq] at e; omega))) (by simp only [JAt]; rfl)
          case rest => as_aux_lemma =>
            obtain ⟨hxc, hm0_4, rp, hr, hnc, hpc⟩ := hcut
            have hbc := hbq.ext hxc
            have hc3 := hbc.cell 3 _ rfl
            have hc6 := hbc.cell 6 _ rfl
            have hc7 := hbc.cell 7 _ rfl
            have hc8 := hbc.cell 8 _ rfl
            have hc9 := hbc.cell 9 _ rfl
            have hc10 := hbc.cell 10 _ rfl
            have hc11 := hbc.cell 11 _ rfl
            have hc12 := hbc.cell 12 _ rfl
            have hc13 := hbc.cell 13 _ rfl
            have hc14 := hbc.cell 14 _ rfl
            have hc15 := hbc.cell 15 _ rfl
            have hc16 := hbc.cell 16 _ rfl
            go_upto_if 124 with fail
            go_cut [] (fun wc => Ext w wc ∧ MapAt wc w.heap.size [(s_more_like_this, .iface 105 (.map (some (w.heap.size + 1))))] ∧ ∃ rp, rp.length ≤ 6 ∧ MapAt wc (w.heap.size + 1) rp ∧ PJ (fun b => b ≠ w.heap.size ∧ b ≠ w.heap.size + 1) wc rp (jTs s_fields fs ++ [(s_like, J.list (ds.map jItem))] ++ jLs s_unlike (es.map jItem) ++ jT s_minimum_should_match (o4) ++ jW s_min_term_freq (o5) ++ jW s_max_query_terms (o6)))
            case first => as_aux_lemma =>
              cases o6 with
              | none =>
                have hv : v6 = none := H6.out
                subst hv
                go_wp2_with fail
                go_meet
                case rel =>
                  refine ⟨hxc, hm0_4, rp, Nat.le_succ_of_le hr, hnc, ?_⟩
                  rw [show jW s_max_query_terms none = [] from rfl, List.append_nil]
                  exact hpc
              | some t6 =>
                obtain ⟨cc, z6, hv, hSc, hcc, hzz⟩ := H6.out
                subst hv
                have hcc := hxc.cell hcc
                go_wp2_with (at_mapUpdate; refine wp_put _ rfl _ _ _ 105 rfl 20 Try.underlying105 (w.heap.size + 1) rp rfl hnc (Nat.lt_of_le_of_lt hr (by decide)) s_max_query_terms rfl (by decide) _ rfl ?_; intro wn hnn hgn)
                go_meet
                case rel =>
                  have hxn := ext_put hxc hgn (by omega)
                  refine ⟨hxn, hm0_4.grown hgn (someNe hne0), _, ?_, hnn, ?_⟩
                  · rw [List.length_append]; exact Nat.succ_le_succ (by exact hr)
                  · rw [show jW s_max_query_terms (some t6) = [(s_max_query_terms, .int z6)] from jW_some hzz]
                    exact PJ.snoc (hpc.keep (fun _ h _ => h) (keeps_grown hgn (fun b hb e => by simp only [Option.some.injEq] at e; omega))) (by simp only [JAt]; rfl)
            case rest => as_aux_lemma =>
              obtain ⟨hxc, hm0_5, rp, hr, hnc, hpc⟩ := hcut
              have hbc := hbq.ext hxc
              have hc3 := hbc.cell 3 _ rfl
              have hc7 := hbc.cell 7 _ rfl
              have hc8 := hbc.cell 8 _ rfl
              have hc9 := hbc.cell 9 _ rfl
              have hc10 := hbc.cell 10 _ rfl
              have hc11 := hbc.cell 11 _ rfl
              have hc12 := hbc.cell 12 _ rfl
              have hc13 := hbc.cell 13 _ rfl
              have hc14 := hbc.cell 14 _ rfl
              have hc15 := hbc.cell 15 _ rfl
              have hc16 := hbc.cell 16 _ rfl
              go_upto_if 138 with fail
              go_cut [] (fun wc => Ext w wc ∧ MapAt wc w.heap.size [(s_more_like_this, .iface 105 (.map (some (w.heap.size + 1))))] ∧ ∃ rp, rp.length ≤ 7 ∧ MapAt wc (w.heap.size + 1) rp ∧ PJ (fun b => b ≠ w.heap.size ∧ b ≠ w.heap.size + 1) wc rp (jTs s_fields fs ++ [(s_like, J.list (ds.map jItem))] ++ jLs s_unlike (es.map jItem) ++ jT s_minimum_should_match (o4) ++ jW s_min_term_freq (o5) ++ jW s_max_query_terms (o6) ++ jTs s_stop_words st))
              case first => as_aux_lemma =>
                by_cases hE : 0 < stn
                · have hE1 := jTs_some (k := s_stop_words) Hst.out.1 hE
                  go_wp2_with (at_mapUpdate; refine wp_put _ rfl _ _ _ 105 rfl 20 Try.underlying105 (w.heap.size + 1) rp rfl hnc (Nat.lt_of_le_of_lt hr (by decide)) s_stop_words rfl (by decide) _ rfl ?_; intro wn hnn hgn)
                  go_meet
                  case rel =>
                    have hxn := ext_put hxc hgn (by omega)
                    refine ⟨hxn, hm0_5.grown hgn (someNe hne0), _, ?_, hnn, ?_⟩
                    · rw [List.length_append]; exact Nat.succ_le_succ (by exact hr)
                    · rw [hE1]
                      exact PJ.snoc (hpc.keep (fun _ h _ => h) (keeps_grown hgn (fun b hb e => by simp only [Option.some.injEq] at e; omega))) (((TextsO.texts Hst.out hE (by omega)).ext hxn).to (fun b hb _ => by omega))
                · have hE1 := jTs_none (k := s_stop_words) Hst.out.1 hE
                  go_wp2_with fail
                  go_meet
                  case rel =>
                    refine ⟨hxc, hm0_5, rp, Nat.le_succ_of_le hr, hnc, ?_⟩
                    rw [hE1, List.append_nil]
                    exact hpc
              case rest => as_aux_lemma =>
                obtain ⟨hxc, hm0_6, rp, hr, hnc, hpc⟩ := hcut
                have hbc := hbq.ext hxc
                have hc3 := hbc.cell 3 _ rfl
                have hc8 := hbc.cell 8 _ rfl
                have hc9 := hbc.cell 9 _ rfl
                have hc10 := hbc.cell 10 _ rfl
                have hc11 := hbc.cell 11 _ rfl
                have hc12 := hbc.cell 12 _ rfl
                have hc13 := hbc.cell 13 _ rfl
                have hc14 := hbc.cell 14 _ rfl
                have hc15 := hbc.cell 15 _ rfl
                have hc16 := hbc.cell 16 _ rfl
                go_upto_if 149 with fail
                go_cut [] (fun wc => Ext w wc ∧ MapAt wc w.heap.size [(s_more_like_this, .iface 105 (.map (some (w.heap.size + 1))))] ∧ ∃ rp, rp.length ≤ 8 ∧ MapAt wc (w.heap.size + 1) rp ∧ PJ (fun b => b ≠ w.heap.size ∧ b ≠ w.heap.size + 1) wc rp (jTs s_fields fs ++ [(s_like, J.list (ds.map jItem))] ++ jLs s_unlike (es.map jItem) ++ jT s_minimum_should_match (o4) ++ jW s_min_term_freq (o5) ++ jW s_max_query_terms (o6) ++ jTs s_stop_words st ++ jW s_min_doc_freq (o8)))
                case first => as_aux_lemma =>
                  cases o8 with
                  | none =>
                    have hv : v8 = none := H8.out
                    subst hv
                    go_wp2_with fail
                    go_meet
                    case rel =>
                      refine ⟨hxc, hm0_6, rp, Nat.le_succ_of_le hr, hnc, ?_⟩
                      rw [show jW s_min_doc_freq none = [] from rfl, List.append_nil]
                      exact hpc
                  | some t8 =>
                    obtain ⟨cc, z8, hv, hSc, hcc, hzz⟩ := H8.out
                    subst hv
                    have hcc := hxc.cell hcc
                    go_wp2_with (at_mapUpdate; refine wp_put _ rfl _ _ _ 105 rfl 20 Try.underlying105 (w.heap.size + 1) rp rfl hnc (Nat.lt_of_le_of_lt hr (by decide)) s_min_doc_freq rfl (by decide) _ rfl ?_; intro wn hnn hgn)
                    go_meet
                    case rel =>
                      have hxn := ext_put hxc hgn (by omega)
                      refine ⟨hxn, hm0_6.grown hgn (someNe hne0), _, ?_, hnn, ?_⟩
                      · rw [List.length_append]; exact Nat.succ_le_succ (by exact hr)
                      · rw [show jW s_min_doc_freq (some t8) = [(s_min_doc_freq, .int z8)] from jW_some hzz]
                        exact PJ.snoc (hpc.keep (fun _ h _ => h) (keeps_grown hgn (fun b hb e => by simp only [Option.some.injEq] at e; omega))) (by simp only [JAt]; rfl)
                case rest => as_aux_lemma =>
                  obtain ⟨hxc, hm0_7, rp, hr, hnc, hpc⟩ := hcut
                  have hbc := hbq.ext hxc
                  have hc3 := hbc.cell 3 _ rfl
                  have hc9 := hbc.cell 9 _ rfl
                  have hc10 := hbc.cell 10 _ rfl
                  have hc11 := hbc.cell 11 _ rfl
                  have hc12 := hbc.cell 12 _ rfl
                  have hc13 := hbc.cell 13 _ rfl
                  have hc14 := hbc.cell 14 _ rfl
                  have hc15 := hbc.cell 15 _ rfl
                  have hc16 := hbc.cell 16 _ rfl
                  go_upto_if 162 with fail
                  go_cut [] (fun wc => Ext w wc ∧ MapAt wc w.heap.size [(s_more_like_this, .iface 105 (.map (some (w.heap.size + 1))))] ∧ ∃ rp, rp.length ≤ 9 ∧ MapAt wc (w.heap.size + 1) rp ∧ PJ (fun b => b ≠ w.heap.size ∧ b ≠ w.heap.size + 1) wc rp (jTs s_fields fs ++ [(s_like, J.list (ds.map jItem))] ++ jLs s_unlike (es.map jItem) ++ jT s_minimum_should_match (o4) ++ jW s_min_term_freq (o5) ++ jW s_max_query_terms (o6) ++ jTs s_stop_words st ++ jW s_min_doc_freq (o8) ++ jW s_max_doc_freq (o9)))
                  case first => as_aux_lemma =>
                    cases o9 with
                    | none =>
                      have hv : v9 = none := H9.out
                      subst hv
                      go_wp2_with fail
                      go_meet
                      case rel =>
                        refine ⟨hxc, hm0_7, rp, Nat.le_succ_of_le hr, hnc, ?_⟩
                        rw [show jW s_max_doc_freq none = [] from rfl, List.append_nil]
                        exact hpc
                    | some t9 =>
                      obtain ⟨cc, z9, hv, hSc, hcc, hzz⟩ := H9.out
                      subst hv
                      have hcc := hxc.cell hcc
                      go_wp2_with (at_mapUpdate; refine wp_put _ rfl _ _ _ 105 rfl 20 Try.underlying105 (w.heap.size + 1) rp rfl hnc (Nat.lt_of_le_of_lt hr (by decide)) s_max_doc_freq rfl (by decide) _ rfl ?_; intro wn hnn hgn)
                      go_meet
                      case rel =>
                        have hxn := ext_put hxc hgn (by omega)
                        refine ⟨hxn, hm0_7.grown hgn (someNe hne0), _, ?_, hnn, ?_⟩
                        · rw [List.length_append]; exact Nat.succ_le_succ (by exact hr)
                        · rw [show jW s_max_doc_freq (some t9) = [(s_max_doc_freq, .int z9)] from jW_some hzz]
                          exact PJ.snoc (hpc.keep (fun _ h _ => h) (keeps_grown hgn (fun b hb e => by simp only [Option.some.injEq] at e; omega))) (by simp only [JAt]; rfl)
                  case rest => as_aux_lemma =>
                    obtain ⟨hxc, hm0_8, rp, hr, hnc, hpc⟩ := hcut
                    have hbc := hbq.ext hxc
                    have hc3 := hbc.cell 3 _ rfl
                    have hc10 := hbc.cell 10 _ rfl
                    have hc11 := hbc.cell 11 _ rfl
                    have hc12 := hbc.cell 12 _ rfl
                    have hc13 := hbc.cell 13 _ rfl
                    have hc14 := hbc.cell 14 _ rfl
                    have hc15 := hbc.cell 15 _ rfl
                    have hc16 := hbc.cell 16 _ rfl
                    go_upto_if 175 with fail
                    go_cut [] (fun wc => Ext w wc ∧ MapAt wc w.heap.size [(s_more_like_this, .iface 105 (.map (some (w.heap.size + 1))))] ∧ ∃ rp, rp.length ≤ 10 ∧ MapAt wc (w.heap.size + 1) rp ∧ PJ (fun b => b ≠ w.heap.size ∧ b ≠ w.heap.size + 1) wc rp (jTs s_fields fs ++ [(s_like, J.list (ds.map jItem))] ++ jLs s_unlike (es.map jItem) ++ jT s_minimum_should_match (o4) ++ jW s_min_term_freq (o5) ++ jW s_max_query_terms (o6) ++ jTs s_stop_words st ++ jW s_min_doc_freq (o8) ++ jW s_max_doc_freq (o9) ++ jW s_min_word_length (o10)))
                    case first => as_aux_lemma =>
                      cases o10 with
                      | none =>
                        have hv : v10 = none := H10.out
                        subst hv
                        go_wp2_with fail
                        go_meet
                        case rel =>
                          refine ⟨hxc, hm0_8, rp, Nat.le_succ_of_le hr, hnc, ?_⟩
                          rw [show jW s_min_word_length none = [] from rfl, List.append_nil]
                          exact hpc
                      | some t10 =>
                        obtain ⟨cc, z10, hv, hSc, hcc, hzz⟩ := H10.out
                        subst hv
                        have hcc := hxc.cell hcc
                        go_wp2_with (at_mapUpdate; refine wp_put _ rfl _ _ _ 105 rfl 20 Try.underlying105 (w.heap.size + 1) rp rfl hnc (Nat.lt_of_le_of_lt hr (by decide)) s_min_word_length rfl (by decide) _ rfl ?_; intro wn hnn hgn)
                        go_meet
                        case rel =>
                          have hxn := ext_put hxc hgn (by omega)
                          refine ⟨hxn, hm0_8.grown hgn (someNe hne0), _, ?_, hnn, ?_⟩
                          · rw [List.length_append]; exact Nat.succ_le_succ (by exact hr)
                          · rw [show jW s_min_word_length (some t10) = [(s_min_word_length, .int z10)] from jW_some hzz]
                            exact PJ.snoc (hpc.keep (fun _ h _ => h) (keeps_grown hgn (fun b hb e => by simp only [Option.some.injEq] at e; omega))) (by simp only [JAt]; rfl)
                    case rest => as_aux_lemma =>
                      obtain ⟨hxc, hm0_9, rp, hr, hnc, hpc⟩ := hcut
                      have hbc := hbq.ext hxc
                      have hc3 := hbc.cell 3 _ rfl
                      have hc11 := hbc.cell 11 _ rfl
                      have hc12 := hbc.cell 12 _ rfl
                      have hc13 := hbc.cell 13 _ rfl
                      have hc14 := hbc.cell 14 _ rfl
                      have hc15 := hbc.cell 15 _ rfl
                      have hc16 := hbc.cell 16 _ rfl
                      go_upto_if 188 with fail
                      go_cut [] (fun wc => Ext w wc ∧ MapAt wc w.heap.size [(s_more_like_this, .iface 105 (.map (some (w.heap.size + 1))))] ∧ ∃ rp, rp.length ≤ 11 ∧ MapAt wc (w.heap.size + 1) rp ∧ PJ (fun b => b ≠ w.heap.size ∧ b ≠ w.heap.size + 1) wc rp (jTs s_fields fs ++ [(s_like, J.list (ds.map jItem))] ++ jLs s_unlike (es.map jItem) ++ jT s_minimum_should_match (o4) ++ jW s_min_term_freq (o5) ++ jW s_max_query_terms (o6) ++ jTs s_stop_words st ++ jW s_min_doc_freq (o8) ++ jW s_max_doc_freq (o9) ++ jW s_min_word_length (o10) ++ jW s_max_word_length (o11)))
                      case first => as_aux_lemma =>
                        cases o11 with
                        | none =>
                          have hv : v11 = none := H11.out
                          subst hv
                          go_wp2_with fail
                          go_meet
                          case rel =>
                            refine ⟨hxc, hm0_9, rp, Nat.le_succ_of_le hr, hnc, ?_⟩
                            rw [show jW s_max_word_length none = [] from rfl, List.append_nil]
                            exact hpc
                        | some t11 =>
                          obtain ⟨cc, z11, hv, hSc, hcc, hzz⟩ := H11.out
                          subst hv
                          have hcc := hxc.cell hcc
                          go_wp2_with (at_mapUpdate; refine wp_put _ rfl _ _ _ 105 rfl 20 Try.underlying105 (w.heap.size + 1) rp rfl hnc (Nat.lt_of_le_of_lt hr (by decide)) s_max_word_length rfl (by decide) _ rfl ?_; intro wn hnn hgn)
                          go_meet
                          case rel =>
                            have hxn := ext_put hxc hgn (by omega)
                            refine ⟨hxn, hm0_9.grown hgn (someNe hne0), _, ?_, hnn, ?_⟩
                            · rw [List.length_append]; exact Nat.succ_le_succ (by exact hr)
                            · rw [show jW s_max_word_length (some t11) = [(s_max_word_length, .int z11)] from jW_some hzz]
                              exact PJ.snoc (hpc.keep (fun _ h _ => h) (keeps_grown hgn (fun b hb e => by simp only [Option.some.injEq] at e; omega))) (by simp only [JAt]; rfl)
                      case rest => as_aux_lemma =>
                        obtain ⟨hxc, hm0_10, rp, hr, hnc, hpc⟩ := hcut
                        have hbc := hbq.ext hxc
                        have hc3 := hbc.cell 3 _ rfl
                        have hc12 := hbc.cell 12 _ rfl
                        have hc13 := hbc.cell 13 _ rfl
                        have hc14 := hbc.cell 14 _ rfl
                        have hc15 := hbc.cell 15 _ rfl
                        have hc16 := hbc.cell 16 _ rfl
                        go_upto_if 201 with fail
                        go_cut [] (fun wc => Ext w wc ∧ MapAt wc w.heap.size [(s_more_like_this, .iface 105 (.map (some (w.heap.size + 1))))] ∧ ∃ rp, rp.length ≤ 12 ∧ MapAt wc (w.heap.size + 1) rp ∧ PJ (fun b => b ≠ w.heap.size ∧ b ≠ w.heap.size + 1) wc rp (jTs s_fields fs ++ [(s_like, J.list (ds.map jItem))] ++ jLs s_unlike (es.map jItem) ++ jT s_minimum_should_match (o4) ++ jW s_min_term_freq (o5) ++ jW s_max_query_terms (o6) ++ jTs s_stop_words st ++ jW s_min_doc_freq (o8) ++ jW s_max_doc_freq (o9) ++ jW s_min_word_length (o10) ++ jW s_max_word_length (o11) ++ jN s_boost_terms (o12)))
                        case first => as_aux_lemma =>
                          cases o12 with
                          | none =>
                            have hv : v12 = none := H12.out
                            subst hv
                            go_wp2_with fail
                            go_meet
                            case rel =>
                              refine ⟨hxc, hm0_10, rp, Nat.le_succ_of_le hr, hnc, ?_⟩
                              rw [show jN s_boost_terms none = [] from rfl, List.append_nil]
                              exact hpc
                          | some t12 =>
                            obtain ⟨cc, hv, hSc, hcc⟩ := H12.out
                            subst hv
                            have hcc := hxc.cell hcc
                            go_wp2_with (at_mapUpdate; refine wp_put _ rfl _ _ _ 105 rfl 20 Try.underlying105 (w.heap.size + 1) rp rfl hnc (Nat.lt_of_le_of_lt hr (by decide)) s_boost_terms rfl (by decide) _ rfl ?_; intro wn hnn hgn)
                            go_meet
                            case rel =>
                              have hxn := ext_put hxc hgn (by omega)
                              refine ⟨hxn, hm0_10.grown hgn (someNe hne0), _, ?_, hnn, ?_⟩
                              · rw [List.length_append]; exact Nat.succ_le_succ (by exact hr)
                              · rw [show jN s_boost_terms (some t12) = [(s_boost_terms, .num t12.num)] from rfl]
                                exact PJ.snoc (hpc.keep (fun _ h _ => h) (keeps_grown hgn (fun b hb e => by simp only [Option.some.injEq] at e; omega))) (by simp only [JAt]; rfl)
                        case rest => as_aux_lemma =>
                          obtain ⟨hxc, hm0_11, rp, hr, hnc, hpc⟩ := hcut
                          have hbc := hbq.ext hxc
                          have hc3 := hbc.cell 3 _ rfl
                          have hc13 := hbc.cell 13 _ rfl
                          have hc14 := hbc.cell 14 _ rfl
                          have hc15 := hbc.cell 15 _ rfl
                          have hc16 := hbc.cell 16 _ rfl
                          go_upto_if 214 with fail
                          go_cut [] (fun wc => Ext w wc ∧ MapAt wc w.heap.size [(s_more_like_this, .iface 105 (.map (some (w.heap.size + 1))))] ∧ ∃ rp, rp.length ≤ 13 ∧ MapAt wc (w.heap.size + 1) rp ∧ PJ (fun b => b ≠ w.heap.size ∧ b ≠ w.heap.size + 1) wc rp (jTs s_fields fs ++ [(s_like, J.list (ds.map jItem))] ++ jLs s_unlike (es.map jItem) ++ jT s_minimum_should_match (o4) ++ jW s_min_term_freq (o5) ++ jW s_max_query_terms (o6) ++ jTs s_stop_words st ++ jW s_min_doc_freq (o8) ++ jW s_max_doc_freq (o9) ++ jW s_min_word_length (o10) ++ jW s_max_word_length (o11) ++ jN s_boost_terms (o12) ++ jN s_boost (o13)))
                          case first => as_aux_lemma =>
                            cases o13 with
                            | none =>
                              have hv : v13 = none := H13.out
                              subst hv
                              go_wp2_with fail
                              go_meet
                              case rel =>
                                refine ⟨hxc, hm0_11, rp, Nat.le_succ_of_le hr, hnc, ?_⟩
                                rw [show jN s_boost none = [] from rfl, List.append_nil]
                                exact hpc
                            | some t13 =>
                              obtain ⟨cc, hv, hSc, hcc⟩ := H13.out
                              subst hv
                              have hcc := hxc.cell hcc
                              go_wp2_with (at_mapUpdate; refine wp_put _ rfl _ _ _ 105 rfl 20 Try.underlying105 (w.heap.size + 1) rp rfl hnc (Nat.lt_of_le_of_lt hr (by decide)) s_boost rfl (by decide) _ rfl ?_; intro wn hnn hgn)
                              go_meet
                              case rel =>
                                have hxn := ext_put hxc hgn (by omega)
                                refine ⟨hxn, hm0_11.grown hgn (someNe hne0), _, ?_, hnn, ?_⟩
                                · rw [List.length_append]; exact Nat.succ_le_succ (by exact hr)
                                · rw [show jN s_boost (some t13) = [(s_boost, .num t13.num)] from rfl]
                                  exact PJ.snoc (hpc.keep (fun _ h _ => h) (keeps_grown hgn (fun b hb e => by simp only [Option.some.injEq] at e; omega))) (by simp only [JAt]; rfl)
                          case rest => as_aux_lemma =>
                            obtain ⟨hxc, hm0_12, rp, hr, hnc, hpc⟩ := hcut
                            have hbc := hbq.ext hxc
                            have hc3 := hbc.cell 3 _ rfl
                            have hc14 := hbc.cell 14 _ rfl
                            have hc15 := hbc.cell 15 _ rfl
                            have hc16 := hbc.cell 16 _ rfl
                            go_upto_if 227 with fail
                            go_cut [] (fun wc => Ext w wc ∧ MapAt wc w.heap.size [(s_more_like_this, .iface 105 (.map (some (w.heap.size + 1))))] ∧ ∃ rp, rp.length ≤ 14 ∧ MapAt wc (w.heap.size + 1) rp ∧ PJ (fun b => b ≠ w.heap.size ∧ b ≠ w.heap.size + 1) wc rp (jTs s_fields fs ++ [(s_like, J.list (ds.map jItem))] ++ jLs s_unlike (es.map jItem) ++ jT s_minimum_should_match (o4) ++ jW s_min_term_freq (o5) ++ jW s_max_query_terms (o6) ++ jTs s_stop_words st ++ jW s_min_doc_freq (o8) ++ jW s_max_doc_freq (o9) ++ jW s_min_word_length (o10) ++ jW s_max_word_length (o11) ++ jN s_boost_terms (o12) ++ jN s_boost (o13) ++ jT s_analyzer (o14)))
                            case first => as_aux_lemma =>
                              cases hE : v14.toList.isEmpty
                              · have hE1 := jT_some (k := s_analyzer) H14.out hE
                                go_wp2_with (at_mapUpdate; refine wp_put _ rfl _ _ _ 105 rfl 20 Try.underlying105 (w.heap.size + 1) rp rfl hnc (Nat.lt_of_le_of_lt hr (by decide)) s_analyzer rfl (by decide) _ rfl ?_; intro wn hnn hgn)
                                go_meet
                                case rel =>
                                  have hxn := ext_put hxc hgn (by omega)
                                  refine ⟨hxn, hm0_12.grown hgn (someNe hne0), _, ?_, hnn, ?_⟩
                                  · rw [List.length_append]; exact Nat.succ_le_succ (by exact hr)
                                  · rw [hE1]
                                    exact PJ.snoc (hpc.keep (fun _ h _ => h) (keeps_grown hgn (fun b hb e => by simp only [Option.some.injEq] at e; omega))) (by simp only [JAt]; rfl)
                              · have hE1 := jT_none (k := s_analyzer) H14.out hE
                                go_wp2_with fail
                                go_meet
                                case rel =>
                                  refine ⟨hxc, hm0_12, rp, Nat.le_succ_of_le hr, hnc, ?_⟩
                                  rw [hE1, List.append_nil]
                                  exact hpc
                            case rest => as_aux_lemma =>
                              obtain ⟨hxc, hm0_13, rp, hr, hnc, hpc⟩ := hcut
                              have hbc := hbq.ext hxc
                              have hc3 := hbc.cell 3 _ rfl
                              have hc15 := hbc.cell 15 _ rfl
                              have hc16 := hbc.cell 16 _ rfl
                              go_upto_if 238 with fail
                              go_cut [] (fun wc => Ext w wc ∧ MapAt wc w.heap.size [(s_more_like_this, .iface 105 (.map (some (w.heap.size + 1))))] ∧ ∃ rp, rp.length ≤ 15 ∧ MapAt wc (w.heap.size + 1) rp ∧ PJ (fun b => b ≠ w.heap.size ∧ b ≠ w.heap.size + 1) wc rp (jTs s_fields fs ++ [(s_like, J.list (ds.map jItem))] ++ jLs s_unlike (es.map jItem) ++ jT s_minimum_should_match (o4) ++ jW s_min_term_freq (o5) ++ jW s_max_query_terms (o6) ++ jTs s_stop_words st ++ jW s_min_doc_freq (o8) ++ jW s_max_doc_freq (o9) ++ jW s_min_word_length (o10) ++ jW s_max_word_length (o11) ++ jN s_boost_terms (o12) ++ jN s_boost (o13) ++ jT s_analyzer (o14) ++ jY s_fail_on_unsupported_field (o15)))
                              case first => as_aux_lemma =>
                                cases o15 with
                                | none =>
                                  have hv : v15 = none := H15.out
                                  subst hv
                                  go_wp2_with fail
                                  go_meet
                                  case rel =>
                                    refine ⟨hxc, hm0_13, rp, Nat.le_succ_of_le hr, hnc, ?_⟩
                                    rw [show jY s_fail_on_unsupported_field none = [] from rfl, List.append_nil]
                                    exact hpc
                                | some t15 =>
                                  obtain ⟨cc, hv, hSc, hcc⟩ := H15.out
                                  subst hv
                                  have hcc := hxc.cell hcc
                                  go_wp2_with (at_mapUpdate; refine wp_put _ rfl _ _ _ 105 rfl 20 Try.underlying105 (w.heap.size + 1) rp rfl hnc (Nat.lt_of_le_of_lt hr (by decide)) s_fail_on_unsupported_field rfl (by decide) _ rfl ?_; intro wn hnn hgn)
                                  go_meet
                                  case rel =>
                                    have hxn := ext_put hxc hgn (by omega)
                                    refine ⟨hxn, hm0_13.grown hgn (someNe hne0), _, ?_, hnn, ?_⟩
                                    · rw [List.length_append]; exact Nat.succ_le_succ (by exact hr)
                                    · rw [show jY s_fail_on_unsupported_field (some t15) = [(s_fail_on_unsupported_field, .yes t15.yes)] from rfl]
                                      exact PJ.snoc (hpc.keep (fun _ h _ => h) (keeps_grown hgn (fun b hb e => by simp only [Option.some.injEq] at e; omega))) (by simp only [JAt]; rfl)
                              case rest => as_aux_lemma =>
                                obtain ⟨hxc, hm0_14, rp, hr, hnc, hpc⟩ := hcut
                                have hbc := hbq.ext hxc
                                have hc3 := hbc.cell 3 _ rfl
                                have hc16 := hbc.cell 16 _ rfl
                                go_upto_if 251 with fail
                                go_cut [] (fun wc => Ext w wc ∧ MapAt wc w.heap.size [(s_more_like_this, .iface 105 (.map (some (w.heap.size + 1))))] ∧ ∃ rp, rp.length ≤ 16 ∧ MapAt wc (w.heap.size + 1) rp ∧ PJ (fun b => b ≠ w.heap.size ∧ b ≠ w.heap.size + 1) wc rp (jTs s_fields fs ++ [(s_like, J.list (ds.map jItem))] ++ jLs s_unlike (es.map jItem) ++ jT s_minimum_should_match (o4) ++ jW s_min_term_freq (o5) ++ jW s_max_query_terms (o6) ++ jTs s_stop_words st ++ jW s_min_doc_freq (o8) ++ jW s_max_doc_freq (o9) ++ jW s_min_word_length (o10) ++ jW s_max_word_length (o11) ++ jN s_boost_terms (o12) ++ jN s_boost (o13) ++ jT s_analyzer (o14) ++ jY s_fail_on_unsupported_field (o15) ++ jT s_name (o16)))
                                case first => as_aux_lemma =>
                                  cases hE : v16.toList.isEmpty
                                  · have hE1 := jT_some (k := s_name) H16.out hE
                                    go_wp2_with (at_mapUpdate; refine wp_put _ rfl _ _ _ 105 rfl 20 Try.underlying105 (w.heap.size + 1) rp rfl hnc (Nat.lt_of_le_of_lt hr (by decide)) s_name rfl (by decide) _ rfl ?_; intro wn hnn hgn)
                                    go_meet
                                    case rel =>
                                      have hxn := ext_put hxc hgn (by omega)
                                      refine ⟨hxn, hm0_14.grown hgn (someNe hne0), _, ?_, hnn, ?_⟩
                                      · rw [List.length_append]; exact Nat.succ_le_succ (by exact hr)
                                      · rw [hE1]
                                        exact PJ.snoc (hpc.keep (fun _ h _ => h) (keeps_grown hgn (fun b hb e => by simp only [Option.some.injEq] at e; omega))) (by simp only [JAt]; rfl)
                                  · have hE1 := jT_none (k := s_name) H16.out hE
                                    go_wp2_with fail
                                    go_meet
                                    case rel =>
                                      refine ⟨hxc, hm0_14, rp, Nat.le_succ_of_le hr, hnc, ?_⟩
                                      rw [hE1, List.append_nil]
                                      exact hpc
                                case rest => as_aux_lemma =>
                                  obtain ⟨hxc, hm0_15, rp, hr, hnc, hpc⟩ := hcut
                                  have hbc := hbq.ext hxc
                                  have hc3 := hbc.cell 3 _ rfl
                                  go_upto_if 262 with fail
                                  go_cut [] (fun wc => Ext w wc ∧ MapAt wc w.heap.size [(s_more_like_this, .iface 105 (.map (some (w.heap.size + 1))))] ∧ ∃ rp, rp.length ≤ 17 ∧ MapAt wc (w.heap.size + 1) rp ∧ PJ (fun b => b ≠ w.heap.size ∧ b ≠ w.heap.size + 1) wc rp (jTs s_fields fs ++ [(s_like, J.list (ds.map jItem))] ++ jLs s_unlike (es.map jItem) ++ jT s_minimum_should_match (o4) ++ jW s_min_term_freq (o5) ++ jW s_max_query_terms (o6) ++ jTs s_stop_words st ++ jW s_min_doc_freq (o8) ++ jW s_max_doc_freq (o9) ++ jW s_min_word_length (o10) ++ jW s_max_word_length (o11) ++ jN s_boost_terms (o12) ++ jN s_boost (o13) ++ jT s_analyzer (o14) ++ jY s_fail_on_unsupported_field (o15) ++ jT s_name (o16) ++ jY s_include (o3)))
                                  case first => as_aux_lemma =>
                                    cases o3 with
                                    | none =>
                                      have hv : v3 = none := H3.out
                                      subst hv
                                      go_wp2_with fail
                                      go_meet
                                      case rel =>
                                        refine ⟨hxc, hm0_15, rp, Nat.le_succ_of_le hr, hnc, ?_⟩
                                        rw [show jY s_include none = [] from rfl, List.append_nil]
                                        exact hpc
                                    | some t3 =>
                                      obtain ⟨cc, hv, hSc, hcc⟩ := H3.out
                                      subst hv
                                      have hcc := hxc.cell hcc
                                      go_wp2_with (at_mapUpdate; refine wp_put _ rfl _ _ _ 105 rfl 20 Try.underlying105 (w.heap.size + 1) rp rfl hnc (Nat.lt_of_le_of_lt hr (by decide)) s_include rfl (by decide) _ rfl ?_; intro wn hnn hgn)
                                      go_meet
                                      case rel =>
                                        have hxn := ext_put hxc hgn (by omega)
                                        refine ⟨hxn, hm0_15.grown hgn (someNe hne0), _, ?_, hnn, ?_⟩
                                        · rw [List.length_append]; exact Nat.succ_le_succ (by exact hr)
                                        · rw [show jY s_include (some t3) = [(s_include, .yes t3.yes)] from rfl]
                                          exact PJ.snoc (hpc.keep (fun _ h _ => h) (keeps_grown hgn (fun b hb e => by simp only [Option.some.injEq] at e; omega))) (by simp only [JAt]; rfl)
                                  case rest => as_aux_lemma =>
                                    obtain ⟨hxc, hm0_16, rp, hr, hnc, hpc⟩ := hcut
                                    have hbc := hbq.ext hxc
                                    go_wp2_with fail
                                    go_ret2
                                    refine ⟨_, rfl, ?_, hxc⟩
                                    exact jMap_one hm0_16 trivial (hpc.wide.map hnc trivial (by have := hpc.len; omega))
end Go.Proofs.Ytfngaoicoecncaa
