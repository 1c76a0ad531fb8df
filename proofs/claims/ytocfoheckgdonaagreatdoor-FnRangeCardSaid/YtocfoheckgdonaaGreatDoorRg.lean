/-
  Range, as it is told: the bounds that are set at last.
-/
import Derived.Test.YtocfoheckgdonaaGreatDoorRr
import Derived.Test.YtocfoheckgdonaaGreatDoorIRange
namespace Go.Proofs.YtocfoheckgdonaaGreatDoor
open Go.RowKit

abbrev sRange : ByteArray := ⟨#[82, 97, 110, 103, 101]⟩
abbrev tRange : ByteArray := ⟨#[102, 114, 111, 109, 32, 117, 44, 116, 111, 32, 117, 44, 103, 116, 32, 117, 44, 103, 116, 101, 32, 117, 44, 108, 116, 32, 117, 44, 108, 116, 101, 32, 117, 44, 105, 110, 99, 108, 117, 100, 101, 95, 108, 111, 119, 101, 114, 32, 98, 44, 105, 110, 99, 108, 117, 100, 101, 95, 117, 112, 112, 101, 114, 32, 98, 44, 98, 111, 111, 115, 116, 32, 110, 44, 102, 111, 114, 109, 97, 116, 32, 116, 44, 114, 101, 108, 97, 116, 105, 111, 110, 32, 116, 44, 116, 105, 109, 101, 95, 122, 111, 110, 101, 32, 116, 44, 95, 110, 97, 109, 101, 32, 116]⟩
abbrev rRange : List (ByteArray × ByteArray) := [(s_from, ⟨#[117]⟩), (s_to, ⟨#[117]⟩), (s_gt, ⟨#[117]⟩), (s_gte, ⟨#[117]⟩), (s_lt, ⟨#[117]⟩), (s_lte, ⟨#[117]⟩), (s_include_lower, ⟨#[98]⟩), (s_include_upper, ⟨#[98]⟩), (s_boost, ⟨#[110]⟩), (s_format, ⟨#[116]⟩), (s_relation, ⟨#[116]⟩), (s_time_zone, ⟨#[116]⟩), (s_name, ⟨#[116]⟩)]
set_option maxHeartbeats 2000000 in
theorem table_range (w : World) : Calls Tryz.prog 128 #[.string sRange] w fun r w' => r = .returned (.string tRange) ∧ w' = w := by
  go_enter Tryz.func128, Tryz.ntmps128
  go_wp2
  go_ret
  exact ⟨rfl, rfl⟩

/-- A bound, as it is told. -/
def rb (fr gt gte inc : ByteArray) (sets : List (ByteArray × T)) : List (ByteArray × T) :=
  if ((bound fr gt gte sets).getD nullT).kind = 0 then [] else [(if incl gt gte inc sets = true then gte else gt, (bound fr gt gte sets).getD nullT)]
def rbs : Nat → List (ByteArray × T) → List (ByteArray × T) → List (ByteArray × T)
  | 0, P, _ => P
  | 1, P, sets => P ++ rb s_from s_gt s_gte s_include_lower sets
  | _, P, sets => (P ++ rb s_from s_gt s_gte s_include_lower sets) ++ rb s_to s_lt s_lte s_include_upper sets
theorem rb_len (fr gt gte inc : ByteArray) (sets : List (ByteArray × T)) : (rb fr gt gte inc sets).length ≤ 1 := by
  unfold rb
  split <;> simp
theorem rbs_len (j : Nat) (P sets : List (ByteArray × T)) : (rbs j P sets).length ≤ P.length + 2 := by
  have h1 := rb_len s_from s_gt s_gte s_include_lower sets
  have h2 := rb_len s_to s_lt s_lte s_include_upper sets
  match j with
  | 0 => simp [rbs]
  | 1 => simp only [rbs, List.length_append]; omega
  | j + 2 => simp only [rbs, List.length_append]; omega
abbrev inUp : List ByteArray := [s_include_lower, s_include_upper]

set_option maxRecDepth 20000 in
set_option maxHeartbeats 16000000 in
theorem rangeSpec_any {S : Nat → Prop} (field : ByteArray) (a : Option Addr) (n c : Nat) (sets : List (ByteArray × T)) (w : World) (h : PairsAt S w a n c sets) :
    Calls Tryz.prog 27 #[.string field, .slice a n c] w fun r w' => ∃ g : El, r = .returned g.val ∧ TreeAt (fun _ => True) w' g (mapT [(s_range, mapT [(field, mapT (rbs 2 ((paramsL rRange sets).filter fun p => !hasS inUp p.1) sets))])]) ∧ Ext w w' := by
  have h := h.keep (S' := fun b => S b ∧ b < w.heap.size) (fun b h1 h2 => ⟨h1, h2⟩) (fun _ _ _ => rfl)
  have hnl := Nat.le_trans h.2.1 h.2.2.1
  unfold maxLen at hnl
  have hx0 : Ext w (w.alloc (.cells (El.arr El0) 26)) := ext_alloc (ext_refl _) _
  have hb0 : Box (w.alloc (.cells (El.arr El0) 26)) w.heap.size (El.arr El0) 26 := Box.at rfl _ _
  have hPa := Lib.hid (params_any (S := fun b => S b ∧ b < w.heap.size) sRange tRange a n c sets _ table_range 16 (by decide) (by decide) rRange (by decide) (by decide) (h.ext hx0))
  have hPl := Lib.hid (show (paramsL rRange sets).length ≤ 100 from Nat.le_trans (params_len _ _) (by decide))
  have HSETS := Lib.hid h
  have HN := Lib.hid h.1
  clear h
  go_enter Tryz.func27, Tryz.ntmps27
  go_upto_region 2 with (first
    | (go_at_call 65; refine hPa.out.mono ?_; rintro r w1 ⟨v1, es1, rfl, hO1, hPk1, hx1⟩; clear hPa
       obtain ⟨pa, pc, rfl, hPA⟩ := hO1.pairs (S := fun b => b < w1.heap.size ∧ b ≠ w.heap.size) hPk1.1 (fun b hb => by have h1 := World.ownsRow.lt hO1 b hb; simp at h1; omega) (hPk1.keep (S' := fun b => b < w1.heap.size ∧ b ≠ w.heap.size) (fun b h1 h2 => ⟨h2, by have := h1.1.2; omega⟩) (fun _ _ _ => rfl)).2
       have hs1 := hx1.sz
       have hxk : Ext w1 (w1.alloc (.cells #[.string s_include_lower, .string s_include_upper] 9)) := ext_alloc (ext_refl _) _
       have hbk0 : Box (w1.alloc (.cells #[.string s_include_lower, .string s_include_upper] 9)) w1.heap.size #[.string s_include_lower, .string s_include_upper] 9 := Box.at rfl _ _
       have hKS : StrsAt (fun b => b < w1.heap.size + 1 ∧ b ≠ w.heap.size) (w1.alloc (.cells #[.string s_include_lower, .string s_include_upper] 9)) (some ⟨w1.heap.size, 0, none⟩) 2 2 inUp := ⟨rfl, Nat.le_refl _, by simp [maxLen], fun i s hi => ⟨w1.heap.size, 0, rfl, by simp at hs1; omega, by
         rw [Nat.zero_add]
         match i, hi with
         | 0, hi => simp at hi; subst hi; exact hbk0.cell 0 _ rfl
         | 1, hi => simp at hi; subst hi; exact hbk0.cell 1 _ rfl
         | i + 2, hi => simp at hi⟩⟩
       have hPi := Lib.hid (pick_any (S := fun b => b < w1.heap.size + 1 ∧ b ≠ w.heap.size) pa _ pc (paramsL rRange sets) (some ⟨w1.heap.size, 0, none⟩) 2 2 inUp (w1.alloc (.cells #[.string s_include_lower, .string s_include_upper] 9)) ((hPA.keep (S' := fun b => b < w1.heap.size + 1 ∧ b ≠ w.heap.size) (fun b h1 _ => by omega) (fun _ _ _ => rfl)).ext hxk) hKS (by have := hPl.out; omega))
       clear hO1 hPk1 hPA hKS hbk0)
    | (go_at_call 102; refine hPi.out.mono ?_; rintro r w2 ⟨v2, es2, rfl, hO, hPk, hx2⟩; clear hPi)
    | fail)
  have hO2 : OwnPairs w2 (w1.heap.size + 1) v2 es2 := by simpa using hO
  have hPk2 := Lib.hid (hPk.keep (S' := fun b => b < w1.heap.size + 1 ∧ b ≠ w.heap.size) (fun b h1 _ => h1.1) (fun _ _ _ => rfl))
  have hfl := List.length_filter_le (fun p : ByteArray × T => !hasS inUp p.1) (paramsL rRange sets)
  have hP0 := Lib.hid (show ((paramsL rRange sets).filter fun p => !hasS inUp p.1).length ≤ 100 from Nat.le_trans hfl hPl.out)
  have hb2 := ((hb0.ext hx1).ext hxk).ext hx2
  have hx3 : Ext w w2 := ext_trans hx0 (ext_trans hx1 (ext_trans hxk hx2))
  have hs2 := hx2.sz
  simp at hs2 hs1
  have hbase : w.heap.size < w1.heap.size + 1 := by omega
  clear hO hPk hfl hb0 hx0 hx1 hxk hx2 hPl
  generalize hPE : (paramsL rRange sets).filter (fun p => !hasS inUp p.1) = P0 at hPk2 hP0
  have HPE := Lib.hid hPE
  clear hPE
  generalize w1.heap.size + 1 = base at hO2 hPk2 hbase hs2
  go_upto_region 3 with fail
  have hxA : Ext w2 (((w2.alloc (.cells #[.string s_from, .string s_gt, .string s_gte, .string s_include_lower] 9)).alloc (.cells #[.string s_to, .string s_lt, .string s_lte, .string s_include_upper] 9)).alloc (.cells #[.slice (some ⟨w2.heap.size, 0, none⟩) 4 4, .slice (some ⟨w2.heap.size + 1, 0, none⟩) 4 4] 23)) := ext_alloc (ext_alloc (ext_alloc (ext_refl _) _) _) _
  have hA0 : Box (((w2.alloc (.cells #[.string s_from, .string s_gt, .string s_gte, .string s_include_lower] 9)).alloc (.cells #[.string s_to, .string s_lt, .string s_lte, .string s_include_upper] 9)).alloc (.cells #[.slice (some ⟨w2.heap.size, 0, none⟩) 4 4, .slice (some ⟨w2.heap.size + 1, 0, none⟩) 4 4] 23)) w2.heap.size #[.string s_from, .string s_gt, .string s_gte, .string s_include_lower] 9 := ((Box.at rfl _ _).alloc _).alloc _
  have hA1 : Box (((w2.alloc (.cells #[.string s_from, .string s_gt, .string s_gte, .string s_include_lower] 9)).alloc (.cells #[.string s_to, .string s_lt, .string s_lte, .string s_include_upper] 9)).alloc (.cells #[.slice (some ⟨w2.heap.size, 0, none⟩) 4 4, .slice (some ⟨w2.heap.size + 1, 0, none⟩) 4 4] 23)) (w2.heap.size + 1) #[.string s_to, .string s_lt, .string s_lte, .string s_include_upper] 9 := (Box.at (by simp) _ _).alloc _
  have hBB : Box (((w2.alloc (.cells #[.string s_from, .string s_gt, .string s_gte, .string s_include_lower] 9)).alloc (.cells #[.string s_to, .string s_lt, .string s_lte, .string s_include_upper] 9)).alloc (.cells #[.slice (some ⟨w2.heap.size, 0, none⟩) 4 4, .slice (some ⟨w2.heap.size + 1, 0, none⟩) 4 4] 23)) (w2.heap.size + 1 + 1) #[.slice (some ⟨w2.heap.size, 0, none⟩) 4 4, .slice (some ⟨w2.heap.size + 1, 0, none⟩) 4 4] 23 := Box.at (by simp) _ _
  have hb2 := hb2.ext hxA
  have hne2 : ∀ q, v2.ownBlock = some q → q ≠ w2.heap.size ∧ q ≠ w2.heap.size + 1 ∧ q ≠ w2.heap.size + 1 + 1 := fun q hq => by have := (World.ownsRow.lt hO2 q hq).2; omega
  have hO2 := hO2.ext hxA
  have hPk2 := Lib.hid (hPk2.out.ext hxA)
  have hx3 := ext_trans hx3 hxA
  clear hxA
  generalize (((w2.alloc (.cells #[.string s_from, .string s_gt, .string s_gte, .string s_include_lower] 9)).alloc (.cells #[.string s_to, .string s_lt, .string s_lte, .string s_include_upper] 9)).alloc (.cells #[.slice (some ⟨w2.heap.size, 0, none⟩) 4 4, .slice (some ⟨w2.heap.size + 1, 0, none⟩) 4 4] 23)) = wB at hA0 hA1 hBB hb2 hO2 hPk2 hx3 ⊢
  generalize w2.heap.size = a0 at hA0 hA1 hBB hne2 hs2 ⊢
  go_wp2_with fail
  go_loopw [5, 7] (fun v i wr => Ext w wr ∧ Box wr w.heap.size (El.arr El0) 26 ∧ Box wr a0 #[.string s_from, .string s_gt, .string s_gte, .string s_include_lower] 9 ∧ Box wr (a0 + 1) #[.string s_to, .string s_lt, .string s_lte, .string s_include_upper] 9 ∧ Box wr (a0 + 1 + 1) #[.slice (some ⟨a0, 0, none⟩) 4 4, .slice (some ⟨a0 + 1, 0, none⟩) 4 4] 23 ∧ ∃ (j : Nat) (es : List (ByteArray × El)), j ≤ 2 ∧ i = .int .i64 j ∧ OwnPairs wr base v es ∧ (∀ q, v.ownBlock = some q → q ≠ a0 ∧ q ≠ a0 + 1 ∧ q ≠ a0 + 1 + 1) ∧ Pk (fun b => b < base ∧ b ≠ w.heap.size) wr es (rbs j P0 sets)) (fun _ i _ => 2 - (intOf i).toNat)
  case atStart => exact ⟨hx3, hb2, hA0, hA1, hBB, 0, es2, Nat.zero_le _, rfl, hO2, hne2, hPk2.out⟩
  case round =>
    clear hx3 hb2 hA0 hA1 hBB hO2 hPk2 hne2
    obtain ⟨hx, hb0, hA0, hA1, hBB, j, es, hj, rfl, hO, hne, hPk⟩ := hrel
    have hxs := hx.sz
    have hA0l := hA0.lt
    by_cases hlt : j < 2
    · have hnm : ∃ (q : Nat) (s0 s1 s2 s3 : ByteArray), Box wr q #[.string s0, .string s1, .string s2, .string s3] 9 ∧ wr.cell? ⟨a0 + 1 + 1, 0 + j, none⟩ = some (.slice (some ⟨q, 0, none⟩) 4 4) ∧ (q = a0 ∨ q = a0 + 1) ∧ rbs (j + 1) P0 sets = rbs j P0 sets ++ rb s0 s1 s2 s3 sets ∧ (seq s0 s1 = false ∧ seq s0 s2 = false ∧ seq s0 s3 = false ∧ seq s1 s2 = false ∧ seq s1 s3 = false ∧ seq s2 s3 = false) := by
        rcases (show j = 0 ∨ j = 1 by omega) with rfl | rfl
        · exact ⟨a0, s_from, s_gt, s_gte, s_include_lower, hA0, hBB.cell 0 _ rfl, .inl rfl, rfl, seq_false.2 (by decide), seq_false.2 (by decide), seq_false.2 (by decide), seq_false.2 (by decide), seq_false.2 (by decide), seq_false.2 (by decide)⟩
        · exact ⟨a0 + 1, s_to, s_lt, s_lte, s_include_upper, hA1, hBB.cell 1 _ rfl, .inr rfl, rfl, seq_false.2 (by decide), seq_false.2 (by decide), seq_false.2 (by decide), seq_false.2 (by decide), seq_false.2 (by decide), seq_false.2 (by decide)⟩
      obtain ⟨q, s0, s1, s2, s3, hq, hbn, hqa, hst, d01, d02, d03, d12, d13, d23⟩ := hnm
      have hbn2 : wr.cell? ⟨a0 + 1 + 1, j, none⟩ = some (.slice (some ⟨q, 0, none⟩) 4 4) := by rw [← hbn, Nat.zero_add]
      have HST := Lib.hid hst
      have hel : es.length ≤ 102 := by rw [← hPk.1]; have h1 := rbs_len j P0 sets; have h2 := hP0.out; omega
      have hbk : ∀ b, u5.ownBlock = some b → base ≤ b ∧ b < wr.heap.size := fun b hb => World.ownsRow.lt hO b hb
      have HO := Lib.hid hO
      have HPk := Lib.hid hPk
      have HD := Lib.hid (And.intro d01 (And.intro d02 (And.intro d03 (And.intro d12 (And.intro d13 d23)))))
      clear hst hO hPk d01 d02 d03 d12 d13 d23
      have hql := hq.lt
      go_upto_region 8 with fail
      have hxb : Ext wr (wr.alloc (.cells (El.arr El0) 26)) := ext_alloc (ext_refl _) _
      have hbb0 : Box (wr.alloc (.cells (El.arr El0) 26)) wr.heap.size (El.arr El0) 26 := Box.at rfl _ _
      generalize hbbe : wr.heap.size = bb at hbb0
      have hbbl0 : bb < (wr.alloc (.cells (El.arr El0) 26)).heap.size := hbb0.lt
      obtain ⟨wo, rfl⟩ : ∃ x : World, x = wr := ⟨_, rfl⟩
      go_wp2_with fail
      go_loopw [10, 11] (fun inc i2 wi => Ext wo wi ∧ ∃ (m : Nat) (eb : El), m ≤ n ∧ i2 = .int .i64 m ∧ inc = .bool (incl s1 s2 s3 (sets.take m)) ∧ Box wi bb eb.arr 26 ∧ TreeAt (fun b => b < w.heap.size) wi eb ((bound s0 s1 s2 (sets.take m)).getD nullT)) (fun _ i2 _ => n - (intOf i2).toNat)
      case atStart => exact ⟨hxb, 0, El0, Nat.zero_le _, rfl, rfl, hbb0, TreeAt.of rfl rfl rfl rfl (strs_none _) (kids_none _)⟩
      case round =>
        clear hxb hbb0 hbbl0
        obtain ⟨hxi0, m, eb, hm, rfl, rfl, hbb, hTb⟩ := hrel
        obtain ⟨wi, rfl⟩ : ∃ x : World, x = wr := ⟨_, rfl⟩
        have hqb1 : ¬ q = bb := by omega
        have hqb2 : ¬ bb = q := by omega
        have hTb := Lib.hid hTb
        have hbbl := hbb.lt
        have hqi := hq.ext hxi0
        have hqil := hqi.lt
        have hxi := hxi0
        have hxsi := hxi0.sz
        obtain ⟨b0, b1, b2, b3, b4, b5⟩ := hbb.six
        have f0 := hbb.free 0
        have f1 := hbb.free 1
        have f2 := hbb.free 2
        have f3 := hbb.free 3
        have f4 := hbb.free 4
        have f5 := hbb.free 5
        have q0 := hqi.cell 0 _ rfl
        have q1 := hqi.cell 1 _ rfl
        have q2 := hqi.cell 2 _ rfl
        have q3 := hqi.cell 3 _ rfl
        by_cases hlt2 : m < n
        · obtain ⟨p, hp⟩ := some_of_lt HN.out hlt2
          obtain ⟨b, off, ⟨kk, kx, kd, ky, kka, kn, kkc, kca, km, kcc⟩, rfl, hSb, hc7, hTk⟩ := HSETS.out.2.2.2 m p hp
          obtain ⟨z0, z1, z2, z3, z4, z5, z6⟩ := Cells7.ext (ext_trans hx hxi0) hc7
          have hTk := Lib.hid ((hTk.to (S' := fun b => b < w.heap.size) (fun b _ h2 => h2)).ext (ext_trans hx hxi0))
          have hTy := Lib.hid (show ky = p.2.yes from hTk.out.parts.2.2.2.1)
          have HP := Lib.hid hp
          have hSb2 := hSb.2
          clear hp hc7 hSb
          cases e0 : seq p.1 s0
          · have w0 : (p.1.toList == s0.toList) = false := e0
            cases e1 : seq p.1 s1
            · have w1' : (p.1.toList == s1.toList) = false := e1
              cases e2 : seq p.1 s2
              · have w2' : (p.1.toList == s2.toList) = false := e2
                cases e3 : seq p.1 s3
                · have w3' : (p.1.toList == s3.toList) = false := e3
                  go_wp2_with fail
                  go_roundw
                  case rel => exact ⟨hxi, m + 1, eb, by omega, by go_num, by rw [incl_snoc HP.out, if_neg (seq_false.1 e1), if_neg (seq_false.1 e2), if_neg (seq_false.1 e3)], hbb, by
                    rw [bound_snoc HP.out, if_neg (seq_false.1 e0), if_neg (seq_false.1 e1), if_neg (seq_false.1 e2)]
                    exact hTb.out⟩
                  case measure => simp [intOf]; omega
                · have w3' : (p.1.toList == s3.toList) = true := e3
                  go_wp2_with fail
                  go_roundw
                  case rel => exact ⟨hxi, m + 1, eb, by omega, by go_num, by rw [incl_snoc HP.out, if_neg (seq_false.1 e1), if_neg (seq_false.1 e2), if_pos (seq_iff.1 e3), hTy.out], hbb, by
                    rw [bound_snoc HP.out, if_neg (seq_false.1 e0), if_neg (seq_false.1 e1), if_neg (seq_false.1 e2)]
                    exact hTb.out⟩
                  case measure => simp [intOf]; omega
              · have w2' : (p.1.toList == s2.toList) = true := e2
                go_upto_region 14 with fail
                have hxz := ext_sto6 hxi0 (b := bb) (by omega) (.int .i64 kk) (.string kx) (.float .f64 kd) (.bool ky) (.slice kka kn kkc) (.slice kca km kcc)
                have hbz := hbb.sto ⟨kk, kx, kd, ky, kka, kn, kkc, kca, km, kcc⟩
                have hqz := hqi.sto6' (b' := bb) hqb1 (.int .i64 kk) (.string kx) (.float .f64 kd) (.bool ky) (.slice kka kn kkc) (.slice kca km kcc)
                have hTz := Lib.hid (TreeAt.keep (S := fun b => b < w.heap.size) (S' := fun b => b < w.heap.size) (fun _ h _ => h) (keeps_sto (S := fun b => b < w.heap.size) (b := bb) wi (show ¬ bb < w.heap.size by omega) ⟨kk, kx, kd, ky, kka, kn, kkc, kca, km, kcc⟩) _ hTk.out)
                generalize hWF : ((((((wi.setCell ⟨bb, 0, none⟩ (.int .i64 kk)).setCell ⟨bb, 1, none⟩ (.string kx)).setCell ⟨bb, 2, none⟩ (.float .f64 kd)).setCell ⟨bb, 3, none⟩ (.bool ky)).setCell ⟨bb, 4, none⟩ (.slice kka kn kkc)).setCell ⟨bb, 5, none⟩ (.slice kca km kcc)) = wz
                have w9 : sto wi bb ⟨kk, kx, kd, ky, kka, kn, kkc, kca, km, kcc⟩ = wz := hWF
                have w8 : sto6 wi bb (.int .i64 kk) (.string kx) (.float .f64 kd) (.bool ky) (.slice kka kn kkc) (.slice kca km kcc) = wz := hWF
                rw [w9] at hbz hTz
                rw [w8] at hxz hqz
                clear hWF w8 w9 b0 b1 b2 b3 b4 b5 f0 f1 f2 f3 f4 f5 q0 q1 q2 q3 z0 z1 z2 z3 z4 z5 z6 hqi hqil hbb hbbl hTk
                have q0 := hqz.cell 0 _ rfl
                have q1 := hqz.cell 1 _ rfl
                have q2 := hqz.cell 2 _ rfl
                have q3 := hqz.cell 3 _ rfl
                go_wp2_with fail
                go_roundw
                case rel => exact ⟨hxz, m + 1, ⟨kk, kx, kd, ky, kka, kn, kkc, kca, km, kcc⟩, by omega, by go_num, by rw [incl_snoc HP.out, if_neg (seq_false.1 e1), if_pos (seq_iff.1 e2)], hbz, by
                  rw [bound_snoc HP.out, if_neg (seq_false.1 e0), if_neg (seq_false.1 e1), if_pos (seq_iff.1 e2)]
                  exact hTz.out⟩
                case measure => simp [intOf]; omega
            · have w1' : (p.1.toList == s1.toList) = true := e1
              have e2 : seq p.1 s2 = false := by rw [seq_iff.1 e1]; exact HD.out.2.2.2.1
              have w2' : (p.1.toList == s2.toList) = false := e2
              go_upto_region 14 with fail
              have hxz := ext_sto6 hxi0 (b := bb) (by omega) (.int .i64 kk) (.string kx) (.float .f64 kd) (.bool ky) (.slice kka kn kkc) (.slice kca km kcc)
              have hbz := hbb.sto ⟨kk, kx, kd, ky, kka, kn, kkc, kca, km, kcc⟩
              have hqz := hqi.sto6' (b' := bb) hqb1 (.int .i64 kk) (.string kx) (.float .f64 kd) (.bool ky) (.slice kka kn kkc) (.slice kca km kcc)
              have hTz := Lib.hid (TreeAt.keep (S := fun b => b < w.heap.size) (S' := fun b => b < w.heap.size) (fun _ h _ => h) (keeps_sto (S := fun b => b < w.heap.size) (b := bb) wi (show ¬ bb < w.heap.size by omega) ⟨kk, kx, kd, ky, kka, kn, kkc, kca, km, kcc⟩) _ hTk.out)
              generalize hWF : ((((((wi.setCell ⟨bb, 0, none⟩ (.int .i64 kk)).setCell ⟨bb, 1, none⟩ (.string kx)).setCell ⟨bb, 2, none⟩ (.float .f64 kd)).setCell ⟨bb, 3, none⟩ (.bool ky)).setCell ⟨bb, 4, none⟩ (.slice kka kn kkc)).setCell ⟨bb, 5, none⟩ (.slice kca km kcc)) = wz
              have w9 : sto wi bb ⟨kk, kx, kd, ky, kka, kn, kkc, kca, km, kcc⟩ = wz := hWF
              have w8 : sto6 wi bb (.int .i64 kk) (.string kx) (.float .f64 kd) (.bool ky) (.slice kka kn kkc) (.slice kca km kcc) = wz := hWF
              rw [w9] at hbz hTz
              rw [w8] at hxz hqz
              clear hWF w8 w9 b0 b1 b2 b3 b4 b5 f0 f1 f2 f3 f4 f5 q0 q1 q2 q3 z0 z1 z2 z3 z4 z5 z6 hqi hqil hbb hbbl hTk
              have q0 := hqz.cell 0 _ rfl
              have q1 := hqz.cell 1 _ rfl
              have q2 := hqz.cell 2 _ rfl
              have q3 := hqz.cell 3 _ rfl
              go_wp2_with fail
              go_roundw
              case rel => exact ⟨hxz, m + 1, ⟨kk, kx, kd, ky, kka, kn, kkc, kca, km, kcc⟩, by omega, by go_num, by rw [incl_snoc HP.out, if_pos (seq_iff.1 e1)], hbz, by
                rw [bound_snoc HP.out, if_neg (seq_false.1 e0), if_pos (seq_iff.1 e1)]
                exact hTz.out⟩
              case measure => simp [intOf]; omega
          · have w0 : (p.1.toList == s0.toList) = true := e0
            have e1 : seq p.1 s1 = false := by rw [seq_iff.1 e0]; exact HD.out.1
            have e2 : seq p.1 s2 = false := by rw [seq_iff.1 e0]; exact HD.out.2.1
            have e3 : seq p.1 s3 = false := by rw [seq_iff.1 e0]; exact HD.out.2.2.1
            have w1' : (p.1.toList == s1.toList) = false := e1
            have w2' : (p.1.toList == s2.toList) = false := e2
            have w3' : (p.1.toList == s3.toList) = false := e3
            go_upto_region 14 with fail
            have hxz := ext_sto6 hxi0 (b := bb) (by omega) (.int .i64 kk) (.string kx) (.float .f64 kd) (.bool ky) (.slice kka kn kkc) (.slice kca km kcc)
            have hbz := hbb.sto ⟨kk, kx, kd, ky, kka, kn, kkc, kca, km, kcc⟩
            have hqz := hqi.sto6' (b' := bb) hqb1 (.int .i64 kk) (.string kx) (.float .f64 kd) (.bool ky) (.slice kka kn kkc) (.slice kca km kcc)
            have hTz := Lib.hid (TreeAt.keep (S := fun b => b < w.heap.size) (S' := fun b => b < w.heap.size) (fun _ h _ => h) (keeps_sto (S := fun b => b < w.heap.size) (b := bb) wi (show ¬ bb < w.heap.size by omega) ⟨kk, kx, kd, ky, kka, kn, kkc, kca, km, kcc⟩) _ hTk.out)
            generalize hWF : ((((((wi.setCell ⟨bb, 0, none⟩ (.int .i64 kk)).setCell ⟨bb, 1, none⟩ (.string kx)).setCell ⟨bb, 2, none⟩ (.float .f64 kd)).setCell ⟨bb, 3, none⟩ (.bool ky)).setCell ⟨bb, 4, none⟩ (.slice kka kn kkc)).setCell ⟨bb, 5, none⟩ (.slice kca km kcc)) = wz
            have w9 : sto wi bb ⟨kk, kx, kd, ky, kka, kn, kkc, kca, km, kcc⟩ = wz := hWF
            have w8 : sto6 wi bb (.int .i64 kk) (.string kx) (.float .f64 kd) (.bool ky) (.slice kka kn kkc) (.slice kca km kcc) = wz := hWF
            rw [w9] at hbz hTz
            rw [w8] at hxz hqz
            clear hWF w8 w9 b0 b1 b2 b3 b4 b5 f0 f1 f2 f3 f4 f5 q0 q1 q2 q3 z0 z1 z2 z3 z4 z5 z6 hqi hqil hbb hbbl hTk
            have q0 := hqz.cell 0 _ rfl
            have q1 := hqz.cell 1 _ rfl
            have q2 := hqz.cell 2 _ rfl
            have q3 := hqz.cell 3 _ rfl
            go_wp2_with fail
            go_roundw
            case rel => exact ⟨hxz, m + 1, ⟨kk, kx, kd, ky, kka, kn, kkc, kca, km, kcc⟩, by omega, by go_num, by rw [incl_snoc HP.out, if_neg (seq_false.1 e1), if_neg (seq_false.1 e2), if_neg (seq_false.1 e3)], hbz, by
              rw [bound_snoc HP.out, if_pos (seq_iff.1 e0)]
              exact hTz.out⟩
            case measure => simp [intOf]; omega
        · have hmn : m = n := by omega
          subst hmn
          have hfull : sets.take m = sets := List.take_of_length_le (by have := HN.out; omega)
          rw [hfull] at hTb ⊢
          have hxi := ext_trans hx hxi0
          have hb0i := hb0.ext hxi0
          have hA0i := hA0.ext hxi0
          have hA1i := hA1.ext hxi0
          have hBi := hBB.ext hxi0
          have HOi := Lib.hid (HO.out.ext hxi0)
          have HPki := Lib.hid (HPk.out.ext hxi0)
          have HEB := Lib.hid hTb.out.parts.1
          generalize hbd : (bound s0 s1 s2 sets).getD nullT = BD at hTb HEB
          have HBD := Lib.hid hbd
          clear hbd hfull
          by_cases hz : BD.kind = 0
          · have hk0 : (eb.k == 0) = true := by rw [HEB.out, hz]; rfl
            have HZ := Lib.hid hz
            clear hz
            go_wp2_with fail
            go_roundw
            case rel =>
              refine ⟨hxi, hb0i, hA0i, hA1i, hBi, j + 1, es, by omega, by go_num, HOi.out, hne, ?_⟩
              rw [HST.out, rb, HBD.out, if_pos HZ.out, List.append_nil]
              exact HPki.out
            case measure => simp [intOf]; omega
          · have hk0 : (eb.k == 0) = false := by rw [HEB.out]; simpa using hz
            cases hic : incl s1 s2 s3 sets with
            | true =>
              have HIC := Lib.hid hic
              go_upto_region 23 with fail
              have hx4 : Ext wi (wi.alloc (.cells #[.string s2, .int .i64 eb.k, .string eb.x, .float .f64 eb.d, .bool eb.y, .slice eb.ka eb.n eb.kc, .slice eb.ca eb.m eb.cc] 68)).drew := ext_drew (ext_alloc (ext_refl _) _)
              have hbp : Box (wi.alloc (.cells #[.string s2, .int .i64 eb.k, .string eb.x, .float .f64 eb.d, .bool eb.y, .slice eb.ka eb.n eb.kc, .slice eb.ca eb.m eb.cc] 68)).drew wi.heap.size #[.string s2, .int .i64 eb.k, .string eb.x, .float .f64 eb.d, .bool eb.y, .slice eb.ka eb.n eb.kc, .slice eb.ca eb.m eb.cc] 68 := (Box.at rfl _ _).drew
              have hS : Six wi.drew bb eb ∧ wi.drew.cell? ⟨q, 2, none⟩ = some (.string s2) := ⟨hbb.Six, hqi.cell 2 _ rfl⟩
              refine wp_region_order (fun w' => Six w' bb eb ∧ w'.cell? ⟨q, 2, none⟩ = some (.string s2)) [0, 1, 2, 3, 4, 5] [0, 1, 2, 3, 4, 5, 6, 7, 8] (by kernel_rfl) (by kernel_rfl) (fun d _ _ _ _ h => by cases d <;> exact h) (by kernel_rfl) ?_
              iterate 6 (apply ord_held rfl rfl (by assumption) rfl; (focus ((intro w' hS'); go_simp; (try with_reducible rfl))); (try simp only [Act.put, List.setIfInBounds_toArray, List.set_cons_zero, List.set_cons_succ]))
              (apply ord_loud rfl rfl rfl; intro K hK; go_simp)
              refine hK _ _ (fun _ => ⟨Six.ext hx4 hbb.Six, hx4.cell (hqi.cell 2 _ rfl)⟩) ?_
              clear hK K
              apply ord_loud rfl rfl rfl
              intro K hK
              refine wp_append_pairs _ _ _ rfl base _ es rfl (HOi.out.ext hx4) wi.heap.size 0 1 [(s2, eb)] (by simp) rfl (fun i f hi => ?_) (by simp; omega) (by simp; omega) ?_
              · cases i with
                | zero => simp at hi; subst hi; exact ⟨hbp.cell 0 _ rfl, hbp.cell 1 _ rfl, hbp.cell 2 _ rfl, hbp.cell 3 _ rfl, hbp.cell 4 _ rfl, hbp.cell 5 _ rfl, hbp.cell 6 _ rfl⟩
                | succ i => simp at hi
              intro g1 cap1 w4 hown hgrow hlies hglt
              have hnb : ∀ b, b < wi.heap.size → (b = bb ∨ b = q ∨ b = a0 ∨ b = a0 + 1 ∨ b = a0 + 1 + 1 ∨ b = w.heap.size) → some b ≠ u5.ownBlock := fun b hb hc e => by
                have h1 := hbk b e.symm
                have h2 := hne b e.symm
                omega
              have hbbW := (hbb.ext hx4).grown hgrow (hnb bb hbbl (.inl rfl))
              have hqW := (hqi.ext hx4).grown hgrow (hnb q hqil (.inr (.inl rfl)))
              refine hK _ _ (fun _ => ⟨hbbW.Six, hqW.cell 2 _ rfl⟩) ?_
              clear hK K
              (try simp only [Act.put, List.setIfInBounds_toArray, List.set_cons_zero, List.set_cons_succ])
              (apply ord_last rfl rfl rfl (by kernel_rfl); intro K hK; go_simp; refine hK _ _ ?_; clear hK K; (try simp only [Act.put, List.setIfInBounds_toArray, List.set_cons_zero, List.set_cons_succ]))
              refine ord_end ?_
              have hx5 : Ext w w4 := ext_grown (ext_trans hxi hx4) hgrow (fun k hk => by have := (hbk k hk).1; omega)
              have hA0W := (hA0i.ext hx4).grown hgrow (hnb a0 hA0i.lt (.inr (.inr (.inl rfl))))
              have hA1W := (hA1i.ext hx4).grown hgrow (hnb (a0 + 1) hA1i.lt (.inr (.inr (.inr (.inl rfl)))))
              have hBW := (hBi.ext hx4).grown hgrow (hnb (a0 + 1 + 1) hBi.lt (.inr (.inr (.inr (.inr (.inl rfl))))))
              have hb0W := (hb0i.ext hx4).grown hgrow (hnb w.heap.size hb0i.lt (.inr (.inr (.inr (.inr (.inr rfl))))))
              have hkp : Keeps (fun b => b < base ∧ b ≠ w.heap.size) _ w4 := keeps_grown hgrow (fun b hb e => by have := (hbk b e.symm).1; omega)
              have hPk5 := Lib.hid (Pk.append (Pk.keep (S' := fun b => b < base ∧ b ≠ w.heap.size) (fun b hb _ => hb) hkp (HPki.out.ext hx4)) (Pk.one (k := s2) (TreeAt.keep (S' := fun b => b < base ∧ b ≠ w.heap.size) (fun b hb _ => hb) hkp _ ((hTb.out.to (S' := fun b => b < base ∧ b ≠ w.heap.size) (fun b h1 _ => by omega)).ext hx4))))
              have hO5 := Lib.hid hown
              have hne5 : ∀ b, (Value.slice (some ⟨g1, 0, none⟩) (es.length + 1) cap1).ownBlock = some b → b ≠ a0 ∧ b ≠ a0 + 1 ∧ b ≠ a0 + 1 + 1 := fun b hb => by
                simp only [Value.ownBlock, Option.some.injEq] at hb
                subst hb
                rcases hlies with hl | hl
                · exact hne _ hl
                · have h3 := hBi.lt
                  have h4 : (wi.alloc (.cells #[.string s2, .int .i64 eb.k, .string eb.x, .float .f64 eb.d, .bool eb.y, .slice eb.ka eb.n eb.kc, .slice eb.ca eb.m eb.cc] 68)).drew.heap.size = wi.heap.size + 1 := by simp
                  rw [h4] at hl
                  omega
              clear hown hgrow hlies hglt hbp hx4 hS hnb hkp hbbW hqW
              go_wp2_with fail
              go_roundw
              case rel =>
                refine ⟨hx5, hb0W, hA0W, hA1W, hBW, j + 1, es ++ [(s2, eb)], by omega, by go_num, by simpa using hO5.out, by simpa using hne5, ?_⟩
                rw [HST.out, rb, HBD.out]
                simp only [if_neg hz, HIC.out]
                exact hPk5.out
              case measure => simp [intOf]; omega
            | false =>
              have HIC := Lib.hid hic
              go_upto_region 24 with fail
              have hx4 : Ext wi (wi.alloc (.cells #[.string s1, .int .i64 eb.k, .string eb.x, .float .f64 eb.d, .bool eb.y, .slice eb.ka eb.n eb.kc, .slice eb.ca eb.m eb.cc] 68)).drew := ext_drew (ext_alloc (ext_refl _) _)
              have hbp : Box (wi.alloc (.cells #[.string s1, .int .i64 eb.k, .string eb.x, .float .f64 eb.d, .bool eb.y, .slice eb.ka eb.n eb.kc, .slice eb.ca eb.m eb.cc] 68)).drew wi.heap.size #[.string s1, .int .i64 eb.k, .string eb.x, .float .f64 eb.d, .bool eb.y, .slice eb.ka eb.n eb.kc, .slice eb.ca eb.m eb.cc] 68 := (Box.at rfl _ _).drew
              have hS : Six wi.drew bb eb ∧ wi.drew.cell? ⟨q, 1, none⟩ = some (.string s1) := ⟨hbb.Six, hqi.cell 1 _ rfl⟩
              refine wp_region_order (fun w' => Six w' bb eb ∧ w'.cell? ⟨q, 1, none⟩ = some (.string s1)) [0, 1, 2, 3, 4, 5] [0, 1, 2, 3, 4, 5, 6, 7, 8] (by kernel_rfl) (by kernel_rfl) (fun d _ _ _ _ h => by cases d <;> exact h) (by kernel_rfl) ?_
              iterate 6 (apply ord_held rfl rfl (by assumption) rfl; (focus ((intro w' hS'); go_simp; (try with_reducible rfl))); (try simp only [Act.put, List.setIfInBounds_toArray, List.set_cons_zero, List.set_cons_succ]))
              (apply ord_loud rfl rfl rfl; intro K hK; go_simp)
              refine hK _ _ (fun _ => ⟨Six.ext hx4 hbb.Six, hx4.cell (hqi.cell 1 _ rfl)⟩) ?_
              clear hK K
              apply ord_loud rfl rfl rfl
              intro K hK
              refine wp_append_pairs _ _ _ rfl base _ es rfl (HOi.out.ext hx4) wi.heap.size 0 1 [(s1, eb)] (by simp) rfl (fun i f hi => ?_) (by simp; omega) (by simp; omega) ?_
              · cases i with
                | zero => simp at hi; subst hi; exact ⟨hbp.cell 0 _ rfl, hbp.cell 1 _ rfl, hbp.cell 2 _ rfl, hbp.cell 3 _ rfl, hbp.cell 4 _ rfl, hbp.cell 5 _ rfl, hbp.cell 6 _ rfl⟩
                | succ i => simp at hi
              intro g1 cap1 w4 hown hgrow hlies hglt
              have hnb : ∀ b, b < wi.heap.size → (b = bb ∨ b = q ∨ b = a0 ∨ b = a0 + 1 ∨ b = a0 + 1 + 1 ∨ b = w.heap.size) → some b ≠ u5.ownBlock := fun b hb hc e => by
                have h1 := hbk b e.symm
                have h2 := hne b e.symm
                omega
              have hbbW := (hbb.ext hx4).grown hgrow (hnb bb hbbl (.inl rfl))
              have hqW := (hqi.ext hx4).grown hgrow (hnb q hqil (.inr (.inl rfl)))
              refine hK _ _ (fun _ => ⟨hbbW.Six, hqW.cell 1 _ rfl⟩) ?_
              clear hK K
              (try simp only [Act.put, List.setIfInBounds_toArray, List.set_cons_zero, List.set_cons_succ])
              (apply ord_last rfl rfl rfl (by kernel_rfl); intro K hK; go_simp; refine hK _ _ ?_; clear hK K; (try simp only [Act.put, List.setIfInBounds_toArray, List.set_cons_zero, List.set_cons_succ]))
              refine ord_end ?_
              have hx5 : Ext w w4 := ext_grown (ext_trans hxi hx4) hgrow (fun k hk => by have := (hbk k hk).1; omega)
              have hA0W := (hA0i.ext hx4).grown hgrow (hnb a0 hA0i.lt (.inr (.inr (.inl rfl))))
              have hA1W := (hA1i.ext hx4).grown hgrow (hnb (a0 + 1) hA1i.lt (.inr (.inr (.inr (.inl rfl)))))
              have hBW := (hBi.ext hx4).grown hgrow (hnb (a0 + 1 + 1) hBi.lt (.inr (.inr (.inr (.inr (.inl rfl))))))
              have hb0W := (hb0i.ext hx4).grown hgrow (hnb w.heap.size hb0i.lt (.inr (.inr (.inr (.inr (.inr rfl))))))
              have hkp : Keeps (fun b => b < base ∧ b ≠ w.heap.size) _ w4 := keeps_grown hgrow (fun b hb e => by have := (hbk b e.symm).1; omega)
              have hPk5 := Lib.hid (Pk.append (Pk.keep (S' := fun b => b < base ∧ b ≠ w.heap.size) (fun b hb _ => hb) hkp (HPki.out.ext hx4)) (Pk.one (k := s1) (TreeAt.keep (S' := fun b => b < base ∧ b ≠ w.heap.size) (fun b hb _ => hb) hkp _ ((hTb.out.to (S' := fun b => b < base ∧ b ≠ w.heap.size) (fun b h1 _ => by omega)).ext hx4))))
              have hO5 := Lib.hid hown
              have hne5 : ∀ b, (Value.slice (some ⟨g1, 0, none⟩) (es.length + 1) cap1).ownBlock = some b → b ≠ a0 ∧ b ≠ a0 + 1 ∧ b ≠ a0 + 1 + 1 := fun b hb => by
                simp only [Value.ownBlock, Option.some.injEq] at hb
                subst hb
                rcases hlies with hl | hl
                · exact hne _ hl
                · have h3 := hBi.lt
                  have h4 : (wi.alloc (.cells #[.string s1, .int .i64 eb.k, .string eb.x, .float .f64 eb.d, .bool eb.y, .slice eb.ka eb.n eb.kc, .slice eb.ca eb.m eb.cc] 68)).drew.heap.size = wi.heap.size + 1 := by simp
                  rw [h4] at hl
                  omega
              clear hown hgrow hlies hglt hbp hx4 hS hnb hkp hbbW hqW
              go_wp2_with fail
              go_roundw
              case rel =>
                refine ⟨hx5, hb0W, hA0W, hA1W, hBW, j + 1, es ++ [(s1, eb)], by omega, by go_num, by simpa using hO5.out, by simpa using hne5, ?_⟩
                rw [HST.out, rb, HBD.out]
                simp only [if_neg hz, HIC.out]
                exact hPk5.out
              case measure => simp [intOf]; omega
    · have hj2 : j = 2 := by omega
      subst hj2
      have hll := rbs_len 2 P0 sets
      have hpl := hP0.out
      have HN2 := Lib.hid hll
      have HN3 := Lib.hid hpl
      obtain ⟨pa2, pc2, rfl, hPA⟩ := hO.pairs (S := fun b => b ≠ w.heap.size) hPk.1 (fun b hb => by have := (World.ownsRow.lt hO b hb).1; omega) (hPk.keep (S' := fun b => b ≠ w.heap.size) (fun b h1 _ => h1.2) (fun _ _ _ => rfl)).2
      have hIF := infield_any s_range field _ _ _ _ wr hPA (by omega)
      clear hO hPk hPA hll hpl hne hA0 hA1 hBB
      go_wp2_with (go_at_call 64; refine hIF.mono ?_; rintro r w9 ⟨g3, rfl, hT3, hx10⟩; simp only [El.val]; have hbr := hb0.ext hx10; obtain ⟨o0, o1, o2, o3, o4, o5⟩ := hbr.six; have f0 := hbr.free 0; have f1 := hbr.free 1; have f2 := hbr.free 2; have f3 := hbr.free 3; have f4 := hbr.free 4; have f5 := hbr.free 5)
      refine post_tree rfl rfl (hbr.sto g3) rfl ⟨g3, rfl, ?_, ext_sto6 (ext_trans hx hx10) (by omega) _ _ _ _ _ _⟩
      have hb0l := hb0.lt
      rw [HPE.out]
      refine TreeAt.keep (S := fun b => b ≠ w.heap.size) (fun _ _ _ => trivial) (keeps_sto w9 (by simp) g3) _ (hT3.to fun q h1 _ => ?_)
      rcases h1 with h | h
      · exact h.1
      · omega
end Go.Proofs.YtocfoheckgdonaaGreatDoor
