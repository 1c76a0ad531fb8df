/-
  The table of a builder's settings: its rows.
-/
import Derived.Test.YtfngaoicoecncaaGreatDoorTell
namespace Go.Proofs.YtfngaoicoecncaaGreatDoor
open Go.RowKit

theorem size_len (s : ByteArray) : s.data.toList.length = s.size := Array.length_toList
/-- The first place of a byte. -/
def placeL (c : Nat) : List UInt8 → Nat
  | [] => 0
  | x :: r => if x.toNat = c then 0 else placeL c r + 1
theorem placeL_le (c : Nat) : ∀ l : List UInt8, placeL c l ≤ l.length
  | [] => Nat.le_refl _
  | x :: r => by
    unfold placeL
    split
    · exact Nat.zero_le _
    · simpa using placeL_le c r
theorem placeL_stop {c : Nat} : ∀ {l : List UInt8} {j : Nat}, (∀ i, i < j → ∀ x, l[i]? = some x → x.toNat ≠ c) → (∀ x, l[j]? = some x → x.toNat = c) → j ≤ l.length → placeL c l = j
  | [], 0, _, _, _ => rfl
  | [], _ + 1, _, _, h => by simp at h
  | x :: r, 0, _, h, _ => by simp [placeL, h x rfl]
  | x :: r, j + 1, h1, h2, h3 => by
    unfold placeL
    rw [if_neg (h1 0 (by omega) x rfl), placeL_stop (fun i (hi : i < j) y hy => h1 (i + 1) (by omega) y (by simpa using hy)) (fun y hy => h2 y (by simpa using hy)) (by simpa using h3)]

set_option maxHeartbeats 1000000 in
theorem place_any (s : ByteArray) (c : Int) (hc : 0 ≤ c ∧ c < 256) (w : World) (hs : s.size < 9223372036854775807) : Calls Tryz.prog 24 #[.string s, .int .u8 c] w fun r w' => r = .returned (.int .i64 (placeL c.toNat s.data.toList : Nat)) ∧ w' = w := by
  go_enter Tryz.func24, Tryz.ntmps24
  go_wp2_with fail
  go_loopw [5] (fun i wr => wr = w ∧ ∃ j : Nat, j ≤ s.size ∧ i = .int .i64 j ∧ ∀ q, q < j → ∀ x, s.data.toList[q]? = some x → x.toNat ≠ c.toNat) (fun i _ => s.size - (intOf i).toNat)
  case atStart => exact ⟨rfl, 0, Nat.zero_le _, rfl, fun q hq => by omega⟩
  case round =>
    obtain ⟨rfl, j, hj, rfl, hp⟩ := hrel
    have HP := Lib.hid hp
    clear hp
    by_cases hlt : j < s.size
    · have hgj : s.data.toList[j]? = some s[j] := by
        rw [Array.getElem?_toList]
        exact Array.getElem?_eq_getElem hlt
      have HG := Lib.hid hgj
      clear hgj
      cases he : ((s[j]'hlt).toNat : Int) != c
      · go_wp2_with fail
        go_ret
        refine ⟨?_, rfl⟩
        have he' : ((s[j]'hlt).toNat : Int) = c := by simpa using he
        refine ret_int ?_
        rw [placeL_stop HP.out (fun x hx => by rw [HG.out] at hx; cases hx; omega) (by simpa using hj)]
      · go_wp2_with fail
        go_roundw
        case rel =>
          refine ⟨trivial, j + 1, by omega, by go_num, fun q hq x hx => ?_⟩
          by_cases hqj : q < j
          · exact HP.out q hqj x hx
          · have hqe : q = j := by omega
            subst hqe
            rw [HG.out] at hx
            cases hx
            have he' : ¬ ((s[q]'hlt).toNat : Int) = c := by simpa using he
            omega
        case measure => simp [intOf]; omega
    · have hje : j = s.size := by omega
      go_wp2_with fail
      go_ret
      refine ⟨ret_int ?_, rfl⟩
      rw [placeL_stop HP.out (fun x hx => by rw [List.getElem?_eq_none (by simp; omega)] at hx; cases hx) (by simpa using hj)]

/-! ### the rows of a table -/
def rowsL : Nat → List UInt8 → List (List UInt8 × List UInt8)
  | 0, _ => []
  | f + 1, l => if l.isEmpty then [] else
    let e := placeL 44 l
    let row := l.take e
    let b := placeL 32 row
    (row.take b, row.drop (b + 1)) :: (if e = l.length then [] else rowsL f (l.drop (e + 1)))
/-- Has each row of a table a blank? -/
def okL : Nat → List UInt8 → Bool
  | 0, l => l.isEmpty
  | f + 1, l => if l.isEmpty then true else
    let e := placeL 44 l
    let row := l.take e
    decide (placeL 32 row < row.length) && (if e = l.length then true else okL f (l.drop (e + 1)))
/-- Two texts of a row of a table. -/
def Own2 (w : World) (base : Nat) (v : Value) (rs : List (ByteArray × ByteArray)) : Prop := w.ownsRow base 103 2 v rs.length (rs.flatMap fun r => [.string r.1, .string r.2])
theorem info_row : (Tryz.prog.info? 103).map (fun i => (i.zero, i.size, i.bytes)) = some (some (.agg #[.string ⟨#[]⟩, .string ⟨#[]⟩]), 2, 32) := by kernel_rfl
theorem wp_append_row {o : Oper} {a : Act} {Q : Exit → Act → World → Prop} (w : World) {K : Act → World → Prop} (s x : Operand) (ho : o.op = .call { callee := .builtin .append, args := #[s, x], argTypes := #[100, 100] })
    (base : Nat) (v : Value) (rs : List (ByteArray × ByteArray)) (hs : a.eval s = v) (hown : Own2 w base v rs) (b : Nat) (y z : ByteArray) (hx : a.eval x = .slice (some ⟨b, 0, none⟩) 1 1) (hc : w.cell? ⟨b, 0, none⟩ = some (.string y)) (hd : w.cell? ⟨b, 1, none⟩ = some (.string z))
    (hb : (rs.length + 1) * 32 ≤ 140737488355328) (hbase : base ≤ w.heap.size)
    (h : ∀ g cap w', Own2 w' base (.slice (some ⟨g, 0, none⟩) (rs.length + 1) cap) (rs ++ [(y, z)]) → w.grownBy w' v.ownBlock → Lies w v g → g < w'.heap.size → K (a.put o.dst (.slice (some ⟨g, 0, none⟩) (rs.length + 1) cap)) w') : o.wp Tryz.prog a w K Q := by
  obtain ⟨i, hi, hz, hsz, hby⟩ := info_parts info_row
  refine wp_append_lies w s x 100 ho base 103 i _ 2 32 Tryz.underlying100 hi hz hsz hby rfl (by omega) v rs.length _ hs hown ⟨b, 0, none⟩ 1 1 [.string y, .string z] hx rfl ?_ (by simp [Value.oneCell']) (by omega) (by unfold maxLen; omega) hb hbase _ rfl ?_
  · intro j u hu
    rw [Addr.add_lit]
    match j, hu with
    | 0, hu => simp at hu; subst hu; simpa using hc
    | 1, hu => simp at hu; subst hu; simpa using hd
    | j + 2, hu => simp at hu
  · intro g cap w' hown' hg hl hlt
    exact h g cap w' (by simpa [Own2] using hown') hg hl hlt
set_option maxHeartbeats 1000000 in
set_option maxHeartbeats 1000000 in
theorem rows_any (bd tb : ByteArray) (w : World) (hT : ∀ w, Calls Tryz.prog 93 #[.string bd] w fun r w' => r = .returned (.string tb) ∧ w' = w) (f : Nat) (hok : okL f tb.data.toList = true) (hsz : tb.size < 65536) :
    Calls Tryz.prog 73 #[.string bd] w fun r w' => ∃ v, r = .returned v ∧ Own2 w' w.heap.size v ((rowsL f tb.data.toList).map fun r => (mkB r.1, mkB r.2)) ∧ Ext w w' := by
  have HT := Lib.hid hT
  clear hT
  go_enter Tryz.func73, Tryz.ntmps73
  go_wp2_with (go_at_call 93; refine (HT.out _).mono ?_; rintro r w' ⟨rfl, rfl⟩)
  go_loopw [3, 4] (fun v t wr => Ext w wr ∧ ∃ (tb2 : ByteArray) (rs : List (ByteArray × ByteArray)) (f2 : Nat), t = .string tb2 ∧ tb2.size < 65536 ∧ okL f2 tb2.data.toList = true ∧ Own2 wr w.heap.size v rs ∧ rs.length + tb2.size ≤ 65536 ∧
     rs ++ ((rowsL f2 tb2.data.toList).map fun r => (mkB r.1, mkB r.2)) = ((rowsL f tb.data.toList).map fun r => (mkB r.1, mkB r.2))) (fun _ t _ => match t with | .string b => b.size | _ => 0)
  case atStart =>
    exact ⟨by (repeat (first | exact ext_refl _ | assumption | refine ext_alloc ?_ _ | refine ext_drew ?_ | refine ext_set ?_ (by simp) _ | refine ext_trans ?_ (by assumption))), tb, [], f, rfl, hsz, hok, ⟨rfl, .inr ⟨w.heap.size, 0, #[], rfl, Nat.le_refl _, heap_alloc_new w _, Nat.le_refl _, by simp [maxLen], rfl, rfl⟩⟩, by simp; omega, rfl⟩
  case round =>
    obtain ⟨hx, tb2, rs, f2, rfl, hs2, hok2, hown, hrl, hr⟩ := hrel
    have HR := Lib.hid hr
    have HOWN := Lib.hid hown
    clear hr hown
    by_cases h0 : 0 < tb2.size
    · obtain ⟨k, rfl⟩ : ∃ k, f2 = k + 1 := by
        cases f2 with
        | zero =>
          have h1 : tb2.data.toList = [] := by simpa [okL] using hok2
          have h2 := size_len tb2
          rw [h1] at h2
          simp only [List.length_nil] at h2
          omega
        | succ k => exact ⟨k, rfl⟩
      have hne : tb2.data.toList.isEmpty = false := by
        cases h : tb2.data.toList with
        | nil => have h2 := size_len tb2; rw [h] at h2; simp only [List.length_nil] at h2; omega
        | cons => rfl
      have hR2 := HR.out
      simp only [okL, rowsL, hne, Bool.false_eq_true, if_false, Bool.and_eq_true, decide_eq_true_eq] at hok2 hR2
      have hel : placeL 44 tb2.data.toList ≤ tb2.size := by simpa using placeL_le 44 tb2.data.toList
      generalize hE : placeL 44 tb2.data.toList = e at hok2 hR2 hel
      obtain ⟨row, hrw⟩ : ∃ row, tb2.extract 0 e = row := ⟨_, rfl⟩
      have hrow : row.data.toList = tb2.data.toList.take e := by rw [← hrw, Lib.extract_data]; simp
      have hrl2 : row.size = e := by
        have := congrArg List.length hrow
        rw [size_len, List.length_take, size_len] at this
        omega
      have hbl : placeL 32 (tb2.data.toList.take e) + 1 ≤ e := by
        have := hok2.1
        rw [List.length_take, size_len] at this
        omega
      generalize hB : placeL 32 (tb2.data.toList.take e) = b at hok2 hR2 hbl
      have hB2 : placeL 32 row.data.toList = b := by rw [hrow, hB]
      have hr1 : row.extract 0 b = mkB ((tb2.data.toList.take e).take b) := by rw [Lib.extract_eq, hrow]; simp
      have hr2 : row.extract (b + 1) e = mkB ((tb2.data.toList.take e).drop (b + 1)) := by
        rw [Lib.extract_eq, hrow, List.take_of_length_le (by rw [List.length_drop, List.length_take]; omega)]
      have hOK2 := Lib.hid hok2.2
      have HR2 := Lib.hid hR2
      have HROW := Lib.hid hrow
      have HR1 := Lib.hid hr1
      have HRr := Lib.hid hr2
      clear hok2 hR2 hB hrow hr1 hr2 hne
      go_upto_region 6 with (go_at_call 24; refine (place_any _ _ (by decide) _ (by omega)).mono ?_; rintro r w' ⟨rfl, rfl⟩)
      refine wp_region_order (fun _ => True) [0, 1, 2, 3, 4, 5, 6, 7, 8] [0, 1, 2, 3, 4, 5, 6, 7, 8, 9, 10, 11] (by kernel_rfl) (by kernel_rfl) (fun d _ _ _ _ h => by cases d <;> exact h) (by kernel_rfl) ?_
      have hS : (fun _ : World => True) w'.drew := trivial
      have hbe : b ≤ e := by omega
      have hbw : IntKind.i64.wrap ((b : Int) + 1) = (b : Int) + 1 := by
        simp [IntKind.wrap, IntKind.bits, IntKind.signed]
        omega
      have hb0 : (0 : Int) ≤ (b : Int) + 1 := by omega
      have hb1 : (b : Int) + 1 ≤ (e : Int) := by omega
      have hb2 : ((b : Int) + 1).toNat = b + 1 := by omega
      iterate 9 (apply ord_held rfl rfl (by assumption) rfl; (focus ((intro w' hS'); go_simp; (try with_reducible rfl))); (try simp only [Act.put, List.setIfInBounds_toArray, List.set_cons_zero, List.set_cons_succ]))
      have x1 : Ext w (w'.alloc (.cells #[.string (row.extract 0 b), .string (row.extract (b + 1) e)] 103)).drew := ext_drew (ext_alloc hx _)
      (apply ord_loud rfl rfl rfl; intro K hK; go_simp)
      refine hK _ _ (fun _ => trivial) ?_
      clear hK K
      apply ord_loud rfl rfl rfl
      intro K hK
      refine wp_append_row _ _ _ rfl w.heap.size _ rs rfl (World.ownsRow.kept HOWN.out (grown_of_ext (ext_drew (ext_alloc (ext_refl _) _)) none) (by cases (Value.ownBlock _) <;> simp)) w'.heap.size (row.extract 0 b) (row.extract (b + 1) e) rfl ?a1 ?a2 (by omega) (by have := hx.sz; simp; omega) ?_
      case a1 => exact (Box.new w' #[.string (row.extract 0 b), .string (row.extract (b + 1) e)] 103).drew.cell 0 _ rfl
      case a2 => exact (Box.new w' #[.string (row.extract 0 b), .string (row.extract (b + 1) e)] 103).drew.cell 1 _ rfl
      intro g cap w4 hown hgrow hlies hglt
      refine hK _ _ (fun _ => trivial) ?_
      clear hK K
      (try simp only [Act.put, List.setIfInBounds_toArray, List.set_cons_zero, List.set_cons_succ])
      (apply ord_last rfl rfl rfl (by kernel_rfl); intro K hK; go_simp; refine hK _ _ ?_; clear hK K; (try simp only [Act.put, List.setIfInBounds_toArray, List.set_cons_zero, List.set_cons_succ]))
      refine ord_end ?_
      have hx4 : Ext w w4 := ext_grown (ext_drew (ext_alloc hx _)) hgrow (fun k hk => (World.ownsRow.lt HOWN.out k hk).1)
      have HOWN4 := Lib.hid hown
      clear hown hgrow hlies hglt hx x1 HOWN hS hbw hb0 hb1 hb2
      by_cases hfin : e = tb2.size
      · go_wp2_with fail
        go_ret
        refine ⟨_, rfl, ?_, hx4⟩
        have h1 := HR2.out
        rw [if_pos (by rw [size_len]; exact hfin)] at h1
        rw [← h1]
        have h2 := HOWN4.out
        rw [HR1.out, HRr.out] at h2
        simpa [Own2] using h2
      · have hew : IntKind.i64.wrap ((e : Int) + 1) = (e : Int) + 1 := by
          simp [IntKind.wrap, IntKind.bits, IntKind.signed]
          omega
        have he0 : (0 : Int) ≤ (e : Int) + 1 := by omega
        have he1 : (e : Int) + 1 ≤ (tb2.size : Int) := by omega
        have he2 : ((e : Int) + 1).toNat = e + 1 := by omega
        go_wp2_with fail
        have hd : (tb2.extract (e + 1) tb2.size).data.toList = tb2.data.toList.drop (e + 1) := by rw [Lib.extract_data, List.take_of_length_le (by rw [List.length_drop, size_len]; exact Nat.le_refl _)]
        have hds : (tb2.extract (e + 1) tb2.size).size = tb2.size - (e + 1) := by
          rw [← size_len, hd, List.length_drop, size_len]
        have h1 := HR2.out
        have h3 := hOK2.out
        rw [if_neg (by rw [size_len]; exact hfin)] at h1 h3
        have h2 := HOWN4.out
        rw [HR1.out, HRr.out] at h2
        go_roundw
        case rel =>
          refine ⟨hx4, tb2.extract (e + 1) tb2.size, rs ++ [(mkB ((tb2.data.toList.take e).take b), mkB ((tb2.data.toList.take e).drop (b + 1)))], k, rfl, by omega, by rw [hd]; exact h3, by simpa [Own2] using h2, by simp; omega, ?_⟩
          rw [hd, ← h1]
          simp
        case measure => simp only [hds]; omega
    · go_wp2_with fail
      go_ret
      refine ⟨_, rfl, ?_, hx⟩
      have h1 := HR.out
      have h2 : tb2.data.toList = [] := List.length_eq_zero_iff.1 (by rw [size_len]; omega)
      have h3 : rowsL f2 [] = [] := by cases f2 <;> simp [rowsL]
      rw [h2, h3] at h1
      rw [← h1]
      simpa using HOWN.out
end Go.Proofs.YtfngaoicoecncaaGreatDoor
