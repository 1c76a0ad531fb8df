/-
  Lists of plain values.
-/
import Derived.Test.YtfngaoicoecncaaGreatDoorAs
import Derived.Test.YtfngaoicoecncaaGreatDoorPlainv
namespace Go.Proofs.YtfngaoicoecncaaGreatDoor
open Go.RowKit

/-- Values that the call itself has appended. -/
def OwnAny (w : World) (base : Nat) (v : Value) (vs : List Value) : Prop := w.ownsRow base 20 1 v vs.length vs
theorem OwnAny.ext {w w' : World} {base : Nat} {v : Value} {vs : List Value} (h : OwnAny w base v vs) (x : Ext w w') : OwnAny w' base v vs := World.ownsRow.kept h (grown_of_ext x none) (by cases v.ownBlock <;> simp)
theorem OwnAny.grown {w w' : World} {base : Nat} {v : Value} {vs : List Value} (h : OwnAny w base v vs) {r : Option Nat} (g : w.grownBy w' r) (hne : v.ownBlock = none ∨ v.ownBlock ≠ r) : OwnAny w' base v vs := World.ownsRow.kept h g hne
theorem OwnAny.cells {S : Nat → Prop} {w : World} {base : Nat} {v : Value} {vs : List Value} (h : OwnAny w base v vs) (hS : ∀ b, v.ownBlock = some b → S b) : ∃ a c, v = .slice a vs.length c ∧ vs.length ≤ c ∧ c ≤ maxLen ∧ ∀ i u, vs[i]? = some u → ∃ b off, a = some ⟨b, off, none⟩ ∧ S b ∧ w.cell? ⟨b, off + i, none⟩ = some u := by
  obtain ⟨h1, h2⟩ := id h
  rcases h2 with ⟨rfl, h0⟩ | ⟨g, cap, cur, rfl, hg, hh, h3, h4, h5, h6⟩
  · refine ⟨none, 0, by rw [h0], by omega, by simp [maxLen], fun i s hi => ?_⟩
    rw [List.length_eq_zero_iff.1 h0] at hi
    cases hi
  · refine ⟨_, _, rfl, h3, h4, fun i s hi => ⟨g, 0, rfl, hS g rfl, ?_⟩⟩
    have := World.ownsRow.cells h (g := g) rfl i s (by simp [hi])
    simpa [Addr.add_lit] using this
/-- Values and what they are. -/
def Vals (vs : List Value) (js : List J) : Prop := vs.length = js.length ∧ ∀ (i : Nat) (v : Value) (j : J), vs[i]? = some v → js[i]? = some j → v.oneCell' = true ∧ ∀ w, JAt (fun _ => False) w v j
theorem Vals.nil : Vals [] [] := ⟨rfl, fun _ _ _ h => by simp at h⟩
theorem Vals.snoc {vs : List Value} {js : List J} (h : Vals vs js) {v : Value} {j : J} (h1 : v.oneCell' = true) (h2 : ∀ w, JAt (fun _ => False) w v j) : Vals (vs ++ [v]) (js ++ [j]) := by
  refine ⟨by simp [h.1], fun i u q hu hq => ?_⟩
  by_cases hi : i < vs.length
  · rw [List.getElem?_append_left hi] at hu
    rw [List.getElem?_append_left (by rw [← h.1]; exact hi)] at hq
    exact h.2 i u q hu hq
  · rw [List.getElem?_append_right (by omega)] at hu
    rw [List.getElem?_append_right (by rw [← h.1]; omega)] at hq
    have := h.1
    have h3 := (List.getElem?_eq_some_iff.1 hu).1
    simp at h3
    have hz : i - vs.length = 0 := by omega
    have hz2 : i - js.length = 0 := by omega
    rw [hz] at hu
    rw [hz2] at hq
    simp at hu hq
    subst hu hq
    exact ⟨h1, h2⟩
theorem Vals.js {S : Nat → Prop} {w : World} : ∀ {vs : List Value} {js : List J}, Vals vs js → JsAt S w vs js
  | [], [], _ => by simp [JsAt]
  | [], _ :: _, h => by have := h.1; simp at this
  | _ :: _, [], h => by have := h.1; simp at this
  | v :: vs, j :: js, h => by
    simp only [JsAt]
    exact ⟨JAt.no (w := w) ((h.2 0 v j rfl rfl).2 w), Vals.js ⟨by simpa using h.1, fun i u q hu hq => h.2 (i + 1) u q (by simpa using hu) (by simpa using hq)⟩⟩
theorem Vals.one {vs : List Value} {js : List J} (h : Vals vs js) : ∀ u ∈ vs, u.oneCell' = true := fun u hu => by
  obtain ⟨i, hi⟩ := List.getElem?_of_mem hu
  obtain ⟨q, hq⟩ := some_of_lt (l := js) rfl (show i < js.length by rw [← h.1]; exact (List.getElem?_eq_some_iff.1 hi).1)
  exact (h.2 i u q hi hq).1
theorem OwnAny.list {S : Nat → Prop} {w : World} {base : Nat} {g cap n : Nat} {vs : List Value} {js : List J} (h : OwnAny w base (.slice (some ⟨g, 0, none⟩) n cap) vs) (hS : S g) (hv : Vals vs js) (hl : vs.length ≤ 4294967296) : JAt S w (.iface 107 (.slice (some ⟨g, 0, none⟩) n cap)) (.list js) := by
  obtain ⟨a, c, he, h1, h2, h3⟩ := h.cells (S := S) (fun b hb => by cases hb; exact hS)
  cases he
  simp only [JAt]
  exact ⟨_, _, _, vs, rfl, by rw [← hv.1]; exact hl, hv.1.symm, h1, h2, h3, hv.js⟩

theorem info_any : (Tryz.prog.info? 20).map (fun i => (i.zero, i.size, i.bytes)) = some (some .nilIface, 1, 16) := by kernel_rfl
section
variable {ops : Array Oper} {o : Oper} {rest : List Oper} {a : Act} {Q : Exit → Act → World → Prop}
theorem list_append_any (w : World) (hgd : o.guard = none) (s x : Operand) (ho : o.op = .call { callee := .builtin .append, args := #[s, x], argTypes := #[107, 107] })
    (base : Nat) (v : Value) (ss : List Value) (hs : a.eval s = v) (hown : OwnAny w base v ss) (b off cap : Nat) (fs : List Value) (hf : 0 < fs.length) (hone : ∀ u ∈ fs, u.oneCell' = true) (hx : a.eval x = .slice (some ⟨b, off, none⟩) fs.length cap)
    (hc : ∀ i f, fs[i]? = some f → w.cell? ⟨b, off + i, none⟩ = some f) (hb : (ss.length + fs.length) * 16 ≤ 140737488355328) (hbase : base ≤ w.heap.size)
    (h : ∀ g cap w', OwnAny w' base (.slice (some ⟨g, 0, none⟩) (ss.length + fs.length) cap) (ss ++ fs) → w.grownBy w' v.ownBlock → Lies w v g → g < w'.heap.size → wpList Tryz.prog ops Q rest (a.put o.dst (.slice (some ⟨g, 0, none⟩) (ss.length + fs.length) cap)) w') : wpList Tryz.prog ops Q (o :: rest) a w := by
  refine wpList_plain hgd fun K hK => ?_
  obtain ⟨i, hi, hz, hsz, hby⟩ := info_parts info_any
  refine wp_append_lies w s x 107 ho base 20 i _ 1 16 Tryz.underlying107 hi hz hsz hby rfl (by omega) v ss.length ss hs hown ⟨b, off, none⟩ fs.length cap fs hx (by simp) ?_ hone hf (by unfold maxLen; omega) hb hbase _ rfl ?_
  · intro j u hu
    rw [Addr.add_lit]
    exact hc j u hu
  · intro g cap w' hown' hg hl hlt
    exact hK _ _ (h g cap w' (by simpa [OwnAny] using hown') hg hl hlt)
end
/-- A text, a number, yes or no. -/
def PlainT (t : T) : Prop := t.kind = 1 ∨ t.kind = 2 ∨ t.kind = 3
set_option maxHeartbeats 1000000 in
theorem plain_kind {S : Nat → Prop} (e : El) (t : T) (w : World) (h : TreeAt S w e t) (hs : PlainT t) : Calls Tryz.prog 29 #[e.val] w fun r w' => ∃ ty x, r = .returned (.iface ty x) ∧ JAt (fun _ => False) w' (.iface ty x) (jOf t) ∧ Ext w w' := by
  obtain ⟨k, x, d, y, ka, n, kc, ca, m, cc⟩ := e
  obtain ⟨hk, hx, hd, hy, -, -⟩ := h.parts
  have hkk := hs
  have HX := Lib.hid hx
  have HD := Lib.hid hd
  have HY := Lib.hid hy
  simp only at hk
  clear h hs hx hd hy
  simp only [El.val]
  rcases hkk with hkk | hkk | hkk
  · rw [hkk] at hk
    have hj := Lib.hid (show jOf t = .str x by rw [jOf, if_pos hkk]; exact congrArg J.str HX.out.symm)
    subst hk
    go_enter Tryz.func29, Tryz.ntmps29
    go_wp2_with fail
    go_ret
    exact ⟨_, _, rfl, by rw [hj.out]; simp [JAt], by (repeat (first | exact ext_refl _ | assumption | refine ext_alloc ?_ _ | refine ext_drew ?_ | refine ext_set ?_ (by simp) _ | refine ext_trans ?_ (by assumption)))⟩
  · rw [hkk] at hk
    have hj := Lib.hid (show jOf t = .num d by rw [jOf, if_neg (by omega), if_pos hkk]; exact congrArg J.num HD.out.symm)
    subst hk
    go_enter Tryz.func29, Tryz.ntmps29
    go_wp2_with fail
    go_ret
    exact ⟨_, _, rfl, by rw [hj.out]; simp [JAt], by (repeat (first | exact ext_refl _ | assumption | refine ext_alloc ?_ _ | refine ext_drew ?_ | refine ext_set ?_ (by simp) _ | refine ext_trans ?_ (by assumption)))⟩
  · rw [hkk] at hk
    have hj := Lib.hid (show jOf t = .yes y by rw [jOf, if_neg (by omega), if_neg (by omega)]; exact congrArg J.yes HY.out.symm)
    subst hk
    go_enter Tryz.func29, Tryz.ntmps29
    go_wp2_with fail
    go_ret
    exact ⟨_, _, rfl, by rw [hj.out]; simp [JAt], by (repeat (first | exact ext_refl _ | assumption | refine ext_alloc ?_ _ | refine ext_drew ?_ | refine ext_set ?_ (by simp) _ | refine ext_trans ?_ (by assumption)))⟩
set_option maxRecDepth 20000 in
set_option maxHeartbeats 2000000 in
theorem plains_any {S : Nat → Prop} (a : Option Addr) (n c : Nat) (ts : List T) (w : World) (h : KidsAt S w a n c ts) (hs : ∀ t ∈ ts, PlainT t) (hp : 0 < n) (hb : n ≤ 2147483647) :
    Calls Tryz.prog 74 #[.slice a n c] w fun r w' => ∃ g cap vs, r = .returned (.slice (some ⟨g, 0, none⟩) n cap) ∧ OwnAny w' w.heap.size (.slice (some ⟨g, 0, none⟩) n cap) vs ∧ Vals vs (ts.map jOf) ∧ Ext w w' := by
  have HK := Lib.hid h
  obtain ⟨hl, hn, hm, -⟩ := h
  unfold maxLen at hm
  have HL := Lib.hid hl
  have HS := Lib.hid hs
  clear hl hs
  go_enter Tryz.func74, Tryz.ntmps74
  go_wp2_with fail
  go_loopw [3, 9] (fun v i wr => Ext w wr ∧ ∃ (j : Nat) (vs : List Value), j ≤ n ∧ i = .int .i64 j ∧ OwnAny wr w.heap.size v vs ∧ (0 < j → ∃ g cap, v = .slice (some ⟨g, 0, none⟩) j cap) ∧ Vals vs ((ts.take j).map jOf)) (fun _ i _ => n - (intOf i).toNat)
  case atStart =>
    exact ⟨by (repeat (first | exact ext_refl _ | assumption | refine ext_alloc ?_ _ | refine ext_drew ?_ | refine ext_set ?_ (by simp) _ | refine ext_trans ?_ (by assumption))), 0, [], Nat.zero_le _, rfl, ⟨rfl, .inr ⟨w.heap.size, 0, #[], rfl, Nat.le_refl _, Box.at rfl _ _, Nat.le_refl _, by simp [maxLen], rfl, rfl⟩⟩, fun h => absurd h (by omega), Vals.nil⟩
  case round =>
    obtain ⟨hx, j, vs, hj, rfl, hO, hsh, hV⟩ := hrel
    have HO := Lib.hid hO
    have HV := Lib.hid hV
    have HSH := Lib.hid hsh
    clear hO hV hsh
    by_cases hlt : j < n
    · obtain ⟨t, ht⟩ := some_of_lt HL.out hlt
      obtain ⟨b, off, ⟨k, x, d, y, ka, kn, kc, ca, m, cc⟩, rfl, -, hcell, hT⟩ := (KidsAt.ext hx HK.out).get ht
      have hSc := Lib.hid (HS.out t (List.mem_of_getElem? ht))
      have HT := Lib.hid ht
      clear ht
      obtain ⟨c0, c1, c2, c3, c4, c5⟩ := hcell
      have hPL := Lib.hid (fun (w1 : World) (xx : Ext wr w1) => plain_kind _ _ w1 (hT.ext xx) hSc.out)
      clear hT
      have hvl : vs.length = j := by rw [HV.out.1, List.length_map, List.length_take, HL.out]; omega
      have HVL := Lib.hid hvl
      clear hvl
      have hbl := fun g hg => World.ownsRow.lt HO.out g hg
      have hsz := hx.sz
      have tokB := trivial
      go_wp2_with (first
        | (go_at_call 29; refine (hPL.out _ (by (repeat (first | exact ext_refl _ | assumption | refine ext_alloc ?_ _ | refine ext_drew ?_ | refine ext_set ?_ (by simp) _ | refine ext_trans ?_ (by assumption))))).mono ?_; rintro r w2 ⟨pty, px, rfl, hJ, hx2⟩
           have hx3 : Ext wr w2 := ext_trans (by (repeat (first | exact ext_refl _ | assumption | refine ext_alloc ?_ _ | refine ext_drew ?_ | refine ext_set ?_ (by simp) _ | refine ext_trans ?_ (by assumption)))) hx2
           have hxn : Ext w2 (w2.alloc (.cells #[.iface pty px] 20)) := ext_alloc (ext_refl _) _
           have hbn : Box (w2.alloc (.cells #[.iface pty px] 20)) w2.heap.size #[.iface pty px] 20 := Box.at rfl _ _
           have HJ := Lib.hid hJ
           clear hJ)
        | (at_builtin; have _t := tokB; clear _t tokB; refine list_append_any _ rfl _ _ rfl w.heap.size _ vs rfl (HO.out.ext (ext_trans hx3 hxn)) w2.heap.size 0 1 [.iface pty px] (by simp) (fun u hu => by simp at hu; subst hu; rfl) rfl (fun i f hf => by
             cases i with
             | zero => simp at hf; subst hf; exact hbn.cell 0 _ rfl
             | succ i => simp at hf) (by have := HVL.out; simp; omega) (by have := (ext_trans hx3 hxn).sz; omega) ?_; intro g cap w4 hown hgrow hlies hglt)
        | fail)
      have hx5 : Ext w w4 := ext_grown (ext_trans hx (ext_trans hx3 hxn)) hgrow (fun k hk => (hbl k hk).1)
      have hown2 := Lib.hid hown
      clear hown hgrow hlies
      go_roundw
      case rel =>
        refine ⟨hx5, j + 1, vs ++ [.iface pty px], by omega, by go_num, by simpa using hown2.out, fun _ => ⟨g, cap, by have := HVL.out; simp [this]⟩, ?_⟩
        rw [take_snoc HT.out, List.map_append]
        exact HV.out.snoc rfl (fun w => JAt.no HJ.out)
      case measure => simp [intOf]; omega
    · have hjn : j = n := by omega
      subst hjn
      obtain ⟨g, cap, he⟩ := HSH.out hp
      subst he
      have hfull : ts.take j = ts := List.take_of_length_le (by have := HL.out; omega)
      have hV := HV.out
      rw [hfull] at hV
      go_wp2_with fail
      go_ret
      exact ⟨g, cap, vs, rfl, HO.out, hV, hx⟩
end Go.Proofs.YtfngaoicoecncaaGreatDoor
