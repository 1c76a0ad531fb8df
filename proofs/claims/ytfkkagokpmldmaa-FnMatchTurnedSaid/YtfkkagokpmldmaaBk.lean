/-
  Settings from the last one to the first one; whether no two have the same name.
-/
import Derived.Test.YtfkkagokpmldmaaLx
import Derived.Test.YtfkkagokpmldmaaZz
namespace Go.Proofs.Ytfkkagokpmldmaa
open Go.RowKit

def OwnSets (w : World) (base : Nat) (v : Value) (es : List (ByteArray × El)) : Prop := w.ownsRow base 41 7 v es.length (es.flatMap cells7)
theorem OwnSets.ext {w w' : World} {base : Nat} {v : Value} {es : List (ByteArray × El)} (h : OwnSets w base v es) (x : Ext w w') : OwnSets w' base v es := World.ownsRow.kept h (grown_of_ext x none) (by cases v.ownBlock <;> simp)
theorem OwnSets.grown {w w' : World} {base : Nat} {v : Value} {es : List (ByteArray × El)} (h : OwnSets w base v es) {r : Option Nat} (g : w.grownBy w' r) (hne : v.ownBlock = none ∨ v.ownBlock ≠ r) : OwnSets w' base v es := World.ownsRow.kept h g hne
theorem OwnSets.block {w : World} {base : Nat} {v : Value} {es : List (ByteArray × El)} (h : OwnSets w base v es) {g : Nat} (hg : v.ownBlock = some g) : base ≤ g ∧ g < w.heap.size := World.ownsRow.lt h g hg
theorem OwnSets.sets {S : Nat → Prop} {w : World} {base : Nat} {v : Value} {es : List (ByteArray × El)} {ps : List (ByteArray × T)} (h : OwnSets w base v es) (hl : ps.length = es.length) (hS : ∀ b, v.ownBlock = some b → S b)
    (ht : ∀ (i : Nat) (e : ByteArray × El) (p : ByteArray × T), es[i]? = some e → ps[i]? = some p → e.1 = p.1 ∧ TreeAt S w e.2 p.2) : ∃ a c, v = .slice a ps.length c ∧ PairsAt S w a ps.length c ps := by
  obtain ⟨h1, h2⟩ := id h
  rcases h2 with ⟨rfl, h0⟩ | ⟨g, cap, cur, rfl, hg, hh, h3, h4, h5, h6⟩
  · refine ⟨none, 0, by rw [hl, h0], rfl, by omega, by simp [maxLen], fun i s hi => ?_⟩
    rw [List.length_eq_zero_iff.1 (hl.trans h0)] at hi
    cases hi
  · refine ⟨_, _, by rw [hl], rfl, by omega, h4, fun i p hi => ?_⟩
    obtain ⟨e, he⟩ := some_of_lt (l := es) rfl (show i < es.length by have := (List.getElem?_eq_some_iff.1 hi).1; omega)
    obtain ⟨e1, e2⟩ := ht i e p he hi
    have hc : ∀ j v, (cells7 e)[j]? = some v → w.cell? ⟨g, 0 + i * 7 + j, none⟩ = some v := fun j v hv => by
      have := World.ownsRow.cells h (g := g) rfl (i * 7 + j) v (flat7_get es i e he j v hv)
      rw [Addr.add_lit] at this
      rw [show 0 + i * 7 + j = 0 + (i * 7 + j) by omega]
      exact this
    exact ⟨g, 0, e.2, rfl, hS g rfl, ⟨by rw [← e1]; exact hc 0 _ rfl, hc 1 _ rfl, hc 2 _ rfl, hc 3 _ rfl, hc 4 _ rfl, hc 5 _ rfl, hc 6 _ rfl⟩, e2⟩
theorem info_set : (Try.prog.info? 41).map (fun i => (i.zero, i.size, i.bytes)) = some (some (.agg #[.string ⟨#[]⟩, .int .i64 0, .string ⟨#[]⟩, .float .f64 0, .bool false, .slice none 0 0, .slice none 0 0]), 7, 104) := by kernel_rfl

/-- Names with trees that lie one behind the other. -/
theorem wp_append_sets {o : Oper} {a : Act} {Q : Exit → Act → World → Prop} (w : World) {K : Act → World → Prop} (s x : Operand) (ho : o.op = .call { callee := .builtin .append, args := #[s, x], argTypes := #[27, 27] })
    (base : Nat) (v : Value) (es : List (ByteArray × El)) (hs : a.eval s = v) (hown : OwnSets w base v es) (b off cap : Nat) (fs : List (ByteArray × El)) (hf : 0 < fs.length) (hx : a.eval x = .slice (some ⟨b, off, none⟩) fs.length cap)
    (hc : ∀ i f, fs[i]? = some f → Cells7 w b (off + i * 7) f.1 f.2)
    (hb : (es.length + fs.length) * 104 ≤ 140737488355328) (hbase : base ≤ w.heap.size)
    (h : ∀ g cap w', OwnSets w' base (.slice (some ⟨g, 0, none⟩) (es.length + fs.length) cap) (es ++ fs) → w.grownBy w' v.ownBlock → Lies w v g → g < w'.heap.size → K (a.put o.dst (.slice (some ⟨g, 0, none⟩) (es.length + fs.length) cap)) w') : o.wp Try.prog a w K Q := by
  obtain ⟨i, hi, hz, hsz, hby⟩ := info_parts info_set
  have hlen : ∀ l : List (ByteArray × El), (l.flatMap cells7).length = l.length * 7 := fun l => by
    induction l with
    | nil => rfl
    | cons e r ih => rw [List.flatMap_cons, List.length_append, ih]; simp [cells7, El.cells]; omega
  refine wp_append_lies w s x 27 ho base 41 i _ 7 104 Try.underlying27 hi hz hsz hby rfl (by omega) v es.length _ hs hown ⟨b, off, none⟩ fs.length cap (fs.flatMap cells7) hx (hlen fs) ?_ ?_ hf (by unfold maxLen; omega) hb hbase _ rfl ?_
  · intro j u hu
    rw [Addr.add_lit]
    have hj := (List.getElem?_eq_some_iff.1 hu).1
    rw [hlen] at hj
    obtain ⟨f, hf'⟩ := some_of_lt (l := fs) rfl (show j / 7 < fs.length by omega)
    obtain ⟨c0, c1, c2, c3, c4, c5, c6⟩ := hc (j / 7) f hf'
    have hjm : j % 7 < 7 := Nat.mod_lt _ (by omega)
    have he : j = j / 7 * 7 + j % 7 := by omega
    have key : ∀ r u, (cells7 f)[r]? = some u → w.cell? ⟨b, off + (j / 7 * 7 + r), none⟩ = some u := fun r u hr => by
      have hr7 : off + (j / 7 * 7 + r) = off + j / 7 * 7 + r := by omega
      rw [hr7]
      match r, hr with
      | 0, hr => simp [cells7, El.cells] at hr; subst hr; simpa using c0
      | 1, hr => simp [cells7, El.cells] at hr; subst hr; simpa using c1
      | 2, hr => simp [cells7, El.cells] at hr; subst hr; simpa using c2
      | 3, hr => simp [cells7, El.cells] at hr; subst hr; simpa using c3
      | 4, hr => simp [cells7, El.cells] at hr; subst hr; simpa using c4
      | 5, hr => simp [cells7, El.cells] at hr; subst hr; simpa using c5
      | 6, hr => simp [cells7, El.cells] at hr; subst hr; simpa using c6
      | r + 7, hr => simp [cells7, El.cells] at hr
    obtain ⟨u', hu'⟩ := some_of_lt (l := cells7 f) (n := 7) rfl hjm
    have := flat7_get fs (j / 7) f hf' (j % 7) u' hu'
    rw [← he, hu] at this
    cases this
    rw [he]
    have h2 := key (j % 7) u hu'
    have h3 : (j / 7 * 7 + j % 7) / 7 = j / 7 := by omega
    exact h2
  · intro u hu
    obtain ⟨f, _, hf2⟩ := List.mem_flatMap.1 hu
    simp [cells7, El.cells] at hf2
    rcases hf2 with rfl | rfl | rfl | rfl | rfl | rfl | rfl <;> rfl
  · intro g cap w' hown' hg hl hlt
    refine h g cap w' ?_ hg hl hlt
    unfold OwnSets
    rw [List.length_append, List.flatMap_append]
    exact hown'
theorem list_append_sets {ops : Array Oper} {rest : List Oper} {o : Oper} {a : Act} {Q : Exit → Act → World → Prop} (w : World) (hgd : o.guard = none) (s x : Operand) (ho : o.op = .call { callee := .builtin .append, args := #[s, x], argTypes := #[27, 27] })
    (base : Nat) (v : Value) (es : List (ByteArray × El)) (hs : a.eval s = v) (hown : OwnSets w base v es) (b : Nat) (f : ByteArray × El) (hx : a.eval x = .slice (some ⟨b, 0, none⟩) 1 1) (hc : Cells7 w b 0 f.1 f.2)
    (hb : (es.length + 1) * 104 ≤ 140737488355328) (hbase : base ≤ w.heap.size)
    (h : ∀ g cap w', OwnSets w' base (.slice (some ⟨g, 0, none⟩) (es.length + 1) cap) (es ++ [f]) → w.grownBy w' v.ownBlock → Lies w v g → g < w'.heap.size → wpList Try.prog ops Q rest (a.put o.dst (.slice (some ⟨g, 0, none⟩) (es.length + 1) cap)) w') : wpList Try.prog ops Q (o :: rest) a w :=
  wpList_plain hgd fun _ hK => wp_append_sets w s x ho base v es hs hown b 0 1 [f] (by simp) hx (fun i f' hf => by
    cases i with
    | zero => simp at hf; subst hf; simpa using hc
    | succ i => simp at hf) hb hbase fun g cap w' h1 h2 h3 h4 => hK _ _ (h g cap w' h1 h2 h3 h4)

set_option maxHeartbeats 1000000 in
theorem is_any {S : Nat → Prop} (a : Option Addr) (n c : Nat) (ps : List (ByteArray × T)) (name : ByteArray) (w : World) (h : PairsAt S w a n c ps) :
    Calls Try.prog 14 #[.slice a n c, .string name] w fun r w' => r = .returned (.bool (lastOf ps name).isSome) ∧ Ext w w' := by
  have hL := Lib.hid (last_any a n c ps name w h)
  clear h
  go_enter Try.func14, Try.ntmps14
  go_wp2_with (go_at_call 36; refine hL.out.mono ?_; rintro r w2 ⟨g, rfl, -, hx⟩; simp only [El.val])
  go_ret
  exact ⟨rfl, ext_alloc hx _⟩
/-- No name stands twice. -/
def DistinctP (ps : List (ByteArray × T)) : Prop := ∀ i p, ps[i]? = some p → lastOf (ps.take i) p.1 = none
theorem PairsAt.take {S : Nat → Prop} {w : World} {a : Option Addr} {n c : Nat} {ps : List (ByteArray × T)} (h : PairsAt S w a n c ps) {i : Nat} (hi : i ≤ n) : PairsAt S w a i c (ps.take i) :=
  ⟨by rw [List.length_take, h.1]; omega, Nat.le_trans hi h.2.1, h.2.2.1, fun j p hj => by
    rw [List.getElem?_take] at hj
    split at hj
    · exact h.2.2.2 j p hj
    · cases hj⟩
set_option maxHeartbeats 1000000 in
theorem distinct_any {S : Nat → Prop} (a : Option Addr) (n c : Nat) (ps : List (ByteArray × T)) (w : World) (h : PairsAt S w a n c ps) :
    Calls Try.prog 6 #[.slice a n c] w (Yes (DistinctP ps) w) := by
  have HH := Lib.hid h
  obtain ⟨hl, hn, hm, hc⟩ := h
  unfold maxLen at hm
  have HL := Lib.hid hl
  clear hl
  go_enter Try.func6, Try.ntmps6
  go_wp2_with fail
  go_loopw [3] (fun i wr => Ext w wr ∧ ∃ k : Nat, k ≤ n ∧ i = .int .i64 k ∧ ∀ i p, i < k → ps[i]? = some p → lastOf (ps.take i) p.1 = none) (fun i _ => n - (intOf i).toNat)
  case atStart => exact ⟨ext_refl _, 0, Nat.zero_le _, rfl, fun _ _ h _ => by omega⟩
  case round =>
    obtain ⟨hx, k, hk, rfl, hall⟩ := hrel
    have HA := Lib.hid hall
    clear hall
    by_cases hlt : k < n
    · obtain ⟨p, hp⟩ := some_of_lt HL.out hlt
      obtain ⟨b, off, e, rfl, hSb, hc7, hT⟩ := hc k p hp
      have hz0 := hx.cell hc7.1
      have HP := Lib.hid hp
      clear hp hc7
      have hk0 : (0 : Int) ≤ (k : Int) := by omega
      have hkc : (k : Int) ≤ (c : Int) := by omega
      have hc0 : ¬ c = 0 := by omega
      go_upto_region 4 with fail
      refine wp_region_order (fun w' => w'.cell? ⟨b, off + k * 7, none⟩ = some (.string p.1)) [0, 1, 2, 3, 4, 5, 6, 7] [0, 1, 2, 3, 4, 5, 6, 7, 8] (by kernel_rfl) (by kernel_rfl) (fun d _ _ _ _ h => by cases d <;> exact h) (by kernel_rfl) ?_
      have hS : (fun w' => w'.cell? ⟨b, off + k * 7, none⟩ = some (.string p.1)) wr.drew := hz0
      iterate 8 (apply ord_held rfl rfl (by assumption) rfl; (focus ((intro w' hS'); go_simp; (try with_reducible rfl))); (try simp only [Act.put, List.setIfInBounds_toArray, List.set_cons_zero, List.set_cons_succ]))
      (apply ord_loud rfl rfl rfl; intro K hK; go_simp)
      refine (is_any _ k c (ps.take k) p.1 _ ((PairsAt.take HH.out (Nat.le_of_lt hlt)).ext (ext_drew hx))).mono ?_
      rintro r w2 ⟨rfl, hx2⟩
      refine hK _ _ (fun _ => hx2.cell hz0) ?_
      clear hK K
      (try simp only [Act.put, List.setIfInBounds_toArray, List.set_cons_zero, List.set_cons_succ])
      refine ord_end ?_
      have hx3 := ext_trans (ext_drew hx) hx2
      cases hq : (lastOf (ps.take k) p.1).isSome
      · go_wp2_with fail
        go_roundw
        case rel =>
          refine ⟨hx3, k + 1, by omega, by go_num, fun i q hi hqq => ?_⟩
          by_cases hik : i < k
          · exact HA.out i q hik hqq
          · have : i = k := by omega
            subst this
            rw [HP.out] at hqq
            cases hqq
            simpa using hq
        case measure => simp [intOf]; omega
      · go_wp2_with fail
        go_ret
        exact ⟨false, rfl, by simp, hx3⟩
    · go_wp2_with fail
      go_ret
      refine ⟨true, rfl, fun _ i p hp => HA.out i p ?_ hp, hx⟩
      have h1 := (List.getElem?_eq_some_iff.1 hp).1
      have h2 := HL.out
      omega
theorem distinct_nodup {ps : List (ByteArray × T)} (h : DistinctP ps) : (ps.map Prod.fst).Nodup := by
  rw [List.nodup_iff_pairwise_ne, List.pairwise_iff_getElem]
  intro i j hi hj hij e
  simp only [List.length_map] at hi hj
  simp only [List.getElem_map] at e
  have h1 := h j ps[j] (by simp [hj])
  have : ∃ v, lastOf (ps.take j) ps[j].1 = some v := lastOf_isSome (List.mem_map.2 ⟨ps[i], by rw [List.mem_take_iff_getElem]; exact ⟨i, by omega, rfl⟩, e⟩)
  obtain ⟨v, hv⟩ := this
  rw [h1] at hv
  cases hv
theorem key_last : ∀ {l : List (ByteArray × T)} (_ : (l.map Prod.fst).Nodup) {x : ByteArray} {v : T}, (x, v) ∈ l → lastOf l x = some v
  | [], _, _, _, h => by simp at h
  | p :: r, hn, x, v, hv => by
    simp only [List.map_cons, List.nodup_cons] at hn
    rw [lastOf_cons]
    rcases List.mem_cons.1 hv with h | h
    · subst h
      rw [lastOf_none (ps := r) fun i q hq e => hn.1 (List.mem_map.2 ⟨q, List.mem_of_getElem? hq, e⟩), seq_self]
      simp
    · rw [key_last hn.2 h]; simp
theorem last_back {ps : List (ByteArray × T)} (h : DistinctP ps) (k : ByteArray) : lastOf ps.reverse k = lastOf ps k := by
  have h1 := distinct_nodup h
  have h2 : (ps.reverse.map Prod.fst).Nodup := by rw [List.map_reverse]; exact (List.reverse_perm _).nodup_iff.2 h1
  cases ha : lastOf ps k with
  | some v => exact key_last h2 (List.mem_reverse.2 (lastOf_mem ha))
  | none =>
    cases hb : lastOf ps.reverse k with
    | none => rfl
    | some v => rw [key_last h1 (List.mem_reverse.1 (lastOf_mem hb))] at ha; cases ha
theorem back_snoc {ps : List (ByteArray × T)} {j : Nat} {p : ByteArray × T} (h : ps[j]? = some p) : (ps.drop j).reverse = (ps.drop (j + 1)).reverse ++ [p] := by
  have hj := (List.getElem?_eq_some_iff.1 h)
  obtain ⟨h1, h2⟩ := hj
  rw [List.drop_eq_getElem_cons h1, List.reverse_cons, h2]
set_option maxHeartbeats 1000000 in
theorem back_any {S : Nat → Prop} (a : Option Addr) (n c : Nat) (ps : List (ByteArray × T)) (w : World) (h : PairsAt S w a n c ps) (hb : (n + 1) * 104 ≤ 140737488355328) :
    Calls Try.prog 10 #[.slice a n c] w fun r w' => ∃ a' c', r = .returned (.slice a' n c') ∧ PairsAt (fun _ => True) w' a' n c' ps.reverse ∧ Ext w w' := by
  have h := h.keep (S' := fun b => b < w.heap.size) (fun b _ h2 => h2) (fun _ _ _ => rfl)
  obtain ⟨hl, hn, hm, hc⟩ := h
  unfold maxLen at hm
  have HL := Lib.hid hl
  clear hl
  go_enter Try.func10, Try.ntmps10
  go_wp2_with fail
  go_loopw [3, 4] (fun v i wr => Ext w wr ∧ ∃ (j : Nat) (es : List (ByteArray × El)), j ≤ n ∧ es.length = n - j ∧ i = .int .i64 ((j : Int) - 1) ∧ OwnSets wr w.heap.size v es ∧ Pk (fun b => b < w.heap.size) wr es (ps.drop j).reverse) (fun _ i _ => (intOf i + 1).toNat)
  case atStart =>
    exact ⟨by (repeat (first | exact ext_refl _ | assumption | refine ext_alloc ?_ _ | refine ext_drew ?_ | refine ext_set ?_ (by simp) _ | refine ext_trans ?_ (by assumption))), n, [], Nat.le_refl _, by simp, rfl, ⟨rfl, .inr ⟨w.heap.size, 0, #[], rfl, Nat.le_refl _, Box.at rfl _ _, Nat.le_refl _, by simp [maxLen], rfl, rfl⟩⟩, by rw [List.drop_of_length_le (by have := HL.out; omega)]; exact ⟨rfl, fun _ _ _ h => by simp at h⟩⟩
  case round =>
    obtain ⟨hx, j, es, hj, hel, rfl, hO, hP⟩ := hrel
    have HEL := Lib.hid hel
    clear hel
    have HO := Lib.hid hO
    have HPk := Lib.hid hP
    have hvv := hO.1
    clear hO hP
    by_cases h0 : 0 < j
    · obtain ⟨p, hp⟩ := some_of_lt HL.out (show j - 1 < n by omega)
      obtain ⟨b, off, ⟨k, x, d, y, ka, kn, kc, ca, m, cc⟩, rfl, hSb, hc7, hT⟩ := hc (j - 1) p hp
      obtain ⟨z0, z1, z2, z3, z4, z5, z6⟩ := Cells7.ext hx hc7
      have HP := Lib.hid hp
      clear hp hc7
      have hj1 : (0 : Int) ≤ (j : Int) - 1 := by omega
      have hj2 : ((j : Int) - 1).toNat = j - 1 := by omega
      have hj3 : (j : Int) - 1 < (n : Int) := by omega
      have hbl := fun g hg => World.ownsRow.lt HO.out g hg
      have hxn : Ext wr (wr.alloc (.cells #[.string p.1, .int .i64 k, .string x, .float .f64 d, .bool y, .slice ka kn kc, .slice ca m cc] 41)) := ext_alloc (ext_refl _) _
      have hbn : Box (wr.alloc (.cells #[.string p.1, .int .i64 k, .string x, .float .f64 d, .bool y, .slice ka kn kc, .slice ca m cc] 41)) wr.heap.size #[.string p.1, .int .i64 k, .string x, .float .f64 d, .bool y, .slice ka kn kc, .slice ca m cc] 41 := Box.at rfl _ _
      have hsz := hx.sz
      go_wp2_with (at_builtin; refine list_append_sets _ rfl _ _ rfl w.heap.size _ es rfl (HO.out.ext hxn) wr.heap.size (p.1, ⟨k, x, d, y, ka, kn, kc, ca, m, cc⟩) rfl ⟨hbn.cell 0 _ rfl, hbn.cell 1 _ rfl, hbn.cell 2 _ rfl, hbn.cell 3 _ rfl, hbn.cell 4 _ rfl, hbn.cell 5 _ rfl, hbn.cell 6 _ rfl⟩ (by have := HEL.out; omega) (by simp; omega) ?_; intro g cap w2 hown hgrow hlies hglt)
      have hx5 : Ext w w2 := ext_grown (ext_trans hx hxn) hgrow (fun k hk => (hbl k hk).1)
      have hPk5 : Pk (fun b => b < w.heap.size) w2 (es ++ [(p.1, ⟨k, x, d, y, ka, kn, kc, ca, m, cc⟩)]) ((ps.drop j).reverse ++ [p]) := Pk.append (Pk.keep (S' := fun b => b < w.heap.size) (fun q hq _ => hq) (keeps_grown hgrow (fun q hq e => by have := (hbl q e.symm).1; omega)) (HPk.out.ext hxn)) (Pk.one (k := p.1) (TreeAt.keep (S' := fun b => b < w.heap.size) (fun q hq _ => hq) (keeps_grown hgrow (fun q hq e => by have := (hbl q e.symm).1; omega)) _ (hT.ext (ext_trans hx hxn))))
      clear hgrow hlies
      have hown := Lib.hid hown
      have hPk5 := Lib.hid hPk5
      go_roundw
      case rel =>
        refine ⟨hx5, j - 1, es ++ [(p.1, ⟨k, x, d, y, ka, kn, kc, ca, m, cc⟩)], by omega, by have := HEL.out; simp; omega, by go_num, by simpa using hown.out, ?_⟩
        rw [back_snoc HP.out, show j - 1 + 1 = j by omega]
        exact hPk5.out
      case measure => simp [intOf]; omega
    · have hj0 : j = 0 := by omega
      subst hj0
      have hpk := HPk.out
      simp only [List.drop_zero] at hpk
      obtain ⟨a', c', e1, hPA⟩ := HO.out.sets (S := fun _ => True) hpk.1 (fun _ _ => trivial) (hpk.keep (fun _ _ _ => trivial) (fun _ _ _ => rfl)).2
      have hrl : ps.reverse.length = n := by rw [List.length_reverse]; exact HL.out
      rw [hrl] at e1 hPA
      subst e1
      go_wp2_with fail
      go_ret
      exact ⟨a', c', rfl, hPA, hx⟩
end Go.Proofs.Ytfkkagokpmldmaa
