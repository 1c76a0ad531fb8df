/-
  Queries as values: what the method Source of each gives; lists of them.
-/
import Derived.Test.YtfngaoicoecncaaGreatDoorGv
namespace Go.Proofs.YtfngaoicoecncaaGreatDoor
open Go.RowKit Go.Maps

section
variable {ops : Array Oper} {rest : List Oper} {o : Oper} {a : Act} {Q : Exit → Act → World → Prop}
/-- An entry of a map as it is written down, in a walk. -/
theorem wp_ins (w : World) (hg : o.guard = none) (m x v : Operand) (t : TypeId) (hop : o.op = Op.insert t m x v) (e : TypeId) (ht : Tryz.prog.underlying t = some (.map 9 e)) (b : Nat) (ps : List (ByteArray × Value)) (hm : a.eval m = .map (some b)) (hM : MapAt w b ps) (hn : ps.length < maxLen)
    (key : ByteArray) (hx : a.eval x = .string key) (hk : key.size ≤ maxLen) (val : Value) (hv : a.eval v = val)
    (hK : ∀ w', MapAt w' b (ps ++ [(key, val)]) → w.grownBy w' (some b) → wpList Tryz.prog ops Q rest (a.put o.dst undef) w') : wpList Tryz.prog ops Q (o :: rest) a w := by
  refine wpList_plain hg fun K' hK' => ?_
  obtain ⟨w', hrun, r1, r2⟩ := hM.update ht hn hk val
  unfold Oper.wp
  simp [execOp, hop, hm, hx, hv, hrun, Result.andThen]
  exact hK' _ _ (hK w' r1 r2)
theorem op_ins {K : Act → World → Prop} (w : World) (m x v : Operand) (t : TypeId) (hop : o.op = Op.insert t m x v) (e : TypeId) (ht : Tryz.prog.underlying t = some (.map 9 e)) (b : Nat) (ps : List (ByteArray × Value)) (hm : a.eval m = .map (some b)) (hM : MapAt w b ps) (hn : ps.length < maxLen)
    (key : ByteArray) (hx : a.eval x = .string key) (hk : key.size ≤ maxLen) (val : Value) (hv : a.eval v = val)
    (hK : ∀ w', MapAt w' b (ps ++ [(key, val)]) → w.grownBy w' (some b) → K (a.put o.dst undef) w') : o.wp Tryz.prog a w K Q := by
  obtain ⟨w', hrun, r1, r2⟩ := hM.update ht hn hk val
  unfold Oper.wp
  simp [execOp, hop, hm, hx, hv, hrun, Result.andThen]
  exact hK w' r1 r2
end
/-- A value whose method Source gives j, as long as the blocks of S stay. -/
def Gives (S : Nat → Prop) (w : World) (q : Value) (j : J) : Prop := ∃ ty x f, q = .iface ty x ∧ (∀ fuel w', (method (fuel + 1) ty x "Source").run Tryz.prog w' = .ok (f, x) w') ∧ (∀ w', (callFunc f #[x]).run Tryz.prog w' = .ok (.enter f #[x]) w') ∧
  ∀ w', Keeps S w w' → w.heap.size ≤ w'.heap.size → Calls Tryz.prog f #[x] w' fun r w'' => ∃ ty' x', r = .returned (.tuple #[.iface ty' x', .nilIface]) ∧ JAt (fun b => w'.heap.size ≤ b) w'' (.iface ty' x') j ∧ Ext w' w''
theorem Gives.keep {S S' : Nat → Prop} {w w' : World} {q : Value} {j : J} (h : Gives S w q j) (hS : ∀ b, S b → b < w.heap.size → S' b) (k : Keeps S w w') (hsz : w.heap.size ≤ w'.heap.size) : Gives S' w' q j := by
  obtain ⟨ty, x, f, rfl, hm, hm2, hc⟩ := h
  refine ⟨ty, x, f, rfl, hm, hm2, fun w2 k2 h2 => hc w2 (fun b hb hl => ?_) (by omega)⟩
  rw [k2 b (hS b hb hl) (by omega)]
  exact k b hb hl
theorem Gives.ext {S : Nat → Prop} {w w' : World} {q : Value} {j : J} (h : Gives S w q j) (x : Ext w w') : Gives S w' q j := h.keep (fun _ h _ => h) (x.keeps S) x.sz
theorem Gives.to {S S' : Nat → Prop} {w : World} {q : Value} {j : J} (h : Gives S w q j) (hS : ∀ b, S b → b < w.heap.size → S' b) : Gives S' w q j := h.keep hS (fun _ _ _ => rfl) (Nat.le_refl _)
theorem Gives.one {S : Nat → Prop} {w : World} {q : Value} {j : J} (h : Gives S w q j) : q.oneCell' = true := by
  obtain ⟨ty, x, f, rfl, -⟩ := h
  rfl
theorem given_gives {S : Nat → Prop} {w : World} {e : El} {t : T} (h : TreeAt S w e t) (hF : FullT t) : Gives S w (.iface 136 e.val) (jFull t) :=
  ⟨_, _, _, rfl, fun fuel w' => given_method fuel e.val w', fun w' => by kernel_rfl, fun w' k hs => (given_src e t w' (TreeAt.keep (fun _ h _ => h) k _ h) hF).mono fun r w'' ⟨ty, x, hr, hJ, hx⟩ => ⟨ty, x, hr, hJ, hx⟩⟩
/-- Values and what each gives. -/
def GivesL (S : Nat → Prop) (w : World) (vs : List Value) (js : List J) : Prop := vs.length = js.length ∧ ∀ (i : Nat) (q : Value) (j : J), vs[i]? = some q → js[i]? = some j → Gives S w q j
theorem GivesL.nil (S : Nat → Prop) (w : World) : GivesL S w [] [] := ⟨rfl, fun _ _ _ h => by simp at h⟩
theorem GivesL.keep {S S' : Nat → Prop} {w w' : World} {vs : List Value} {js : List J} (h : GivesL S w vs js) (hS : ∀ b, S b → b < w.heap.size → S' b) (k : Keeps S w w') (hsz : w.heap.size ≤ w'.heap.size) : GivesL S' w' vs js :=
  ⟨h.1, fun i q j hq hj => (h.2 i q j hq hj).keep hS k hsz⟩
theorem GivesL.append {S : Nat → Prop} {w : World} {vs us : List Value} {js ks : List J} (h : GivesL S w vs js) (k : GivesL S w us ks) : GivesL S w (vs ++ us) (js ++ ks) := by
  refine ⟨by simp [h.1, k.1], fun i u q hu hq => ?_⟩
  by_cases hi : i < vs.length
  · rw [List.getElem?_append_left hi] at hu
    rw [List.getElem?_append_left (by rw [← h.1]; exact hi)] at hq
    exact h.2 i u q hu hq
  · rw [List.getElem?_append_right (by omega)] at hu
    rw [List.getElem?_append_right (by rw [← h.1]; omega), ← h.1] at hq
    exact k.2 _ u q hu hq
theorem GivesL.one {S : Nat → Prop} {w : World} {q : Value} {j : J} (h : Gives S w q j) : GivesL S w [q] [j] := ⟨rfl, fun i u p hu hp => by
  cases i with
  | zero => simp at hu hp; subst hu hp; exact h
  | succ i => simp at hu⟩
theorem GivesL.cells {S : Nat → Prop} {w : World} {vs : List Value} {js : List J} (h : GivesL S w vs js) : ∀ u ∈ vs, u.oneCell' = true := fun u hu => by
  obtain ⟨i, hi⟩ := List.getElem?_of_mem hu
  obtain ⟨q, hq⟩ := some_of_lt (l := js) rfl (show i < js.length by rw [← h.1]; exact (List.getElem?_eq_some_iff.1 hi).1)
  exact (h.2 i u q hi hq).one
/-- A list of queries in memory. -/
def QsAt (S : Nat → Prop) (w : World) (a : Option Addr) (n c : Nat) (js : List J) : Prop :=
  ∃ vs, vs.length = n ∧ n ≤ c ∧ c ≤ maxLen ∧ (∀ i u, vs[i]? = some u → ∃ b off, a = some ⟨b, off, none⟩ ∧ S b ∧ w.cell? ⟨b, off + i, none⟩ = some u) ∧ GivesL S w vs js
theorem QsAt.keep {S S' : Nat → Prop} {w w' : World} {a : Option Addr} {n c : Nat} {js : List J} (h : QsAt S w a n c js) (hS : ∀ b, S b → b < w.heap.size → S' b) (k : Keeps S w w') (hsz : w.heap.size ≤ w'.heap.size) : QsAt S' w' a n c js := by
  obtain ⟨vs, h1, h2, h3, h4, h5⟩ := h
  refine ⟨vs, h1, h2, h3, fun i u hu => ?_, h5.keep hS k hsz⟩
  obtain ⟨b, off, e, hb, hc⟩ := h4 i u hu
  exact ⟨b, off, e, hS b hb (lt_of_cell hc), k.cell hb hc⟩
theorem QsAt.ext {S : Nat → Prop} {w w' : World} {a : Option Addr} {n c : Nat} {js : List J} (h : QsAt S w a n c js) (x : Ext w w') : QsAt S w' a n c js := h.keep (fun _ h _ => h) (x.keeps S) x.sz
theorem QsAt.to {S S' : Nat → Prop} {w : World} {a : Option Addr} {n c : Nat} {js : List J} (h : QsAt S w a n c js) (hS : ∀ b, S b → b < w.heap.size → S' b) : QsAt S' w a n c js := h.keep hS (fun _ _ _ => rfl) (Nat.le_refl _)
theorem QsAt.len {S : Nat → Prop} {w : World} {a : Option Addr} {n c : Nat} {js : List J} (h : QsAt S w a n c js) : js.length = n := by
  obtain ⟨vs, h1, -, -, -, h5⟩ := h
  rw [← h5.1, h1]
/-- Values of interfaces that the call itself has appended. -/
def OwnV (t : TypeId) (w : World) (base : Nat) (v : Value) (vs : List Value) : Prop := w.ownsRow base t 1 v vs.length vs
theorem OwnV.ext {t : TypeId} {w w' : World} {base : Nat} {v : Value} {vs : List Value} (h : OwnV t w base v vs) (x : Ext w w') : OwnV t w' base v vs := World.ownsRow.kept h (grown_of_ext x none) (by cases v.ownBlock <;> simp)
theorem OwnV.grown {t : TypeId} {w w' : World} {base : Nat} {v : Value} {vs : List Value} (h : OwnV t w base v vs) {r : Option Nat} (g : w.grownBy w' r) (hne : v.ownBlock = none ∨ v.ownBlock ≠ r) : OwnV t w' base v vs := World.ownsRow.kept h g hne
theorem OwnV.cells {t : TypeId} {S : Nat → Prop} {w : World} {base : Nat} {v : Value} {vs : List Value} (h : OwnV t w base v vs) (hS : ∀ b, v.ownBlock = some b → S b) : ∃ a c, v = .slice a vs.length c ∧ vs.length ≤ c ∧ c ≤ maxLen ∧ ∀ i u, vs[i]? = some u → ∃ b off, a = some ⟨b, off, none⟩ ∧ S b ∧ w.cell? ⟨b, off + i, none⟩ = some u := by
  obtain ⟨h1, h2⟩ := id h
  rcases h2 with ⟨rfl, h0⟩ | ⟨g, cap, cur, rfl, hg, hh, h3, h4, h5, h6⟩
  · refine ⟨none, 0, by rw [h0], by omega, by simp [maxLen], fun i s hi => ?_⟩
    rw [List.length_eq_zero_iff.1 h0] at hi
    cases hi
  · refine ⟨_, _, rfl, h3, h4, fun i s hi => ⟨g, 0, rfl, hS g rfl, ?_⟩⟩
    have := World.ownsRow.cells h (g := g) rfl i s (by simp [hi])
    simpa [Addr.add_lit] using this
theorem OwnV.qs {t : TypeId} {S : Nat → Prop} {w : World} {base : Nat} {v : Value} {vs : List Value} {js : List J} (h : OwnV t w base v vs) (hS : ∀ b, v.ownBlock = some b → S b) (hg : GivesL S w vs js) : ∃ a c, v = .slice a vs.length c ∧ QsAt S w a vs.length c js := by
  obtain ⟨a, c, e, h1, h2, h3⟩ := h.cells hS
  exact ⟨a, c, e, vs, rfl, h1, h2, h3, hg⟩
theorem OwnV.block {t : TypeId} {w : World} {base : Nat} {v : Value} {vs : List Value} (h : OwnV t w base v vs) {g : Nat} (hg : v.ownBlock = some g) : base ≤ g ∧ g < w.heap.size := World.ownsRow.lt h g hg

theorem info_query : (Tryz.prog.info? 82).map (fun i => (i.zero, i.size, i.bytes)) = some (some .nilIface, 1, 16) := by kernel_rfl
section
variable {ops : Array Oper} {o : Oper} {rest : List Oper} {a : Act} {Q : Exit → Act → World → Prop}
theorem list_append_query (w : World) (hgd : o.guard = none) (s x : Operand) (ho : o.op = .call { callee := .builtin .append, args := #[s, x], argTypes := #[87, 87] })
    (base : Nat) (v : Value) (ss : List Value) (hs : a.eval s = v) (hown : OwnV 82 w base v ss) (b off n cap : Nat) (fs : List Value) (hf : 0 < fs.length) (hn : fs.length = n) (hone : ∀ u ∈ fs, u.oneCell' = true) (hx : a.eval x = .slice (some ⟨b, off, none⟩) n cap)
    (hc : ∀ i f, fs[i]? = some f → w.cell? ⟨b, off + i, none⟩ = some f) (hb : (ss.length + fs.length) * 16 ≤ 140737488355328) (hbase : base ≤ w.heap.size)
    (h : ∀ g cap w', OwnV 82 w' base (.slice (some ⟨g, 0, none⟩) (ss.length + fs.length) cap) (ss ++ fs) → w.grownBy w' v.ownBlock → Lies w v g → g < w'.heap.size → wpList Tryz.prog ops Q rest (a.put o.dst (.slice (some ⟨g, 0, none⟩) (ss.length + fs.length) cap)) w') : wpList Tryz.prog ops Q (o :: rest) a w := by
  subst hn
  refine wpList_plain hgd fun K hK => ?_
  obtain ⟨i, hi, hz, hsz, hby⟩ := info_parts info_query
  refine wp_append_lies w s x 87 ho base 82 i _ 1 16 Tryz.underlying87 hi hz hsz hby rfl (by omega) v ss.length ss hs hown ⟨b, off, none⟩ fs.length cap fs hx (by simp) ?_ hone hf (by unfold maxLen; omega) hb hbase _ rfl ?_
  · intro j u hu
    rw [Addr.add_lit]
    exact hc j u hu
  · intro g cap w' hown' hg hl hlt
    exact hK _ _ (h g cap w' (by simpa [OwnV] using hown') hg hl hlt)
end
set_option maxRecDepth 20000 in
set_option maxHeartbeats 2000000 in
theorem givens_any {S : Nat → Prop} (a : Option Addr) (n c : Nat) (ts : List T) (w : World) (h : KidsAt S w a n c ts) (hF : ∀ t ∈ ts, FullT t) (hb : n ≤ 2147483647) :
    Calls Tryz.prog 90 #[.slice a n c] w fun r w' => ∃ g cap, r = .returned (.slice (some ⟨g, 0, none⟩) n cap) ∧ w.heap.size ≤ g ∧ QsAt (fun b => (S b ∧ b < w.heap.size) ∨ b = g) w' (some ⟨g, 0, none⟩) n cap (ts.map jFull) ∧ Ext w w' := by
  have HK := Lib.hid h
  obtain ⟨hl, hn, hm, -⟩ := h
  unfold maxLen at hm
  have HL := Lib.hid hl
  have HF := Lib.hid hF
  clear hl hF
  go_enter Tryz.func90, Tryz.ntmps90
  go_wp2_with fail
  go_loopw [3, 9] (fun v i wr => Ext w wr ∧ ∃ (j : Nat) (vs : List Value) (g cap : Nat), j ≤ n ∧ i = .int .i64 j ∧ v = .slice (some ⟨g, 0, none⟩) j cap ∧ vs.length = j ∧ OwnV 82 wr w.heap.size (.slice (some ⟨g, 0, none⟩) j cap) vs ∧ GivesL (fun b => S b ∧ b < w.heap.size) wr vs ((ts.take j).map jFull)) (fun _ i _ => n - (intOf i).toNat)
  case atStart =>
    exact ⟨by (repeat (first | exact ext_refl _ | assumption | refine ext_alloc ?_ _ | refine ext_drew ?_ | refine ext_set ?_ (by simp) _ | refine ext_trans ?_ (by assumption))), 0, [], w.heap.size, 0, Nat.zero_le _, rfl, rfl, rfl, ⟨rfl, .inr ⟨w.heap.size, 0, #[], rfl, Nat.le_refl _, Box.at rfl _ _, Nat.le_refl _, by simp [maxLen], rfl, rfl⟩⟩, GivesL.nil _ _⟩
  case round =>
    obtain ⟨hx, j, vs, g0, cap0, hj, rfl, rfl, hvl, hO, hV⟩ := hrel
    have HO := Lib.hid hO
    have HV := Lib.hid hV
    have HVL := Lib.hid hvl
    have hg0 : w.heap.size ≤ g0 ∧ g0 < wr.heap.size := World.ownsRow.lt hO g0 rfl
    clear hO hV hvl
    by_cases hlt : j < n
    · obtain ⟨t, ht⟩ := some_of_lt HL.out hlt
      obtain ⟨b, off, ⟨k, x, d, y, ka, kn, kc, ca, m, cc⟩, rfl, -, hcell, hT⟩ := HK.out.get ht
      have hcell := CellsAt.ext hx hcell
      have hSc := Lib.hid (HF.out t (List.mem_of_getElem? ht))
      have HT := Lib.hid ht
      clear ht
      obtain ⟨c0, c1, c2, c3, c4, c5⟩ := hcell
      have hG := Lib.hid (given_gives (hT.to (S' := fun b => S b ∧ b < w.heap.size) (fun b h1 hb => ⟨h1, hb⟩)) hSc.out)
      clear hT
      have hsz := hx.sz
      have tokB := trivial
      go_wp2_with (first
        | (at_builtin; have _t := tokB; clear _t tokB; refine list_append_query _ rfl _ _ rfl w.heap.size (.slice (some ⟨g0, 0, none⟩) j cap0) vs rfl ((HO.out.ext (ext_alloc (ext_refl _) _)).ext (ext_alloc (ext_refl _) _)) (wr.heap.size + 1) 0 1 1 [.iface 136 (⟨k, x, d, y, ka, kn, kc, ca, m, cc⟩ : El).val] (by simp) rfl (fun u hu => by simp at hu; subst hu; rfl) rfl (fun i f hf => by
             cases i with
             | zero => simp at hf; subst hf; exact (Box.at (by simp) _ _).cell 0 _ rfl
             | succ i => simp at hf) (by have := HVL.out; simp; omega) (by simp; omega) ?_; intro g cap w4 hown hgrow hlies hglt)
        | fail)
      have hx5 : Ext w w4 := ext_grown (ext_alloc (ext_alloc hx _) _) hgrow (fun k hk => by simp only [Value.ownBlock, Option.some.injEq] at hk; omega)
      have hkp : Keeps (fun b => S b ∧ b < w.heap.size) wr w4 := fun q hq _ => (hx5.block q hq.2).trans (hx.block q hq.2).symm
      have hs4 : wr.heap.size ≤ w4.heap.size := by have := hgrow.size; simp at this; omega
      have hV5 := Lib.hid (GivesL.append (HV.out.keep (fun _ h _ => h) hkp hs4) (GivesL.one (hG.out.keep (fun _ h _ => h) (hx5.keeps _) hx5.sz)))
      have hown2 := Lib.hid hown
      clear hown hgrow hlies hkp
      go_roundw
      case rel =>
        refine ⟨hx5, j + 1, vs ++ [.iface 136 (⟨k, x, d, y, ka, kn, kc, ca, m, cc⟩ : El).val], g, cap, by omega, by go_num, by have := HVL.out; simp [this], by simp [HVL.out], by have := HVL.out; simpa [this] using hown2.out, ?_⟩
        rw [take_snoc HT.out, List.map_append]
        exact hV5.out
      case measure => simp [intOf]; omega
    · have hjn : j = n := by omega
      subst hjn
      have hfull : ts.take j = ts := List.take_of_length_le (by have := HL.out; omega)
      have hV := HV.out
      rw [hfull] at hV
      go_wp2_with fail
      go_ret
      obtain ⟨a, c, he, q1, q2, q3⟩ := HO.out.cells (S := fun b => (S b ∧ b < w.heap.size) ∨ b = g0) (fun b hb => by cases hb; exact .inr rfl)
      cases he
      exact ⟨g0, _, rfl, hg0.1, ⟨vs, rfl, q1, q2, q3, hV.keep (fun _ h _ => .inl h) (fun _ _ _ => rfl) (Nat.le_refl _)⟩, hx⟩
theorem jMap_iface {S : Nat → Prop} {w : World} {v : Value} {l : List (ByteArray × J)} (h : JAt S w v (jMap l)) : ∃ x, v = .iface 109 x := by
  unfold jMap at h
  simp only [JAt] at h
  obtain ⟨b, vs, e, -⟩ := h
  exact ⟨_, e⟩
end Go.Proofs.YtfngaoicoecncaaGreatDoor
