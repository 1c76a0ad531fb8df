/-
  Rules of intervals as data; how they lie in memory.
-/
import Derived.Test.YtdjojnlejkljdaaGreatW5
namespace Go.Proofs.YtdjojnlejkljdaaGreat
open Go.RowKit

/-- A rule of intervals: its kind, its text, its settings, the rules that it is made of, the names of its sieves and their rules. -/
inductive Rl where
  | mk (k : Int) (x : ByteArray) (ps : List (ByteArray × T)) (ks : List Rl) (ns : List ByteArray) (rs : List Rl)
structure Rv where
  k : Int
  x : ByteArray
  sa : Option Addr
  sn : Nat
  sc : Nat
  ka : Option Addr
  kn : Nat
  kc : Nat
  va : Option Addr
  vn : Nat
  vc : Nat
abbrev Rv.arr (e : Rv) : Array Value := #[.int .i64 e.k, .string e.x, .slice e.sa e.sn e.sc, .slice e.ka e.kn e.kc, .slice e.va e.vn e.vc]
def Rv.val (e : Rv) : Value := .agg #[.int .i64 e.k, .string e.x, .slice e.sa e.sn e.sc, .slice e.ka e.kn e.kc, .slice e.va e.vn e.vc]
def Rv.cells (e : Rv) : List Value := [.int .i64 e.k, .string e.x, .slice e.sa e.sn e.sc, .slice e.ka e.kn e.kc, .slice e.va e.vn e.vc]
abbrev RCells (w : World) (b o : Nat) (e : Rv) : Prop := w.cell? ⟨b, o, none⟩ = some (.int .i64 e.k) ∧ w.cell? ⟨b, o + 1, none⟩ = some (.string e.x) ∧ w.cell? ⟨b, o + 2, none⟩ = some (.slice e.sa e.sn e.sc) ∧
  w.cell? ⟨b, o + 3, none⟩ = some (.slice e.ka e.kn e.kc) ∧ w.cell? ⟨b, o + 4, none⟩ = some (.slice e.va e.vn e.vc)
def NamesAt (S : Nat → Prop) (w : World) (a : Option Addr) (ns : List ByteArray) : Prop := ∀ i nm, ns[i]? = some nm → ∃ b off, a = some ⟨b, off, none⟩ ∧ S b ∧ w.cell? ⟨b, off + i * 6, none⟩ = some (.string nm)
mutual
def RuleAt (S : Nat → Prop) (w : World) (e : Rv) : Rl → Prop
  | .mk k x ps ks ns rs => e.k = k ∧ e.x = x ∧ PairsAt S w e.sa e.sn e.sc ps ∧ (ks.length = e.kn ∧ e.kn ≤ e.kc ∧ e.kc ≤ maxLen) ∧ RowR S w e.ka 5 0 0 ks ∧
    (rs.length = e.vn ∧ ns.length = e.vn ∧ e.vn ≤ e.vc ∧ e.vc ≤ maxLen) ∧ NamesAt S w e.va ns ∧ RowR S w e.va 6 1 0 rs
def RowR (S : Nat → Prop) (w : World) (a : Option Addr) (st sh i : Nat) : List Rl → Prop
  | [] => True
  | r :: rest => (∃ b off e, a = some ⟨b, off, none⟩ ∧ S b ∧ RCells w b (off + i * st + sh) e ∧ RuleAt S w e r) ∧ RowR S w a st sh (i + 1) rest
end
theorem RCells.keep {S : Nat → Prop} {w w' : World} {b o : Nat} {e : Rv} (k : Keeps S w w') (hs : S b) (h : RCells w b o e) : RCells w' b o e :=
  ⟨k.cell hs h.1, k.cell hs h.2.1, k.cell hs h.2.2.1, k.cell hs h.2.2.2.1, k.cell hs h.2.2.2.2⟩
theorem RCells.ext {w w' : World} {b o : Nat} {e : Rv} (x : Ext w w') (h : RCells w b o e) : RCells w' b o e := RCells.keep (x.keeps fun _ => True) trivial h
theorem NamesAt.keep {S S' : Nat → Prop} {w w' : World} {a : Option Addr} {ns : List ByteArray} (hS : ∀ b, S b → b < w.heap.size → S' b) (k : Keeps S w w') (h : NamesAt S w a ns) : NamesAt S' w' a ns := fun i nm hi => by
  obtain ⟨b, off, e, hb, hc⟩ := h i nm hi
  exact ⟨b, off, e, hS b hb (lt_of_cell hc), k.cell hb hc⟩
mutual
theorem RuleAt.keep {S S' : Nat → Prop} {w w' : World} (hS : ∀ b, S b → b < w.heap.size → S' b) (k : Keeps S w w') : ∀ (r : Rl) {e : Rv}, RuleAt S w e r → RuleAt S' w' e r
  | .mk kd x ps ks ns rs, e, h => by
    simp only [RuleAt] at h ⊢
    exact ⟨h.1, h.2.1, h.2.2.1.keep hS k, h.2.2.2.1, RowR.keep hS k ks h.2.2.2.2.1, h.2.2.2.2.2.1, h.2.2.2.2.2.2.1.keep hS k, RowR.keep hS k rs h.2.2.2.2.2.2.2⟩
theorem RowR.keep {S S' : Nat → Prop} {w w' : World} (hS : ∀ b, S b → b < w.heap.size → S' b) (k : Keeps S w w') : ∀ (l : List Rl) {a : Option Addr} {st sh i : Nat}, RowR S w a st sh i l → RowR S' w' a st sh i l
  | [], _, _, _, _, _ => by simp [RowR]
  | r :: rest, a, st, sh, i, h => by
    simp only [RowR] at h ⊢
    obtain ⟨⟨b, off, e, ha, hb, hc, hr⟩, h2⟩ := h
    exact ⟨⟨b, off, e, ha, hS b hb (lt_of_cell hc.1), RCells.keep k hb hc, RuleAt.keep hS k r hr⟩, RowR.keep hS k rest h2⟩
end
theorem RowR.get {S : Nat → Prop} {w : World} {a : Option Addr} {st sh : Nat} : ∀ {l : List Rl} {i : Nat} (_ : RowR S w a st sh i l) {j : Nat} {r : Rl}, l[j]? = some r → ∃ b off e, a = some ⟨b, off, none⟩ ∧ S b ∧ RCells w b (off + (i + j) * st + sh) e ∧ RuleAt S w e r
  | [], _, _, _, _, hj => by cases hj
  | r :: rest, i, h, 0, q, hj => by
    simp only [List.getElem?_cons_zero, Option.some.injEq] at hj
    subst hj
    simp only [RowR] at h
    exact h.1
  | r :: rest, i, h, j + 1, q, hj => by
    simp only [RowR] at h
    obtain ⟨b, off, e, h1, h2, h3, h4⟩ := RowR.get h.2 (by simpa using hj)
    exact ⟨b, off, e, h1, h2, by rw [show i + (j + 1) = i + 1 + j by omega]; exact h3, h4⟩
theorem RowR.of {S : Nat → Prop} {w : World} {a : Option Addr} {st sh : Nat} : ∀ {l : List Rl} {i : Nat}, (∀ j r, l[j]? = some r → ∃ b off e, a = some ⟨b, off, none⟩ ∧ S b ∧ RCells w b (off + (i + j) * st + sh) e ∧ RuleAt S w e r) → RowR S w a st sh i l
  | [], _, _ => by simp [RowR]
  | r :: rest, i, h => by
    simp only [RowR]
    refine ⟨h 0 r rfl, RowR.of fun j q hj => ?_⟩
    obtain ⟨b, off, e, h1, h2, h3, h4⟩ := h (j + 1) q (by simpa using hj)
    exact ⟨b, off, e, h1, h2, by rw [show i + 1 + j = i + (j + 1) by omega]; exact h3, h4⟩
/-- A list of rules; a list of sieves. -/
def RulesAt (S : Nat → Prop) (w : World) (a : Option Addr) (n c : Nat) (ks : List Rl) : Prop := ks.length = n ∧ n ≤ c ∧ c ≤ maxLen ∧ RowR S w a 5 0 0 ks
def SievesAt (S : Nat → Prop) (w : World) (a : Option Addr) (n c : Nat) (ns : List ByteArray) (rs : List Rl) : Prop := rs.length = n ∧ ns.length = n ∧ n ≤ c ∧ c ≤ maxLen ∧ NamesAt S w a ns ∧ RowR S w a 6 1 0 rs
theorem RulesAt.keep {S S' : Nat → Prop} {w w' : World} {a : Option Addr} {n c : Nat} {ks : List Rl} (hS : ∀ b, S b → b < w.heap.size → S' b) (k : Keeps S w w') (h : RulesAt S w a n c ks) : RulesAt S' w' a n c ks := ⟨h.1, h.2.1, h.2.2.1, h.2.2.2.keep hS k ks⟩
theorem RulesAt.ext {S : Nat → Prop} {w w' : World} {a : Option Addr} {n c : Nat} {ks : List Rl} (x : Ext w w') (h : RulesAt S w a n c ks) : RulesAt S w' a n c ks := h.keep (fun _ h _ => h) (x.keeps S)
theorem SievesAt.keep {S S' : Nat → Prop} {w w' : World} {a : Option Addr} {n c : Nat} {ns : List ByteArray} {rs : List Rl} (hS : ∀ b, S b → b < w.heap.size → S' b) (k : Keeps S w w') (h : SievesAt S w a n c ns rs) : SievesAt S' w' a n c ns rs := ⟨h.1, h.2.1, h.2.2.1, h.2.2.2.1, h.2.2.2.2.1.keep hS k, h.2.2.2.2.2.keep hS k rs⟩
theorem SievesAt.ext {S : Nat → Prop} {w w' : World} {a : Option Addr} {n c : Nat} {ns : List ByteArray} {rs : List Rl} (x : Ext w w') (h : SievesAt S w a n c ns rs) : SievesAt S w' a n c ns rs := h.keep (fun _ h _ => h) (x.keeps S)
theorem RuleAt.ext {S : Nat → Prop} {w w' : World} (x : Ext w w') {r : Rl} {e : Rv} (h : RuleAt S w e r) : RuleAt S w' e r := RuleAt.keep (fun _ h _ => h) (x.keeps S) r h
theorem RuleAt.to {S S' : Nat → Prop} {w : World} {r : Rl} {e : Rv} (h : RuleAt S w e r) (hS : ∀ b, S b → b < w.heap.size → S' b) : RuleAt S' w e r := RuleAt.keep hS (fun _ _ _ => rfl) r h
theorem RuleAt.parts {S : Nat → Prop} {w : World} {e : Rv} {k : Int} {x : ByteArray} {ps : List (ByteArray × T)} {ks : List Rl} {ns : List ByteArray} {rs : List Rl} (h : RuleAt S w e (.mk k x ps ks ns rs)) :
    e.k = k ∧ e.x = x ∧ PairsAt S w e.sa e.sn e.sc ps ∧ RulesAt S w e.ka e.kn e.kc ks ∧ SievesAt S w e.va e.vn e.vc ns rs := by
  simp only [RuleAt] at h
  obtain ⟨h1, h2, h3, ⟨h4, h5, h6⟩, h7, ⟨h8, h9, h10, h11⟩, h12, h13⟩ := h
  exact ⟨h1, h2, h3, ⟨h4, h5, h6, h7⟩, ⟨h8, h9, h10, h11, h12, h13⟩⟩
theorem RuleAt.of {S : Nat → Prop} {w : World} {e : Rv} {k : Int} {x : ByteArray} {ps : List (ByteArray × T)} {ks : List Rl} {ns : List ByteArray} {rs : List Rl} (h1 : e.k = k) (h2 : e.x = x) (h3 : PairsAt S w e.sa e.sn e.sc ps) (h4 : RulesAt S w e.ka e.kn e.kc ks)
    (h5 : SievesAt S w e.va e.vn e.vc ns rs) : RuleAt S w e (.mk k x ps ks ns rs) := by
  simp only [RuleAt]
  exact ⟨h1, h2, h3, ⟨h4.1, h4.2.1, h4.2.2.1⟩, h4.2.2.2, ⟨h5.1, h5.2.1, h5.2.2.1, h5.2.2.2.1⟩, h5.2.2.2.2.1, h5.2.2.2.2.2⟩
theorem rules_none {S : Nat → Prop} (w : World) : RulesAt S w none 0 0 [] := ⟨rfl, Nat.le_refl _, by simp [maxLen], by simp [RowR]⟩
theorem sieves_none {S : Nat → Prop} (w : World) : SievesAt S w none 0 0 [] [] := ⟨rfl, rfl, Nat.le_refl _, by simp [maxLen], fun _ _ h => by simp at h, by simp [RowR]⟩
mutual
/-- Rules that are not too wide. -/
def SmallR (N : Nat) : Rl → Prop
  | .mk _ _ _ ks _ rs => ks.length ≤ N ∧ rs.length ≤ N ∧ SmallRs N ks ∧ SmallRs N rs
def SmallRs (N : Nat) : List Rl → Prop
  | [] => True
  | r :: l => SmallR N r ∧ SmallRs N l
end
theorem smallRs_iff (N : Nat) : ∀ l : List Rl, SmallRs N l ↔ ∀ r ∈ l, SmallR N r
  | [] => by simp [SmallRs]
  | r :: l => by simp [SmallRs, smallRs_iff N l]
mutual
theorem SmallR.mono {N M : Nat} (hNM : N ≤ M) : ∀ {r : Rl}, SmallR N r → SmallR M r
  | .mk _ _ _ ks _ rs, h => by
    simp only [SmallR] at h ⊢
    exact ⟨by omega, by omega, SmallRs.mono hNM h.2.2.1, SmallRs.mono hNM h.2.2.2⟩
theorem SmallRs.mono {N M : Nat} (hNM : N ≤ M) : ∀ {l : List Rl}, SmallRs N l → SmallRs M l
  | [], _ => by simp [SmallRs]
  | r :: l, h => by
    simp only [SmallRs] at h ⊢
    exact ⟨SmallR.mono hNM h.1, SmallRs.mono hNM h.2⟩
end
end Go.Proofs.YtdjojnlejkljdaaGreat
