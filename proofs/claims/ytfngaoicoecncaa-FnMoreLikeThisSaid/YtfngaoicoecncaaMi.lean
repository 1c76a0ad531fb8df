/-
  What is liked: texts, and documents by an index and an id, as the builder holds them and as they are handed over.
-/
import Derived.Test.YtfngaoicoecncaaNm2
import Derived.Test.YtfngaoicoecncaaAs
namespace Go.Proofs.Ytfngaoicoecncaa
open Go.RowKit Go.Maps

abbrev sU_index : ByteArray := ⟨#[95, 105, 110, 100, 101, 120]⟩
abbrev sU_id : ByteArray := ⟨#[95, 105, 100]⟩
abbrev s_fields : ByteArray := ⟨#[102, 105, 101, 108, 100, 115]⟩
abbrev s_like : ByteArray := ⟨#[108, 105, 107, 101]⟩
abbrev s_unlike : ByteArray := ⟨#[117, 110, 108, 105, 107, 101]⟩
abbrev s_stop_words : ByteArray := ⟨#[115, 116, 111, 112, 95, 119, 111, 114, 100, 115]⟩
abbrev s_more_like_this : ByteArray := ⟨#[109, 111, 114, 101, 95, 108, 105, 107, 101, 95, 116, 104, 105, 115]⟩
/-- A text, or the index and the id of a document. -/
abbrev Doc := ByteArray ⊕ (ByteArray × ByteArray)
def itemV (t i d : ByteArray) : Array Value := #[.string t, .string i, .string ⟨#[]⟩, .string d, .nilIface, .slice none 0 0, .string ⟨#[]⟩, .pointer none, .int .i64 (-1), .string ⟨#[]⟩]
def docV : Doc → Array Value
  | .inl t => itemV t ⟨#[]⟩ ⟨#[]⟩
  | .inr p => itemV ⟨#[]⟩ p.1 p.2
def jItem : Doc → J
  | .inl t => .str t
  | .inr p => jMap [(sU_index, .str p.1), (sU_id, .str p.2)]
def okItem : Doc → Prop
  | .inl t => t.toList.isEmpty = false
  | .inr p => p.1.toList.isEmpty = false ∧ p.2.toList.isEmpty = false
set_option maxRecDepth 20000 in
set_option maxHeartbeats 4000000 in
theorem item_src (w : World) (p : Nat) (d : Doc) (hp : Box w p (docV d) 114) (hd : okItem d) : Calls Try.prog 91 #[.pointer (some ⟨p, 0, none⟩)] w fun r w' => ∃ ty x, r = .returned (.tuple #[.iface ty x, .nilIface]) ∧ JAt (fun b => w.heap.size ≤ b) w' (.iface ty x) (jItem d) ∧ Ext w w' := by
  cases d with
  | inl t =>
    have hE : t.toList.isEmpty = false := hd
    have hp : Box w p #[.string t, .string ⟨#[]⟩, .string ⟨#[]⟩, .string ⟨#[]⟩, .nilIface, .slice none 0 0, .string ⟨#[]⟩, .pointer none, .int .i64 (-1), .string ⟨#[]⟩] 114 := hp
    have hc0 := hp.cell 0 _ rfl
    clear hd
    go_enter Try.func91, Try.ntmps91
    go_wp2_with fail
    go_ret2
    exact ⟨_, _, rfl, by simp [jItem, JAt], ext_refl _⟩
  | inr q =>
    obtain ⟨i, d⟩ := q
    obtain ⟨h1, h2⟩ := hd
    dsimp only at h1 h2
    have hp : Box w p #[.string ⟨#[]⟩, .string i, .string ⟨#[]⟩, .string d, .nilIface, .slice none 0 0, .string ⟨#[]⟩, .pointer none, .int .i64 (-1), .string ⟨#[]⟩] 114 := hp
    have hpl := hp.lt
    have hb0 := hp.alloc (.map #[] 0)
    have hc0 := hp.cell 0 _ rfl
    have k1 := hb0.cell 1 _ rfl
    have tok0 := trivial
    go_enter Try.func91, Try.ntmps91
    go_wp2_with (first
      | (at_mapUpdate; have _t := tok0; clear _t tok0; refine wp_put _ rfl _ _ _ 105 rfl 20 Try.underlying105 w.heap.size [] rfl (MapAt.at rfl) (by simp [maxLen]) sU_index rfl (by decide) _ rfl ?_; intro w1 hm hg
         have hx1 : Ext w w1 := ext_put (ext_alloc (ext_refl _) _) hg (by omega)
         have hb1 := hp.ext hx1
         have c0 := hb1.cell 0 _ rfl
         have c1 := hb1.cell 1 _ rfl
         have c2 := hb1.cell 2 _ rfl
         have c3 := hb1.cell 3 _ rfl
         have c4 := hb1.cell 4 _ rfl
         have c5 := hb1.cell 5 _ rfl
         have c6 := hb1.cell 6 _ rfl
         have c7 := hb1.cell 7 _ rfl
         have c8 := hb1.cell 8 _ rfl
         have c9 := hb1.cell 9 _ rfl
         have hm1 := hm.lt
         clear hg)
      | (at_mapUpdate; refine wp_put _ rfl _ _ _ 105 rfl 20 Try.underlying105 w.heap.size [(sU_index, .iface 9 (.string i))] rfl hm (by simp [maxLen]) sU_id rfl (by decide) _ rfl ?_; intro w2 hm2 hg2
         have hx2 : Ext w w2 := ext_put hx1 hg2 (by omega)
         have hb2 := hp.ext hx2
         have c0 := hb2.cell 0 _ rfl
         have c1 := hb2.cell 1 _ rfl
         have c2 := hb2.cell 2 _ rfl
         have c3 := hb2.cell 3 _ rfl
         have c4 := hb2.cell 4 _ rfl
         have c5 := hb2.cell 5 _ rfl
         have c6 := hb2.cell 6 _ rfl
         have c7 := hb2.cell 7 _ rfl
         have c8 := hb2.cell 8 _ rfl
         have c9 := hb2.cell 9 _ rfl
         clear hg2)
      | fail)
    go_ret2
    refine ⟨_, _, rfl, ?_, hx2⟩
    exact PJ.map (rp := [(sU_index, .iface 9 (.string i)), (sU_id, .iface 9 (.string d))]) ⟨rfl, by simp [JsAt, JAt]⟩ hm2 (Nat.le_refl _) (by simp)
end Go.Proofs.Ytfngaoicoecncaa
