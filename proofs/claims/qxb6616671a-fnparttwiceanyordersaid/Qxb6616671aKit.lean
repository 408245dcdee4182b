/-
  A BROADCASTER THAT THE CALL HAS MADE: what lies in its memory; how its parts stand apart.
-/
import Derived.Test.Qxb6616671aNums
import Derived.Deep.AppendLies
namespace Go.Proofs.Qxb6616671a
open Go.RowKit

/-- An out-link's four cells. -/
def outCells (s : ByteArray) : List Value := [.string s, .bool false, .slice none 0 0, .int .i64 0]

/-- An opening: its block, its peer, its link. -/
structure Opn where
  blk : Nat
  peer : ByteArray
  link : Int

/-- The opening lies in w. -/
def IsOpn (w : World) (o : Opn) : Prop := ∃ cs, w.heap[o.blk]? = some (.cells cs 67 (0, 0)) ∧ cs[0]? = some (.string o.peer) ∧ cs[1]? = some (.int .u64 o.link)

/-- Block B is a broadcaster: its out-links vo, its openings vp. -/
structure Cast (w : World) (lo B : Nat) (vo vp : Value) (outs : List ByteArray) (os : List Opn) : Prop where
  base : lo ≤ B
  blk : ∃ cs, w.heap[B]? = some (.cells cs 57 (0, 0)) ∧ cs[3]? = some vo ∧ cs[5]? = some vp
  orow : w.ownsRow lo 60 4 vo outs.length (outs.flatMap outCells)
  prow : w.ownsRow lo 34 1 vp os.length (os.map fun o => .pointer (some ⟨o.blk, 0, none⟩))
  each : ∀ o ∈ os, lo ≤ o.blk ∧ IsOpn w o

theorem Cast.cell3 {w : World} {lo B : Nat} {vo vp : Value} {outs : List ByteArray} {os : List Opn} (h : Cast w lo B vo vp outs os) : w.cell? ⟨B, 3, none⟩ = some vo := by
  obtain ⟨cs, hb, h3, _⟩ := h.blk
  simp [World.cell?, hb, h3]
theorem Cast.cell5 {w : World} {lo B : Nat} {vo vp : Value} {outs : List ByteArray} {os : List Opn} (h : Cast w lo B vo vp outs os) : w.cell? ⟨B, 5, none⟩ = some vp := by
  obtain ⟨cs, hb, _, h5⟩ := h.blk
  simp [World.cell?, hb, h5]
theorem Cast.frozen {w : World} {lo B : Nat} {vo vp : Value} {outs : List ByteArray} {os : List Opn} (h : Cast w lo B vo vp outs os) (i : Nat) : w.frozen? ⟨B, i, none⟩ = false := by
  obtain ⟨cs, hb, _, _⟩ := h.blk
  simp [World.frozen?, hb]
theorem Cast.lt {w : World} {lo B : Nat} {vo vp : Value} {outs : List ByteArray} {os : List Opn} (h : Cast w lo B vo vp outs os) : B < w.heap.size := by
  obtain ⟨cs, hb, _, _⟩ := h.blk
  exact (Array.getElem?_eq_some_iff.1 hb).1
/-- Block k is a row of cells of type t, none frozen. -/
def TagAt (w : World) (k t : Nat) : Prop := ∃ cs, w.heap[k]? = some (.cells cs t (0, 0))
theorem TagAt.ne {w : World} {k k' t t' : Nat} (h : TagAt w k t) (h' : TagAt w k' t') (ht : t ≠ t') : k ≠ k' := by
  rintro rfl
  obtain ⟨cs, hc⟩ := h
  obtain ⟨cs', hc'⟩ := h'
  rw [hc] at hc'
  simp at hc'
  exact ht hc'.2
theorem TagAt.lt {w : World} {k t : Nat} (h : TagAt w k t) : k < w.heap.size := by
  obtain ⟨cs, hb⟩ := h
  exact (Array.getElem?_eq_some_iff.1 hb).1
theorem ownsRow_tag {w : World} {lo e size n : Nat} {v : Value} {xs : List Value} (h : w.ownsRow lo e size v n xs) {g : Nat} (hg : v.ownBlock = some g) : TagAt w g e := by
  rcases h.2 with ⟨rfl, _⟩ | ⟨g', cap, cur, rfl, _, hh, _⟩
  · simp [Value.ownBlock] at hg
  · simp [Value.ownBlock] at hg
    subst hg
    exact ⟨cur, hh⟩
theorem ownsRow_ne {w : World} {lo e size n : Nat} {v : Value} {xs : List Value} {B t : Nat} (h : w.ownsRow lo e size v n xs) (hb : TagAt w B t) (ht : e ≠ t) : v.ownBlock ≠ some B :=
  fun hv => (ownsRow_tag h hv).ne hb ht rfl
theorem ownsRow_same {w w' : World} {lo e size n : Nat} {v : Value} {xs : List Value} (h : w.ownsRow lo e size v n xs) (hs : ∀ g, v.ownBlock = some g → w'.heap[g]? = w.heap[g]?) : w'.ownsRow lo e size v n xs := by
  refine ⟨h.1, ?_⟩
  rcases h.2 with h0 | ⟨g, cap, cur, rfl, hg, hh, r⟩
  · exact .inl h0
  · exact .inr ⟨g, cap, cur, rfl, hg, (hs g rfl).trans hh, r⟩
theorem IsOpn.tag {w : World} {o : Opn} (h : IsOpn w o) : TagAt w o.blk 67 := by
  obtain ⟨cs, hc, _⟩ := h
  exact ⟨cs, hc⟩
theorem IsOpn.same {w w' : World} {o : Opn} (h : IsOpn w o) (hs : w'.heap[o.blk]? = w.heap[o.blk]?) : IsOpn w' o := by
  obtain ⟨cs, hc, r⟩ := h
  exact ⟨cs, hs.trans hc, r⟩
theorem IsOpn.peer0 {w : World} {o : Opn} (h : IsOpn w o) : w.cell? ⟨o.blk, 0, none⟩ = some (.string o.peer) := by
  obtain ⟨cs, hb, h0, _⟩ := h
  simp [World.cell?, hb, h0]
theorem IsOpn.link1 {w : World} {o : Opn} (h : IsOpn w o) : w.cell? ⟨o.blk, 1, none⟩ = some (.int .u64 o.link) := by
  obtain ⟨cs, hb, _, h1⟩ := h
  simp [World.cell?, hb, h1]

section
variable {w w1 : World} {lo B : Nat} {vo vp v' : Value} {outs : List ByteArray} {os : List Opn}
theorem Cast.tag (h : Cast w lo B vo vp outs os) : TagAt w B 57 := by
  obtain ⟨cs, hb, _⟩ := h.blk
  exact ⟨cs, hb⟩

/-- Whatever leaves a broadcaster's own blocks as they were leaves it. -/
theorem Cast.same (h : Cast w lo B vo vp outs os) (hs : ∀ k, k < w.heap.size → w1.heap[k]? = w.heap[k]?) : Cast w1 lo B vo vp outs os := by
  obtain ⟨cs, hb, h3, h5⟩ := h.blk
  refine ⟨h.base, ⟨cs, (hs _ h.lt).trans hb, h3, h5⟩, ownsRow_same h.orow fun g hg => hs g (ownsRow_tag h.orow hg).lt, ownsRow_same h.prow fun g hg => hs g (ownsRow_tag h.prow hg).lt, fun o ho => ?_⟩
  have := h.each o ho
  exact ⟨this.1, this.2.same (hs _ this.2.tag.lt)⟩

theorem Cast.below (h : Cast w lo B vo vp outs os) {K : Nat} (hK : w.heap.size ≤ K) (hb : Below K w w1) : Cast w1 lo B vo vp outs os :=
  h.same fun k hk => hb.block k (by omega)

theorem heap_set_same (w : World) (B i : Nat) (v : Value) {cs : Array Value} {t : Nat} (hb : w.heap[B]? = some (.cells cs t (0, 0))) : (w.setCell ⟨B, i, none⟩ v).heap[B]? = some (.cells (cs.setIfInBounds i v) t (0, 0)) := by
  simp [World.setCell, Array.getElem?_modify, hb]

theorem set_get_same (cs : Array Value) (i : Nat) (v u : Value) (h : cs[i]? = some u) : (cs.setIfInBounds i v)[i]? = some v := by
  have := (Array.getElem?_eq_some_iff.1 h).1
  simp [this]
theorem set_get_other (cs : Array Value) (i j : Nat) (v : Value) (h : i ≠ j) : (cs.setIfInBounds i v)[j]? = cs[j]? := by
  rw [Array.getElem?_setIfInBounds, if_neg h]

/-- An out-link more. -/
theorem Cast.setOut {outs' : List ByteArray} (h : Cast w lo B vo vp outs os) (hold : ∀ k, k < w.heap.size → some k ≠ vo.ownBlock → w1.heap[k]? = w.heap[k]?)
    (hown : w1.ownsRow lo 60 4 v' outs'.length (outs'.flatMap outCells)) : Cast (w1.setCell ⟨B, 3, none⟩ v') lo B v' vp outs' os := by
  obtain ⟨cs, hb, h3, h5⟩ := h.blk
  have hB1 : w1.heap[B]? = some (.cells cs 57 (0, 0)) := (hold B h.lt (Ne.symm (ownsRow_ne h.orow h.tag (by decide)))).trans hb
  have hkeep : ∀ k t, TagAt w k t → t ≠ 60 → t ≠ 57 → (w1.setCell ⟨B, 3, none⟩ v').heap[k]? = w.heap[k]? := fun k t hk h1 h2 => by
    rw [Below.heap_setCell _ _ _ _ (hk.ne h.tag h2)]
    exact hold k hk.lt fun e => ownsRow_ne h.orow hk (Ne.symm h1) e.symm
  refine ⟨h.base, ⟨_, heap_set_same w1 B 3 v' hB1, set_get_same cs 3 v' vo h3, (set_get_other cs 3 5 v' (by decide)).trans h5⟩, ownsRow_same hown fun g hg => Below.heap_setCell _ _ _ _ ?_, ownsRow_same h.prow fun g hg => hkeep g 34 (ownsRow_tag h.prow hg) (by decide) (by decide), fun o ho => ?_⟩
  · exact (ownsRow_tag hown hg).ne ⟨cs, hB1⟩ (by decide)
  · have := h.each o ho
    exact ⟨this.1, this.2.same (hkeep _ 67 this.2.tag (by decide) (by decide))⟩

/-- The openings turned. -/
theorem Cast.setOpn {os' : List Opn} (h : Cast w lo B vo vp outs os) (hold : ∀ k, k < w.heap.size → some k ≠ vp.ownBlock → w1.heap[k]? = w.heap[k]?)
    (hown : w1.ownsRow lo 34 1 v' os'.length (os'.map fun o => .pointer (some ⟨o.blk, 0, none⟩))) (heach : ∀ o ∈ os', lo ≤ o.blk ∧ IsOpn w1 o) : Cast (w1.setCell ⟨B, 5, none⟩ v') lo B vo v' outs os' := by
  obtain ⟨cs, hb, h3, h5⟩ := h.blk
  have hB1 : w1.heap[B]? = some (.cells cs 57 (0, 0)) := (hold B h.lt (Ne.symm (ownsRow_ne h.prow h.tag (by decide)))).trans hb
  have hkeep : ∀ k t, TagAt w k t → t ≠ 34 → t ≠ 57 → (w1.setCell ⟨B, 5, none⟩ v').heap[k]? = w.heap[k]? := fun k t hk h1 h2 => by
    rw [Below.heap_setCell _ _ _ _ (hk.ne h.tag h2)]
    exact hold k hk.lt fun e => ownsRow_ne h.prow hk (Ne.symm h1) e.symm
  refine ⟨h.base, ⟨_, heap_set_same w1 B 5 v' hB1, (set_get_other cs 5 3 v' (by decide)).trans h3, set_get_same cs 5 v' vp h5⟩, ownsRow_same h.orow fun g hg => hkeep g 60 (ownsRow_tag h.orow hg) (by decide) (by decide), ownsRow_same hown fun g hg => Below.heap_setCell _ _ _ _ ?_, fun o ho => ?_⟩
  · exact (ownsRow_tag hown hg).ne ⟨cs, hB1⟩ (by decide)
  · have := heach o ho
    exact ⟨this.1, this.2.same (Below.heap_setCell _ _ _ _ (this.2.tag.ne ⟨cs, hB1⟩ (by decide)))⟩
end
end Go.Proofs.Qxb6616671a
