/-
  TWO ROWS THAT THE CALL BUILDS SIDE BY SIDE (strings, numbers), within their capacity.
-/
import Derived.Test.Qxb6616671aKit
namespace Go.Proofs.Qxb6616671a
open Go.RowKit

/-- Two own rows of m elements each: the strings ss, the numbers zs. -/
structure Two (w : World) (lo g1 g2 cap m : Nat) (ss : List ByteArray) (zs : List Int) : Prop where
  r1 : w.ownsRow lo 9 1 (.slice (some ⟨g1, 0, none⟩) m cap) m (ss.map Value.string)
  r2 : w.ownsRow lo 37 1 (.slice (some ⟨g2, 0, none⟩) m cap) m (zs.map (Value.int .u64))

section
variable {w x1 x2 : World} {lo g1 g2 cap m : Nat} {ss : List ByteArray} {zs : List Int} {s : ByteArray} {z : Int}

theorem Two.lt1 (h : Two w lo g1 g2 cap m ss zs) : lo ≤ g1 ∧ g1 < w.heap.size := h.r1.lt g1 rfl
theorem Two.lt2 (h : Two w lo g1 g2 cap m ss zs) : lo ≤ g2 ∧ g2 < w.heap.size := h.r2.lt g2 rfl

/-- Behind the first append. -/
theorem Two.mid (h : Two w lo g1 g2 cap m ss zs) {o : Obj} (hg : (w.alloc o).grownBy x1 (some g1)) : x1.ownsRow lo 37 1 (.slice (some ⟨g2, 0, none⟩) m cap) m (zs.map (Value.int .u64)) := by
  have t1 := ownsRow_tag h.r1 (g := g1) rfl
  have t2 := ownsRow_tag h.r2 (g := g2) rfl
  refine ownsRow_same h.r2 fun g e => ?_
  obtain rfl : g2 = g := by simpa [Value.ownBlock] using e
  exact (hg.block g2 (by have := h.lt2.2; simp; omega) (by have := t2.ne t1 (by decide); simpa using this)).trans (Below.heap_alloc _ _ _ h.lt2.2)

/-- Behind both. -/
theorem Two.push (h : Two w lo g1 g2 cap m ss zs) {o o2 : Obj} (hg : (w.alloc o).grownBy x1 (some g1)) (hx1 : x1.ownsRow lo 9 1 (.slice (some ⟨g1, 0, none⟩) (m + 1) cap) (m + 1) (ss.map Value.string ++ [.string s]))
    (hg2 : (x1.alloc o2).grownBy x2 (some g2)) (hx2 : x2.ownsRow lo 37 1 (.slice (some ⟨g2, 0, none⟩) (m + 1) cap) (m + 1) (zs.map (Value.int .u64) ++ [.int .u64 z])) :
    Two x2 lo g1 g2 cap (m + 1) (ss ++ [s]) (zs ++ [z]) ∧ Below lo w x2 := by
  have t1 := ownsRow_tag h.r1 (g := g1) rfl
  have t2 := ownsRow_tag h.r2 (g := g2) rfl
  have l1 := h.lt1
  have l2 := h.lt2
  have hs1 : w.heap.size + 1 ≤ x1.heap.size := by have := hg.size; simpa using this
  refine ⟨⟨?_, by simpa using hx2⟩, ?_⟩
  · rw [List.map_append]
    refine ownsRow_same hx1 fun g e => ?_
    obtain rfl : g1 = g := by simpa [Value.ownBlock] using e
    exact (hg2.block g1 (by simp; omega) (by have := t1.ne t2 (by decide); simpa using this)).trans (Below.heap_alloc _ _ _ (by omega))
  · have b1 : Below lo w x1 := ((Below.refl lo w).alloc (by omega) o).grown hg (by simp; omega) (fun k e => by simp at e; omega)
    exact (b1.alloc (by omega) o2).grown hg2 (by simp; omega) (fun k e => by simp at e; omega)

theorem Two.strs (h : Two w lo g1 g2 cap m ss zs) (hs : ∀ s ∈ ss, s.size ≤ maxLen) : HasStrs w (some ⟨g1, 0, none⟩) m cap ss := by
  have hl : ss.length = m := by have := h.r1.1; simpa using this
  rcases h.r1.2 with ⟨he, _⟩ | ⟨g, cap', cur, he, _, hh, hnc, hcm, _⟩
  · simp at he
  · have hcc : cap' = cap := by simp at he; exact he.2.symm
    rw [hcc] at hnc hcm
    refine ⟨hl, hnc, hcm, by simp, hs, fun hn => ⟨g1, 0, rfl, h.lt1.2, fun i hi => ?_⟩⟩
    have := h.r1.cells (g := g1) rfl i (.string (ss.getD i ByteArray.empty)) (by simp [List.getD_eq_getElem?_getD, hl, hi])
    rw [Addr.add_lit] at this
    exact this
theorem Two.nums (h : Two w lo g1 g2 cap m ss zs) : HasNums w (some ⟨g2, 0, none⟩) m cap zs := by
  have hl : zs.length = m := by have := h.r2.1; simpa using this
  rcases h.r2.2 with ⟨he, _⟩ | ⟨g, cap', cur, he, _, hh, hnc, hcm, _⟩
  · simp at he
  · have hcc : cap' = cap := by simp at he; exact he.2.symm
    rw [hcc] at hnc hcm
    refine ⟨hl, hnc, hcm, by simp, fun hn => ⟨g2, 0, rfl, h.lt2.2, fun i hi => ?_⟩⟩
    have := h.r2.cells (g := g2) rfl i (.int .u64 (zs.getD i 0)) (by simp [List.getD_eq_getElem?_getD, hl, hi])
    rw [Addr.add_lit] at this
    exact this
theorem hasStrs_nil (w : World) : HasStrs w none 0 0 [] := ⟨rfl, Nat.le_refl _, Nat.zero_le _, fun _ => ⟨rfl, rfl⟩, by simp, fun h => absurd h (Nat.lt_irrefl _)⟩
end
end Go.Proofs.Qxb6616671a
