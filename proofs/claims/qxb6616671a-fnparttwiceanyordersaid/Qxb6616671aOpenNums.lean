/-
  AN ARGUMENT THAT IS A SLICE OF uint64, AS THE WALKS TAKE IT.
-/
import Derived.Test.Qxb6616671aOpen
import Derived.Test.Qxb6616671aNums
namespace Go.Proofs.Qxb6616671a
open Go.ChangeShapes Go.WideShapes Go.ChangeAt Go.RowKit

theorem Try.cells37 : Try.prog.cellsOf 37 = 1 := by kernel_rfl

theorem nums_of {H : Type} {enc : TypeId × Value → H} {W : World} {a : Option Addr} {n c : Nat} {x : DataW H × List MemPlace} {fuel : Nat}
    (h : DataW.trod enc Try.prog W 0 (fun _ => true) true fuel 23 (Value.slice a n c).cells.toList = some x) : ∃ zs, HasNums W a n c zs := by
  rcases open_ints Try.underlying23 Try.underlying37 Try.cells37 h with ⟨hcs, _⟩ | ⟨y, l, k, zs, hcs, _, hl, hm, hz, _, hcell, _⟩
  · simp [Value.cells] at hcs
    obtain ⟨rfl, rfl, rfl⟩ := hcs
    exact ⟨[], rfl, Nat.le_refl _, Nat.zero_le _, fun _ => ⟨rfl, rfl⟩, fun h => absurd h (Nat.lt_irrefl _)⟩
  · simp [Value.cells] at hcs
    obtain ⟨rfl, rfl, rfl⟩ := hcs
    have hz' : zs.length = c := by simpa using hz
    refine ⟨zs.take n, by simp; omega, hl, hm, by simp, fun hn => ?_⟩
    obtain ⟨b, off, rfl⟩ := addr_plain (hcell 0 (by omega))
    refine ⟨b, off, rfl, ?_, fun i hi => ?_⟩
    · exact World.block_lt_of_cell? _ _ (hcell 0 (by omega))
    · have := hcell i (by omega)
      rw [Addr.add_lit] at this
      rw [this]
      congr 2
      simp [List.getD_eq_getElem?_getD, hi]
end Go.Proofs.Qxb6616671a
