/-
  AN ARGUMENT THAT IS A SLICE OF STRINGS, AS THE WALKS TAKE IT.
-/
import Derived.Test.Qxb6616671aBase
import Derived.ProofKit
import Derived.OpenShut
import Derived.ShutString
import Derived.ChangeOld
import Derived.SliceStrings
namespace Go.Proofs.Qxb6616671a
open Go.ChangeShapes Go.WideShapes Go.ChangeAt Go.RowKit
open Go.ChangeMaps (open_string shut_string)

theorem own : ownKnob Try.prog.godebug = none := by kernel_rfl
theorem laidOut : laidOutB Try.prog = true := by kernel_rfl
theorem Try.cells9 : Try.prog.cellsOf 9 = 1 := by kernel_rfl

theorem addr_plain {w : World} {a : Addr} {v : Value} (h : w.cell? (a.add 0) = some v) : ∃ b off, a = ⟨b, off, none⟩ := by
  obtain ⟨b, off, spot⟩ := a
  have hspot : spot = none := by simpa [Addr.add] using World.cell?_spot h
  subst hspot
  exact ⟨b, off, rfl⟩

theorem strs_of {H : Type} {enc : TypeId × Value → H} {W : World} {a : Option Addr} {n c : Nat} {x : DataW H × List MemPlace} {fuel : Nat}
    (h : DataW.trod enc Try.prog W 0 (fun _ => true) true fuel 22 (Value.slice a n c).cells.toList = some x) : ∃ ss, HasStrs W a n c ss := by
  rcases open_strings Try.underlying22 Try.underlying9 Try.cells9 h with ⟨hcs, _⟩ | ⟨y, l, k, ss, hcs, _, hl, hm, hz, _, hcell, hsz⟩
  · simp [Value.cells] at hcs
    obtain ⟨rfl, rfl, rfl⟩ := hcs
    exact ⟨[], rfl, Nat.le_refl _, Nat.zero_le _, fun _ => ⟨rfl, rfl⟩, by simp, fun h => absurd h (Nat.lt_irrefl _)⟩
  · simp [Value.cells] at hcs
    obtain ⟨rfl, rfl, rfl⟩ := hcs
    have hz' : ss.length = c := by simpa using hz
    refine ⟨ss.take n, by simp; omega, hl, hm, by simp, fun s hs => hsz s (List.mem_of_mem_take hs), fun hn => ?_⟩
    obtain ⟨b, off, rfl⟩ := addr_plain (hcell 0 (by omega))
    refine ⟨b, off, rfl, ?_, fun i hi => ?_⟩
    · exact World.block_lt_of_cell? _ _ (hcell 0 (by omega))
    · have := hcell i (by omega)
      rw [Addr.add_lit] at this
      rw [this]
      congr 2
      simp [List.getD_eq_getElem?_getD, hi]
end Go.Proofs.Qxb6616671a
