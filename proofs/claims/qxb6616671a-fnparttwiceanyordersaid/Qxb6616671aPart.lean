/-
  (*Broadcaster).Part.
-/
import Derived.Test.Qxb6616671aDel26
import Derived.Test.Qxb6616671aDel28
namespace Go.Proofs.Qxb6616671a
open Go.RowKit

set_option maxHeartbeats 1000000 in
theorem part_any (p : ByteArray) (w : World) {lo B : Nat} {vo vp : Value} {outs : List ByteArray} {os : List Opn} (h : Cast w lo B vo vp outs os) (hlo : lo ≤ w.heap.size) (hs1 : outs.length ≤ 1000000) (hs2 : os.length ≤ 1000000) :
    Calls Try.prog 12 #[.pointer (some ⟨B, 0, none⟩), .string p] w fun e w' => e = .returned (.tuple #[]) ∧ (∃ vo' vp', Cast w' lo B vo' vp' (outs.filter (keepS p)) (os.filter (keepO p))) ∧ Below lo w w' := by
  have hC1 : Cast (w.alloc (.cells #[.string p] 9)) lo B vo vp outs os := h.below (Nat.le_refl _) ((Below.refl _ _).alloc (Nat.le_refl _) _)
  have hT1 : TagAt (w.alloc (.cells #[.string p] 9)) w.heap.size 9 := ⟨_, heap_alloc_new w _⟩
  have hP1 : (w.alloc (.cells #[.string p] 9)).cell? ⟨w.heap.size, 0, none⟩ = some (.string p) := by simp
  have hB1 : Below lo w (w.alloc (.cells #[.string p] 9)) := (Below.refl _ _).alloc hlo _
  have hV3 := hC1.cell3
  have hd := del26_any lo w.heap.size vo outs p _ hs1 hC1.orow hP1 hT1
  have HD := show Hid _ from hd
  have HC1 := show Hid _ from hC1
  have HT1 := show Hid _ from hT1
  have HP1 := show Hid _ from hP1
  have HB1 := show Hid _ from hB1
  clear hd hC1 hT1 hP1 hB1 h
  go_enter Try.func12, Try.ntmps12
  go_wp2_with fail
  refine Calls.mono HD.out ?_
  rintro e w2 ⟨⟨a2, m2, c2, rfl, hown2, hob2⟩, hg2⟩
  have hneB : vo.ownBlock ≠ some B := ownsRow_ne HC1.out.orow HC1.out.tag (by decide)
  have hneP : vo.ownBlock ≠ some w.heap.size := ownsRow_ne HC1.out.orow HT1.out (by decide)
  have cB : w2.cell? ⟨B, 3, none⟩ = some vo := hg2.cell HC1.out.cell3 (Ne.symm hneB)
  have fB : w2.frozen? ⟨B, 3, none⟩ = false := (World.frozen?_of_block (a := ⟨B, 3, none⟩) (hg2.block B HC1.out.lt (Ne.symm hneB))).trans (HC1.out.frozen 3)
  have hC3 : Cast (w2.setCell ⟨B, 3, none⟩ (.slice a2 m2 c2)) lo B (.slice a2 m2 c2) vp (outs.filter (keepS p)) os := HC1.out.setOut (fun k hk hne => hg2.block k hk hne) hown2
  have hT2 : TagAt w2 w.heap.size 9 := by
    obtain ⟨cs, hcs⟩ := HT1.out
    exact ⟨cs, (hg2.block _ (TagAt.lt HT1.out) (Ne.symm hneP)).trans hcs⟩
  have hTB2 : TagAt w2 B 57 := by
    obtain ⟨cs, hcs⟩ := HC1.out.tag
    exact ⟨cs, (hg2.block _ HC1.out.lt (Ne.symm hneB)).trans hcs⟩
  have hPB : w.heap.size ≠ B := hT2.ne hTB2 (by decide)
  have hT3 : TagAt (w2.setCell ⟨B, 3, none⟩ (.slice a2 m2 c2)) w.heap.size 9 := by
    obtain ⟨cs, hcs⟩ := hT2
    exact ⟨cs, (Below.heap_setCell _ _ _ _ hPB).trans hcs⟩
  have hP3 : (w2.setCell ⟨B, 3, none⟩ (.slice a2 m2 c2)).cell? ⟨w.heap.size, 0, none⟩ = some (.string p) := (World.cell?_of_block (a := ⟨w.heap.size, 0, none⟩) (Below.heap_setCell _ _ _ _ hPB)).trans (hg2.cell HP1.out (Ne.symm hneP))
  have hB3 : Below lo w (w2.setCell ⟨B, 3, none⟩ (.slice a2 m2 c2)) := (HB1.out.grown hg2 (by simp; omega) (fun k e => (HC1.out.orow.lt k e).1)).setCell HC1.out.base _
  have hd := del28_any lo w.heap.size vp os p _ hs2 hC3.prow (fun o ho => (hC3.each o ho).2) hP3 hT3
  have hV5 := hC3.cell5
  have HD2 := show Hid _ from hd
  have HC3 := show Hid _ from hC3
  have HB3 := show Hid _ from hB3
  clear hd hC3 hB3 hT3 hP3 hT2 hTB2 hown2 hg2 HD HC1 HT1 HP1 HB1 hneB hneP
  go_wp2_with fail
  refine Calls.mono HD2.out ?_
  rintro e w4 ⟨⟨a4, m4, c4, rfl, hown4, hob4⟩, hg4⟩
  have hneB : vp.ownBlock ≠ some B := ownsRow_ne HC3.out.prow HC3.out.tag (by decide)
  have cB5 : w4.cell? ⟨B, 5, none⟩ = some vp := hg4.cell HC3.out.cell5 (Ne.symm hneB)
  have fB5 : w4.frozen? ⟨B, 5, none⟩ = false := (World.frozen?_of_block (a := ⟨B, 5, none⟩) (hg4.block B HC3.out.lt (Ne.symm hneB))).trans (HC3.out.frozen 5)
  have hC5 : Cast (w4.setCell ⟨B, 5, none⟩ (.slice a4 m4 c4)) lo B (.slice a2 m2 c2) (.slice a4 m4 c4) (outs.filter (keepS p)) (os.filter (keepO p)) := HC3.out.setOpn (fun k hk hne => hg4.block k hk hne) hown4 (fun o ho => by
    have hm := HC3.out.each o (List.mem_filter.1 ho).1
    exact ⟨hm.1, hm.2.same (hg4.block _ hm.2.tag.lt (Ne.symm (ownsRow_ne HC3.out.prow hm.2.tag (by decide))))⟩)
  have hB5 : Below lo w (w4.setCell ⟨B, 5, none⟩ (.slice a4 m4 c4)) := (HB3.out.grown hg4 (by have := HC3.out.base; have := HC3.out.lt; omega) (fun k e => (HC3.out.prow.lt k e).1)).setCell HC3.out.base _
  have HC5 := show Hid _ from hC5
  have HB5 := show Hid _ from hB5
  clear hC5 hB5 hown4 hg4 HD2 HC3 HB3
  go_wp2
  go_end0
  exact ⟨rfl, ⟨_, _, HC5.out⟩, HB5.out⟩
end Go.Proofs.Qxb6616671a
