/-
  READING A BROADCASTER: opening, ZZopening, ZZopeningAt, ZZopeningPeer, ZZopeningLink, ZZopeningCount.
-/
import Derived.Test.Qxb6616671aKit
import Derived.LaidEqlPtr
namespace Go.Proofs.Qxb6616671a
open Go.RowKit

theorem Try.info67 : (Try.prog.info? 67).isSome = true := by kernel_rfl
/-- A pointer is equal to itself. -/
theorem eq34 (w : World) (a : Addr) : (binOp .eql 34 (.pointer (some a)) (.pointer (some a))).run Try.prog w = .ok (.bool true) w := by
  obtain ⟨j, hj⟩ := Option.isSome_iff_exists.1 Try.info67
  exact run_eql_ptr_same w a Try.underlying34 hj

/-- The pointer to an opening; nil where there is none. -/
def ptrTo : Option Opn → Value
  | none => .pointer none
  | some o => .pointer (some ⟨o.blk, 0, none⟩)

theorem Cast.shape {w : World} {lo B : Nat} {vo vp : Value} {outs : List ByteArray} {os : List Opn} (h : Cast w lo B vo vp outs os) :
    ∃ a cap, vp = .slice a os.length cap ∧ os.length ≤ cap ∧ (a = none → os.length = 0) ∧ ∀ i o, os[i]? = some o → ∃ g, a = some ⟨g, 0, none⟩ ∧ w.cell? ⟨g, i, none⟩ = some (.pointer (some ⟨o.blk, 0, none⟩)) := by
  rcases h.prow.2 with ⟨rfl, h0⟩ | ⟨g, cap, cur, rfl, hg, hh, hnc, hcm, hcs, htake⟩
  · refine ⟨none, 0, by rw [h0], by omega, fun _ => h0, fun i o hi => ?_⟩
    have := (List.getElem?_eq_some_iff.1 hi).1
    omega
  · refine ⟨_, cap, rfl, hnc, by simp, fun i o hi => ⟨g, rfl, ?_⟩⟩
    have := h.prow.cells (g := g) rfl i (.pointer (some ⟨o.blk, 0, none⟩)) (by simp [hi])
    rw [Addr.add_lit, Nat.zero_add] at this
    exact this

theorem find_hit {α : Type} (p : α → Bool) : ∀ (l : List α) (k : Nat) (o : α), l[k]? = some o → p o = true → (∀ j o', j < k → l[j]? = some o' → p o' = false) → l.find? p = some o
  | [], k, o, h, _, _ => by simp at h
  | x :: l, 0, o, h, hp, _ => by
    have : x = o := by simpa using h
    subst this
    simp [hp]
  | x :: l, k + 1, o, h, hp, hn => by
    have hx := hn 0 x (by omega) (by simp)
    rw [List.find?_cons_of_neg (by simp [hx])]
    exact find_hit p l k o (by simpa using h) hp fun j o' hj ho => hn (j + 1) o' (by omega) (by simpa using ho)
theorem find_miss {α : Type} (p : α → Bool) (l : List α) (hn : ∀ j o', j < l.length → l[j]? = some o' → p o' = false) : l.find? p = none := by
  rw [List.find?_eq_none]
  intro x hx
  obtain ⟨j, hj, rfl⟩ := List.getElem_of_mem hx
  simp [hn j _ hj (List.getElem?_eq_getElem hj)]

set_option maxHeartbeats 1000000 in
theorem opening_any (l : Int) (w : World) {lo B : Nat} {vo vp : Value} {outs : List ByteArray} {os : List Opn} (h : Cast w lo B vo vp outs os) (hsm : os.length ≤ 1000000) :
    Calls Try.prog 30 #[.pointer (some ⟨B, 0, none⟩), .int .u64 l] w fun e w' => e = .returned (ptrTo (os.find? (fun o => o.link == l))) ∧ w' = w := by
  have hV := h.cell5
  obtain ⟨a, cap, rfl, hcap, _, hcells⟩ := h.shape
  have HC := show Hid _ from hcells
  clear hcells
  go_enter Try.func30, Try.ntmps30
  go_wp2
  go_loop [6, 12] (fun _ i => ∃ k : Nat, k ≤ os.length ∧ i = .int .i64 k ∧ Hid (∀ j o, j < k → os[j]? = some o → (o.link == l) = false)) (fun _ i => os.length - (intOf i).toNat)
  case atStart => exact ⟨0, Nat.zero_le _, rfl, fun j o hj => absurd hj (Nat.not_lt_zero _)⟩
  case round =>
    obtain ⟨k, hk, rfl, hno⟩ := hrel
    by_cases hlt : k < os.length
    · obtain ⟨o, ho⟩ : ∃ o, os[k]? = some o := ⟨_, List.getElem?_eq_getElem hlt⟩
      obtain ⟨g, rfl, hcell⟩ := HC.out k o ho
      have hl := (h.each o (List.mem_of_getElem? ho)).2.link1
      have HO := show Hid _ from ho
      clear ho
      cases hq : (o.link == l) with
      | true =>
        go_wp2
        go_ret
        exact ⟨by rw [find_hit _ os k o HO.out hq hno.out]; rfl, rfl⟩
      | false =>
        have HQ := show Hid _ from hq
        go_wp2
        go_round
        case rel =>
          refine ⟨k + 1, by omega, by go_num, fun j o' hj ho' => ?_⟩
          by_cases e : j = k
          · subst e
            obtain rfl : o = o' := by have := HO.out.symm.trans ho'; simpa using this
            exact HQ.out
          · exact hno.out j o' (by omega) ho'
        case measure => simp [intOf]; omega
    · have : k = os.length := by omega
      subst this
      go_wp2
      go_ret
      exact ⟨by rw [find_miss _ os hno.out]; rfl, rfl⟩

set_option maxHeartbeats 1000000 in
theorem zzopening_any (l : Int) (w : World) {lo B : Nat} {vo vp : Value} {outs : List ByteArray} {os : List Opn} (h : Cast w lo B vo vp outs os) (hsm : os.length ≤ 1000000) :
    Calls Try.prog 20 #[.pointer (some ⟨B, 0, none⟩), .int .u64 l] w fun e w' => e = .returned (ptrTo (os.find? (fun o => o.link == l))) ∧ w' = w := by
  go_enter Try.func20, Try.ntmps20
  go_wp2_with (go_at_call 30; refine (opening_any l _ h hsm).mono ?_; rintro e w' ⟨rfl, rfl⟩)
  go_ret
  exact ⟨rfl, rfl⟩

set_option maxHeartbeats 1000000 in
theorem at_any (k : Nat) (o : Opn) (w : World) {lo B : Nat} {vo vp : Value} {outs : List ByteArray} {os : List Opn} (h : Cast w lo B vo vp outs os) (ho : os[k]? = some o) :
    Calls Try.prog 16 #[.pointer (some ⟨B, 0, none⟩), .int .i64 k] w fun e w' => e = .returned (.pointer (some ⟨o.blk, 0, none⟩)) ∧ w' = w := by
  have hV := h.cell5
  obtain ⟨a, cap, rfl, hcap, _, hcells⟩ := h.shape
  obtain ⟨g, rfl, hcell⟩ := hcells k o ho
  have hlt := (List.getElem?_eq_some_iff.1 ho).1
  clear hcells ho
  go_enter Try.func16, Try.ntmps16
  go_wp2
  go_ret
  exact ⟨rfl, rfl⟩

theorem at_int (i : Int) (k : Nat) (hik : i = (k : Int)) (o : Opn) (w : World) {lo B : Nat} {vo vp : Value} {outs : List ByteArray} {os : List Opn} (h : Cast w lo B vo vp outs os) (ho : os[k]? = some o) :
    Calls Try.prog 16 #[.pointer (some ⟨B, 0, none⟩), .int .i64 i] w fun e w' => e = .returned (.pointer (some ⟨o.blk, 0, none⟩)) ∧ w' = w := by
  subst hik
  exact at_any k o w h ho

set_option maxHeartbeats 1000000 in
theorem count_any (w : World) {lo B : Nat} {vo vp : Value} {outs : List ByteArray} {os : List Opn} (h : Cast w lo B vo vp outs os) :
    Calls Try.prog 15 #[.pointer (some ⟨B, 0, none⟩)] w fun e w' => e = .returned (.int .i64 os.length) ∧ w' = w := by
  have hV := h.cell5
  obtain ⟨a, cap, rfl, hcap, _, hcells⟩ := h.shape
  clear hcells
  go_enter Try.func15, Try.ntmps15
  go_wp2
  go_ret
  exact ⟨rfl, rfl⟩

set_option maxHeartbeats 1000000 in
theorem peer_any (o : Opn) (w : World) (h : IsOpn w o) :
    Calls Try.prog 17 #[.pointer (some ⟨o.blk, 0, none⟩)] w fun e w' => e = .returned (.string o.peer) ∧ w' = w := by
  have hV := h.peer0
  go_enter Try.func17, Try.ntmps17
  go_wp2
  go_ret
  exact ⟨rfl, rfl⟩

set_option maxHeartbeats 1000000 in
theorem link_any (o : Opn) (w : World) (h : IsOpn w o) :
    Calls Try.prog 18 #[.pointer (some ⟨o.blk, 0, none⟩)] w fun e w' => e = .returned (.int .u64 o.link) ∧ w' = w := by
  have hV := h.link1
  go_enter Try.func18, Try.ntmps18
  go_wp2
  go_ret
  exact ⟨rfl, rfl⟩
end Go.Proofs.Qxb6616671a
