/-
  PLAIN: the first opening with a link; a list with one put in. No Go in sight but the record of an opening.
-/
import Derived.Test.Qxb6616671aLook
namespace Go.Proofs.Qxb6616671a

/-- l with x put in at place k, as far as place j. -/
def insTo {α : Type} (k : Nat) (x : α) (l : List α) (j : Nat) : List α := l.take k ++ [x] ++ (l.take j).drop k

theorem insTo_start {α : Type} (k : Nat) (x : α) (l : List α) : insTo k x l k = l.take k ++ [x] := by
  unfold insTo
  rw [List.drop_of_length_le (by simp; omega), List.append_nil]
theorem insTo_succ {α : Type} (k : Nat) (x d : α) (l : List α) (j : Nat) (hk : k ≤ j) (hj : j < l.length) : insTo k x l (j + 1) = insTo k x l j ++ [l.getD j d] := by
  unfold insTo
  rw [List.take_succ_eq_append_getElem hj, List.drop_append_of_le_length (by simp; omega), List.append_assoc]
  simp [List.getD_eq_getElem?_getD, List.getElem?_eq_getElem hj]
theorem take_snoc {α : Type} (d : α) (l : List α) (j : Nat) (hj : j < l.length) : l.take (j + 1) = l.take j ++ [l.getD j d] := by
  rw [List.take_succ_eq_append_getElem hj]
  simp [List.getD_eq_getElem?_getD, List.getElem?_eq_getElem hj]

section
variable {α : Type} (d x : α) (l : List α) (k : Nat)
theorem insTo_len (hk : k ≤ l.length) : (insTo k x l l.length).length = l.length + 1 := by
  simp [insTo]
  omega
theorem insTo_lt (i : Nat) (hi : i < k) (hk : k ≤ l.length) : (insTo k x l l.length).getD i d = l.getD i d := by
  simp [insTo, List.getD_eq_getElem?_getD]
  rw [List.getElem?_append_left (by simp; omega), List.getElem?_take, if_pos hi]
theorem insTo_eq (hk : k ≤ l.length) : (insTo k x l l.length).getD k d = x := by
  simp [insTo, List.getD_eq_getElem?_getD]
  rw [List.getElem?_append_right (by simp; omega)]
  simp [Nat.min_eq_left hk]
theorem insTo_gt (i : Nat) (hi : k ≤ i) (hk : k ≤ l.length) : (insTo k x l l.length).getD (i + 1) d = l.getD i d := by
  simp [insTo, List.getD_eq_getElem?_getD]
  rw [List.getElem?_append_right (by simp; omega)]
  simp only [List.length_take, Nat.min_eq_left hk]
  rw [show i + 1 - k = (i - k) + 1 by omega, List.getElem?_cons_succ, List.getElem?_drop, show k + (i - k) = i by omega]
end

/-- No number ahead of place m is pr. -/
def NoHit (z : List Int) (pr : Int) (m : Nat) : Prop := ∀ t, t < m → (z.getD t 0 == pr) = false
/-- Place t is the first that holds pr. -/
def FirstAt (z : List Int) (pr : Int) (t : Nat) : Prop := t < z.length ∧ (z.getD t 0 == pr) = true ∧ NoHit z pr t

theorem NoHit.zero (z : List Int) (pr : Int) : NoHit z pr 0 := fun _ ht => absurd ht (Nat.not_lt_zero _)
theorem NoHit.succ {z : List Int} {pr : Int} {m : Nat} (h : NoHit z pr m) (hm : (z.getD m 0 == pr) = false) : NoHit z pr (m + 1) := fun t ht => by
  by_cases e : t = m
  · rw [e]; exact hm
  · exact h t (by omega)

section
variable {z : List Int} {pr li : Int} {k : Nat}
theorem ins_none (hk : k ≤ z.length) (h : NoHit z pr z.length) (hl : (li == pr) = false) : NoHit (insTo k li z z.length) pr (insTo k li z z.length).length := by
  intro t ht
  rw [insTo_len li z k hk] at ht
  rcases Nat.lt_trichotomy t k with h1 | h1 | h1
  · rw [insTo_lt 0 li z k t h1 hk]; exact h t (by omega)
  · rw [h1, insTo_eq 0 li z k hk]; exact hl
  · obtain ⟨i, rfl⟩ : ∃ i, t = i + 1 := ⟨t - 1, by omega⟩
    rw [insTo_gt 0 li z k i (by omega) hk]; exact h i (by omega)
theorem ins_new (hk : k ≤ z.length) (h : NoHit z pr k) (hl : (li == pr) = true) : FirstAt (insTo k li z z.length) pr k := by
  refine ⟨by rw [insTo_len li z k hk]; omega, by rw [insTo_eq 0 li z k hk]; exact hl, fun t ht => ?_⟩
  rw [insTo_lt 0 li z k t ht hk]; exact h t ht
theorem ins_before {t : Nat} (hk : k ≤ z.length) (h : FirstAt z pr t) (ht : t < k) : FirstAt (insTo k li z z.length) pr t := by
  refine ⟨by rw [insTo_len li z k hk]; omega, by rw [insTo_lt 0 li z k t ht hk]; exact h.2.1, fun i hi => ?_⟩
  rw [insTo_lt 0 li z k i (by omega) hk]; exact h.2.2 i hi
theorem ins_behind {t : Nat} (hk : k ≤ z.length) (h : FirstAt z pr t) (ht : k ≤ t) (hl : (li == pr) = false) : FirstAt (insTo k li z z.length) pr (t + 1) := by
  have := h.1
  refine ⟨by rw [insTo_len li z k hk]; omega, by rw [insTo_gt 0 li z k t ht hk]; exact h.2.1, fun i hi => ?_⟩
  rcases Nat.lt_trichotomy i k with h1 | h1 | h1
  · rw [insTo_lt 0 li z k i h1 hk]; exact h.2.2 i (by omega)
  · rw [h1, insTo_eq 0 li z k hk]; exact hl
  · obtain ⟨i', rfl⟩ : ∃ i', i = i' + 1 := ⟨i - 1, by omega⟩
    rw [insTo_gt 0 li z k i' (by omega) hk]; exact h.2.2 i' (by omega)
end

section
variable {os : List Opn} {s : List ByteArray} {z : List Int} {pr : Int}
theorem os_at (hp : os.map Opn.peer = s) (hl : os.map Opn.link = z) (t : Nat) (o : Opn) (ho : os[t]? = some o) : o.peer = s.getD t ByteArray.empty ∧ o.link = z.getD t 0 := by
  subst hp
  subst hl
  simp [List.getD_eq_getElem?_getD, ho]
theorem os_none (hl : os.map Opn.link = z) (h : NoHit z pr z.length) : os.find? (fun o => o.link == pr) = none := by
  refine find_miss _ os fun t o ht ho => ?_
  have e := (os_at rfl hl t o ho).2
  rw [e]
  exact h t (by rw [← hl]; simpa using ht)
theorem os_first (hp : os.map Opn.peer = s) (hl : os.map Opn.link = z) {t : Nat} (h : FirstAt z pr t) : ∃ o, os[t]? = some o ∧ o.peer = s.getD t ByteArray.empty ∧ o.link = pr ∧ os.find? (fun o => o.link == pr) = some o := by
  have ht : t < os.length := by have := h.1; rw [← hl] at this; simpa using this
  have ho : os[t]? = some os[t] := List.getElem?_eq_getElem ht
  obtain ⟨e1, e2⟩ := os_at hp hl t _ ho
  refine ⟨_, ho, e1, by rw [e2]; simpa using h.2.1, find_hit _ os t _ ho (by show (os[t].link == pr) = true; rw [e2]; exact h.2.1) fun j o' hj ho' => ?_⟩
  have := (os_at hp hl j o' ho').2
  rw [this]
  exact h.2.2 j hj
end
end Go.Proofs.Qxb6616671a
