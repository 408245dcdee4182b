/-
  PLAIN: the first opening with a link whose peer is not p.
-/
import Derived.Test.Qxb6616671aFind
import Derived.Test.Qxb6616671aPart
namespace Go.Proofs.Qxb6616671a

/-- Does place t hold link pr and another peer than p? -/
def hitJ (s : List ByteArray) (z : List Int) (p : ByteArray) (pr : Int) (t : Nat) : Bool := (z.getD t 0 == pr) && !isP p (s.getD t ByteArray.empty)
def NoJ (s : List ByteArray) (z : List Int) (p : ByteArray) (pr : Int) (m : Nat) : Prop := ∀ t, t < m → hitJ s z p pr t = false
def FirstJ (s : List ByteArray) (z : List Int) (p : ByteArray) (pr : Int) (t : Nat) : Prop := t < z.length ∧ hitJ s z p pr t = true ∧ NoJ s z p pr t

section
variable {s : List ByteArray} {z : List Int} {p : ByteArray} {pr : Int} {m : Nat}
theorem NoJ.zero : NoJ s z p pr 0 := fun _ ht => absurd ht (Nat.not_lt_zero _)
theorem NoJ.succ (h : NoJ s z p pr m) (hm : hitJ s z p pr m = false) : NoJ s z p pr (m + 1) := fun t ht => by
  by_cases e : t = m
  · rw [e]; exact hm
  · exact h t (by omega)
theorem noJ_of_noHit (h : NoHit z pr m) : NoJ s z p pr m := fun t ht => by unfold hitJ; rw [h t ht]; rfl

variable {os : List Opn}
theorem filter_find (l : List Opn) (q : Opn → Bool) : (l.filter (keepO p)).find? q = l.find? (fun o => keepO p o && q o) := by
  induction l with
  | nil => rfl
  | cons x l ih =>
    cases hk : keepO p x with
    | true =>
      rw [List.filter_cons_of_pos hk, List.find?_cons, List.find?_cons, ih, hk, Bool.true_and]
    | false =>
      rw [List.filter_cons_of_neg (by simp [hk]), List.find?_cons, ih, hk]
      simp
theorem osJ_none (hp : os.map Opn.peer = s) (hl : os.map Opn.link = z) (h : NoJ s z p pr z.length) : (os.filter (keepO p)).find? (fun o => o.link == pr) = none := by
  rw [filter_find]
  refine find_miss _ os fun t o ht ho => ?_
  have e := os_at hp hl t o ho
  have := h t (by rw [← hl]; simpa using ht)
  unfold hitJ at this
  rw [← e.1, ← e.2] at this
  rw [Bool.and_comm]
  exact this
theorem osJ_first (hp : os.map Opn.peer = s) (hl : os.map Opn.link = z) {t : Nat} (h : FirstJ s z p pr t) :
    ∃ o, os[t]? = some o ∧ o.peer = s.getD t ByteArray.empty ∧ o.link = pr ∧ keepO p o = true ∧ (os.filter (keepO p)).find? (fun o => o.link == pr) = some o := by
  have ht : t < os.length := by have := h.1; rw [← hl] at this; simpa using this
  have ho : os[t]? = some os[t] := List.getElem?_eq_getElem ht
  obtain ⟨e1, e2⟩ := os_at hp hl t _ ho
  have hh := h.2.1
  unfold hitJ at hh
  rw [Bool.and_eq_true] at hh
  have hk : keepO p os[t] = true := by unfold keepO; rw [e1]; exact hh.2
  refine ⟨_, ho, e1, by rw [e2]; simpa using hh.1, hk, ?_⟩
  rw [filter_find]
  refine find_hit _ os t _ ho (by simp only [hk, Bool.true_and]; rw [e2]; exact hh.1) fun j o' hj ho' => ?_
  have e := os_at hp hl j o' ho'
  have := h.2.2 j hj
  unfold hitJ at this
  rw [← e.1, ← e.2] at this
  rw [Bool.and_comm]
  exact this
end
end Go.Proofs.Qxb6616671a
