/-
  PLAIN: what count says of a number; a decimal numeral read back. No Go in sight.
-/
import Derived.Lib.ItoaMem
namespace Go.Proofs.Qxb6617647aDoor
open Go.Lib

/-- The words for 0 .. 9. -/
def word : Nat → List UInt8
  | 0 => [122, 101, 114, 111]
  | 1 => [111, 110, 101]
  | 2 => [116, 119, 111]
  | 3 => [116, 104, 114, 101, 101]
  | 4 => [102, 111, 117, 114]
  | 5 => [102, 105, 118, 101]
  | 6 => [115, 105, 120]
  | 7 => [115, 101, 118, 101, 110]
  | 8 => [101, 105, 103, 104, 116]
  | _ => [110, 105, 110, 101]

/-- What count hands back. -/
def cnt (n : Int) : List UInt8 := if 0 ≤ n ∧ n < 10 then word n.toNat else itoa n

/-- A numeral's value, read from the left. -/
def val (l : List UInt8) : Nat := l.foldl (fun m c => m * 10 + (c.toNat - 48)) 0

theorem val_snoc (l : List UInt8) (c : UInt8) : val (l ++ [c]) = val l * 10 + (c.toNat - 48) := by simp [val]

theorem digit_toNat (d : Nat) (h : d < 10) : (UInt8.ofNat (48 + d)).toNat = 48 + d := by
  simp [UInt8.toNat_ofNat]
  omega

/-- Each byte is a digit; the value is u; the first is no '0' where u is not 0; there is one. -/
theorem dec_facts (u : Nat) : (∀ c ∈ decDigits u, 48 ≤ c.toNat ∧ c.toNat ≤ 57) ∧ val (decDigits u) = u ∧ (1 ≤ u → ∃ c r, decDigits u = c :: r ∧ 49 ≤ c.toNat) ∧ decDigits u ≠ [] := by
  induction u using Nat.strongRecOn with
  | _ u ih =>
    by_cases h : u < 10
    · rw [decDigits, dif_pos h]
      have := digit_toNat u h
      refine ⟨fun c hc => ?_, ?_, fun h1 => ⟨_, _, rfl, by omega⟩, by simp⟩
      · obtain rfl : c = UInt8.ofNat (48 + u) := List.mem_singleton.1 hc
        omega
      · simp only [val, List.foldl_cons, List.foldl_nil]
        omega
    · rw [decDigits, dif_neg h]
      obtain ⟨i1, i2, i3, i4⟩ := ih (u / 10) (by omega)
      have := digit_toNat (u % 10) (by omega)
      refine ⟨fun c hc => ?_, ?_, fun _ => ?_, by simp⟩
      · rcases List.mem_append.1 hc with hc | hc
        · exact i1 c hc
        · obtain rfl : c = UInt8.ofNat (48 + u % 10) := List.mem_singleton.1 hc
          omega
      · rw [val_snoc, i2, this]
        omega
      · obtain ⟨c, r, e, hc⟩ := i3 (by omega)
        exact ⟨c, r ++ [UInt8.ofNat (48 + u % 10)], by rw [e]; rfl, hc⟩

theorem dec_inj {a b : Nat} (h : decDigits a = decDigits b) : a = b := by
  have h1 := (dec_facts a).2.1
  have h2 := (dec_facts b).2.1
  rw [h] at h1
  omega

/-- The value of the first k bytes is no greater than the whole's. -/
theorem val_take (l : List UInt8) (k : Nat) : val (l.take k) ≤ val l := by
  suffices h : ∀ (r : List UInt8) (m : Nat), m ≤ r.foldl (fun m c => m * 10 + (c.toNat - 48)) m by
    have e : val l = (l.drop k).foldl (fun m c => m * 10 + (c.toNat - 48)) (val (l.take k)) := by
      unfold val
      rw [← List.foldl_append, List.take_append_drop]
    rw [e]
    exact h _ _
  intro r
  induction r with
  | nil => intro m; exact Nat.le_refl _
  | cons c r ih =>
    intro m
    simp only [List.foldl_cons]
    have := ih (m * 10 + (c.toNat - 48))
    omega

/-- A word is no numeral: its first byte is a letter. -/
theorem word_head (k : Nat) : ∃ c r, word k = c :: r ∧ 97 ≤ c.toNat := by
  unfold word
  split <;> exact ⟨_, _, rfl, by decide⟩
theorem itoa_head (n : Int) : ∃ c r, itoa n = c :: r ∧ c.toNat ≤ 57 := by
  unfold itoa
  split
  · exact ⟨_, _, rfl, by decide⟩
  · obtain ⟨h1, _, _, h4⟩ := dec_facts n.toNat
    cases e : decDigits n.toNat with
    | nil => exact absurd e h4
    | cons c r => exact ⟨c, r, rfl, (h1 c (by rw [e]; simp)).2⟩
theorem word_ne_itoa (k : Nat) (n : Int) : word k ≠ itoa n := by
  obtain ⟨c, r, e, h⟩ := word_head k
  obtain ⟨c', r', e', h'⟩ := itoa_head n
  rw [e, e']
  intro he
  obtain ⟨rfl, _⟩ := List.cons.inj he
  omega
theorem word_inj {a b : Nat} (ha : a < 10) (hb : b < 10) (h : word a = word b) : a = b := by
  have hd : ∀ a, a < 10 → ∀ b, b < 10 → word a = word b → a = b := by decide
  exact hd a ha b hb h
theorem itoa_inj {a b : Int} (h : itoa a = itoa b) : a = b := by
  unfold itoa at h
  have hpos : ∀ u : Nat, ∀ l, decDigits u ≠ 45 :: l := fun u l e => by
    have := ((dec_facts u).1 45 (by rw [e]; simp)).1
    simp at this
  split at h
  · split at h
    · have := dec_inj (List.cons.inj h).2
      omega
    · exact absurd h.symm (hpos _ _)
  · split at h
    · exact absurd h (hpos _ _)
    · have := dec_inj h
      omega
theorem cnt_inj {a b : Int} (h : cnt a = cnt b) : a = b := by
  unfold cnt at h
  split at h
  · rename_i ha
    split at h
    · rename_i hb
      have := word_inj (by omega) (by omega) h
      omega
    · exact absurd h (word_ne_itoa _ _)
  · split at h
    · exact absurd h.symm (word_ne_itoa _ _)
    · exact itoa_inj h
theorem cnt_neg (a : Int) (h : 10 ≤ a) : cnt (-a) = 45 :: cnt a := by
  unfold cnt
  rw [if_neg (by omega), if_neg (by omega)]
  unfold itoa
  rw [if_pos (by omega), if_neg (by omega)]
  congr 2
  omega
end Go.Proofs.Qxb6617647aDoor
