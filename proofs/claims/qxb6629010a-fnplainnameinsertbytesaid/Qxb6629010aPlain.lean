/-
  DERIVED. THE PLAIN LAWS OF PlainName: no program in sight.
-/
import Derived.Laws.RangeAny
namespace Go.Proofs.Qxb6629010a.Plain

def clN (n : Nat) : Bool := n != 47 && (decide (32 ≤ n) && n != 127)
def cleanL (l : List UInt8) : Bool := l.all fun c => clN c.toNat
def specL (l : List UInt8) : Bool := l == [] || (l == [46] || l == [46, 46])
def plainL (l : List UInt8) : Bool := !specL l && cleanL l

theorem clN_true {n : Nat} : clN n = true ↔ n ≠ 47 ∧ 32 ≤ n ∧ n ≠ 127 := by simp [clN]
theorem clN_false {n : Nat} : clN n = false ↔ n = 47 ∨ n < 32 ∨ n = 127 := by
  have := @clN_true n
  cases h : clN n
  · simp only [true_iff]
    rw [h] at this
    simp at this
    omega
  · simp only [Bool.true_eq_false, false_iff]
    have := this.1 h
    omega

theorem clean_append (a b : List UInt8) : cleanL (a ++ b) = (cleanL a && cleanL b) := by simp [cleanL]
theorem clean_one : cleanL [95] = true := by decide
theorem clean_cons (c : UInt8) (l : List UInt8) : cleanL (c :: l) = (clN c.toNat && cleanL l) := by simp [cleanL]

theorem spec_mem {l : List UInt8} (h : specL l = true) : ∀ c ∈ l, c = 46 := by
  simp only [specL, Bool.or_eq_true, beq_iff_eq] at h
  rcases h with rfl | rfl | rfl <;> simp

theorem not_spec {l : List UInt8} (h : (95 : UInt8) ∈ l) : specL l = false := by
  cases e : specL l
  · rfl
  · have := spec_mem e 95 h
    exact absurd this (by decide)

theorem left_eq (a : List UInt8) : plainL (a ++ [95]) = cleanL a := by
  simp [plainL, not_spec (l := a ++ [95]) (by simp), clean_append, clean_one]
theorem right_eq (b : List UInt8) : plainL ([95] ++ b) = cleanL b := by
  rw [plainL, not_spec (l := [95] ++ b) (by simp), clean_append, clean_one]; simp
theorem base_eq (a b : List UInt8) : plainL (a ++ [95] ++ b) = (cleanL a && cleanL b) := by
  rw [plainL, not_spec (l := a ++ [95] ++ b) (by simp), clean_append, clean_append, clean_one]; simp

theorem whole_eq (a b : List UInt8) : plainL (a ++ b) = (!specL (a ++ b) && (cleanL a && cleanL b)) := by
  rw [plainL, clean_append]

theorem insert_eq (a b : List UInt8) (c : UInt8) : plainL (a ++ [c] ++ b) = (!specL (a ++ [c] ++ b) && (clN c.toNat && (cleanL a && cleanL b))) := by
  rw [plainL, clean_append, clean_append, clean_cons, show cleanL [] = true from rfl]
  cases cleanL a <;> cases cleanL b <;> cases clN c.toNat <;> simp

/-! ### A range over a string meets the bytes of value below 128 one by one, and passes over the others. -/
def cleanFrom (s : ByteArray) (pos : Nat) : Bool := cleanL (s.data.toList.drop pos)

theorem clean_step (s : ByteArray) (pos : Nat) (h : pos < s.size) : cleanFrom s pos = (clN (s[pos]'h).toNat && cleanFrom s (pos + 1)) := by
  unfold cleanFrom
  have hl : pos < s.data.toList.length := by simpa using h
  rw [List.drop_eq_getElem_cons hl, clean_cons]
  rfl
theorem clean_end (s : ByteArray) (pos : Nat) (h : ¬ pos < s.size) : cleanFrom s pos = true := by
  unfold cleanFrom
  rw [List.drop_eq_nil_of_le (by simpa using h)]
  rfl
theorem clean_zero (s : ByteArray) : cleanFrom s 0 = cleanL s.data.toList := rfl

/-- Bytes of 128 and more are passed over. -/
theorem clean_run (s : ByteArray) (pos k : Nat) (h : ∀ j, j < k → ∃ hj : pos + j < s.size, 128 ≤ (s[pos + j]'hj).toNat) : cleanFrom s pos = cleanFrom s (pos + k) := by
  induction k with
  | zero => rfl
  | succ k ih =>
    rw [ih fun j hj => h j (by omega)]
    obtain ⟨hj, hb⟩ := h k (by omega)
    rw [clean_step s (pos + k) hj, clN_true.2 (by omega)]
    simp [Nat.add_assoc]

theorem get_get (s : ByteArray) (p : Nat) (h : p < s.size) : s.get! p = s[p]'h := by
  simp [ByteArray.get!, getElem!_pos, h]
  rfl

/-- A step at a byte of 128 or more: every byte that it eats is such a one. -/
theorem decode_eats (s : ByteArray) (pos : Nat) (h : pos < s.size) (ha : 128 ≤ (s[pos]'h).toNat) :
    ∀ j, j < (Utf8.decode s pos).2 → ∃ hj : pos + j < s.size, 128 ≤ (s[pos + j]'hj).toNat := by
  have one : ∀ k, (pos + k < s.size ∧ (s.get! (pos + k)).toNat / 64 = 2) → ∃ hj : pos + k < s.size, 128 ≤ (s[pos + k]'hj).toNat := by
    rintro k ⟨hk, e⟩
    rw [get_get s _ hk] at e
    exact ⟨hk, by omega⟩
  have zero : ∃ hj : pos + 0 < s.size, 128 ≤ (s[pos + 0]'hj).toNat := ⟨h, ha⟩
  have hn : ¬ (s[pos]'h).toNat < 128 := by omega
  simp only [Utf8.decode, get_at s pos h, hn, if_false]
  repeat' split
  all_goals
    intro j hj
    simp only [Bool.and_eq_true, decide_eq_true_eq, beq_iff_eq] at *
    match j, hj with
    | 0, _ => exact zero
    | 1, hj => first | (exfalso; omega) | exact one 1 (by omega)
    | 2, hj => first | (exfalso; omega) | exact one 2 (by omega)
    | 3, hj => first | (exfalso; omega) | exact one 3 (by omega)
    | j + 4, hj => exfalso; omega

/-- ONE STEP OF THE RANGE. -/
theorem range_step (s : ByteArray) (pos : Nat) (h : pos < s.size) :
    cleanFrom s pos = (clN (Utf8.decode s pos).1 && cleanFrom s (pos + (Utf8.decode s pos).2)) := by
  by_cases ha : (s[pos]'h).toNat < 128
  · rw [decode_ascii s pos h ha]
    exact clean_step s pos h
  · have hh := decode_high s pos h (by omega)
    rw [clean_run s pos _ (decode_eats s pos h (by omega)), clN_true.2 (by omega)]
    simp
theorem width_pos (s : ByteArray) (pos : Nat) (h : pos < s.size) : 1 ≤ (Utf8.decode s pos).2 := by
  by_cases ha : (s[pos]'h).toNat < 128
  · rw [decode_ascii s pos h ha]
    exact Nat.le_refl _
  · exact (decode_high s pos h (by omega)).2

end Go.Proofs.Qxb6629010a.Plain
