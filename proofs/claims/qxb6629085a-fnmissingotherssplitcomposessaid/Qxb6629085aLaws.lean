/-
  DERIVED. THE PLAIN LAWS OF Missing: what is kept and what is not part the list; the others may be cut in two.
-/
import Derived.Test.Qxb6629085aBytes
namespace Go.Proofs.Qxb6629085a
open Go.RowKit

theorem miss_append (as' bs os : List Mem) : missM (as' ++ bs) os = missM as' os ++ missM bs os := List.filter_append _ _

/-- An element that os lacks comes next. -/
theorem miss_at {ms os : List Mem} {k : Nat} (h : k < ms.length) (e : hasM os (ms.getD k noM) = false) :
    (missM (ms.take k) os).length < (missM ms os).length ∧ (missM ms os).getD (missM (ms.take k) os).length noM = ms.getD k noM ∧ (missM (ms.take (k + 1)) os).length = (missM (ms.take k) os).length + 1 := by
  have h1 : missM ms os = missM (ms.take k) os ++ ([ms.getD k noM] ++ missM (ms.drop (k + 1)) os) := by
    rw [← List.append_assoc, ← miss_keep h e, ← miss_append, List.take_append_drop]
  refine ⟨?_, ?_, ?_⟩
  · rw [h1]; simp only [List.length_append, List.length_cons, List.length_nil]; omega
  · rw [h1, List.getD_eq_getElem?_getD, List.getElem?_append_right (Nat.le_refl _), Nat.sub_self]; rfl
  · rw [miss_keep h e]; simp

theorem mem_miss {ms os : List Mem} {x : Mem} : x ∈ missM ms os ↔ x ∈ ms ∧ hasM os x = false := by
  simp [missM, List.mem_filter]

/-- Of the list's members, kept holds those that os lacks. -/
theorem has_kept {ms os : List Mem} {x : Mem} (h : x ∈ ms) : hasM (missM ms os) x = !hasM os x := by
  cases e : hasM os x
  · exact hasM_iff.2 (mem_miss.2 ⟨h, e⟩)
  · cases e2 : hasM (missM ms os) x
    · rfl
    · have := (mem_miss.1 (hasM_iff.1 e2)).2
      rw [e] at this
      cases this

theorem hasM_append (as' bs : List Mem) (x : Mem) : hasM (as' ++ bs) x = (hasM as' x || hasM bs x) := by simp [hasM, List.any_append]

/-- The others may be cut in two. -/
theorem miss_split (ms os : List Mem) (k : Nat) : missM (missM ms (os.take k)) (os.drop k) = missM ms os := by
  rw [missM, missM, List.filter_filter]
  unfold missM
  congr 1
  funext m
  conv => rhs; rw [← List.take_append_drop k os, hasM_append]
  cases hasM (os.take k) m <;> cases hasM (os.drop k) m <;> rfl

/-! ### Cuts of a slice of members -/
theorem mIn_take {w : World} {a : Option Addr} {K k : Nat} {os : List Mem} (h : MIn w a K os) (hk : k ≤ K) : MIn w a k (os.take k) := fun h0 => by
  obtain ⟨b, off, rfl, hc⟩ := h (by omega)
  refine ⟨b, off, rfl, fun i hi => ?_⟩
  have := hc i (by omega)
  rw [List.getD_eq_getElem?_getD, List.getElem?_take_of_lt hi, ← List.getD_eq_getElem?_getD]
  exact this
theorem getD_dropM (os : List Mem) (k i : Nat) : (os.drop k).getD i noM = os.getD (k + i) noM := by
  rw [List.getD_eq_getElem?_getD, List.getElem?_drop, ← List.getD_eq_getElem?_getD]

end Go.Proofs.Qxb6629085a
