/-
  DERIVED. WHAT THE RANGE OVER THE MAP COLLECTS; what the sort makes of it. No walk in this text.
-/
import Derived.Test.Qxb6629043aMib
import Derived.Sort.Grow
import Derived.Sort.OwnSorted
namespace Go.Proofs.Qxb6629043a
open Go.RowKit Go.Sort

/-- The ids met so far: no id twice; an id is on the list just where the map holds it under c and it is no longer to come. -/
def Coll (c : Int) (D : DataW Unit) (left : Lit → Bool) (ss : List Int) : Prop :=
  ss.Nodup ∧ ∀ i, i ∈ ss ↔ ((Lit.int .u16 i).wf = true ∧ Maps.has D (klit c i) = true ∧ left (klit c i) = false)

theorem Coll.start (c : Int) (D : DataW Unit) : Coll c D (Maps.has D) [] :=
  ⟨List.nodup_nil, fun i => by
    simp only [List.not_mem_nil, false_iff]
    rintro ⟨_, h1, h2⟩
    rw [h1] at h2
    cases h2⟩

theorem Coll.hit {c i : Int} {D : DataW Unit} {left : Lit → Bool} {ss : List Int} (h : Coll c D left ss) (hw : Wf c i) (hl : left (klit c i) = true) (hD : Maps.has D (klit c i) = true) :
    Coll c D (fun z => left z && !z.sameKey (klit c i)) (ss ++ [i]) := by
  refine ⟨?_, fun j => ?_⟩
  · rw [List.nodup_append]
    refine ⟨h.1, by simp, fun a ha b hb => ?_⟩
    simp only [List.mem_singleton] at hb
    subst hb
    rintro rfl
    have := ((h.2 a).1 ha).2.2
    rw [hl] at this
    cases this
  · rw [List.mem_append, h.2 j, List.mem_singleton]
    constructor
    · rintro (⟨h1, h2, h3⟩ | rfl)
      · exact ⟨h1, h2, by simp [h3]⟩
      · exact ⟨hw.2, hD, by show (left _ && !(klit c j).sameKey (klit c j)) = false; rw [same_klit hw hw]; simp⟩
    · rintro ⟨h1, h2, h3⟩
      by_cases e : j = i
      · exact Or.inr e
      · refine Or.inl ⟨h1, h2, ?_⟩
        have hj : Wf c j := ⟨hw.1, h1⟩
        replace h3 : (left (klit c j) && !(klit c j).sameKey (klit c i)) = false := h3
        rw [same_klit hj hw] at h3
        simpa [e] using h3

theorem Coll.miss {c c' i : Int} {D : DataW Unit} {left : Lit → Bool} {ss : List Int} (h : Coll c D left ss) (hc : (Lit.int .u16 c).wf = true) (hw : Wf c' i) (hne : c ≠ c') :
    Coll c D (fun z => left z && !z.sameKey (klit c' i)) ss := by
  refine ⟨h.1, fun j => ?_⟩
  rw [h.2 j]
  constructor
  · rintro ⟨h1, h2, h3⟩
    exact ⟨h1, h2, by simp [h3]⟩
  · rintro ⟨h1, h2, h3⟩
    refine ⟨h1, h2, ?_⟩
    replace h3 : (left (klit c j) && !(klit c j).sameKey (klit c' i)) = false := h3
    rw [same_klit ⟨hc, h1⟩ hw] at h3
    simpa [hne] using h3

/-- THE SORTED LIST OF THE IDS OF CLASS c: what Instances hands back. -/
def Ids (S : Int → Int → Bool) (c : Int) (ts : List Int) : Prop :=
  ts.Pairwise (· < ·) ∧ ∀ i, i ∈ ts ↔ ((Lit.int .u16 i).wf = true ∧ S c i = true)

theorem Coll.ids {c : Int} {D : DataW Unit} {left : Lit → Bool} {ss : List Int} {S : Int → Int → Bool} (h : Coll c D left ss) (hc : (Lit.int .u16 c).wf = true) (hl : ∀ kl, left kl = false) (hS : ∀ c i, Wf c i → Maps.has D (klit c i) = S c i) :
    Ids S c (ss.mergeSort fun x y => decide (x ≤ y)) := by
  have hp : (ss.mergeSort fun x y => decide (x ≤ y)).Perm ss := List.mergeSort_perm _ _
  have hs : (ss.mergeSort fun x y => decide (x ≤ y)).Pairwise (fun x y => decide (x ≤ y) = true) :=
    List.pairwise_mergeSort (fun a b c h1 h2 => by simp only [decide_eq_true_eq] at *; omega) (fun a b => by simp only [Bool.or_eq_true, decide_eq_true_eq]; omega) ss
  have hn : (ss.mergeSort fun x y => decide (x ≤ y)).Nodup := hp.nodup_iff.2 h.1
  refine ⟨?_, fun i => ?_⟩
  · refine List.pairwise_iff_getElem.2 fun i j hi hj hij => ?_
    have h1 := List.pairwise_iff_getElem.1 hs i j hi hj hij
    have h2 := List.pairwise_iff_getElem.1 hn i j hi hj hij
    simp only [decide_eq_true_eq] at h1
    omega
  · rw [hp.mem_iff, h.2 i]
    constructor
    · rintro ⟨h1, h2, _⟩; exact ⟨h1, by rw [← hS c i ⟨hc, h1⟩]; exact h2⟩
    · rintro ⟨h1, h2⟩; exact ⟨h1, by rw [hS c i ⟨hc, h1⟩]; exact h2, hl _⟩

/-! ### The row behind the sort -/
theorem holds_of_blockU {w : World} {g : Nat} {cur : Array Value} {e : TypeId} {ss : List Int} (hb : w.heap[g]? = some (.cells cur e (0, 0))) (ht : cur.toList.take ss.length = ss.map (Value.int .u16)) : Holds (Value.int .u16) w g 0 ss.toArray := by
  intro j hj
  have hj' : j < ss.length := by simpa using hj
  refine ⟨?_, by simp [World.frozen?, hb]⟩
  have h1 : (cur.toList.take ss.length)[j]? = (ss.map (Value.int .u16))[j]? := by rw [ht]
  rw [List.getElem?_take_of_lt hj'] at h1
  simp only [World.cell?, hb, Nat.zero_add]
  simp only [Option.isSome_none, Bool.false_eq_true, if_false]
  rw [← Array.getElem?_toList, h1]
  simp [hj']

theorem grownBy_sortedU {w : World} {g n : Nat} {os : Array Obj} (d : Array Int) : w.grownBy (grow (putRow (Value.int .u16) (Sort.ahead w n) g 0 d) os) (some g) := by
  refine ⟨rfl, rfl, rfl, by simp, fun k hk hne => ?_⟩
  rw [heap_grow_old _ _ (by simpa using hk)]
  have : g ≠ k := fun e => hne (by rw [e])
  simp [putRow, mapBlock, Sort.ahead, Array.getElem?_modify, this]

theorem cell_sortedU {w : World} {g n : Nat} {os : Array Obj} {ss ts : List Int} (hH : Holds (Value.int .u16) w g 0 ss.toArray) (hg : g < w.heap.size) (hl : ts.length = ss.length) (j : Nat) (hj : j < ts.length) :
    (grow (putRow (Value.int .u16) (Sort.ahead w n) g 0 ts.toArray) os).cell? ⟨g, j, none⟩ = some (.int .u16 (ts.getD j 0)) := by
  rw [cell?_grow _ _ _ (by simpa using hg)]
  have := cell?_putRow (Value.int .u16) (Sort.ahead w n) g 0 ss.toArray ts.toArray (holds_ahead _ _ _ _ _ _ hH) (by simp [hl]) j (by simpa using hj)
  rw [Nat.zero_add] at this
  rw [this]
  simp [List.getD, hj]

end Go.Proofs.Qxb6629043a
