/-
  DERIVED. mergeOne, sameU16: the plain functions and the walks.
-/
import Derived.Test.Qxb6629043aLawA
import Derived.Deep.QuietTactic
import Derived.BigQuiet
namespace Go.Proofs.Qxb6629043a
open Go.RowKit

/-! ### The plain part -/
/-- x laid into its place, or nothing where it stands there. -/
def merged (x : Int) : List Int → List Int
  | [] => [x]
  | v :: r => if x ≤ v then (if x < v then x :: v :: r else v :: r) else v :: merged x r

theorem mem_merged (x i : Int) : ∀ ts : List Int, i ∈ merged x ts ↔ i = x ∨ i ∈ ts
  | [] => by simp [merged]
  | v :: r => by
    unfold merged
    split
    · split
      · simp
      · have : x = v := by omega
        subst this
        simp
    · rw [List.mem_cons, mem_merged x i r, List.mem_cons]
      constructor
      · rintro (h | h | h)
        · exact Or.inr (Or.inl h)
        · exact Or.inl h
        · exact Or.inr (Or.inr h)
      · rintro (h | h | h)
        · exact Or.inr (Or.inl h)
        · exact Or.inl h
        · exact Or.inr (Or.inr h)

theorem merged_sorted (x : Int) : ∀ ts : List Int, ts.Pairwise (· < ·) → (merged x ts).Pairwise (· < ·)
  | [], _ => by simp [merged]
  | v :: r, h => by
    obtain ⟨h1, h2⟩ := List.pairwise_cons.1 h
    unfold merged
    split
    · split
      · refine List.pairwise_cons.2 ⟨fun y hy => ?_, h⟩
        rcases List.mem_cons.1 hy with rfl | hy
        · assumption
        · have := h1 y hy
          omega
      · exact h
    · refine List.pairwise_cons.2 ⟨fun y hy => ?_, merged_sorted x r h2⟩
      rcases (mem_merged x y r).1 hy with rfl | hy
      · omega
      · exact h1 y hy

theorem length_merged (x : Int) : ∀ ts : List Int, (merged x ts).length ≤ ts.length + 1
  | [] => by simp [merged]
  | v :: r => by
    unfold merged
    have := length_merged x r
    split
    · split <;> simp
    · simp; omega

/-- Strictly rising lists of the same members are one. -/
theorem rising_unique : ∀ l1 l2 : List Int, l1.Pairwise (· < ·) → l2.Pairwise (· < ·) → (∀ i, i ∈ l1 ↔ i ∈ l2) → l1 = l2
  | [], [], _, _, _ => rfl
  | [], b :: l2, _, _, h => by have := (h b).2 (by simp); simp at this
  | a :: l1, [], _, _, h => by have := (h a).1 (by simp); simp at this
  | a :: l1, b :: l2, h1, h2, h => by
    obtain ⟨p1, q1⟩ := List.pairwise_cons.1 h1
    obtain ⟨p2, q2⟩ := List.pairwise_cons.1 h2
    have hab : a = b := by
      rcases List.mem_cons.1 ((h a).1 (by simp)) with e | e
      · exact e
      · rcases List.mem_cons.1 ((h b).2 (by simp)) with e' | e'
        · exact e'.symm
        · have := p2 a e
          have := p1 b e'
          omega
    subst hab
    congr 1
    refine rising_unique l1 l2 q1 q2 fun i => ?_
    have hi := h i
    rw [List.mem_cons, List.mem_cons] at hi
    constructor
    · intro hm
      rcases hi.1 (Or.inr hm) with e | e
      · have := p1 i hm
        omega
      · exact e
    · intro hm
      rcases hi.2 (Or.inr hm) with e | e
      · have := p2 i hm
        omega
      · exact e

theorem ids_unique {S S' : Int → Int → Bool} {c c' : Int} {ts us : List Int} (h : Ids S c ts) (h' : Ids S' c' us) (e : ∀ i, S c i = S' c' i) : ts = us :=
  rising_unique ts us h.1 h'.1 fun i => by rw [h.2 i, h'.2 i, e i]

theorem ids_merged {S : Int → Int → Bool} {c x : Int} {ts : List Int} (h : Ids S c ts) (hx : (Lit.int .u16 x).wf = true) : Ids (addS S c x) c (merged x ts) := by
  refine ⟨merged_sorted x ts h.1, fun i => ?_⟩
  rw [mem_merged, h.2 i]
  unfold addS
  constructor
  · rintro (rfl | ⟨h1, h2⟩)
    · exact ⟨hx, by simp⟩
    · exact ⟨h1, by simp [h2]⟩
  · rintro ⟨h1, h2⟩
    by_cases e : i = x
    · exact Or.inl e
    · exact Or.inr ⟨h1, by simpa [e] using h2⟩

/-- The loop's state: k elements are read; whether x has been placed; what has been laid out. -/
def Mg (x : Int) (ts : List Int) (k : Nat) (p : Bool) (out : List Int) : Prop :=
  out.length ≤ k + 1 ∧ (p = true → out ++ ts.drop k = merged x ts) ∧ (p = false → out.length ≤ k ∧ out ++ merged x (ts.drop k) = merged x ts)

theorem Mg.start (x : Int) (ts : List Int) : Mg x ts 0 false [] := ⟨by simp, (fun h => by cases h), fun _ => ⟨by simp, by simp⟩⟩

theorem drop_at {ts : List Int} {k : Nat} (h : k < ts.length) : ts.drop k = ts.getD k 0 :: ts.drop (k + 1) := by
  rw [List.drop_eq_getElem_cons h, List.getD_eq_getElem?_getD, List.getElem?_eq_getElem h]
  rfl

theorem Mg.past {x V : Int} {ts out : List Int} {k : Nat} (h : Mg x ts k true out) (hk : k < ts.length) (hV : V = ts.getD k 0) : Mg x ts (k + 1) true (out ++ [V]) := by
  refine ⟨by have := h.1; simp; omega, fun _ => ?_, fun h => by cases h⟩
  rw [← h.2.1 rfl, drop_at hk, hV]; simp

theorem Mg.less {x V : Int} {ts out : List Int} {k : Nat} (h : Mg x ts k false out) (hk : k < ts.length) (hV : V = ts.getD k 0) (hx : ¬ x ≤ V) : Mg x ts (k + 1) false (out ++ [V]) := by
  obtain ⟨hl, he⟩ := h.2.2 rfl
  refine ⟨by simp; omega, (fun h => by cases h), fun _ => ⟨by simp; omega, ?_⟩⟩
  rw [← he, drop_at hk]
  conv => rhs; rw [merged]
  rw [← hV, if_neg hx]; simp

theorem Mg.here {x V : Int} {ts out : List Int} {k : Nat} (h : Mg x ts k false out) (hk : k < ts.length) (hV : V = ts.getD k 0) (hx : x < V) : Mg x ts (k + 1) true (out ++ [x] ++ [V]) := by
  obtain ⟨hl, he⟩ := h.2.2 rfl
  refine ⟨by simp; omega, fun _ => ?_, fun h => by cases h⟩
  rw [← he, drop_at hk]
  conv => rhs; rw [merged]
  rw [← hV, if_pos (by omega), if_pos hx]; simp

theorem Mg.same {x V : Int} {ts out : List Int} {k : Nat} (h : Mg x ts k false out) (hk : k < ts.length) (hV : V = ts.getD k 0) (hx : x = V) : Mg x ts (k + 1) true (out ++ [V]) := by
  obtain ⟨hl, he⟩ := h.2.2 rfl
  refine ⟨by simp; omega, fun _ => ?_, fun h => by cases h⟩
  rw [← he, drop_at hk]
  conv => rhs; rw [merged]
  rw [← hV, if_pos (by omega), if_neg (by omega)]; simp

theorem Mg.done {x : Int} {ts out : List Int} (h : Mg x ts ts.length true out) : out = merged x ts := by
  have := h.2.1 rfl
  rwa [List.drop_length, List.append_nil] at this
theorem Mg.last {x : Int} {ts out : List Int} (h : Mg x ts ts.length false out) : out ++ [x] = merged x ts := by
  have := (h.2.2 rfl).2
  rwa [List.drop_length] at this

/-! ### A slice that the call has built -/
theorem inRow_of_owns {w : World} {B : Nat} {v : Value} {out : List Int} (h : w.ownsRow B 23 1 v out.length (out.map (Value.int .u16))) (hw : ∀ i ∈ out, (Lit.int .u16 i).wf = true) :
    ∃ a cap, v = .slice a out.length cap ∧ InRow w a out.length out := by
  rcases h.2 with ⟨rfl, h0⟩ | ⟨g, cap, cur, rfl, _⟩
  · refine ⟨none, 0, by rw [h0], fun hp => by omega, fun i hi => hw _ (getD_mem hi)⟩
  · refine ⟨_, cap, rfl, fun _ => ⟨g, 0, rfl, fun i hi => ?_⟩, fun i hi => hw _ (getD_mem hi)⟩
    have := h.cellAt i (by omega)
    rw [Nat.zero_add, this]
    simp [List.getD, List.getElem?_eq_getElem hi]

/-- 'out = append(out, y)' onto a slice of uint16 of the call's own. -/
theorem append_u {w : World} {ops : Array Oper} {rest : List Oper} {o : Oper} {a : Act} {Q : Exit → Act → World → Prop} (hg : o.guard = none) (s x : Operand)
    (ho : o.op = .call { callee := .builtin .append, args := #[s, x], argTypes := #[22, 22] }) (B : Nat) (v : Value) (out : List Int) (hs : a.eval s = v)
    (hown : w.ownsRow B 23 1 v out.length (out.map (Value.int .u16))) (g : Nat) (y : Int) (hx : a.eval x = .slice (some ⟨g, 0, none⟩) 1 1)
    (hnews : ∀ j u, [Value.int .u16 y][j]? = some u → w.cell? ((⟨g, 0, none⟩ : Addr).add j) = some u) (hlen : out.length ≤ 2000000) (hB : B ≤ w.heap.size)
    (h : ∀ v' w', w'.ownsRow B 23 1 v' (out ++ [y]).length ((out ++ [y]).map (Value.int .u16)) → w.grownBy w' v.ownBlock → wpList Try.prog ops Q rest (a.put o.dst v') w') :
    wpList Try.prog ops Q (o :: rest) a w := by
  obtain ⟨i0, hi, hz0, hz1, hz2⟩ := info_parts info23
  refine wpList_append_own w hg s x 22 ho B 23 i0 (.int .u16 0) 1 2 Try.underlying22 hi hz0 hz1 hz2 rfl (by decide) v out.length (out.map (Value.int .u16)) hs hown ⟨g, 0, none⟩ 1 1 [.int .u16 y] hx rfl hnews
    (fun u hu => by simp at hu; subst hu; rfl) (by unfold maxLen; omega) (by omega) hB fun v' w' h1 h2 _ => h v' w' ?_ h2
  simpa using h1

end Go.Proofs.Qxb6629043a
