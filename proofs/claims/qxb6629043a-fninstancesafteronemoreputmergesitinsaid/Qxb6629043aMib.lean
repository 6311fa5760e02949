/-
  DERIVED. ZZnewMIB, ZZput: the MIB as a set of pairs.
-/
import Derived.Test.Qxb6629043aKeys
import Derived.WalkKit
import Derived.WalkSpells
import Derived.WalkLawsBesides
namespace Go.Proofs.Qxb6629043a
open Go.RowKit

/-- How an element reads: any struct, as one datum: the law never looks into it. -/
def Rd : Value → Option (DataW Unit × List MemPlace)
  | .agg _ => some (.lit (.bool true), [])
  | _ => none

/-- Block mb's cell leads to block bm, a map of at most n entries that holds just the pairs of S. -/
def MibAt (w : World) (mb bm n : Nat) (S : Int → Int → Bool) : Prop :=
  w.cell? ⟨mb, 0, none⟩ = some (.map (some bm)) ∧ ∃ D : DataW Unit, w.ownsMap Try.prog 40 Rd bm n D ∧ ∀ c i, Wf c i → Maps.has D (klit c i) = S c i

def addS (S : Int → Int → Bool) (c i : Int) : Int → Int → Bool := fun c' i' => S c' i' || decide (c' = c ∧ i' = i)

theorem has_empty (c i : Int) : Maps.has (.map [] : DataW Unit) (klit c i) = false := rfl

theorem newMIB_any (w : World) :
    Calls Try.prog 6 #[] w fun e w' => e = .returned (.pointer (some ⟨w.heap.size + 1, 0, none⟩)) ∧ MibAt w' (w.heap.size + 1) w.heap.size 0 (fun _ _ => false) ∧ Below w.heap.size w w' ∧ w'.heap.size = w.heap.size + 2 := by
  have hmm := @run_makeMap Try.prog
  go_enter Try.func6, Try.ntmps6
  go_wp2
  go_ret
  have hsz : (w.alloc (Obj.map #[] 0)).heap.size = w.heap.size + 1 := by simp
  refine ⟨rfl, ⟨?_, .map [], ?_, fun c i _ => has_empty c i⟩, ?_, by simp⟩
  · have := cell_one_new (w.alloc (Obj.map #[] 0)) (.map (some w.heap.size)) 35 0 (.map (some w.heap.size)) rfl
    rw [hsz] at this
    exact this
  · exact (World.ownsMap_made w Try.prog 40 Rd).alloc _
  · exact ((Below.refl _ w).alloc (Nat.le_refl _) _).alloc (by simp) _

theorem has_added {D : DataW Unit} (hD : Maps.IsMap D) {S : Int → Int → Bool} (hS : ∀ c i, Wf c i → Maps.has D (klit c i) = S c i) {c i : Int} (hw : Wf c i) (d : DataW Unit) :
    ∀ c' i', Wf c' i' → Maps.has (D.put (klit c i) d) (klit c' i') = addS S c i c' i' := by
  intro c' i' hw'
  unfold addS
  by_cases e : c' = c ∧ i' = i
  · obtain ⟨rfl, rfl⟩ := e
    rw [Maps.has_put_same hD (klit_key hw)]; simp
  · rw [Maps.has_put_other (fun h => e (klit_inj hw' hw h)), hS c' i' hw', decide_eq_false e]; simp

theorem put_any (mb bm n : Nat) (S : Int → Int → Bool) (c i : Int) (w : World) (h : MibAt w mb bm n S) (hw : Wf c i) (hn : n < 1000000) :
    Calls Try.prog 7 #[.pointer (some ⟨mb, 0, none⟩), .int .u16 c, .int .u16 i] w fun e w' => e = .returned (.tuple #[]) ∧ MibAt w' mb bm (n + 1) (addS S c i) ∧ w.grownBy w' (some bm) := by
  obtain ⟨hc, D, hown, hS⟩ := h
  have HS : Hid (∀ c i, Wf c i → Maps.has D (klit c i) = S c i) := hS
  clear hS
  go_enter Try.func7, Try.ntmps7
  go_wp2_with (first | (at_mapUpdate; refine wpList_mapUpdate_own _ rfl _ _ _ 33 rfl 40 38 keyLaw Try.underlying33 Rd bm n D rfl hown (by unfold maxLen; omega) _ _ (klit c i) rfl rfl (keyOf_me hw) (.lit (.bool true)) [] rfl ?_; intro w1 hown1 hgrow1) | go_in)
  go_end0
  refine ⟨rfl, ⟨hgrow1.cell hc ?_, _, hown1, has_added hown.isMap HS.out hw _⟩, hgrow1⟩
  intro e
  obtain ⟨es, cl, hb, _⟩ := hown
  simp only [Option.some.injEq] at e
  subst e
  simp [World.cell?, hb] at hc

end Go.Proofs.Qxb6629043a
