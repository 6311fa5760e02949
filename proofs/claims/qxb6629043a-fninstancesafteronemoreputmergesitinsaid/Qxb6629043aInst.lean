/-
  DERIVED. (*MIB).Instances: the sorted ids of one class.
-/
import Derived.Test.Qxb6629043aColl
import Derived.Test.Qxb6629043aS9
namespace Go.Proofs.Qxb6629043a
open Go.RowKit Go.Sort

theorem info23 : (Try.prog.info? 23).map (fun i => (i.zero, i.size, i.bytes)) = some (some (.int .u16 0), 1, 2) := by kernel_rfl

theorem invK (key : Value) (kl : Lit) (h : keyOf Try.prog 40 key = some kl) : ∃ x : Int × Int, key = mkME x := by
  obtain ⟨c, i, rfl, _⟩ := keyOf_me_inv h
  exact ⟨(c, i), rfl⟩
theorem invV (v : Value) (y : DataW Unit × List MemPlace) (h : Rd v = some y) : ∃ cs, v = Value.agg cs := by
  cases v <;> simp [Rd] at h
  exact ⟨_, rfl⟩

theorem size_le {w : World} {bm n : Nat} {D : DataW Unit} (h : w.ownsMap Try.prog 40 Rd bm n D) : Maps.size D ≤ n := by
  obtain ⟨es, cl, hb, F, hs, rfl⟩ := h
  simp only [Maps.size, length_sorted]
  simpa using hs

/-- WHAT INSTANCES HANDS BACK: a slice of the call's own memory that holds ts. -/
def SliceOf (w : World) (base : Nat) (v : Value) (ts : List Int) : Prop :=
  (v = .slice none 0 0 ∧ ts = []) ∨ ∃ g cap, v = .slice (some ⟨g, 0, none⟩) ts.length cap ∧ base ≤ g ∧ g < w.heap.size ∧ ∀ j, j < ts.length → w.cell? ⟨g, j, none⟩ = some (.int .u16 (ts.getD j 0))

theorem cell_second (w : World) (o : Obj) (x : Value) (t : TypeId) : ∀ (j : Nat) (u : Value), [x][j]? = some u → ((w.alloc o).alloc (.cells #[x] t)).cell? ((⟨w.heap.size + 1, 0, none⟩ : Addr).add j) = some u := by
  have h := cell_one_new (w.alloc o) x t
  have e : (w.alloc o).heap.size = w.heap.size + 1 := by simp
  rw [e] at h
  exact h

set_option maxHeartbeats 1000000 in
set_option maxRecDepth 100000 in
theorem instances_any (mb bm n : Nat) (S : Int → Int → Bool) (c : Int) (w : World) (h : MibAt w mb bm n S) (hc : (Lit.int .u16 c).wf = true) (hn : n < 1000000) :
    Calls Try.prog 8 #[.pointer (some ⟨mb, 0, none⟩), .int .u16 c] w fun e w' => ∃ v ts, e = .returned v ∧ Ids S c ts ∧ ts.length ≤ n ∧ SliceOf w' w.heap.size v ts ∧ Below w.heap.size w w' := by
  obtain ⟨hcell, D, hown, hS⟩ := h
  obtain ⟨i0, hi, hz0, hz1, hz2⟩ := info_parts info23
  have hsz := size_le hown
  have HS : Hid (∀ c i, Wf c i → Maps.has D (klit c i) = S c i) := hS
  clear hS
  go_enter Try.func8, Try.ntmps8
  go_wp2_with (first
    | (at_range; refine wpList_range_own _ rfl _ 33 rfl 40 38 keyLaw Try.underlying33 Rd bm n D rfl hown ?_; intro w0 hrg0 hg0 hs0)
    | go_in)
  go_frame
  go_loopw [5] (fun v wr => ∃ (left : Lit → Bool) (cnt : Nat) (ss : List Int), wr.ranges Try.prog 40 Rd bm w.heap.size n D left cnt ∧ wr.ownsRow w.heap.size 23 1 v ss.length (ss.map (Value.int .u16)) ∧ Coll c D left ss ∧ ss.length + cnt ≤ n ∧ Below w.heap.size w wr)
    (fun _ wr => wr.rangeLeft bm w.heap.size)
  case atStart =>
    exact ⟨_, _, [], hrg0, World.ownsRow_nil _ _ _ _, Coll.start c D, by simpa using hsz, (RowKit.Below.refl _ w).grown hg0 (Nat.le_refl _) (fun j hj => by cases hj)⟩
  case round =>
    obtain ⟨left, cnt, ss, hrg, hrow, hC, hlen, hB⟩ := hrel
    go_wp2_with (first
      | (at_next; refine wpList_next_ranges _ rfl _ rfl 40 keyLaw Rd mkME Value.agg invK invV bm w.heap.size n _ _ _ rfl hrg ?_ ?_)
      | go_in)
    · intro _ hl0
      have hI := hC.ids hc hl0 HS.out
      have hll : (ss.mergeSort fun x y => decide (x ≤ y)).length = ss.length := List.length_mergeSort ss
      go_wp2_with fail
      rcases hrow.2 with ⟨hnil, hz⟩ | ⟨g, cap, cur, hv, hbase, hb, h1, h2, h3, h4⟩
      · have hss : ss = [] := List.length_eq_zero_iff.1 hz
        rw [hnil]
        refine (U.Sort_int_nil none 0 _).mono ?_
        rintro e w' ⟨rfl, rfl⟩
        go_wp2_with fail
        go_ret
        exact ⟨.slice none 0 0, [], rfl, by rw [hss] at hI; simpa using hI, Nat.zero_le _, Or.inl ⟨rfl, rfl⟩, hB⟩
      · rw [hv]
        have hH : Holds (Value.int .u16) wr g 0 ss.toArray := holds_of_blockU hb (by simpa using h4)
        have hgl : g < wr.heap.size := (Array.getElem?_eq_some_iff.1 hb).1
        refine (slices_Sort g 0 cap ss wr hH hgl (by omega)).mono ?_
        rintro e w' ⟨rfl, nn, os, rfl⟩
        go_wp2_with fail
        go_ret
        refine ⟨.slice (some ⟨g, 0, none⟩) ss.length cap, ss.mergeSort fun x y => decide (x ≤ y), rfl, hI, by omega, Or.inr ⟨g, cap, by rw [hll], hbase, by simpa using Nat.lt_of_lt_of_le hgl (Nat.le_add_right _ _), fun j hj => cell_sortedU hH hgl hll j hj⟩, hB.grown (grownBy_sortedU _) hB.size (fun j hj => by cases hj; exact hbase)⟩
    · intro c1 i1 cs kl yd yp w1 cnt1 hkey hlk hv hat hrg1 hlt hg1 hs1 hen
      obtain ⟨c2, i2, hE, hW, hkl⟩ := keyOf_me_inv hkey
      obtain ⟨rfl, rfl⟩ : c1 = c2 ∧ i1 = i2 := by simpa [mkME] using hE
      subst hkl
      have HA : Hid (Maps.has D (klit c1 i1) = true) := Maps.has_true_of_atKey hat
      have hrow1 := hrow.kept hg1 (by cases hv : u5.ownBlock with | none => exact Or.inl rfl | some k => right; intro e; exact row_ne_iter hrow hrg (by rw [hv]; exact e.symm))
      have hB1 : RowKit.Below w.heap.size w w1 := hB.grown hg1 hB.size (fun j hj => by cases hj; exact Nat.le_refl _)
      clear hs1 hE hkey hat hv
      go_wp2_with (first
        | (at_builtin; refine wpList_append_own _ rfl _ _ 22 rfl w.heap.size 23 i0 (.int .u16 0) 1 2 Try.underlying22 hi hz0 hz1 hz2 rfl (by decide) _ _ _ rfl ((hrow1.alloc _).alloc _) ⟨w1.heap.size + 1, 0, none⟩ 1 1 [.int .u16 i1] rfl rfl (cell_second _ _ _ _) (fun u hu => by simp at hu; subst hu; rfl) (by unfold maxLen; omega) (by omega) (by simp; have := hB1.size; omega) ?_; intro v3 w3 hrow3 hg3 hnil3)
        | go_in)
      · have hcc : c1 = c := by simpa using (by assumption : (c1 == c) = true)
        subst hcc
        have hrg3 := ((hrg1.alloc _).alloc _).kept hg3 (row_ne_low hrow1 hown.lt) (row_ne_iter hrow1 hrg1)
        have hB3 : RowKit.Below w.heap.size w w3 := ((hB1.alloc hB1.size _).alloc (by simp; have := hB1.size; omega) _).grown hg3 (by simp; have := hB1.size; omega) (fun j hj => (hrow1.lt j hj).1)
        go_roundw
        case rel => exact ⟨_, cnt1, ss ++ [i1], hrg3, by simpa using hrow3, hC.hit hW hlk HA.out, by simp; omega, hB3⟩
        case measure => rw [hrg3.left_eq, hrg.left_eq]; exact hlt
      · have hcc : c1 ≠ c := by simpa using (by assumption : (c1 == c) = false)
        go_roundw
        case rel => exact ⟨_, cnt1, ss, hrg1.alloc _, hrow1.alloc _, hC.miss hc hW (Ne.symm hcc), by omega, hB1.alloc hB1.size _⟩
        case measure => rw [(hrg1.alloc _).left_eq, hrg.left_eq]; exact hlt

end Go.Proofs.Qxb6629043a
