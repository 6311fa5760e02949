/-
  DERIVED. THE WALKS OF sameU16 (at two slices that hold one list) AND mergeOne.
-/
import Derived.Test.Qxb6629043aMerge
namespace Go.Proofs.Qxb6629043a
open Go.RowKit

set_option maxHeartbeats 400000 in
theorem same_yes (a b : Option Addr) (L ca cb : Nat) (ts : List Int) (w : World) (hL : L ≤ 1000000) (ha : InRow w a L ts) (hb : InRow w b L ts) :
    Calls Try.prog 10 #[.slice a L ca, .slice b L cb] w fun e w' => e = .returned (.bool true) ∧ Below w.heap.size w w' := by
  go_enter Try.func10, Try.ntmps10
  go_wp2
  go_loopw [5] (fun i wr => ∃ k : Nat, k ≤ L ∧ i = .int .i64 k ∧ Below w.heap.size w wr) (fun i _ => L - (intOf i).toNat)
  case atStart => exact ⟨0, Nat.zero_le _, rfl, Below.refl _ _⟩
  case round =>
    obtain ⟨k, hk, rfl, hB⟩ := hrel
    by_cases hlt : k < L
    · obtain ⟨b0, o0, rfl, l0, g0⟩ := in_cell ha rfl hB hlt
      obtain ⟨b1, o1, rfl, l1, g1⟩ := in_cell hb rfl hB hlt
      obtain ⟨V, hV⟩ : ∃ V, V = ts.getD k 0 := ⟨_, rfl⟩
      rw [← hV] at g0 g1
      clear hV
      have hkI : (k : Int) < (L : Int) := by omega
      go_wp2
      go_quiet (fail)
      go_wp2
      go_roundw
      case rel => exact ⟨k + 1, by omega, by go_num, below_drewN hB _⟩
      case measure => simp [intOf]; omega
    · go_wp2
      go_ret
      exact ⟨rfl, hB⟩

set_option maxHeartbeats 1000000 in
set_option maxRecDepth 100000 in
theorem merge_any (a : Option Addr) (L ca : Nat) (ts : List Int) (x : Int) (w : World) (hL : L ≤ 1000000) (HL : Hid (ts.length = L)) (ha : InRow w a L ts) (hx : (Lit.int .u16 x).wf = true) :
    Calls Try.prog 11 #[.slice a L ca, .int .u16 x] w fun e w' => ∃ a' c' L', e = .returned (.slice a' L' c') ∧ Hid ((merged x ts).length = L') ∧ L' ≤ L + 1 ∧ InRow w' a' L' (merged x ts) ∧ Below w.heap.size w w' := by
  obtain ⟨i0, hi, hz0, hz1, hz2⟩ := info_parts info23
  have HW : Hid (∀ i ∈ merged x ts, (Lit.int .u16 i).wf = true) := fun i hi => by
    rcases (mem_merged x i ts).1 hi with rfl | h
    · exact hx
    · obtain ⟨j, hj, rfl⟩ := mem_getD h
      exact ha.2 j (by rw [← HL.out]; exact hj)
  have HLm : Hid ((merged x ts).length ≤ L + 1) := by show _ ≤ _; rw [← HL.out]; exact length_merged x ts
  go_enter Try.func11, Try.ntmps11
  go_wp2_with (first
    | (at_make; refine wpList_make_own _ rfl _ _ 22 rfl w.heap.size 23 i0 (.int .u16 0) 1 Try.underlying22 hi hz0 hz1 .i64 .i64 ((L : Int) + 1) (L + 1) rfl rfl (by omega) (by rw [hz2]; omega) (by unfold maxLen; omega) (Nat.le_refl _) ?_; intro w0 hr0 hg0)
    | go_in)
  go_loopw [5, 6, 7] (fun v p i wr => ∃ (k : Nat) (pb : Bool) (out : List Int), k ≤ L ∧ i = .int .i64 k ∧ p = .bool pb ∧ wr.ownsRow w.heap.size 23 1 v out.length (out.map (Value.int .u16)) ∧ Mg x ts k pb out ∧ Below w.heap.size w wr) (fun _ _ i _ => L - (intOf i).toNat)
  case atStart => exact ⟨0, false, [], Nat.zero_le _, rfl, rfl, hr0, Mg.start x ts, (Below.refl _ w).grown hg0 (Nat.le_refl _) (fun j hj => by cases hj)⟩
  case round =>
    obtain ⟨k, pb, out, hk, rfl, rfl, hrow, hM, hB⟩ := hrel
    have hol := hM.1
    have hBs := hB.size
    by_cases hlt : k < L
    · obtain ⟨b0, o0, rfl, l0, g0⟩ := in_cell ha rfl hB hlt
      have HK : Hid (k < ts.length) := by show _ < _; rw [HL.out]; exact hlt
      obtain ⟨V, hV⟩ : ∃ V, V = ts.getD k 0 := ⟨_, rfl⟩
      rw [← hV] at g0
      have HV : Hid (V = ts.getD k 0) := hV
      clear hV
      have hkI : (k : Int) < (L : Int) := by omega
      cases pb
      · by_cases hxv : x ≤ V
        · by_cases hxl : x < V
          · -- x is placed ahead of V
            have HM : Hid (Mg x ts (k + 1) true (out ++ [x] ++ [V])) := hM.here HK.out HV.out hxl
            clear hM
            go_wp2_with (first
              | (at_builtin; refine append_u rfl _ _ rfl w.heap.size _ out rfl (hrow.alloc _) wr.heap.size x rfl (cell_one_new _ _ _) (by omega) (by simp; omega) ?_; intro v3 w3 hrow3 hg3)
              | (at_builtin; refine append_u rfl _ _ rfl w.heap.size _ (out ++ [x]) rfl (hrow3.alloc _) w3.heap.size V rfl (cell_one_new _ _ _) (by simp; omega) (by have := hg3.size; simp at this ⊢; omega) ?_; intro v4 w4 hrow4 hg4)
              | go_in)
            have hB3 : Below w.heap.size w w3 := (hB.alloc hB.size _).grown hg3 (by simp; omega) (fun j hj => (hrow.lt j hj).1)
            have hB4 : Below w.heap.size w w4 := (hB3.alloc hB3.size _).grown hg4 (by have := hB3.size; simp; omega) (fun j hj => (hrow3.lt j hj).1)
            go_roundw
            case rel => exact ⟨k + 1, true, out ++ [x] ++ [V], by omega, by go_num, rfl, hrow4, HM.out, hB4⟩
            case measure => simp [intOf]; omega
          · -- x stands there
            have HM : Hid (Mg x ts (k + 1) true (out ++ [V])) := hM.same HK.out HV.out (by omega)
            clear hM
            go_wp2_with (first | (at_builtin; refine append_u rfl _ _ rfl w.heap.size _ out rfl (hrow.alloc _) wr.heap.size V rfl (cell_one_new _ _ _) (by omega) (by simp; omega) ?_; intro v3 w3 hrow3 hg3) | go_in)
            have hB3 : Below w.heap.size w w3 := (hB.alloc hB.size _).grown hg3 (by simp; omega) (fun j hj => (hrow.lt j hj).1)
            go_roundw
            case rel => exact ⟨k + 1, true, out ++ [V], by omega, by go_num, rfl, hrow3, HM.out, hB3⟩
            case measure => simp [intOf]; omega
        · have HM : Hid (Mg x ts (k + 1) false (out ++ [V])) := hM.less HK.out HV.out hxv
          clear hM
          go_wp2_with (first | (at_builtin; refine append_u rfl _ _ rfl w.heap.size _ out rfl (hrow.alloc _) wr.heap.size V rfl (cell_one_new _ _ _) (by omega) (by simp; omega) ?_; intro v3 w3 hrow3 hg3) | go_in)
          have hB3 : Below w.heap.size w w3 := (hB.alloc hB.size _).grown hg3 (by simp; omega) (fun j hj => (hrow.lt j hj).1)
          go_roundw
          case rel => exact ⟨k + 1, false, out ++ [V], by omega, by go_num, rfl, hrow3, HM.out, hB3⟩
          case measure => simp [intOf]; omega
      · have HM : Hid (Mg x ts (k + 1) true (out ++ [V])) := hM.past HK.out HV.out
        clear hM
        go_wp2_with (first | (at_builtin; refine append_u rfl _ _ rfl w.heap.size _ out rfl (hrow.alloc _) wr.heap.size V rfl (cell_one_new _ _ _) (by omega) (by simp; omega) ?_; intro v3 w3 hrow3 hg3) | go_in)
        have hB3 : Below w.heap.size w w3 := (hB.alloc hB.size _).grown hg3 (by simp; omega) (fun j hj => (hrow.lt j hj).1)
        go_roundw
        case rel => exact ⟨k + 1, true, out ++ [V], by omega, by go_num, rfl, hrow3, HM.out, hB3⟩
        case measure => simp [intOf]; omega
    · have hkL : k = ts.length := by rw [HL.out]; omega
      have HD : Hid (k = ts.length) := hkL
      clear hkL
      have hkI : ¬ (k : Int) < (L : Int) := by omega
      cases pb
      · have HM : Hid (out ++ [x] = merged x ts) := by show _ = _; rw [HD.out] at hM; exact hM.last
        clear hM
        go_wp2_with (first | (at_builtin; refine append_u rfl _ _ rfl w.heap.size _ out rfl (hrow.alloc _) wr.heap.size x rfl (cell_one_new _ _ _) (by omega) (by simp; omega) ?_; intro v3 w3 hrow3 hg3) | go_in)
        have hB3 : Below w.heap.size w w3 := (hB.alloc hB.size _).grown hg3 (by simp; omega) (fun j hj => (hrow.lt j hj).1)
        obtain ⟨a', c', hv, hin⟩ := inRow_of_owns hrow3 (by rw [HM.out]; exact HW.out)
        go_ret
        refine ⟨a', c', _, by rw [← hv]; rfl, by rw [HM.out]; rfl, ?_, by rw [HM.out] at hin ⊢; exact hin, hB3⟩
        rw [HM.out]; exact HLm.out
      · have HM : Hid (out = merged x ts) := by show _ = _; rw [HD.out] at hM; exact hM.done
        clear hM
        go_wp2_with fail
        obtain ⟨a', c', hv, hin⟩ := inRow_of_owns hrow (by rw [HM.out]; exact HW.out)
        go_ret
        refine ⟨a', c', _, by rw [← hv]; rfl, by rw [HM.out]; rfl, ?_, by rw [HM.out] at hin ⊢; exact hin, hB⟩
        rw [HM.out]; exact HLm.out

end Go.Proofs.Qxb6629043a
