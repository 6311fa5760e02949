/-
  DERIVED. THE WALK OF FnInstancesAreSortedDistinctIdsOfClass.
-/
import Derived.Test.Qxb6629043aLawA
namespace Go.Proofs.Qxb6629043a
open Go.RowKit

set_option maxHeartbeats 400000 in
theorem zzBytesA_any (a0 a1 : Option Addr) (n0 c0 n1 c1 : Nat) (c : Int) (w : World) (h0 : n0 ≤ maxLen) (h1 : n1 ≤ maxLen) :
    Calls Try.prog 5 #[.slice a0 n0 c0, .slice a1 n1 c1, .int .u16 c] w fun e w' => ∃ r : Bool, e = .returned (.bool r) ∧ w = w' := by
  unfold maxLen at h0 h1
  go_enter Try.func5, Try.ntmps5
  go_wp2
  all_goals
    go_ret
    exact ⟨_, rfl, rfl⟩

theorem info4 : (Try.prog.info? 4).map (fun i => (i.zero, i.size, i.bytes)) = some (some (.bool false), 1, 1) := by kernel_rfl

set_option maxHeartbeats 2000000 in
set_option maxRecDepth 100000 in
theorem lawA_core (a0 a1 : Option Addr) (n c0 c1 : Nat) (zc zi : List Int) (c : Int) (w : World) (hn : n ≤ 65536) (hc : (Lit.int .u16 c).wf = true) (h0 : InRow w a0 n zc) (h1 : InRow w a1 n zi) :
    Calls Try.prog 3 #[.slice a0 n c0, .slice a1 n c1, .int .u16 c] w fun e w' => e = .returned (.bool true) ∧ Below w.heap.size w w' := by
  have cz := fun w => zzBytesA_any a0 a1 n c0 n c1 c w (by unfold maxLen; omega) (by unfold maxLen; omega)
  obtain ⟨i4, hi4, hz0, hz1, hz2⟩ := info_parts info4
  go_enter Try.func3, Try.ntmps3
  go_wp2_with fail
  refine (cz _).mono ?_
  rintro e w' ⟨r, rfl, rfl⟩
  clear cz
  cases r
  · go_wp2_with fail
    go_ret
    exact ⟨rfl, Below.refl _ _⟩
  go_wp2_with fail
  refine (newMIB_any _).mono ?_
  rintro e w1 ⟨rfl, hM1, hB1, hs1⟩
  go_wp2_with fail
  go_loopw [8] (fun i wr => ∃ k : Nat, k ≤ n ∧ i = .int .i64 k ∧ MibAt wr (w.heap.size + 1) w.heap.size k (Sof zc zi k) ∧ Below w.heap.size w wr) (fun i _ => n - (intOf i).toNat)
  case atStart => exact ⟨0, Nat.zero_le _, rfl, hM1, hB1⟩
  case round =>
    obtain ⟨k, hk, rfl, hM, hB⟩ := hrel
    by_cases hlt : k < n
    · obtain ⟨b0, o0, rfl, l0, g0⟩ := in_cell h0 rfl hB hlt
      obtain ⟨b1, o1, rfl, l1, g1⟩ := in_cell h1 rfl hB hlt
      have w0 := h0.2 k hlt
      have w1' := h1.2 k hlt
      have n0 : ¬ b0 = w.heap.size := by omega
      have n1 : ¬ b1 = w.heap.size := by omega
      go_wp2_with fail
      go_region_held3 (fun w' => w'.cell? ⟨b0, o0 + k, none⟩ = some (.int .u16 (zc.getD k 0)) ∧ w'.cell? ⟨b1, o1 + k, none⟩ = some (.int .u16 (zi.getD k 0))) (first | (exact ⟨hg2.cell (by exact g0) (by simpa using n0), hg2.cell (by exact g1) (by simpa using n1)⟩) | go_keep)
        ((go_at_call 7; refine (put_any (w.heap.size + 1) w.heap.size k (Sof zc zi k) _ _ _ (by exact hM) ⟨w0, w1'⟩ (by omega)).mono ?_; rintro e w2 ⟨rfl, hM2, hg2⟩))
      have hB2 : Below w.heap.size w w2 := hB.drew.grown hg2 hB.size (fun j hj => by cases hj; exact Nat.le_refl _)
      go_wp2_with fail
      go_roundw
      case rel => exact ⟨k + 1, by omega, by go_num, hM2, hB2⟩
      case measure => simp [intOf]; omega
    · obtain rfl : k = n := by omega
      go_wp2_with fail
      refine (instances_at (w.heap.size + 1) w.heap.size k (Sof zc zi k) c wr hM hc (by omega)).mono ?_
      rintro e w2 ⟨ga, gc, L, ts, rfl, HL, hI, hts, hG, hB2⟩
      have hB2' : Below w.heap.size w w2 := hB.trans (hB2.mono hB.size)
      clear hM hM1 hB1 hs1
      go_wp2_with (first
        | (at_make; refine make_row_is _ rfl _ _ 29 rfl 4 i4 (.bool false) Try.underlying29 hi4 hz0 hz1 rfl .i64 .i64 65536 rfl rfl (by omega) (by omega) ?_; intro w3 hR3 hB3)
        | go_in)
      have hR0 : w3.rowIs w2.heap.size 4 65536 (fun j => .bool (Sof zc zi 0 c (j : Int))) := hR3
      have HI : Hid (Ids (Sof zc zi k) c ts) := hI
      have HG : Hid (InRow w2 ga L ts) := hG
      clear hR3 hI hG
      go_loopw [11] (fun i wx => ∃ m : Nat, m ≤ k ∧ i = .int .i64 m ∧ wx.rowIs w2.heap.size 4 65536 (fun j => .bool (Sof zc zi m c (j : Int))) ∧ Below w2.heap.size w2 wx) (fun i _ => k - (intOf i).toNat)
      case atStart => exact ⟨0, Nat.zero_le _, rfl, hR0, hB3⟩
      case round =>
        obtain ⟨m, hm, rfl, hR, hB4⟩ := hrel
        by_cases hmt : m < k
        · have hB4' : Below w.heap.size w wr := hB2'.trans (hB4.mono hB2'.size)
          obtain ⟨b0, o0, rfl, l0, g0⟩ := in_cell h0 rfl hB4' hmt
          obtain ⟨b1, o1, rfl, l1, g1⟩ := in_cell h1 rfl hB4' hmt
          have hw1 := wf_u16.1 (h1.2 m hmt)
          obtain ⟨C, hC⟩ : ∃ C, C = zc.getD m 0 := ⟨_, rfl⟩
          obtain ⟨J, hJ⟩ : ∃ J : Nat, (J : Int) = zi.getD m 0 := ⟨(zi.getD m 0).toNat, by omega⟩
          have hJ6 : J < 65536 := by omega
          rw [← hC] at g0
          rw [← hJ] at g1
          have gJ := hR.cell hJ6
          have fJ := hR.frozen J
          have HC : Hid (C = zc.getD m 0) := hC
          have HJ : Hid ((J : Int) = zi.getD m 0) := hJ
          clear hC hJ hw1
          by_cases hcc : C = c
          · have hcb : (C == c) = true := by simpa using hcc
            go_wp2_with fail
            go_roundw
            case rel => exact ⟨m + 1, by omega, by go_num, row_hit hR (by rw [← hcc]; exact HC.out) HJ.out, hB4.setCell (Nat.le_refl _) _⟩
            case measure => simp [intOf]; omega
          · have hcb : (C == c) = false := by simpa using hcc
            go_wp2_with fail
            go_roundw
            case rel => exact ⟨m + 1, by omega, by go_num, row_miss hR (by rw [← HC.out]; exact hcc), hB4⟩
            case measure => simp [intOf]; omega
        · obtain rfl : m = k := by omega
          have hB4' : Below w.heap.size w wr := hB2'.trans (hB4.mono hB2'.size)
          have hl3 : (L : Int) ≤ 65536 := by omega
          go_wp2_with fail
          go_loop [12, 13] (fun j v => ∃ mm jj : Nat, mm ≤ lim ∧ v = .int .i64 mm ∧ j = .int .i64 jj ∧ Cut ts mm jj) (fun _ v => lim - (intOf v).toNat)
          case atStart => exact ⟨0, 0, Nat.zero_le _, rfl, rfl, Cut.start HI.out⟩
          case round =>
            obtain ⟨mm, jj, hmm, rfl, rfl, hCut⟩ := hrel
            have hjj : jj ≤ L := HL.out ▸ hCut.1
            by_cases hm6 : mm < 65536
            · have hmL : mm + 1 ≤ lim := by rw [lim_eq]; omega
              have hmI : (mm : Int) < 65536 := by omega
              have gv := hR.cell hm6
              cases hp : Sof zc zi m c (mm : Int)
              · rw [hp] at gv
                have HC2 : Hid (Cut ts (mm + 1) jj) := hCut.miss HI.out hp
                clear hp hm6
                go_wp2_with fail
                go_round
                case rel => exact ⟨mm + 1, jj, hmL, by go_num, rfl, HC2.out⟩
                case measure => simp [intOf]; omega
              · rw [hp] at gv
                have HC2 : Hid (Cut ts (mm + 1) (jj + 1)) := hCut.hit HI.out hm6 hp
                obtain ⟨hj1, hj2⟩ := hCut.here HI.out hm6 hp
                rw [HL.out] at hj1
                obtain ⟨g, og, rfl, hcg⟩ := (below_in HG.out hB4).1 (by omega)
                have gg := hcg jj hj1
                rw [hj2] at gg
                clear hp hcg hj2 hm6
                have hjD : decide (L ≤ jj) = false := decide_eq_false (by omega)
                go_wp2_with (refine wpList_conv16 rfl _ rfl mm hmI rfl ?_)
                go_round
                case rel => exact ⟨mm + 1, jj + 1, hmL, by go_num, by go_num, HC2.out⟩
                case measure => simp [intOf]; omega
            · have hmI : ¬ (mm : Int) < 65536 := by omega
              have hjl : jj = L := HL.out ▸ hCut.done HI.out (by omega)
              clear hm6
              subst hjl
              go_wp2_with fail
              go_ret
              exact ⟨rfl, hB4'⟩

set_option maxHeartbeats 400000 in
theorem lawA_early (a0 a1 : Option Addr) (n0 c0 n1 c1 : Nat) (c : Int) (w : World) (h0 : n0 ≤ maxLen) (h1 : n1 ≤ maxLen) (h : 65536 < n0 ∨ 65536 < n1 ∨ n0 ≠ n1) :
    Calls Try.prog 3 #[.slice a0 n0 c0, .slice a1 n1 c1, .int .u16 c] w fun e w' => e = .returned (.bool true) ∧ Below w.heap.size w w' := by
  have cz := fun w => zzBytesA_any a0 a1 n0 c0 n1 c1 c w h0 h1
  unfold maxLen at h0 h1
  by_cases e0 : (65536 : Int) < (n0 : Int)
  · clear h
    go_enter Try.func3, Try.ntmps3
    go_wp2_with fail
    refine (cz _).mono ?_
    rintro e w' ⟨r, rfl, rfl⟩
    cases r
    all_goals
      go_wp2_with fail
      go_ret
      exact ⟨rfl, Below.refl _ _⟩
  by_cases e1 : (65536 : Int) < (n1 : Int)
  · clear h
    go_enter Try.func3, Try.ntmps3
    go_wp2_with fail
    refine (cz _).mono ?_
    rintro e w' ⟨r, rfl, rfl⟩
    cases r
    all_goals
      go_wp2_with fail
      go_ret
      exact ⟨rfl, Below.refl _ _⟩
  have e2 : ((n0 : Int) == (n1 : Int)) = false := beq_eq_false_iff_ne.2 (by omega)
  have e3 : ((n0 : Int) != (n1 : Int)) = true := by simp [bne, e2]
  clear h
  go_enter Try.func3, Try.ntmps3
  go_wp2_with fail
  refine (cz _).mono ?_
  rintro e w' ⟨r, rfl, rfl⟩
  cases r
  all_goals
    go_wp2_with fail
    go_ret
    exact ⟨rfl, Below.refl _ _⟩

end Go.Proofs.Qxb6629043a
