/-
  DERIVED. THE WALK OF FnInstancesAfterOneMorePutMergesItIn.
-/
import Derived.Test.Qxb6629043aWalkM
import Derived.Deep.Cut
import Derived.Deep.CutRange
namespace Go.Proofs.Qxb6629043a
open Go.RowKit

/-! ### The plain part -/
/-- The second MIB's pairs ahead of round i; behind that round's first 'if'. -/
def Tof (zc zi : List Int) (c x : Int) (kk n i : Nat) : Int → Int → Bool := fun c' i' => Sof zc zi (min i n) c' i' || decide (kk < i ∧ c' = c ∧ i' = x)
def Tmid (zc zi : List Int) (c x : Int) (kk n i : Nat) : Int → Int → Bool := fun c' i' => Sof zc zi (min i n) c' i' || decide (kk < i + 1 ∧ c' = c ∧ i' = x)

theorem tof_zero (zc zi : List Int) (c x : Int) (kk n : Nat) : Tof zc zi c x kk n 0 = fun _ _ => false := by
  funext c' i'
  simp [Tof, Sof]
theorem tof_hit (zc zi : List Int) (c x : Int) (n i : Nat) : addS (Tof zc zi c x i n i) c x = Tmid zc zi c x i n i := by
  funext c' i'
  simp [Tof, Tmid, addS]
theorem tof_miss (zc zi : List Int) (c x : Int) (kk n i : Nat) (h : ¬ i = kk) : Tof zc zi c x kk n i = Tmid zc zi c x kk n i := by
  funext c' i'
  unfold Tof Tmid
  congr 1
  rw [decide_eq_decide]
  constructor <;> (rintro ⟨h1, h2⟩; exact ⟨by omega, h2⟩)
theorem tmid_put (zc zi : List Int) (c x : Int) (kk n i : Nat) (h : i < n) : addS (Tmid zc zi c x kk n i) (zc.getD i 0) (zi.getD i 0) = Tof zc zi c x kk n (i + 1) := by
  funext c' i'
  unfold Tof Tmid
  rw [show min (i + 1) n = i + 1 by omega, show min i n = i by omega, Sof_succ]
  show ((Sof zc zi i c' i' || decide (kk < i + 1 ∧ c' = c ∧ i' = x)) || decide (c' = zc.getD i 0 ∧ i' = zi.getD i 0)) = _
  generalize Sof zc zi i c' i' = s
  generalize decide (kk < i + 1 ∧ c' = c ∧ i' = x) = p
  generalize decide (c' = zc.getD i 0 ∧ i' = zi.getD i 0) = q
  cases s <;> cases p <;> cases q <;> rfl
theorem tmid_end (zc zi : List Int) (c x : Int) (kk n : Nat) : Tmid zc zi c x kk n n = Tof zc zi c x kk n (n + 1) := by
  funext c' i'
  unfold Tof Tmid
  rw [show min (n + 1) n = n by omega, show min n n = n by omega]
theorem tof_last (zc zi : List Int) (c x : Int) (kk n : Nat) (h : kk ≤ n) : Tof zc zi c x kk n (n + 1) = addS (Sof zc zi n) c x := by
  funext c' i'
  unfold Tof addS
  rw [show min (n + 1) n = n by omega]
  congr 1
  rw [decide_eq_decide]
  constructor
  · rintro ⟨_, h2⟩; exact h2
  · intro h2; exact ⟨by omega, h2⟩

theorem addS_other {S : Int → Int → Bool} {c x d : Int} (h : d ≠ c) (i : Int) : S d i = addS S c x d i := by simp [addS, h]

/-- 'd := c + 1' over uint16: another class, always. -/
theorem next_class {c : Int} (hc : (Lit.int .u16 c).wf = true) : (Lit.int .u16 (IntKind.u16.wrap (c + 1))).wf = true ∧ IntKind.u16.wrap (c + 1) ≠ c := by
  have h := wf_u16.1 hc
  rw [wf_u16, IntKind.wrap_u16]
  omega

/-! ### A MIB stays -/
theorem MibAt.grown {w w' : World} {mb bm n : Nat} {S : Int → Int → Bool} {row : Option Nat} (h : MibAt w mb bm n S) (hg : w.grownBy w' row) (h1 : some mb ≠ row) (h2 : some bm ≠ row) : MibAt w' mb bm n S := by
  obtain ⟨hc, D, hown, hS⟩ := h
  exact ⟨hg.cell hc h1, D, hown.kept hg h2, hS⟩
theorem MibAt.below {w w' : World} {mb bm n : Nat} {S : Int → Int → Bool} (h : MibAt w mb bm n S) (hB : Below w.heap.size w w') : MibAt w' mb bm n S :=
  h.grown (row := none) ⟨hB.os, hB.tape, hB.output, hB.size, fun k hk _ => hB.block k hk⟩ (by simp) (by simp)
theorem MibAt.lt {w : World} {mb bm n : Nat} {S : Int → Int → Bool} (h : MibAt w mb bm n S) : mb < w.heap.size := World.block_lt_of_cell? w _ h.1

set_option maxHeartbeats 400000 in
theorem zzBytesB_any (a0 a1 : Option Addr) (n0 c0 n1 c1 : Nat) (k c x : Int) (w : World) (h0 : n0 ≤ maxLen) (h1 : n1 ≤ maxLen) :
    Calls Try.prog 9 #[.slice a0 n0 c0, .slice a1 n1 c1, .int .i64 k, .int .u16 c, .int .u16 x] w fun e w' => ∃ r : Bool, e = .returned (.bool r) ∧ w = w' := by
  unfold maxLen at h0 h1
  go_enter Try.func9, Try.ntmps9
  go_wp2
  all_goals
    go_ret
    exact ⟨_, rfl, rfl⟩

set_option maxHeartbeats 2000000 in
set_option maxRecDepth 100000 in
theorem lawB_core (a0 a1 : Option Addr) (n c0 c1 : Nat) (zc zi : List Int) (kk : Nat) (c x : Int) (w : World) (hn : n ≤ 65536) (hkk : kk ≤ n) (hc : (Lit.int .u16 c).wf = true) (hx : (Lit.int .u16 x).wf = true) (h0 : InRow w a0 n zc) (h1 : InRow w a1 n zi) :
    Calls Try.prog 4 #[.slice a0 n c0, .slice a1 n c1, .int .i64 kk, .int .u16 c, .int .u16 x] w fun e w' => e = .returned (.bool true) ∧ Below w.heap.size w w' := by
  have cz := fun w => zzBytesB_any a0 a1 n c0 n c1 kk c x w (by unfold maxLen; omega) (by unfold maxLen; omega)
  go_enter Try.func4, Try.ntmps4
  go_wp2_with fail
  refine (cz _).mono ?_
  rintro e w' ⟨r, rfl, rfl⟩
  clear cz
  cases r
  · go_wp2_with fail
    go_ret
    exact ⟨rfl, Below.refl _ _⟩
  go_wp2_with fail
  refine (newMIB_any _).mono ?_
  rintro e w1 ⟨rfl, hM1, hB1, hs1⟩
  go_wp2_with fail
  go_loopw [13] (fun i wr => ∃ k : Nat, k ≤ n ∧ i = .int .i64 k ∧ MibAt wr (w.heap.size + 1) w.heap.size k (Sof zc zi k) ∧ Below w.heap.size w wr) (fun i _ => n - (intOf i).toNat)
  case atStart => exact ⟨0, Nat.zero_le _, rfl, hM1, hB1⟩
  case round =>
    obtain ⟨k, hk, rfl, hM, hB⟩ := hrel
    clear hM1 hB1 hs1
    by_cases hlt : k < n
    · obtain ⟨b0, o0, rfl, l0, g0⟩ := in_cell h0 rfl hB hlt
      obtain ⟨b1, o1, rfl, l1, g1⟩ := in_cell h1 rfl hB hlt
      have w0 := h0.2 k hlt
      have w1' := h1.2 k hlt
      have n0 : ¬ b0 = w.heap.size := by omega
      have n1 : ¬ b1 = w.heap.size := by omega
      go_wp2_with fail
      go_region_held3 (fun w' => w'.cell? ⟨b0, o0 + k, none⟩ = some (.int .u16 (zc.getD k 0)) ∧ w'.cell? ⟨b1, o1 + k, none⟩ = some (.int .u16 (zi.getD k 0))) (first | (exact ⟨hg2.cell (by exact g0) (by simpa using n0), hg2.cell (by exact g1) (by simpa using n1)⟩) | go_keep)
        ((go_at_call 7; refine (put_any (w.heap.size + 1) w.heap.size k (Sof zc zi k) _ _ _ (by exact hM) ⟨w0, w1'⟩ (by omega)).mono ?_; rintro e w2 ⟨rfl, hM2, hg2⟩))
      have hB2 : Below w.heap.size w w2 := hB.drew.grown hg2 hB.size (fun j hj => by cases hj; exact Nat.le_refl _)
      go_wp2_with fail
      go_roundw
      case rel => exact ⟨k + 1, by omega, by go_num, hM2, hB2⟩
      case measure => simp [intOf]; omega
    · obtain rfl : k = n := by omega
      have hMl := hM.lt
      go_wp2_with fail
      refine (newMIB_any _).mono ?_
      rintro e w3 ⟨rfl, hN3, hB3, hs3⟩
      have hM3 := hM.below hB3
      have hB3' : Below w.heap.size w w3 := hB.trans (hB3.mono hB.size)
      have hT3 : MibAt w3 (wr.heap.size + 1) wr.heap.size 0 (Tof zc zi c x kk k 0) := by rw [tof_zero]; exact hN3
      obtain ⟨M, hMM⟩ : ∃ M, M = wr.heap.size := ⟨_, rfl⟩
      rw [← hMM] at hT3 hMl
      rw [show wr.heap.size + 1 = M + 1 by rw [hMM]]
      clear hM hB hN3 hB3 hs3 hlt hk hMM
      go_wp2_with fail
      go_loopw [15] (fun i wx => ∃ j e : Nat, j ≤ k + 1 ∧ e ≤ 2 * j ∧ i = .int .i64 j ∧ MibAt wx (w.heap.size + 1) w.heap.size k (Sof zc zi k) ∧ MibAt wx (M + 1) M e (Tof zc zi c x kk k j) ∧ Below w.heap.size w wx) (fun i _ => k + 1 - (intOf i).toNat)
      case atStart => exact ⟨0, 0, by omega, by omega, rfl, hM3, hT3, hB3'⟩
      case round =>
        obtain ⟨j, e, hj, he, rfl, hM, hT, hB⟩ := hrel
        clear hM3 hT3 hB3'
        by_cases hjn : j ≤ k
        · have hjI : (j : Int) ≤ (k : Int) := by omega
          go_upto_if 70 with fail
          go_cut [] from 63 to 87 (fun wc => ∃ e' : Nat, e' ≤ 2 * j + 1 ∧ MibAt wc (w.heap.size + 1) w.heap.size k (Sof zc zi k) ∧ MibAt wc (M + 1) M e' (Tmid zc zi c x kk k j) ∧ Below w.heap.size w wc)
          case first =>
            by_cases hjk : j = kk
            · have hb : ((j : Int) == (kk : Int)) = true := by simp [hjk]
              have HT : Hid (addS (Tof zc zi c x kk k j) c x = Tmid zc zi c x kk k j) := by show _ = _; rw [hjk]; exact tof_hit zc zi c x k kk
              clear hjk
              go_wp2_with fail
              refine (put_any (M + 1) M e _ c x _ hT ⟨hc, hx⟩ (by omega)).mono ?_
              rintro e5 w5 ⟨rfl, hT5, hg5⟩
              rw [HT.out] at hT5
              have hM5 := hM.grown hg5 (by simp; omega) (by simp; omega)
              have hB5 : Below w.heap.size w w5 := hB.grown hg5 hB.size (fun i hi => by cases hi; omega)
              go_wp2_with fail
              go_meet
              case rel => exact ⟨e + 1, by omega, hM5, hT5, hB5⟩
            · have hb : ((j : Int) == (kk : Int)) = false := beq_eq_false_iff_ne.2 (by omega)
              go_wp2_with fail
              go_meet
              case rel => exact ⟨e, by omega, hM, by rw [← tof_miss zc zi c x kk k j hjk]; exact hT, hB⟩
          case rest =>
            obtain ⟨e', he', hM', hT', hB'⟩ := hcut
            clear hM hT hB
            by_cases hjl : j < k
            · obtain ⟨b0, o0, rfl, l0, g0⟩ := in_cell h0 rfl hB' hjl
              obtain ⟨b1, o1, rfl, l1, g1⟩ := in_cell h1 rfl hB' hjl
              have w0 := h0.2 j hjl
              have w1' := h1.2 j hjl
              have n0 : ¬ b0 = M := by omega
              have n1 : ¬ b1 = M := by omega
              have hjlI : (j : Int) < (k : Int) := by omega
              have HP : Hid (addS (Tmid zc zi c x kk k j) (zc.getD j 0) (zi.getD j 0) = Tof zc zi c x kk k (j + 1)) := tmid_put zc zi c x kk k j hjl
              go_wp2_with fail
              go_region_held3 (fun w' => w'.cell? ⟨b0, o0 + j, none⟩ = some (.int .u16 (zc.getD j 0)) ∧ w'.cell? ⟨b1, o1 + j, none⟩ = some (.int .u16 (zi.getD j 0))) (first | (exact ⟨hg2.cell (by exact g0) (by simpa using n0), hg2.cell (by exact g1) (by simpa using n1)⟩) | go_keep)
                ((go_at_call 7; refine (put_any (M + 1) M e' (Tmid zc zi c x kk k j) _ _ _ (by exact hT') ⟨w0, w1'⟩ (by omega)).mono ?_; rintro e6 w6 ⟨rfl, hT6, hg2⟩))
              rw [HP.out] at hT6
              have hM6 : MibAt w6 (w.heap.size + 1) w.heap.size k (Sof zc zi k) := MibAt.grown (w := wc.drew) hM' hg2 (by simp; omega) (by simp; omega)
              have hB6 : Below w.heap.size w w6 := hB'.drew.grown hg2 hB'.size (fun i hi => by cases hi; omega)
              go_wp2_with fail
              go_roundw
              case rel => exact ⟨j + 1, e' + 1, by omega, by omega, by go_num, hM6, hT6, hB6⟩
              case measure => simp [intOf]; omega
            · obtain rfl : j = k := by omega
              rw [tmid_end] at hT'
              go_wp2_with fail
              go_roundw
              case rel => exact ⟨j + 1, e', by omega, by omega, by go_num, hM', hT', hB'⟩
              case measure => simp [intOf]
        · obtain rfl : j = k + 1 := by omega
          rw [tof_last zc zi c x kk k hkk] at hT
          have hjI : ¬ (((k + 1 : Nat) : Int) ≤ (k : Int)) := by omega
          go_wp2_with fail
          refine (instances_at (w.heap.size + 1) w.heap.size k (Sof zc zi k) c _ hM hc (by omega)).mono ?_
          rintro e7 w7 ⟨ab, cb, Lb, tb, rfl, HLb, hIb, hLb, hRb, hB7⟩
          have hM7 := hM.below hB7
          have hT7 := hT.below hB7
          have hB7' : Below w.heap.size w w7 := hB.trans (hB7.mono hB.size)
          clear hM hT hB hB7
          go_wp2_with fail
          refine (instances_at (M + 1) M e (addS (Sof zc zi k) c x) c _ hT7 hc (by omega)).mono ?_
          rintro e8 w8 ⟨aa, ca, La, ta, rfl, HLa, hIa, hLa, hRa, hB8⟩
          have hM8 := hM7.below hB8
          have hT8 := hT7.below hB8
          have hRb8 := below_in hRb hB8
          have hB8' : Below w.heap.size w w8 := hB7'.trans (hB8.mono hB7'.size)
          clear hM7 hT7 hRb hB8 hB7'
          go_wp2_with fail
          refine (merge_any ab Lb cb tb x _ (by omega) HLb hRb8 hx).mono ?_
          rintro e9 w9 ⟨ag, cg, Lg, rfl, HLg, hLg, hRg, hB9⟩
          have hE : ta = merged x tb := ids_unique hIa (ids_merged hIb hx) (fun _ => rfl)
          have hLL : La = Lg := by rw [← HLa.out, ← HLg.out, hE]
          have hRa9 := below_in hRa hB9
          rw [hE] at hRa9
          have hM9 := hM8.below hB9
          have hT9 := hT8.below hB9
          have hB9' : Below w.heap.size w w9 := hB8'.trans (hB9.mono hB8'.size)
          subst hLL
          clear hE hM8 hT8 hB8' hB9 hRa hRb8 HLa HLg HLb hIa hIb
          go_wp2_with fail
          refine (same_yes aa ag La ca cg (merged x tb) _ (by omega) hRa9 hRg).mono ?_
          rintro e10 w10 ⟨rfl, hB10⟩
          have hM10 := hM9.below hB10
          have hT10 := hT9.below hB10
          have hB10' : Below w.heap.size w w10 := hB9'.trans (hB10.mono hB9'.size)
          clear hM9 hT9 hB9' hB10 hRa9 hRg
          obtain ⟨hdw, hdc⟩ := next_class hc
          go_wp2_with fail
          obtain ⟨d, hd⟩ : ∃ d, d = IntKind.u16.wrap (c + 1) := ⟨_, rfl⟩
          rw [← hd] at hdw hdc ⊢
          clear hd
          refine (instances_at (w.heap.size + 1) w.heap.size k (Sof zc zi k) d _ hM10 hdw (by omega)).mono ?_
          rintro e11 w11 ⟨ap, cp, Lp, tp, rfl, HLp, hIp, hLp, hRp, hB11⟩
          have hT11 := hT10.below hB11
          have hB11' : Below w.heap.size w w11 := hB10'.trans (hB11.mono hB10'.size)
          clear hM10 hT10 hB10' hB11
          go_wp2_with fail
          refine (instances_at (M + 1) M e (addS (Sof zc zi k) c x) d _ hT11 hdw (by omega)).mono ?_
          rintro e12 w12 ⟨aq, cq, Lq, tq, rfl, HLq, hIq, hLq, hRq, hB12⟩
          have hE : tp = tq := ids_unique hIp hIq (fun i => addS_other hdc i)
          have hLL : Lp = Lq := by rw [← HLp.out, ← HLq.out, hE]
          have hRp12 := below_in hRp hB12
          rw [hE] at hRp12
          have hB12' : Below w.heap.size w w12 := hB11'.trans (hB12.mono hB11'.size)
          subst hLL
          clear hE hT11 hB11' hB12 hRp HLp HLq hIp hIq
          go_wp2_with fail
          refine (same_yes ap aq Lp cp cq tq _ (by omega) hRp12 hRq).mono ?_
          rintro e13 w13 ⟨rfl, hB13⟩
          go_wp2_with fail
          go_ret
          exact ⟨rfl, hB12'.trans (hB13.mono hB12'.size)⟩

set_option maxHeartbeats 800000 in
theorem lawB_early (a0 a1 : Option Addr) (n0 c0 n1 c1 : Nat) (k c x : Int) (w : World) (h0 : n0 ≤ maxLen) (h1 : n1 ≤ maxLen) (h : 65536 < n0 ∨ 65536 < n1 ∨ n0 ≠ n1 ∨ k < 0 ∨ (n0 : Int) < k) :
    Calls Try.prog 4 #[.slice a0 n0 c0, .slice a1 n1 c1, .int .i64 k, .int .u16 c, .int .u16 x] w fun e w' => e = .returned (.bool true) ∧ Below w.heap.size w w' := by
  have cz := fun w => zzBytesB_any a0 a1 n0 c0 n1 c1 k c x w h0 h1
  unfold maxLen at h0 h1
  by_cases e0 : (65536 : Int) < (n0 : Int)
  · clear h
    go_enter Try.func4, Try.ntmps4
    go_wp2_with fail
    refine (cz _).mono ?_
    rintro e w' ⟨r, rfl, rfl⟩
    cases r
    all_goals
      go_wp2_with fail
      go_ret
      exact ⟨rfl, Below.refl _ _⟩
  by_cases e1 : (65536 : Int) < (n1 : Int)
  · clear h
    go_enter Try.func4, Try.ntmps4
    go_wp2_with fail
    refine (cz _).mono ?_
    rintro e w' ⟨r, rfl, rfl⟩
    cases r
    all_goals
      go_wp2_with fail
      go_ret
      exact ⟨rfl, Below.refl _ _⟩
  by_cases e2' : n0 = n1
  · subst e2'
    by_cases k0 : k < 0
    · clear h
      go_enter Try.func4, Try.ntmps4
      go_wp2_with fail
      refine (cz _).mono ?_
      rintro e w' ⟨r, rfl, rfl⟩
      cases r
      all_goals
        go_wp2_with fail
        go_ret
        exact ⟨rfl, Below.refl _ _⟩
    · have k1 : (n0 : Int) < k := by omega
      have k2 : decide (k < 0) = false := decide_eq_false k0
      clear h
      go_enter Try.func4, Try.ntmps4
      go_wp2_with fail
      refine (cz _).mono ?_
      rintro e w' ⟨r, rfl, rfl⟩
      cases r
      all_goals
        go_wp2_with fail
        go_ret
        exact ⟨rfl, Below.refl _ _⟩
  have e2 : ((n0 : Int) == (n1 : Int)) = false := beq_eq_false_iff_ne.2 (by omega)
  have e3 : ((n0 : Int) != (n1 : Int)) = true := by simp [bne, e2]
  clear h
  go_enter Try.func4, Try.ntmps4
  go_wp2_with fail
  refine (cz _).mono ?_
  rintro e w' ⟨r, rfl, rfl⟩
  cases r
  all_goals
    go_wp2_with fail
    go_ret
    exact ⟨rfl, Below.refl _ _⟩

end Go.Proofs.Qxb6629043a
