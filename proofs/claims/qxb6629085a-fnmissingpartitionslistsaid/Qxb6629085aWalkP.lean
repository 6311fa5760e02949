/-
  DERIVED. THE WALK OF FnMissingPartitionsList.
-/
import Derived.Test.Qxb6629085aLaws
namespace Go.Proofs.Qxb6629085a
open Go.RowKit

set_option maxHeartbeats 4000000 in
set_option maxRecDepth 100000 in
theorem lawP_core (a0 a1 a2 a3 : Option Addr) (L c0 c1 K c2 c3 : Nat) (s0 s1 s2 s3 : List ByteArray) (w : World) (hL : L ≤ 4096) (hK : K ≤ 4096)
    (h0 : SIn w a0 L s0) (h1 : SIn w a1 L s1) (h2 : SIn w a2 K s2) (h3 : SIn w a3 K s3) :
    Calls Try.prog 3 #[.slice a0 L c0, .slice a1 L c1, .slice a2 K c2, .slice a3 K c3] w fun e w' => e = .returned (.bool true) ∧ Below w.heap.size w w' := by
  have mL : L ≤ maxLen := by unfold maxLen; omega
  have mK : K ≤ maxLen := by unfold maxLen; omega
  go_enter Try.func3, Try.ntmps3
  go_wp2_with fail
  refine (zzBytesP_any a0 a1 a2 a3 L c0 L c1 K c2 K c3 s0 s1 s2 s3 w mL mL mK mK h0 h1 h2 h3).mono ?_
  rintro e w' ⟨⟨r, rfl⟩, rfl⟩
  cases r
  · go_wp2_with fail
    go_ret
    exact ⟨rfl, Below.refl _ _⟩
  go_wp2_with fail
  refine (addBytes_any 0 a0 L c0 s0 w (by omega) (by omega) mL h0).mono ?_
  rintro e w' ⟨r0, rfl, rfl, p0, q0⟩
  go_wp2_with fail
  refine (addBytes_any r0 a1 L c1 s1 w p0 q0 mL h1).mono ?_
  rintro e w' ⟨r1, rfl, rfl, p1, q1⟩
  go_wp2_with fail
  refine (addBytes_any r1 a2 K c2 s2 w p1 q1 mK h2).mono ?_
  rintro e w' ⟨r2, rfl, rfl, p2, q2⟩
  go_wp2_with fail
  refine (addBytes_any r2 a3 K c3 s3 w p2 q2 mK h3).mono ?_
  rintro e w' ⟨r3, rfl, rfl, p3, q3⟩
  clear p0 q0 p1 q1 p2 q2
  by_cases hr : 1048576 < r3
  · go_wp2_with fail
    go_ret
    exact ⟨rfl, Below.refl _ _⟩
  go_wp2_with fail
  refine (members_any a0 a1 L c0 c1 s0 s1 w (by omega) h0 h1).mono ?_
  rintro e w1 ⟨la, rfl, hM1, hB1⟩
  go_wp2_with fail
  have hin : ∀ {a : Option Addr} {n : Nat} {ss : List ByteArray}, SIn w a n ss → SIn w1 a n ss := fun h => ⟨fun hp => by
    obtain ⟨b, off, e, hc⟩ := h.1 hp
    exact ⟨b, off, e, fun i hi => by rw [hB1.cell (p := ⟨b, off + i, none⟩) (World.block_lt_of_cell? w _ (hc i hi))]; exact hc i hi⟩, h.2⟩
  refine (members_any a2 a3 K c2 c3 s2 s3 w1 (by omega) (hin h2) (hin h3)).mono ?_
  rintro e w2 ⟨oa, rfl, hO2, hB2⟩
  have hM2 := mIn_below hM1 rfl hB2
  have HL : Hid ((mems s0 s1 L).length = L) := length_mems _ _ _
  have HK : Hid ((mems s2 s3 K).length = K) := length_mems _ _ _
  generalize mems s0 s1 L = ms at HL hM1 hM2
  generalize mems s2 s3 K = os at HK hO2
  go_wp2_with fail
  refine (missing_any la oa L L K K ms os w2 (by omega) (by omega) HL HK hM2 hO2).mono ?_
  rintro e w3 ⟨ka, kc, LK, rfl, HLK, hLK, hK3, hB3⟩
  have hM3 := mIn_below hM2 rfl hB3
  have hO3 := mIn_below hO2 rfl hB3
  go_wp2_with fail
  refine (missing_any la ka L L LK kc ms (missM ms os) w3 (by omega) (by omega) HL HLK hM3 hK3).mono ?_
  rintro e w4 ⟨ha, hc, LH, rfl, HLH, hLH, hH4, hB4⟩
  have hM4 := mIn_below hM3 rfl hB4
  have hO4 := mIn_below hO3 rfl hB4
  have hK4 := mIn_below hK3 rfl hB4
  have hB : Below w.heap.size w w4 := by
    have b12 := hB1.trans (hB2.mono hB1.size)
    have b13 := b12.trans (hB3.mono b12.size)
    exact b13.trans (hB4.mono b13.size)
  clear hM1 hM2 hM3 hO2 hO3 hK3 hB1 hB2 hB3 hB4 hin h0 h1 h2 h3 p3 q3 hr
  go_wp2_with fail
  go_loopw [14, 15, 16] (fun vk vh vi wr => ∃ k ki hi : Nat, k ≤ L ∧ ki ≤ LK ∧ hi ≤ LH ∧ vi = .int .i64 k ∧ vk = .int .i64 ki ∧ vh = .int .i64 hi ∧ Hid ((missM (ms.take k) os).length = ki) ∧ Hid ((missM (ms.take k) (missM ms os)).length = hi) ∧ Below w4.heap.size w4 wr) (fun _ _ vi _ => L - (intOf vi).toNat)
  case atStart => exact ⟨0, 0, 0, Nat.zero_le _, Nat.zero_le _, Nat.zero_le _, rfl, rfl, rfl, rfl, rfl, Below.refl _ _⟩
  case round =>
    obtain ⟨k, ki, hi, hk, hki, hhi, rfl, rfl, rfl, HKI, HHI, hBr⟩ := hrel
    by_cases hlt : k < L
    · obtain ⟨b0, o0, rfl, l0, g0, g1⟩ := m_cell hM4 rfl hBr hlt
      have HKK : Hid (k < ms.length) := by show _ < _; rw [HL.out]; exact hlt
      obtain ⟨Y, hY⟩ : ∃ Y, Y = ms.getD k noM := ⟨_, rfl⟩
      rw [← hY] at g0 g1
      have HY : Hid (Y = ms.getD k noM) := hY
      have HP : Hid (hasM (missM ms os) Y = !hasM os Y) := has_kept (by rw [hY]; exact getD_memM HKK.out)
      clear hY
      obtain ⟨yn, ya⟩ := Y
      simp only [] at g0 g1
      have hkI : (k : Int) < (L : Int) := by omega
      have hBs := hBr.size
      have hB5 : Below w4.heap.size w4 (wr.alloc (.cells #[.string yn, .string ya] 29)) := hBr.alloc hBs _
      have r0 : (wr.alloc (.cells #[.string yn, .string ya] 29)).cell? ⟨wr.heap.size, 0, none⟩ = some (.string yn) := by simp
      have r1 : (wr.alloc (.cells #[.string yn, .string ya] 29)).cell? ⟨wr.heap.size, 1, none⟩ = some (.string ya) := by simp
      have hO5 := mIn_below hO4 rfl hB5
      go_wp2_with fail
      refine (has_any oa K K os yn ya _ (by omega) HK hO5).mono ?_
      rintro e w5 ⟨rfl, rfl⟩
      cases hq : hasM os (yn, ya) with
      | true =>
        have hq2 : hasM (missM ms os) (yn, ya) = false := by rw [HP.out, hq]; rfl
        have HN : Hid ((missM (ms.take (k + 1)) os).length = ki) := by show _ = _; rw [miss_drop HKK.out (by rw [← HY.out]; exact hq)]; exact HKI.out
        obtain ⟨A1, A2, A3⟩ := miss_at (os := missM ms os) HKK.out (by rw [← HY.out]; exact hq2)
        rw [HHI.out] at A1 A2 A3
        rw [HLH.out] at A1
        rw [← HY.out] at A2
        have HN2 : Hid ((missM (ms.take (k + 1)) (missM ms os)).length = hi + 1) := A3
        obtain ⟨b1, o1, rfl, l1, k0, k1⟩ := m_cell hH4 rfl hB5 A1
        rw [A2] at k0 k1
        simp only [] at k0 k1
        have hD : decide (LH ≤ hi) = false := decide_eq_false (by omega)
        have hhI : (hi : Int) < (LH : Int) := by omega
        clear hq hq2 A2 A3
        go_wp2_with fail
        go_quiet (fail)
        go_wp2_with fail
        go_roundw
        case rel => exact ⟨k + 1, ki, hi + 1, by omega, by omega, by omega, by go_num, rfl, by go_num, HN, HN2, below_drewN hB5 _⟩
        case measure => simp [intOf]; omega
      | false =>
        have hq2 : hasM (missM ms os) (yn, ya) = true := by rw [HP.out, hq]; rfl
        have HN : Hid ((missM (ms.take (k + 1)) (missM ms os)).length = hi) := by show _ = _; rw [miss_drop HKK.out (by rw [← HY.out]; exact hq2)]; exact HHI.out
        obtain ⟨A1, A2, A3⟩ := miss_at (os := os) HKK.out (by rw [← HY.out]; exact hq)
        rw [HKI.out] at A1 A2 A3
        rw [HLK.out] at A1
        rw [← HY.out] at A2
        have HN2 : Hid ((missM (ms.take (k + 1)) os).length = ki + 1) := A3
        obtain ⟨b1, o1, rfl, l1, k0, k1⟩ := m_cell hK4 rfl hB5 A1
        rw [A2] at k0 k1
        simp only [] at k0 k1
        have hD : decide (LK ≤ ki) = false := decide_eq_false (by omega)
        have hhI : (ki : Int) < (LK : Int) := by omega
        clear hq hq2 A2 A3
        go_wp2_with fail
        go_quiet (fail)
        go_wp2_with fail
        go_roundw
        case rel => exact ⟨k + 1, ki + 1, hi, by omega, by omega, by omega, by go_num, by go_num, rfl, HN2, HN, below_drewN hB5 _⟩
        case measure => simp [intOf]; omega
    · obtain rfl : k = L := by omega
      have e1 : ki = LK := by rw [← HKI.out, ← HLK.out, ← HL.out, List.take_length]
      have e2 : hi = LH := by rw [← HHI.out, ← HLH.out, ← HL.out, List.take_length]
      subst e1 e2
      have hkI : ¬ (k : Int) < (k : Int) := by omega
      go_wp2_with fail
      go_ret
      exact ⟨rfl, hB.trans (hBr.mono hB.size)⟩

end Go.Proofs.Qxb6629085a
