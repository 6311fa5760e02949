/-
  DERIVED. THE WALK OF FnMissingOthersSplitComposes.
-/
import Derived.Test.Qxb6629085aLaws
namespace Go.Proofs.Qxb6629085a
open Go.RowKit

theorem has_quiet (a : Option Addr) (L c : Nat) (ms : List Mem) (xn xa : ByteArray) (b : Bool) (w : World) (n : Nat) (hL : L ≤ 1000000) (HL : Hid (ms.length = L)) (hM : ∀ n, MIn (w.drewN n) a L ms) (hb : Hid (hasM ms (xn, xa) = b)) :
    Calls Try.prog 9 #[.slice a L c, .string xn, .string xa] (w.drewN n) fun e w' => e = .returned (.bool b) ∧ w' = w.drewN n :=
  (has_any a L c ms xn xa _ hL HL (hM n)).mono fun _ _ ⟨h1, h2⟩ => ⟨by rw [h1, hb.out], h2.symm⟩

theorem mIn_drop {w : World} {b off K k : Nat} {os : List Mem} (h : MIn w (some ⟨b, off, none⟩) K os) (hk : k ≤ K) : MIn w (some ⟨b, off + k * 2, none⟩) (K - k) (os.drop k) := fun h0 => by
  obtain ⟨b', off', e, hc⟩ := h (by omega)
  cases e
  refine ⟨b, off + k * 2, rfl, fun i hi => ?_⟩
  have := hc (k + i) (by omega)
  rw [getD_dropM, show off + k * 2 + i * 2 = off + (k + i) * 2 by omega]
  exact this

set_option maxHeartbeats 4000000 in
set_option maxRecDepth 100000 in
theorem lawS_mid (a0 a1 a2 a3 : Option Addr) (L c0 c1 K c2 c3 kk : Nat) (s0 s1 s2 s3 : List ByteArray) (w : World) (hL : L ≤ 4096) (hK : K ≤ 4096) (hkk : kk < K)
    (h0 : SIn w a0 L s0) (h1 : SIn w a1 L s1) (h2 : SIn w a2 K s2) (h3 : SIn w a3 K s3) :
    Calls Try.prog 4 #[.slice a0 L c0, .slice a1 L c1, .slice a2 K c2, .slice a3 K c3, .int .i64 kk] w fun e w' => e = .returned (.bool true) ∧ Below w.heap.size w w' := by
  have mL : L ≤ maxLen := by unfold maxLen; omega
  have mK : K ≤ maxLen := by unfold maxLen; omega
  have hk0 : ¬ (kk : Int) < 0 := by omega
  have hk1 : ¬ (K : Int) < (kk : Int) := by omega
  go_enter Try.func4, Try.ntmps4
  go_wp2_with fail
  refine (zzBytesS_any a0 a1 a2 a3 L c0 L c1 K c2 K c3 s0 s1 s2 s3 kk w mL mL mK mK h0 h1 h2 h3).mono ?_
  rintro e w' ⟨⟨r, rfl⟩, rfl⟩
  cases r
  · go_wp2_with fail
    go_ret
    exact ⟨rfl, Below.refl _ _⟩
  go_wp2_with fail
  refine (addBytes_any 0 a0 L c0 s0 w (by omega) (by omega) mL h0).mono ?_
  rintro e w' ⟨r0, rfl, rfl, p0, q0⟩
  go_wp2_with fail
  refine (addBytes_any r0 a1 L c1 s1 w p0 q0 mL h1).mono ?_
  rintro e w' ⟨r1, rfl, rfl, p1, q1⟩
  go_wp2_with fail
  refine (addBytes_any r1 a2 K c2 s2 w p1 q1 mK h2).mono ?_
  rintro e w' ⟨r2, rfl, rfl, p2, q2⟩
  go_wp2_with fail
  refine (addBytes_any r2 a3 K c3 s3 w p2 q2 mK h3).mono ?_
  rintro e w' ⟨r3, rfl, rfl, p3, q3⟩
  clear p0 q0 p1 q1 p2 q2
  by_cases hr : 1048576 < r3
  · go_wp2_with fail
    go_ret
    exact ⟨rfl, Below.refl _ _⟩
  go_wp2_with fail
  refine (members_any a0 a1 L c0 c1 s0 s1 w (by omega) h0 h1).mono ?_
  rintro e w1 ⟨la, rfl, hM1, hB1⟩
  go_wp2_with fail
  have hin : ∀ {a : Option Addr} {n : Nat} {ss : List ByteArray}, SIn w a n ss → SIn w1 a n ss := fun h => ⟨fun hp => by
    obtain ⟨b, off, e, hc⟩ := h.1 hp
    exact ⟨b, off, e, fun i hi => by rw [hB1.cell (p := ⟨b, off + i, none⟩) (World.block_lt_of_cell? w _ (hc i hi))]; exact hc i hi⟩, h.2⟩
  refine (members_any a2 a3 K c2 c3 s2 s3 w1 (by omega) (hin h2) (hin h3)).mono ?_
  rintro e w2 ⟨oa, rfl, hO2, hB2⟩
  have hM2 := mIn_below hM1 rfl hB2
  have HL : Hid ((mems s0 s1 L).length = L) := length_mems _ _ _
  have HK : Hid ((mems s2 s3 K).length = K) := length_mems _ _ _
  generalize mems s0 s1 L = ms at HL hM1 hM2
  generalize mems s2 s3 K = os at HK hO2
  go_wp2_with fail
  refine (missing_any la oa L L K K ms os w2 (by omega) (by omega) HL HK hM2 hO2).mono ?_
  rintro e w3 ⟨ka, kc, LW, rfl, HLW, hLW, hW3, hB3⟩
  have hM3 := mIn_below hM2 rfl hB3
  have hO3 := mIn_below hO2 rfl hB3
  go_wp2_with fail
  have HT : Hid ((os.take kk).length = kk) := by show _ = _; rw [List.length_take, HK.out]; omega
  refine (missing_any la oa L L kk K ms (os.take kk) w3 (by omega) (by omega) HL HT hM3 (mIn_take hO3 (Nat.le_of_lt hkk))).mono ?_
  rintro e w4 ⟨fa, fc, LF, rfl, HLF, hLF, hF4, hB4⟩
  have hM4 := mIn_below hM3 rfl hB4
  have hO4 := mIn_below hO3 rfl hB4
  have hW4 := mIn_below hW3 rfl hB4
  have hB04 : Below w.heap.size w w4 := by
    have b12 := hB1.trans (hB2.mono hB1.size)
    have b13 := b12.trans (hB3.mono b12.size)
    exact b13.trans (hB4.mono b13.size)
  clear hM1 hM2 hM3 hO2 hO3 hW3 hB1 hB2 hB3 hB4 hin h0 h1 h2 h3 p3 q3 hr
  obtain ⟨ob, oo, rfl, -⟩ := hO4 (by omega)
  go_wp2_with fail
  have HD : Hid ((os.drop kk).length = K - kk) := by show _ = _; rw [List.length_drop, HK.out]
  refine (missing_any fa _ LF fc (K - kk) _ (missM ms (os.take kk)) (os.drop kk) w4 (by omega) (by omega) HLF HD hF4 (mIn_drop hO4 (Nat.le_of_lt hkk))).mono ?_
  rintro e w5 ⟨sa, sc, LS, rfl, HLS, hLS, hS5, hB5⟩
  have HSP : Hid (missM (missM ms (os.take kk)) (os.drop kk) = missM ms os) := miss_split ms os kk
  have eS : LS = LW := by rw [← HLS.out, ← HLW.out, HSP.out]
  subst eS
  rw [HSP.out] at hS5
  have hM5 := mIn_below hM4 rfl hB5
  have hO5 := mIn_below hO4 rfl hB5
  have hW5 := mIn_below hW4 rfl hB5
  have hB : Below w.heap.size w w5 := hB04.trans (hB5.mono hB04.size)
  clear hM4 hO4 hW4 hF4 hB04 hB5 HLS HSP HLF HD HT
  go_wp2_with fail
  go_loopw [17, 18] (fun vc vi wr => ∃ k c : Nat, k ≤ L ∧ c ≤ k ∧ vi = .int .i64 k ∧ vc = .int .i64 c ∧ Hid ((missM (ms.take k) os).length = c) ∧ Below w5.heap.size w5 wr) (fun _ vi _ => L - (intOf vi).toNat)
  case atStart => exact ⟨0, 0, Nat.zero_le _, Nat.zero_le _, rfl, rfl, rfl, Below.refl _ _⟩
  case round =>
    obtain ⟨k, c, hk, hc, rfl, rfl, HC, hBr⟩ := hrel
    by_cases hlt : k < L
    · obtain ⟨b0, o0, rfl, l0, g0, g1⟩ := m_cell hM5 rfl hBr hlt
      have HKK : Hid (k < ms.length) := by show _ < _; rw [HL.out]; exact hlt
      obtain ⟨Y, hY⟩ : ∃ Y, Y = ms.getD k noM := ⟨_, rfl⟩
      rw [← hY] at g0 g1
      have HY : Hid (Y = ms.getD k noM) := hY
      clear hY
      obtain ⟨yn, ya⟩ := Y
      simp only [] at g0 g1
      have hkI : (k : Int) < (L : Int) := by omega
      have hOr : ∀ n, MIn (wr.drewN n) (some ⟨ob, oo, none⟩) K os := fun n => mIn_below hO5 rfl (below_drewN hBr n)
      have hK6 : K ≤ 1000000 := by omega
      cases hq : hasM os (yn, ya) with
      | true =>
        have HN : Hid ((missM (ms.take (k + 1)) os).length = c) := by show _ = _; rw [miss_drop HKK.out (by rw [← HY.out]; exact hq)]; exact HC.out
        have HQ : Hid (hasM os (yn, ya) = true) := hq
        clear hq
        go_wp2_with fail
        go_quiet (first | (go_at_call 9; refine Calls.quiet_of_same (has_quiet _ K K os yn ya true wr _ hK6 HK hOr HQ)))
        go_wp2_with fail
        go_roundw
        case rel => exact ⟨k + 1, c, by omega, by omega, by go_num, rfl, HN, below_drewN hBr _⟩
        case measure => simp [intOf]; omega
      | false =>
        have HN : Hid ((missM (ms.take (k + 1)) os).length = c + 1) := by show _ = _; rw [miss_keep HKK.out (by rw [← HY.out]; exact hq), List.length_append, HC.out]; rfl
        have HQ : Hid (hasM os (yn, ya) = false) := hq
        clear hq
        go_wp2_with fail
        go_quiet (first | (go_at_call 9; refine Calls.quiet_of_same (has_quiet _ K K os yn ya false wr _ hK6 HK hOr HQ)))
        go_wp2_with fail
        go_roundw
        case rel => exact ⟨k + 1, c + 1, by omega, by omega, by go_num, by go_num, HN, below_drewN hBr _⟩
        case measure => simp [intOf]; omega
    · obtain rfl : k = L := by omega
      have e1 : c = LS := by rw [← HC.out, ← HLW.out, ← HL.out, List.take_length]
      subst e1
      have hkI : ¬ (k : Int) < (k : Int) := by omega
      go_wp2_with fail
      refine (same_yes ka sa c kc sc (missM ms os) wr (by omega) (mIn_below hW5 rfl hBr) (mIn_below hS5 rfl hBr)).mono ?_
      rintro e w6 ⟨rfl, hB6⟩
      have hB06 := hB.trans (hBr.mono hB.size)
      have hB07 := hB06.trans (hB6.mono hB06.size)
      go_wp2_with fail
      go_ret
      exact ⟨rfl, hB07⟩

set_option maxHeartbeats 4000000 in
set_option maxRecDepth 100000 in
theorem lawS_end (a0 a1 a2 a3 : Option Addr) (L c0 c1 K c2 c3 : Nat) (s0 s1 s2 s3 : List ByteArray) (w : World) (hL : L ≤ 4096) (hK : K ≤ 4096)
    (h0 : SIn w a0 L s0) (h1 : SIn w a1 L s1) (h2 : SIn w a2 K s2) (h3 : SIn w a3 K s3) :
    Calls Try.prog 4 #[.slice a0 L c0, .slice a1 L c1, .slice a2 K c2, .slice a3 K c3, .int .i64 K] w fun e w' => e = .returned (.bool true) ∧ Below w.heap.size w w' := by
  have mL : L ≤ maxLen := by unfold maxLen; omega
  have mK : K ≤ maxLen := by unfold maxLen; omega
  have hk0 : ¬ (K : Int) < 0 := by omega
  have hk1 : ¬ (K : Int) < (K : Int) := by omega
  go_enter Try.func4, Try.ntmps4
  go_wp2_with fail
  refine (zzBytesS_any a0 a1 a2 a3 L c0 L c1 K c2 K c3 s0 s1 s2 s3 K w mL mL mK mK h0 h1 h2 h3).mono ?_
  rintro e w' ⟨⟨r, rfl⟩, rfl⟩
  cases r
  · go_wp2_with fail
    go_ret
    exact ⟨rfl, Below.refl _ _⟩
  go_wp2_with fail
  refine (addBytes_any 0 a0 L c0 s0 w (by omega) (by omega) mL h0).mono ?_
  rintro e w' ⟨r0, rfl, rfl, p0, q0⟩
  go_wp2_with fail
  refine (addBytes_any r0 a1 L c1 s1 w p0 q0 mL h1).mono ?_
  rintro e w' ⟨r1, rfl, rfl, p1, q1⟩
  go_wp2_with fail
  refine (addBytes_any r1 a2 K c2 s2 w p1 q1 mK h2).mono ?_
  rintro e w' ⟨r2, rfl, rfl, p2, q2⟩
  go_wp2_with fail
  refine (addBytes_any r2 a3 K c3 s3 w p2 q2 mK h3).mono ?_
  rintro e w' ⟨r3, rfl, rfl, p3, q3⟩
  clear p0 q0 p1 q1 p2 q2
  by_cases hr : 1048576 < r3
  · go_wp2_with fail
    go_ret
    exact ⟨rfl, Below.refl _ _⟩
  go_wp2_with fail
  refine (members_any a0 a1 L c0 c1 s0 s1 w (by omega) h0 h1).mono ?_
  rintro e w1 ⟨la, rfl, hM1, hB1⟩
  go_wp2_with fail
  have hin : ∀ {a : Option Addr} {n : Nat} {ss : List ByteArray}, SIn w a n ss → SIn w1 a n ss := fun h => ⟨fun hp => by
    obtain ⟨b, off, e, hc⟩ := h.1 hp
    exact ⟨b, off, e, fun i hi => by rw [hB1.cell (p := ⟨b, off + i, none⟩) (World.block_lt_of_cell? w _ (hc i hi))]; exact hc i hi⟩, h.2⟩
  refine (members_any a2 a3 K c2 c3 s2 s3 w1 (by omega) (hin h2) (hin h3)).mono ?_
  rintro e w2 ⟨oa, rfl, hO2, hB2⟩
  have hM2 := mIn_below hM1 rfl hB2
  have HL : Hid ((mems s0 s1 L).length = L) := length_mems _ _ _
  have HK : Hid ((mems s2 s3 K).length = K) := length_mems _ _ _
  generalize mems s0 s1 L = ms at HL hM1 hM2
  generalize mems s2 s3 K = os at HK hO2
  go_wp2_with fail
  refine (missing_any la oa L L K K ms os w2 (by omega) (by omega) HL HK hM2 hO2).mono ?_
  rintro e w3 ⟨ka, kc, LW, rfl, HLW, hLW, hW3, hB3⟩
  have hM3 := mIn_below hM2 rfl hB3
  have hO3 := mIn_below hO2 rfl hB3
  go_wp2_with fail
  have HT : Hid ((os.take K).length = K) := by show _ = _; rw [List.length_take, HK.out]; omega
  refine (missing_any la oa L L K K ms (os.take K) w3 (by omega) (by omega) HL HT hM3 (mIn_take hO3 (Nat.le_refl K))).mono ?_
  rintro e w4 ⟨fa, fc, LF, rfl, HLF, hLF, hF4, hB4⟩
  have hM4 := mIn_below hM3 rfl hB4
  have hO4 := mIn_below hO3 rfl hB4
  have hW4 := mIn_below hW3 rfl hB4
  have hB04 : Below w.heap.size w w4 := by
    have b12 := hB1.trans (hB2.mono hB1.size)
    have b13 := b12.trans (hB3.mono b12.size)
    exact b13.trans (hB4.mono b13.size)
  clear hM1 hM2 hM3 hO2 hO3 hW3 hB1 hB2 hB3 hB4 hin h0 h1 h2 h3 p3 q3 hr
  go_wp2_with fail
  have HD : Hid ((os.drop K).length = 0) := by show _ = _; rw [List.length_drop, HK.out, Nat.sub_self]
  refine (missing_any fa _ LF fc 0 _ (missM ms (os.take K)) (os.drop K) w4 (by omega) (by omega) HLF HD hF4 (fun h => absurd h (Nat.lt_irrefl 0))).mono ?_
  rintro e w5 ⟨sa, sc, LS, rfl, HLS, hLS, hS5, hB5⟩
  have HSP : Hid (missM (missM ms (os.take K)) (os.drop K) = missM ms os) := miss_split ms os K
  have eS : LS = LW := by rw [← HLS.out, ← HLW.out, HSP.out]
  subst eS
  rw [HSP.out] at hS5
  have hM5 := mIn_below hM4 rfl hB5
  have hO5 := mIn_below hO4 rfl hB5
  have hW5 := mIn_below hW4 rfl hB5
  have hB : Below w.heap.size w w5 := hB04.trans (hB5.mono hB04.size)
  clear hM4 hO4 hW4 hF4 hB04 hB5 HLS HSP HLF HD HT
  go_wp2_with fail
  go_loopw [17, 18] (fun vc vi wr => ∃ k c : Nat, k ≤ L ∧ c ≤ k ∧ vi = .int .i64 k ∧ vc = .int .i64 c ∧ Hid ((missM (ms.take k) os).length = c) ∧ Below w5.heap.size w5 wr) (fun _ vi _ => L - (intOf vi).toNat)
  case atStart => exact ⟨0, 0, Nat.zero_le _, Nat.zero_le _, rfl, rfl, rfl, Below.refl _ _⟩
  case round =>
    obtain ⟨k, c, hk, hc, rfl, rfl, HC, hBr⟩ := hrel
    by_cases hlt : k < L
    · obtain ⟨b0, o0, rfl, l0, g0, g1⟩ := m_cell hM5 rfl hBr hlt
      have HKK : Hid (k < ms.length) := by show _ < _; rw [HL.out]; exact hlt
      obtain ⟨Y, hY⟩ : ∃ Y, Y = ms.getD k noM := ⟨_, rfl⟩
      rw [← hY] at g0 g1
      have HY : Hid (Y = ms.getD k noM) := hY
      clear hY
      obtain ⟨yn, ya⟩ := Y
      simp only [] at g0 g1
      have hkI : (k : Int) < (L : Int) := by omega
      have hOr : ∀ n, MIn (wr.drewN n) oa K os := fun n => mIn_below hO5 rfl (below_drewN hBr n)
      have hK6 : K ≤ 1000000 := by omega
      cases hq : hasM os (yn, ya) with
      | true =>
        have HN : Hid ((missM (ms.take (k + 1)) os).length = c) := by show _ = _; rw [miss_drop HKK.out (by rw [← HY.out]; exact hq)]; exact HC.out
        have HQ : Hid (hasM os (yn, ya) = true) := hq
        clear hq
        go_wp2_with fail
        go_quiet (first | (go_at_call 9; refine Calls.quiet_of_same (has_quiet _ K K os yn ya true wr _ hK6 HK hOr HQ)))
        go_wp2_with fail
        go_roundw
        case rel => exact ⟨k + 1, c, by omega, by omega, by go_num, rfl, HN, below_drewN hBr _⟩
        case measure => simp [intOf]; omega
      | false =>
        have HN : Hid ((missM (ms.take (k + 1)) os).length = c + 1) := by show _ = _; rw [miss_keep HKK.out (by rw [← HY.out]; exact hq), List.length_append, HC.out]; rfl
        have HQ : Hid (hasM os (yn, ya) = false) := hq
        clear hq
        go_wp2_with fail
        go_quiet (first | (go_at_call 9; refine Calls.quiet_of_same (has_quiet _ K K os yn ya false wr _ hK6 HK hOr HQ)))
        go_wp2_with fail
        go_roundw
        case rel => exact ⟨k + 1, c + 1, by omega, by omega, by go_num, by go_num, HN, below_drewN hBr _⟩
        case measure => simp [intOf]; omega
    · obtain rfl : k = L := by omega
      have e1 : c = LS := by rw [← HC.out, ← HLW.out, ← HL.out, List.take_length]
      subst e1
      have hkI : ¬ (k : Int) < (k : Int) := by omega
      go_wp2_with fail
      refine (same_yes ka sa c kc sc (missM ms os) wr (by omega) (mIn_below hW5 rfl hBr) (mIn_below hS5 rfl hBr)).mono ?_
      rintro e w6 ⟨rfl, hB6⟩
      have hB06 := hB.trans (hBr.mono hB.size)
      have hB07 := hB06.trans (hB6.mono hB06.size)
      go_wp2_with fail
      go_ret
      exact ⟨rfl, hB07⟩

theorem lawS_core (a0 a1 a2 a3 : Option Addr) (L c0 c1 K c2 c3 kk : Nat) (s0 s1 s2 s3 : List ByteArray) (w : World) (hL : L ≤ 4096) (hK : K ≤ 4096) (hkk : kk ≤ K)
    (h0 : SIn w a0 L s0) (h1 : SIn w a1 L s1) (h2 : SIn w a2 K s2) (h3 : SIn w a3 K s3) :
    Calls Try.prog 4 #[.slice a0 L c0, .slice a1 L c1, .slice a2 K c2, .slice a3 K c3, .int .i64 kk] w fun e w' => e = .returned (.bool true) ∧ Below w.heap.size w w' := by
  by_cases h : kk < K
  · exact lawS_mid a0 a1 a2 a3 L c0 c1 K c2 c3 kk s0 s1 s2 s3 w hL hK h h0 h1 h2 h3
  · obtain rfl : kk = K := by omega
    exact lawS_end a0 a1 a2 a3 L c0 c1 kk c2 c3 s0 s1 s2 s3 w hL hK h0 h1 h2 h3

end Go.Proofs.Qxb6629085a
