/-
  DERIVED. THE GUARDS ON SIZES: zzAddBytes, zzBytes_..: they return; nothing turns. (What they answer is not needed.)
-/
import Derived.Test.Qxb6629085aFns2
namespace Go.Proofs.Qxb6629085a
open Go.RowKit

set_option maxHeartbeats 800000 in
theorem addBytes_any (acc : Int) (a : Option Addr) (L c : Nat) (ss : List ByteArray) (w : World) (h0 : 0 ≤ acc) (h1 : acc ≤ 2200000) (hL : L ≤ maxLen) (hS : SIn w a L ss) :
    Calls Try.prog 6 #[.int .i64 acc, .slice a L c] w fun e w' => ∃ r : Int, e = .returned (.int .i64 r) ∧ w = w' ∧ 0 ≤ r ∧ r ≤ 2200000 := by
  unfold maxLen at hL
  by_cases e1 : 1048576 < acc
  · go_enter Try.func6, Try.ntmps6
    go_wp2
    go_ret
    exact ⟨_, rfl, rfl, by omega, by omega⟩
  by_cases e2 : (4096 : Int) < (L : Int)
  · go_enter Try.func6, Try.ntmps6
    go_wp2
    go_ret
    exact ⟨_, rfl, rfl, by omega, by omega⟩
  have e1b : decide (1048576 < acc) = false := decide_eq_false e1
  go_enter Try.func6, Try.ntmps6
  go_wp2
  go_loop [0, 5] (fun s i => ∃ (A : Int) (k : Nat), s = .int .i64 A ∧ i = .int .i64 k ∧ k ≤ L ∧ 0 ≤ A ∧ A ≤ 2200000) (fun _ i => L - (intOf i).toNat)
  case atStart => exact ⟨_, 0, rfl, rfl, Nat.zero_le _, by omega, by omega⟩
  case round =>
    obtain ⟨A, k, rfl, rfl, hk, hA0, hA1⟩ := hrel
    clear e1 e1b
    by_cases hlt : k < L
    · obtain ⟨b, off, rfl, lb, g0⟩ := s_cell hS rfl (Below.refl _ w) hlt
      have hsz := hS.2 k hlt
      unfold maxLen at hsz
      generalize ss.getD k ByteArray.empty = s at g0 hsz
      have hkI : (k : Int) < (L : Int) := by omega
      by_cases f1 : 1048576 < A
      · have f1b : decide (1048576 < A) = true := decide_eq_true f1
        go_wp2
        go_ret
        exact ⟨_, rfl, rfl, by omega, by omega⟩
      have f1b : decide (1048576 < A) = false := decide_eq_false f1
      by_cases f2 : (1048576 : Int) < (s.size : Int)
      · go_wp2
        go_ret
        exact ⟨_, rfl, rfl, by omega, by omega⟩
      · go_wp2
        go_round
        case rel => exact ⟨A + s.size, k + 1, by first | rfl | go_num, by go_num, by omega, by omega, by omega⟩
        case measure => simp [intOf]; omega
    · have hkI : ¬ (k : Int) < (L : Int) := by omega
      go_wp2
      go_ret
      exact ⟨A, rfl, rfl, hA0, hA1⟩

/-- It returned a bool. -/
def SomeB (e : Ending) : Prop := ∃ r : Bool, e = .returned (.bool r)

set_option maxHeartbeats 4000000 in
set_option maxRecDepth 100000 in
theorem zzBytesP_any (a0 a1 a2 a3 : Option Addr) (L0 c0 L1 c1 L2 c2 L3 c3 : Nat) (s0 s1 s2 s3 : List ByteArray) (w : World) (m0 : L0 ≤ maxLen) (m1 : L1 ≤ maxLen) (m2 : L2 ≤ maxLen) (m3 : L3 ≤ maxLen)
    (h0 : SIn w a0 L0 s0) (h1 : SIn w a1 L1 s1) (h2 : SIn w a2 L2 s2) (h3 : SIn w a3 L3 s3) :
    Calls Try.prog 5 #[.slice a0 L0 c0, .slice a1 L1 c1, .slice a2 L2 c2, .slice a3 L3 c3] w fun e w' => SomeB e ∧ w = w' := by
  unfold maxLen at m0 m1 m2 m3
  go_enter Try.func5, Try.ntmps5
  go_wp2
  any_goals (go_ret; exact ⟨⟨_, rfl⟩, rfl⟩)
  go_loop [9, 10] (fun z i => ∃ (A : Int) (k : Nat), z = .int .i64 A ∧ i = .int .i64 k ∧ k ≤ L0 ∧ 0 ≤ A ∧ A ≤ 1048576) (fun _ i => L0 - (intOf i).toNat)
  case atStart => exact ⟨_, 0, rfl, rfl, Nat.zero_le _, by omega, by omega⟩
  case round =>
    obtain ⟨A, k, rfl, rfl, hk, hA0, hA1⟩ := hrel
    by_cases hlt : k < L0
    · obtain ⟨b, off, rfl, lb, g0⟩ := s_cell h0 rfl (Below.refl _ w) hlt
      have hsz := h0.2 k hlt
      unfold maxLen at hsz
      generalize s0.getD k ByteArray.empty = s at g0 hsz
      have hkI : (k : Int) < (L0 : Int) := by omega
      go_wp2
      any_goals (go_ret; exact ⟨⟨_, rfl⟩, rfl⟩)
      go_round
      case rel => exact ⟨A + s.size, k + 1, by first | rfl | go_num, by go_num, by omega, by omega, by omega⟩
      case measure => simp [intOf]; omega
    · have hkI : ¬ (k : Int) < (L0 : Int) := by omega
      go_wp2
      any_goals (go_ret; exact ⟨⟨_, rfl⟩, rfl⟩)
      clear hkI hlt hk
      go_loop [9, 11] (fun z i => ∃ (A : Int) (k : Nat), z = .int .i64 A ∧ i = .int .i64 k ∧ k ≤ L1 ∧ 0 ≤ A ∧ A ≤ 1048576) (fun _ i => L1 - (intOf i).toNat)
      case atStart => exact ⟨_, 0, rfl, rfl, Nat.zero_le _, by omega, by omega⟩
      case round =>
        obtain ⟨A, k, rfl, rfl, hk, hA0, hA1⟩ := hrel
        by_cases hlt : k < L1
        · obtain ⟨b, off, rfl, lb, g0⟩ := s_cell h1 rfl (Below.refl _ w) hlt
          have hsz := h1.2 k hlt
          unfold maxLen at hsz
          generalize s1.getD k ByteArray.empty = s at g0 hsz
          have hkI : (k : Int) < (L1 : Int) := by omega
          go_wp2
          any_goals (go_ret; exact ⟨⟨_, rfl⟩, rfl⟩)
          go_round
          case rel => exact ⟨A + s.size, k + 1, by first | rfl | go_num, by go_num, by omega, by omega, by omega⟩
          case measure => simp [intOf]; omega
        · have hkI : ¬ (k : Int) < (L1 : Int) := by omega
          go_wp2
          any_goals (go_ret; exact ⟨⟨_, rfl⟩, rfl⟩)
          clear hkI hlt hk
          go_loop [9, 12] (fun z i => ∃ (A : Int) (k : Nat), z = .int .i64 A ∧ i = .int .i64 k ∧ k ≤ L2 ∧ 0 ≤ A ∧ A ≤ 1048576) (fun _ i => L2 - (intOf i).toNat)
          case atStart => exact ⟨_, 0, rfl, rfl, Nat.zero_le _, by omega, by omega⟩
          case round =>
            obtain ⟨A, k, rfl, rfl, hk, hA0, hA1⟩ := hrel
            by_cases hlt : k < L2
            · obtain ⟨b, off, rfl, lb, g0⟩ := s_cell h2 rfl (Below.refl _ w) hlt
              have hsz := h2.2 k hlt
              unfold maxLen at hsz
              generalize s2.getD k ByteArray.empty = s at g0 hsz
              have hkI : (k : Int) < (L2 : Int) := by omega
              go_wp2
              any_goals (go_ret; exact ⟨⟨_, rfl⟩, rfl⟩)
              go_round
              case rel => exact ⟨A + s.size, k + 1, by first | rfl | go_num, by go_num, by omega, by omega, by omega⟩
              case measure => simp [intOf]; omega
            · have hkI : ¬ (k : Int) < (L2 : Int) := by omega
              go_wp2
              any_goals (go_ret; exact ⟨⟨_, rfl⟩, rfl⟩)
              clear hkI hlt hk
              go_loop [9, 13] (fun z i => ∃ (A : Int) (k : Nat), z = .int .i64 A ∧ i = .int .i64 k ∧ k ≤ L3 ∧ 0 ≤ A ∧ A ≤ 1048576) (fun _ i => L3 - (intOf i).toNat)
              case atStart => exact ⟨_, 0, rfl, rfl, Nat.zero_le _, by omega, by omega⟩
              case round =>
                obtain ⟨A, k, rfl, rfl, hk, hA0, hA1⟩ := hrel
                by_cases hlt : k < L3
                · obtain ⟨b, off, rfl, lb, g0⟩ := s_cell h3 rfl (Below.refl _ w) hlt
                  have hsz := h3.2 k hlt
                  unfold maxLen at hsz
                  generalize s3.getD k ByteArray.empty = s at g0 hsz
                  have hkI : (k : Int) < (L3 : Int) := by omega
                  go_wp2
                  any_goals (go_ret; exact ⟨⟨_, rfl⟩, rfl⟩)
                  go_round
                  case rel => exact ⟨A + s.size, k + 1, by first | rfl | go_num, by go_num, by omega, by omega, by omega⟩
                  case measure => simp [intOf]; omega
                · have hkI : ¬ (k : Int) < (L3 : Int) := by omega
                  go_wp2
                  any_goals (go_ret; exact ⟨⟨_, rfl⟩, rfl⟩)

set_option maxHeartbeats 4000000 in
set_option maxRecDepth 100000 in
theorem zzBytesS_any (a0 a1 a2 a3 : Option Addr) (L0 c0 L1 c1 L2 c2 L3 c3 : Nat) (s0 s1 s2 s3 : List ByteArray) (kk : Int) (w : World) (m0 : L0 ≤ maxLen) (m1 : L1 ≤ maxLen) (m2 : L2 ≤ maxLen) (m3 : L3 ≤ maxLen)
    (h0 : SIn w a0 L0 s0) (h1 : SIn w a1 L1 s1) (h2 : SIn w a2 L2 s2) (h3 : SIn w a3 L3 s3) :
    Calls Try.prog 10 #[.slice a0 L0 c0, .slice a1 L1 c1, .slice a2 L2 c2, .slice a3 L3 c3, .int .i64 kk] w fun e w' => SomeB e ∧ w = w' := by
  unfold maxLen at m0 m1 m2 m3
  go_enter Try.func10, Try.ntmps10
  go_wp2
  any_goals (go_ret; exact ⟨⟨_, rfl⟩, rfl⟩)
  go_loop [11, 12] (fun z i => ∃ (A : Int) (k : Nat), z = .int .i64 A ∧ i = .int .i64 k ∧ k ≤ L0 ∧ 0 ≤ A ∧ A ≤ 1048576) (fun _ i => L0 - (intOf i).toNat)
  case atStart => exact ⟨_, 0, rfl, rfl, Nat.zero_le _, by omega, by omega⟩
  case round =>
    obtain ⟨A, k, rfl, rfl, hk, hA0, hA1⟩ := hrel
    by_cases hlt : k < L0
    · obtain ⟨b, off, rfl, lb, g0⟩ := s_cell h0 rfl (Below.refl _ w) hlt
      have hsz := h0.2 k hlt
      unfold maxLen at hsz
      generalize s0.getD k ByteArray.empty = s at g0 hsz
      have hkI : (k : Int) < (L0 : Int) := by omega
      go_wp2
      any_goals (go_ret; exact ⟨⟨_, rfl⟩, rfl⟩)
      go_round
      case rel => exact ⟨A + s.size, k + 1, by first | rfl | go_num, by go_num, by omega, by omega, by omega⟩
      case measure => simp [intOf]; omega
    · have hkI : ¬ (k : Int) < (L0 : Int) := by omega
      go_wp2
      any_goals (go_ret; exact ⟨⟨_, rfl⟩, rfl⟩)
      clear hkI hlt hk
      go_loop [11, 13] (fun z i => ∃ (A : Int) (k : Nat), z = .int .i64 A ∧ i = .int .i64 k ∧ k ≤ L1 ∧ 0 ≤ A ∧ A ≤ 1048576) (fun _ i => L1 - (intOf i).toNat)
      case atStart => exact ⟨_, 0, rfl, rfl, Nat.zero_le _, by omega, by omega⟩
      case round =>
        obtain ⟨A, k, rfl, rfl, hk, hA0, hA1⟩ := hrel
        by_cases hlt : k < L1
        · obtain ⟨b, off, rfl, lb, g0⟩ := s_cell h1 rfl (Below.refl _ w) hlt
          have hsz := h1.2 k hlt
          unfold maxLen at hsz
          generalize s1.getD k ByteArray.empty = s at g0 hsz
          have hkI : (k : Int) < (L1 : Int) := by omega
          go_wp2
          any_goals (go_ret; exact ⟨⟨_, rfl⟩, rfl⟩)
          go_round
          case rel => exact ⟨A + s.size, k + 1, by first | rfl | go_num, by go_num, by omega, by omega, by omega⟩
          case measure => simp [intOf]; omega
        · have hkI : ¬ (k : Int) < (L1 : Int) := by omega
          go_wp2
          any_goals (go_ret; exact ⟨⟨_, rfl⟩, rfl⟩)
          clear hkI hlt hk
          go_loop [11, 14] (fun z i => ∃ (A : Int) (k : Nat), z = .int .i64 A ∧ i = .int .i64 k ∧ k ≤ L2 ∧ 0 ≤ A ∧ A ≤ 1048576) (fun _ i => L2 - (intOf i).toNat)
          case atStart => exact ⟨_, 0, rfl, rfl, Nat.zero_le _, by omega, by omega⟩
          case round =>
            obtain ⟨A, k, rfl, rfl, hk, hA0, hA1⟩ := hrel
            by_cases hlt : k < L2
            · obtain ⟨b, off, rfl, lb, g0⟩ := s_cell h2 rfl (Below.refl _ w) hlt
              have hsz := h2.2 k hlt
              unfold maxLen at hsz
              generalize s2.getD k ByteArray.empty = s at g0 hsz
              have hkI : (k : Int) < (L2 : Int) := by omega
              go_wp2
              any_goals (go_ret; exact ⟨⟨_, rfl⟩, rfl⟩)
              go_round
              case rel => exact ⟨A + s.size, k + 1, by first | rfl | go_num, by go_num, by omega, by omega, by omega⟩
              case measure => simp [intOf]; omega
            · have hkI : ¬ (k : Int) < (L2 : Int) := by omega
              go_wp2
              any_goals (go_ret; exact ⟨⟨_, rfl⟩, rfl⟩)
              clear hkI hlt hk
              go_loop [11, 15] (fun z i => ∃ (A : Int) (k : Nat), z = .int .i64 A ∧ i = .int .i64 k ∧ k ≤ L3 ∧ 0 ≤ A ∧ A ≤ 1048576) (fun _ i => L3 - (intOf i).toNat)
              case atStart => exact ⟨_, 0, rfl, rfl, Nat.zero_le _, by omega, by omega⟩
              case round =>
                obtain ⟨A, k, rfl, rfl, hk, hA0, hA1⟩ := hrel
                by_cases hlt : k < L3
                · obtain ⟨b, off, rfl, lb, g0⟩ := s_cell h3 rfl (Below.refl _ w) hlt
                  have hsz := h3.2 k hlt
                  unfold maxLen at hsz
                  generalize s3.getD k ByteArray.empty = s at g0 hsz
                  have hkI : (k : Int) < (L3 : Int) := by omega
                  go_wp2
                  any_goals (go_ret; exact ⟨⟨_, rfl⟩, rfl⟩)
                  go_round
                  case rel => exact ⟨A + s.size, k + 1, by first | rfl | go_num, by go_num, by omega, by omega, by omega⟩
                  case measure => simp [intOf]; omega
                · have hkI : ¬ (k : Int) < (L3 : Int) := by omega
                  go_wp2
                  any_goals (go_ret; exact ⟨⟨_, rfl⟩, rfl⟩)

end Go.Proofs.Qxb6629085a
