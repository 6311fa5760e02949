/-
  DERIVED. FnMissingPartitionsList, FnMissingOthersSplitComposes: the inputs that a guard turns away.
-/
import Derived.Test.Qxb6629085aLaws
namespace Go.Proofs.Qxb6629085a
open Go.RowKit

set_option maxHeartbeats 400000 in
set_option maxRecDepth 100000 in
theorem lawP_e0 (a0 a1 a2 a3 : Option Addr) (L0 c0 L1 c1 L2 c2 L3 c3 : Nat) (s0 s1 s2 s3 : List ByteArray) (w : World) (m0 : L0 ≤ maxLen) (m1 : L1 ≤ maxLen) (m2 : L2 ≤ maxLen) (m3 : L3 ≤ maxLen)
    (h0 : SIn w a0 L0 s0) (h1 : SIn w a1 L1 s1) (h2 : SIn w a2 L2 s2) (h3 : SIn w a3 L3 s3)  (e0 : (4096 : Int) < (L0 : Int)) :
    Calls Try.prog 3 #[.slice a0 L0 c0, .slice a1 L1 c1, .slice a2 L2 c2, .slice a3 L3 c3] w fun e w' => e = .returned (.bool true) ∧ Below w.heap.size w w' := by
  go_enter Try.func3, Try.ntmps3
  go_wp2_with fail
  refine (zzBytesP_any a0 a1 a2 a3 L0 c0 L1 c1 L2 c2 L3 c3 s0 s1 s2 s3 w m0 m1 m2 m3 h0 h1 h2 h3).mono ?_
  rintro e w' ⟨⟨r, rfl⟩, rfl⟩
  cases r
  · go_wp2_with fail
    go_ret
    exact ⟨rfl, Below.refl _ _⟩
  unfold maxLen at m0 m1 m2 m3
  go_wp2_with fail
  go_ret
  exact ⟨rfl, Below.refl _ _⟩

set_option maxHeartbeats 400000 in
set_option maxRecDepth 100000 in
theorem lawP_e1 (a0 a1 a2 a3 : Option Addr) (L0 c0 L1 c1 L2 c2 L3 c3 : Nat) (s0 s1 s2 s3 : List ByteArray) (w : World) (m0 : L0 ≤ maxLen) (m1 : L1 ≤ maxLen) (m2 : L2 ≤ maxLen) (m3 : L3 ≤ maxLen)
    (h0 : SIn w a0 L0 s0) (h1 : SIn w a1 L1 s1) (h2 : SIn w a2 L2 s2) (h3 : SIn w a3 L3 s3) (e0 : ¬ (4096 : Int) < (L0 : Int)) (e1 : (4096 : Int) < (L1 : Int)) :
    Calls Try.prog 3 #[.slice a0 L0 c0, .slice a1 L1 c1, .slice a2 L2 c2, .slice a3 L3 c3] w fun e w' => e = .returned (.bool true) ∧ Below w.heap.size w w' := by
  go_enter Try.func3, Try.ntmps3
  go_wp2_with fail
  refine (zzBytesP_any a0 a1 a2 a3 L0 c0 L1 c1 L2 c2 L3 c3 s0 s1 s2 s3 w m0 m1 m2 m3 h0 h1 h2 h3).mono ?_
  rintro e w' ⟨⟨r, rfl⟩, rfl⟩
  cases r
  · go_wp2_with fail
    go_ret
    exact ⟨rfl, Below.refl _ _⟩
  unfold maxLen at m0 m1 m2 m3
  go_wp2_with fail
  go_ret
  exact ⟨rfl, Below.refl _ _⟩

set_option maxHeartbeats 400000 in
set_option maxRecDepth 100000 in
theorem lawP_e2 (a0 a1 a2 a3 : Option Addr) (L0 c0 L1 c1 L2 c2 L3 c3 : Nat) (s0 s1 s2 s3 : List ByteArray) (w : World) (m0 : L0 ≤ maxLen) (m1 : L1 ≤ maxLen) (m2 : L2 ≤ maxLen) (m3 : L3 ≤ maxLen)
    (h0 : SIn w a0 L0 s0) (h1 : SIn w a1 L1 s1) (h2 : SIn w a2 L2 s2) (h3 : SIn w a3 L3 s3) (e0 : ¬ (4096 : Int) < (L0 : Int)) (e1 : ¬ (4096 : Int) < (L1 : Int)) (e2 : (4096 : Int) < (L2 : Int)) :
    Calls Try.prog 3 #[.slice a0 L0 c0, .slice a1 L1 c1, .slice a2 L2 c2, .slice a3 L3 c3] w fun e w' => e = .returned (.bool true) ∧ Below w.heap.size w w' := by
  go_enter Try.func3, Try.ntmps3
  go_wp2_with fail
  refine (zzBytesP_any a0 a1 a2 a3 L0 c0 L1 c1 L2 c2 L3 c3 s0 s1 s2 s3 w m0 m1 m2 m3 h0 h1 h2 h3).mono ?_
  rintro e w' ⟨⟨r, rfl⟩, rfl⟩
  cases r
  · go_wp2_with fail
    go_ret
    exact ⟨rfl, Below.refl _ _⟩
  unfold maxLen at m0 m1 m2 m3
  go_wp2_with fail
  go_ret
  exact ⟨rfl, Below.refl _ _⟩

set_option maxHeartbeats 400000 in
set_option maxRecDepth 100000 in
theorem lawP_e3 (a0 a1 a2 a3 : Option Addr) (L0 c0 L1 c1 L2 c2 L3 c3 : Nat) (s0 s1 s2 s3 : List ByteArray) (w : World) (m0 : L0 ≤ maxLen) (m1 : L1 ≤ maxLen) (m2 : L2 ≤ maxLen) (m3 : L3 ≤ maxLen)
    (h0 : SIn w a0 L0 s0) (h1 : SIn w a1 L1 s1) (h2 : SIn w a2 L2 s2) (h3 : SIn w a3 L3 s3) (e0 : ¬ (4096 : Int) < (L0 : Int)) (e1 : ¬ (4096 : Int) < (L1 : Int)) (e2 : ¬ (4096 : Int) < (L2 : Int)) (e3 : (4096 : Int) < (L3 : Int)) :
    Calls Try.prog 3 #[.slice a0 L0 c0, .slice a1 L1 c1, .slice a2 L2 c2, .slice a3 L3 c3] w fun e w' => e = .returned (.bool true) ∧ Below w.heap.size w w' := by
  go_enter Try.func3, Try.ntmps3
  go_wp2_with fail
  refine (zzBytesP_any a0 a1 a2 a3 L0 c0 L1 c1 L2 c2 L3 c3 s0 s1 s2 s3 w m0 m1 m2 m3 h0 h1 h2 h3).mono ?_
  rintro e w' ⟨⟨r, rfl⟩, rfl⟩
  cases r
  · go_wp2_with fail
    go_ret
    exact ⟨rfl, Below.refl _ _⟩
  unfold maxLen at m0 m1 m2 m3
  go_wp2_with fail
  go_ret
  exact ⟨rfl, Below.refl _ _⟩

set_option maxHeartbeats 400000 in
set_option maxRecDepth 100000 in
theorem lawP_e4 (a0 a1 a2 a3 : Option Addr) (L0 c0 L1 c1 L2 c2 L3 c3 : Nat) (s0 s1 s2 s3 : List ByteArray) (w : World) (m0 : L0 ≤ maxLen) (m1 : L1 ≤ maxLen) (m2 : L2 ≤ maxLen) (m3 : L3 ≤ maxLen)
    (h0 : SIn w a0 L0 s0) (h1 : SIn w a1 L1 s1) (h2 : SIn w a2 L2 s2) (h3 : SIn w a3 L3 s3) (e0 : ¬ (4096 : Int) < (L0 : Int)) (e1 : ¬ (4096 : Int) < (L1 : Int)) (e2 : ¬ (4096 : Int) < (L2 : Int)) (e3 : ¬ (4096 : Int) < (L3 : Int)) (f0 : ((L0 : Int) == (L1 : Int)) = false) :
    Calls Try.prog 3 #[.slice a0 L0 c0, .slice a1 L1 c1, .slice a2 L2 c2, .slice a3 L3 c3] w fun e w' => e = .returned (.bool true) ∧ Below w.heap.size w w' := by
  have f0n : ((L0 : Int) != (L1 : Int)) = true := by simp [bne, f0]
  go_enter Try.func3, Try.ntmps3
  go_wp2_with fail
  refine (zzBytesP_any a0 a1 a2 a3 L0 c0 L1 c1 L2 c2 L3 c3 s0 s1 s2 s3 w m0 m1 m2 m3 h0 h1 h2 h3).mono ?_
  rintro e w' ⟨⟨r, rfl⟩, rfl⟩
  cases r
  · go_wp2_with fail
    go_ret
    exact ⟨rfl, Below.refl _ _⟩
  go_wp2_with fail
  refine (addBytes_any 0 a0 L0 c0 s0 w (by omega) (by omega) m0 h0).mono ?_
  rintro e w' ⟨r0, rfl, rfl, p0, q0⟩
  go_wp2_with fail
  refine (addBytes_any r0 a1 L1 c1 s1 w p0 q0 m1 h1).mono ?_
  rintro e w' ⟨r1, rfl, rfl, p1, q1⟩
  go_wp2_with fail
  refine (addBytes_any r1 a2 L2 c2 s2 w p1 q1 m2 h2).mono ?_
  rintro e w' ⟨r2, rfl, rfl, p2, q2⟩
  go_wp2_with fail
  refine (addBytes_any r2 a3 L3 c3 s3 w p2 q2 m3 h3).mono ?_
  rintro e w' ⟨r3, rfl, rfl, p3, q3⟩
  clear p0 q0 p1 q1 p2 q2 p3 q3
  by_cases hr : 1048576 < r3
  · go_wp2_with fail
    go_ret
    exact ⟨rfl, Below.refl _ _⟩
  go_wp2_with fail
  go_ret
  exact ⟨rfl, Below.refl _ _⟩

set_option maxHeartbeats 400000 in
set_option maxRecDepth 100000 in
theorem lawP_e5 (a0 a1 a2 a3 : Option Addr) (L0 c0 L1 c1 L2 c2 L3 c3 : Nat) (s0 s1 s2 s3 : List ByteArray) (w : World) (m0 : L0 ≤ maxLen) (m1 : L1 ≤ maxLen) (m2 : L2 ≤ maxLen) (m3 : L3 ≤ maxLen)
    (h0 : SIn w a0 L0 s0) (h1 : SIn w a1 L1 s1) (h2 : SIn w a2 L2 s2) (h3 : SIn w a3 L3 s3) (e0 : ¬ (4096 : Int) < (L0 : Int)) (e1 : ¬ (4096 : Int) < (L1 : Int)) (e2 : ¬ (4096 : Int) < (L2 : Int)) (e3 : ¬ (4096 : Int) < (L3 : Int)) (f0 : ((L0 : Int) == (L1 : Int)) = true) (f1 : ((L2 : Int) == (L3 : Int)) = false) :
    Calls Try.prog 3 #[.slice a0 L0 c0, .slice a1 L1 c1, .slice a2 L2 c2, .slice a3 L3 c3] w fun e w' => e = .returned (.bool true) ∧ Below w.heap.size w w' := by
  have f0n : ((L0 : Int) != (L1 : Int)) = false := by simp [bne, f0]
  have f1n : ((L2 : Int) != (L3 : Int)) = true := by simp [bne, f1]
  go_enter Try.func3, Try.ntmps3
  go_wp2_with fail
  refine (zzBytesP_any a0 a1 a2 a3 L0 c0 L1 c1 L2 c2 L3 c3 s0 s1 s2 s3 w m0 m1 m2 m3 h0 h1 h2 h3).mono ?_
  rintro e w' ⟨⟨r, rfl⟩, rfl⟩
  cases r
  · go_wp2_with fail
    go_ret
    exact ⟨rfl, Below.refl _ _⟩
  go_wp2_with fail
  refine (addBytes_any 0 a0 L0 c0 s0 w (by omega) (by omega) m0 h0).mono ?_
  rintro e w' ⟨r0, rfl, rfl, p0, q0⟩
  go_wp2_with fail
  refine (addBytes_any r0 a1 L1 c1 s1 w p0 q0 m1 h1).mono ?_
  rintro e w' ⟨r1, rfl, rfl, p1, q1⟩
  go_wp2_with fail
  refine (addBytes_any r1 a2 L2 c2 s2 w p1 q1 m2 h2).mono ?_
  rintro e w' ⟨r2, rfl, rfl, p2, q2⟩
  go_wp2_with fail
  refine (addBytes_any r2 a3 L3 c3 s3 w p2 q2 m3 h3).mono ?_
  rintro e w' ⟨r3, rfl, rfl, p3, q3⟩
  clear p0 q0 p1 q1 p2 q2 p3 q3
  by_cases hr : 1048576 < r3
  · go_wp2_with fail
    go_ret
    exact ⟨rfl, Below.refl _ _⟩
  go_wp2_with fail
  go_ret
  exact ⟨rfl, Below.refl _ _⟩

theorem lawP_early (a0 a1 a2 a3 : Option Addr) (L0 c0 L1 c1 L2 c2 L3 c3 : Nat) (s0 s1 s2 s3 : List ByteArray) (w : World) (m0 : L0 ≤ maxLen) (m1 : L1 ≤ maxLen) (m2 : L2 ≤ maxLen) (m3 : L3 ≤ maxLen)
    (h0 : SIn w a0 L0 s0) (h1 : SIn w a1 L1 s1) (h2 : SIn w a2 L2 s2) (h3 : SIn w a3 L3 s3) (h : 4096 < L0 ∨ 4096 < L1 ∨ 4096 < L2 ∨ 4096 < L3 ∨ L0 ≠ L1 ∨ L2 ≠ L3) :
    Calls Try.prog 3 #[.slice a0 L0 c0, .slice a1 L1 c1, .slice a2 L2 c2, .slice a3 L3 c3] w fun e w' => e = .returned (.bool true) ∧ Below w.heap.size w w' := by
  by_cases e0 : (4096 : Int) < (L0 : Int)
  · exact lawP_e0 a0 a1 a2 a3 L0 c0 L1 c1 L2 c2 L3 c3 s0 s1 s2 s3 w m0 m1 m2 m3 h0 h1 h2 h3 e0
  by_cases e1 : (4096 : Int) < (L1 : Int)
  · exact lawP_e1 a0 a1 a2 a3 L0 c0 L1 c1 L2 c2 L3 c3 s0 s1 s2 s3 w m0 m1 m2 m3 h0 h1 h2 h3 e0 e1
  by_cases e2 : (4096 : Int) < (L2 : Int)
  · exact lawP_e2 a0 a1 a2 a3 L0 c0 L1 c1 L2 c2 L3 c3 s0 s1 s2 s3 w m0 m1 m2 m3 h0 h1 h2 h3 e0 e1 e2
  by_cases e3 : (4096 : Int) < (L3 : Int)
  · exact lawP_e3 a0 a1 a2 a3 L0 c0 L1 c1 L2 c2 L3 c3 s0 s1 s2 s3 w m0 m1 m2 m3 h0 h1 h2 h3 e0 e1 e2 e3
  cases f0 : ((L0 : Int) == (L1 : Int))
  · exact lawP_e4 a0 a1 a2 a3 L0 c0 L1 c1 L2 c2 L3 c3 s0 s1 s2 s3 w m0 m1 m2 m3 h0 h1 h2 h3 e0 e1 e2 e3 f0
  cases f1 : ((L2 : Int) == (L3 : Int))
  · exact lawP_e5 a0 a1 a2 a3 L0 c0 L1 c1 L2 c2 L3 c3 s0 s1 s2 s3 w m0 m1 m2 m3 h0 h1 h2 h3 e0 e1 e2 e3 f0 f1
  have f0' : (L0 : Int) = L1 := by simpa using f0
  have f1' : (L2 : Int) = L3 := by simpa using f1
  omega

set_option maxHeartbeats 400000 in
set_option maxRecDepth 100000 in
theorem lawS_e0 (a0 a1 a2 a3 : Option Addr) (L0 c0 L1 c1 L2 c2 L3 c3 : Nat) (s0 s1 s2 s3 : List ByteArray) (kk : Int) (w : World) (m0 : L0 ≤ maxLen) (m1 : L1 ≤ maxLen) (m2 : L2 ≤ maxLen) (m3 : L3 ≤ maxLen)
    (h0 : SIn w a0 L0 s0) (h1 : SIn w a1 L1 s1) (h2 : SIn w a2 L2 s2) (h3 : SIn w a3 L3 s3)  (e0 : (4096 : Int) < (L0 : Int)) :
    Calls Try.prog 4 #[.slice a0 L0 c0, .slice a1 L1 c1, .slice a2 L2 c2, .slice a3 L3 c3, .int .i64 kk] w fun e w' => e = .returned (.bool true) ∧ Below w.heap.size w w' := by
  go_enter Try.func4, Try.ntmps4
  go_wp2_with fail
  refine (zzBytesS_any a0 a1 a2 a3 L0 c0 L1 c1 L2 c2 L3 c3 s0 s1 s2 s3 kk w m0 m1 m2 m3 h0 h1 h2 h3).mono ?_
  rintro e w' ⟨⟨r, rfl⟩, rfl⟩
  cases r
  · go_wp2_with fail
    go_ret
    exact ⟨rfl, Below.refl _ _⟩
  unfold maxLen at m0 m1 m2 m3
  go_wp2_with fail
  go_ret
  exact ⟨rfl, Below.refl _ _⟩

set_option maxHeartbeats 400000 in
set_option maxRecDepth 100000 in
theorem lawS_e1 (a0 a1 a2 a3 : Option Addr) (L0 c0 L1 c1 L2 c2 L3 c3 : Nat) (s0 s1 s2 s3 : List ByteArray) (kk : Int) (w : World) (m0 : L0 ≤ maxLen) (m1 : L1 ≤ maxLen) (m2 : L2 ≤ maxLen) (m3 : L3 ≤ maxLen)
    (h0 : SIn w a0 L0 s0) (h1 : SIn w a1 L1 s1) (h2 : SIn w a2 L2 s2) (h3 : SIn w a3 L3 s3) (e0 : ¬ (4096 : Int) < (L0 : Int)) (e1 : (4096 : Int) < (L1 : Int)) :
    Calls Try.prog 4 #[.slice a0 L0 c0, .slice a1 L1 c1, .slice a2 L2 c2, .slice a3 L3 c3, .int .i64 kk] w fun e w' => e = .returned (.bool true) ∧ Below w.heap.size w w' := by
  go_enter Try.func4, Try.ntmps4
  go_wp2_with fail
  refine (zzBytesS_any a0 a1 a2 a3 L0 c0 L1 c1 L2 c2 L3 c3 s0 s1 s2 s3 kk w m0 m1 m2 m3 h0 h1 h2 h3).mono ?_
  rintro e w' ⟨⟨r, rfl⟩, rfl⟩
  cases r
  · go_wp2_with fail
    go_ret
    exact ⟨rfl, Below.refl _ _⟩
  unfold maxLen at m0 m1 m2 m3
  go_wp2_with fail
  go_ret
  exact ⟨rfl, Below.refl _ _⟩

set_option maxHeartbeats 400000 in
set_option maxRecDepth 100000 in
theorem lawS_e2 (a0 a1 a2 a3 : Option Addr) (L0 c0 L1 c1 L2 c2 L3 c3 : Nat) (s0 s1 s2 s3 : List ByteArray) (kk : Int) (w : World) (m0 : L0 ≤ maxLen) (m1 : L1 ≤ maxLen) (m2 : L2 ≤ maxLen) (m3 : L3 ≤ maxLen)
    (h0 : SIn w a0 L0 s0) (h1 : SIn w a1 L1 s1) (h2 : SIn w a2 L2 s2) (h3 : SIn w a3 L3 s3) (e0 : ¬ (4096 : Int) < (L0 : Int)) (e1 : ¬ (4096 : Int) < (L1 : Int)) (e2 : (4096 : Int) < (L2 : Int)) :
    Calls Try.prog 4 #[.slice a0 L0 c0, .slice a1 L1 c1, .slice a2 L2 c2, .slice a3 L3 c3, .int .i64 kk] w fun e w' => e = .returned (.bool true) ∧ Below w.heap.size w w' := by
  go_enter Try.func4, Try.ntmps4
  go_wp2_with fail
  refine (zzBytesS_any a0 a1 a2 a3 L0 c0 L1 c1 L2 c2 L3 c3 s0 s1 s2 s3 kk w m0 m1 m2 m3 h0 h1 h2 h3).mono ?_
  rintro e w' ⟨⟨r, rfl⟩, rfl⟩
  cases r
  · go_wp2_with fail
    go_ret
    exact ⟨rfl, Below.refl _ _⟩
  unfold maxLen at m0 m1 m2 m3
  go_wp2_with fail
  go_ret
  exact ⟨rfl, Below.refl _ _⟩

set_option maxHeartbeats 400000 in
set_option maxRecDepth 100000 in
theorem lawS_e3 (a0 a1 a2 a3 : Option Addr) (L0 c0 L1 c1 L2 c2 L3 c3 : Nat) (s0 s1 s2 s3 : List ByteArray) (kk : Int) (w : World) (m0 : L0 ≤ maxLen) (m1 : L1 ≤ maxLen) (m2 : L2 ≤ maxLen) (m3 : L3 ≤ maxLen)
    (h0 : SIn w a0 L0 s0) (h1 : SIn w a1 L1 s1) (h2 : SIn w a2 L2 s2) (h3 : SIn w a3 L3 s3) (e0 : ¬ (4096 : Int) < (L0 : Int)) (e1 : ¬ (4096 : Int) < (L1 : Int)) (e2 : ¬ (4096 : Int) < (L2 : Int)) (e3 : (4096 : Int) < (L3 : Int)) :
    Calls Try.prog 4 #[.slice a0 L0 c0, .slice a1 L1 c1, .slice a2 L2 c2, .slice a3 L3 c3, .int .i64 kk] w fun e w' => e = .returned (.bool true) ∧ Below w.heap.size w w' := by
  go_enter Try.func4, Try.ntmps4
  go_wp2_with fail
  refine (zzBytesS_any a0 a1 a2 a3 L0 c0 L1 c1 L2 c2 L3 c3 s0 s1 s2 s3 kk w m0 m1 m2 m3 h0 h1 h2 h3).mono ?_
  rintro e w' ⟨⟨r, rfl⟩, rfl⟩
  cases r
  · go_wp2_with fail
    go_ret
    exact ⟨rfl, Below.refl _ _⟩
  unfold maxLen at m0 m1 m2 m3
  go_wp2_with fail
  go_ret
  exact ⟨rfl, Below.refl _ _⟩

set_option maxHeartbeats 400000 in
set_option maxRecDepth 100000 in
theorem lawS_e4 (a0 a1 a2 a3 : Option Addr) (L0 c0 L1 c1 L2 c2 L3 c3 : Nat) (s0 s1 s2 s3 : List ByteArray) (kk : Int) (w : World) (m0 : L0 ≤ maxLen) (m1 : L1 ≤ maxLen) (m2 : L2 ≤ maxLen) (m3 : L3 ≤ maxLen)
    (h0 : SIn w a0 L0 s0) (h1 : SIn w a1 L1 s1) (h2 : SIn w a2 L2 s2) (h3 : SIn w a3 L3 s3) (e0 : ¬ (4096 : Int) < (L0 : Int)) (e1 : ¬ (4096 : Int) < (L1 : Int)) (e2 : ¬ (4096 : Int) < (L2 : Int)) (e3 : ¬ (4096 : Int) < (L3 : Int)) (f0 : ((L0 : Int) == (L1 : Int)) = false) :
    Calls Try.prog 4 #[.slice a0 L0 c0, .slice a1 L1 c1, .slice a2 L2 c2, .slice a3 L3 c3, .int .i64 kk] w fun e w' => e = .returned (.bool true) ∧ Below w.heap.size w w' := by
  have f0n : ((L0 : Int) != (L1 : Int)) = true := by simp [bne, f0]
  go_enter Try.func4, Try.ntmps4
  go_wp2_with fail
  refine (zzBytesS_any a0 a1 a2 a3 L0 c0 L1 c1 L2 c2 L3 c3 s0 s1 s2 s3 kk w m0 m1 m2 m3 h0 h1 h2 h3).mono ?_
  rintro e w' ⟨⟨r, rfl⟩, rfl⟩
  cases r
  · go_wp2_with fail
    go_ret
    exact ⟨rfl, Below.refl _ _⟩
  go_wp2_with fail
  refine (addBytes_any 0 a0 L0 c0 s0 w (by omega) (by omega) m0 h0).mono ?_
  rintro e w' ⟨r0, rfl, rfl, p0, q0⟩
  go_wp2_with fail
  refine (addBytes_any r0 a1 L1 c1 s1 w p0 q0 m1 h1).mono ?_
  rintro e w' ⟨r1, rfl, rfl, p1, q1⟩
  go_wp2_with fail
  refine (addBytes_any r1 a2 L2 c2 s2 w p1 q1 m2 h2).mono ?_
  rintro e w' ⟨r2, rfl, rfl, p2, q2⟩
  go_wp2_with fail
  refine (addBytes_any r2 a3 L3 c3 s3 w p2 q2 m3 h3).mono ?_
  rintro e w' ⟨r3, rfl, rfl, p3, q3⟩
  clear p0 q0 p1 q1 p2 q2 p3 q3
  by_cases hr : 1048576 < r3
  · go_wp2_with fail
    go_ret
    exact ⟨rfl, Below.refl _ _⟩
  go_wp2_with fail
  go_ret
  exact ⟨rfl, Below.refl _ _⟩

set_option maxHeartbeats 400000 in
set_option maxRecDepth 100000 in
theorem lawS_e5 (a0 a1 a2 a3 : Option Addr) (L0 c0 L1 c1 L2 c2 L3 c3 : Nat) (s0 s1 s2 s3 : List ByteArray) (kk : Int) (w : World) (m0 : L0 ≤ maxLen) (m1 : L1 ≤ maxLen) (m2 : L2 ≤ maxLen) (m3 : L3 ≤ maxLen)
    (h0 : SIn w a0 L0 s0) (h1 : SIn w a1 L1 s1) (h2 : SIn w a2 L2 s2) (h3 : SIn w a3 L3 s3) (e0 : ¬ (4096 : Int) < (L0 : Int)) (e1 : ¬ (4096 : Int) < (L1 : Int)) (e2 : ¬ (4096 : Int) < (L2 : Int)) (e3 : ¬ (4096 : Int) < (L3 : Int)) (f0 : ((L0 : Int) == (L1 : Int)) = true) (f1 : ((L2 : Int) == (L3 : Int)) = false) :
    Calls Try.prog 4 #[.slice a0 L0 c0, .slice a1 L1 c1, .slice a2 L2 c2, .slice a3 L3 c3, .int .i64 kk] w fun e w' => e = .returned (.bool true) ∧ Below w.heap.size w w' := by
  have f0n : ((L0 : Int) != (L1 : Int)) = false := by simp [bne, f0]
  have f1n : ((L2 : Int) != (L3 : Int)) = true := by simp [bne, f1]
  go_enter Try.func4, Try.ntmps4
  go_wp2_with fail
  refine (zzBytesS_any a0 a1 a2 a3 L0 c0 L1 c1 L2 c2 L3 c3 s0 s1 s2 s3 kk w m0 m1 m2 m3 h0 h1 h2 h3).mono ?_
  rintro e w' ⟨⟨r, rfl⟩, rfl⟩
  cases r
  · go_wp2_with fail
    go_ret
    exact ⟨rfl, Below.refl _ _⟩
  go_wp2_with fail
  refine (addBytes_any 0 a0 L0 c0 s0 w (by omega) (by omega) m0 h0).mono ?_
  rintro e w' ⟨r0, rfl, rfl, p0, q0⟩
  go_wp2_with fail
  refine (addBytes_any r0 a1 L1 c1 s1 w p0 q0 m1 h1).mono ?_
  rintro e w' ⟨r1, rfl, rfl, p1, q1⟩
  go_wp2_with fail
  refine (addBytes_any r1 a2 L2 c2 s2 w p1 q1 m2 h2).mono ?_
  rintro e w' ⟨r2, rfl, rfl, p2, q2⟩
  go_wp2_with fail
  refine (addBytes_any r2 a3 L3 c3 s3 w p2 q2 m3 h3).mono ?_
  rintro e w' ⟨r3, rfl, rfl, p3, q3⟩
  clear p0 q0 p1 q1 p2 q2 p3 q3
  by_cases hr : 1048576 < r3
  · go_wp2_with fail
    go_ret
    exact ⟨rfl, Below.refl _ _⟩
  go_wp2_with fail
  go_ret
  exact ⟨rfl, Below.refl _ _⟩

set_option maxHeartbeats 400000 in
set_option maxRecDepth 100000 in
theorem lawS_e6 (a0 a1 a2 a3 : Option Addr) (L0 c0 L1 c1 L2 c2 L3 c3 : Nat) (s0 s1 s2 s3 : List ByteArray) (kk : Int) (w : World) (m0 : L0 ≤ maxLen) (m1 : L1 ≤ maxLen) (m2 : L2 ≤ maxLen) (m3 : L3 ≤ maxLen)
    (h0 : SIn w a0 L0 s0) (h1 : SIn w a1 L1 s1) (h2 : SIn w a2 L2 s2) (h3 : SIn w a3 L3 s3) (e0 : ¬ (4096 : Int) < (L0 : Int)) (e1 : ¬ (4096 : Int) < (L1 : Int)) (e2 : ¬ (4096 : Int) < (L2 : Int)) (e3 : ¬ (4096 : Int) < (L3 : Int)) (f0 : ((L0 : Int) == (L1 : Int)) = true) (f1 : ((L2 : Int) == (L3 : Int)) = true) (g0 : kk < 0) :
    Calls Try.prog 4 #[.slice a0 L0 c0, .slice a1 L1 c1, .slice a2 L2 c2, .slice a3 L3 c3, .int .i64 kk] w fun e w' => e = .returned (.bool true) ∧ Below w.heap.size w w' := by
  have f0n : ((L0 : Int) != (L1 : Int)) = false := by simp [bne, f0]
  have f1n : ((L2 : Int) != (L3 : Int)) = false := by simp [bne, f1]
  go_enter Try.func4, Try.ntmps4
  go_wp2_with fail
  refine (zzBytesS_any a0 a1 a2 a3 L0 c0 L1 c1 L2 c2 L3 c3 s0 s1 s2 s3 kk w m0 m1 m2 m3 h0 h1 h2 h3).mono ?_
  rintro e w' ⟨⟨r, rfl⟩, rfl⟩
  cases r
  · go_wp2_with fail
    go_ret
    exact ⟨rfl, Below.refl _ _⟩
  go_wp2_with fail
  refine (addBytes_any 0 a0 L0 c0 s0 w (by omega) (by omega) m0 h0).mono ?_
  rintro e w' ⟨r0, rfl, rfl, p0, q0⟩
  go_wp2_with fail
  refine (addBytes_any r0 a1 L1 c1 s1 w p0 q0 m1 h1).mono ?_
  rintro e w' ⟨r1, rfl, rfl, p1, q1⟩
  go_wp2_with fail
  refine (addBytes_any r1 a2 L2 c2 s2 w p1 q1 m2 h2).mono ?_
  rintro e w' ⟨r2, rfl, rfl, p2, q2⟩
  go_wp2_with fail
  refine (addBytes_any r2 a3 L3 c3 s3 w p2 q2 m3 h3).mono ?_
  rintro e w' ⟨r3, rfl, rfl, p3, q3⟩
  clear p0 q0 p1 q1 p2 q2 p3 q3
  by_cases hr : 1048576 < r3
  · go_wp2_with fail
    go_ret
    exact ⟨rfl, Below.refl _ _⟩
  go_wp2_with fail
  go_ret
  exact ⟨rfl, Below.refl _ _⟩

set_option maxHeartbeats 400000 in
set_option maxRecDepth 100000 in
theorem lawS_e7 (a0 a1 a2 a3 : Option Addr) (L0 c0 L1 c1 L2 c2 L3 c3 : Nat) (s0 s1 s2 s3 : List ByteArray) (kk : Int) (w : World) (m0 : L0 ≤ maxLen) (m1 : L1 ≤ maxLen) (m2 : L2 ≤ maxLen) (m3 : L3 ≤ maxLen)
    (h0 : SIn w a0 L0 s0) (h1 : SIn w a1 L1 s1) (h2 : SIn w a2 L2 s2) (h3 : SIn w a3 L3 s3) (e0 : ¬ (4096 : Int) < (L0 : Int)) (e1 : ¬ (4096 : Int) < (L1 : Int)) (e2 : ¬ (4096 : Int) < (L2 : Int)) (e3 : ¬ (4096 : Int) < (L3 : Int)) (f0 : ((L0 : Int) == (L1 : Int)) = true) (f1 : ((L2 : Int) == (L3 : Int)) = true) (g0 : ¬ kk < 0) (g1 : (L2 : Int) < kk) :
    Calls Try.prog 4 #[.slice a0 L0 c0, .slice a1 L1 c1, .slice a2 L2 c2, .slice a3 L3 c3, .int .i64 kk] w fun e w' => e = .returned (.bool true) ∧ Below w.heap.size w w' := by
  have f0n : ((L0 : Int) != (L1 : Int)) = false := by simp [bne, f0]
  have f1n : ((L2 : Int) != (L3 : Int)) = false := by simp [bne, f1]
  go_enter Try.func4, Try.ntmps4
  go_wp2_with fail
  refine (zzBytesS_any a0 a1 a2 a3 L0 c0 L1 c1 L2 c2 L3 c3 s0 s1 s2 s3 kk w m0 m1 m2 m3 h0 h1 h2 h3).mono ?_
  rintro e w' ⟨⟨r, rfl⟩, rfl⟩
  cases r
  · go_wp2_with fail
    go_ret
    exact ⟨rfl, Below.refl _ _⟩
  go_wp2_with fail
  refine (addBytes_any 0 a0 L0 c0 s0 w (by omega) (by omega) m0 h0).mono ?_
  rintro e w' ⟨r0, rfl, rfl, p0, q0⟩
  go_wp2_with fail
  refine (addBytes_any r0 a1 L1 c1 s1 w p0 q0 m1 h1).mono ?_
  rintro e w' ⟨r1, rfl, rfl, p1, q1⟩
  go_wp2_with fail
  refine (addBytes_any r1 a2 L2 c2 s2 w p1 q1 m2 h2).mono ?_
  rintro e w' ⟨r2, rfl, rfl, p2, q2⟩
  go_wp2_with fail
  refine (addBytes_any r2 a3 L3 c3 s3 w p2 q2 m3 h3).mono ?_
  rintro e w' ⟨r3, rfl, rfl, p3, q3⟩
  clear p0 q0 p1 q1 p2 q2 p3 q3
  by_cases hr : 1048576 < r3
  · go_wp2_with fail
    go_ret
    exact ⟨rfl, Below.refl _ _⟩
  go_wp2_with fail
  go_ret
  exact ⟨rfl, Below.refl _ _⟩

theorem lawS_early (a0 a1 a2 a3 : Option Addr) (L0 c0 L1 c1 L2 c2 L3 c3 : Nat) (s0 s1 s2 s3 : List ByteArray) (kk : Int) (w : World) (m0 : L0 ≤ maxLen) (m1 : L1 ≤ maxLen) (m2 : L2 ≤ maxLen) (m3 : L3 ≤ maxLen)
    (h0 : SIn w a0 L0 s0) (h1 : SIn w a1 L1 s1) (h2 : SIn w a2 L2 s2) (h3 : SIn w a3 L3 s3) (h : 4096 < L0 ∨ 4096 < L1 ∨ 4096 < L2 ∨ 4096 < L3 ∨ L0 ≠ L1 ∨ L2 ≠ L3 ∨ kk < 0 ∨ (L2 : Int) < kk) :
    Calls Try.prog 4 #[.slice a0 L0 c0, .slice a1 L1 c1, .slice a2 L2 c2, .slice a3 L3 c3, .int .i64 kk] w fun e w' => e = .returned (.bool true) ∧ Below w.heap.size w w' := by
  by_cases e0 : (4096 : Int) < (L0 : Int)
  · exact lawS_e0 a0 a1 a2 a3 L0 c0 L1 c1 L2 c2 L3 c3 s0 s1 s2 s3 kk w m0 m1 m2 m3 h0 h1 h2 h3 e0
  by_cases e1 : (4096 : Int) < (L1 : Int)
  · exact lawS_e1 a0 a1 a2 a3 L0 c0 L1 c1 L2 c2 L3 c3 s0 s1 s2 s3 kk w m0 m1 m2 m3 h0 h1 h2 h3 e0 e1
  by_cases e2 : (4096 : Int) < (L2 : Int)
  · exact lawS_e2 a0 a1 a2 a3 L0 c0 L1 c1 L2 c2 L3 c3 s0 s1 s2 s3 kk w m0 m1 m2 m3 h0 h1 h2 h3 e0 e1 e2
  by_cases e3 : (4096 : Int) < (L3 : Int)
  · exact lawS_e3 a0 a1 a2 a3 L0 c0 L1 c1 L2 c2 L3 c3 s0 s1 s2 s3 kk w m0 m1 m2 m3 h0 h1 h2 h3 e0 e1 e2 e3
  cases f0 : ((L0 : Int) == (L1 : Int))
  · exact lawS_e4 a0 a1 a2 a3 L0 c0 L1 c1 L2 c2 L3 c3 s0 s1 s2 s3 kk w m0 m1 m2 m3 h0 h1 h2 h3 e0 e1 e2 e3 f0
  cases f1 : ((L2 : Int) == (L3 : Int))
  · exact lawS_e5 a0 a1 a2 a3 L0 c0 L1 c1 L2 c2 L3 c3 s0 s1 s2 s3 kk w m0 m1 m2 m3 h0 h1 h2 h3 e0 e1 e2 e3 f0 f1
  by_cases g0 : kk < 0
  · exact lawS_e6 a0 a1 a2 a3 L0 c0 L1 c1 L2 c2 L3 c3 s0 s1 s2 s3 kk w m0 m1 m2 m3 h0 h1 h2 h3 e0 e1 e2 e3 f0 f1 g0
  by_cases g1 : (L2 : Int) < kk
  · exact lawS_e7 a0 a1 a2 a3 L0 c0 L1 c1 L2 c2 L3 c3 s0 s1 s2 s3 kk w m0 m1 m2 m3 h0 h1 h2 h3 e0 e1 e2 e3 f0 f1 g0 g1
  have f0' : (L0 : Int) = L1 := by simpa using f0
  have f1' : (L2 : Int) = L3 := by simpa using f1
  omega

end Go.Proofs.Qxb6629085a
