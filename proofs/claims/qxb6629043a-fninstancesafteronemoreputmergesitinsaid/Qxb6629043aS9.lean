/-
  DERIVED. slices.Sort at []uint16, part 9: slices.Sort itself: it leaves the sorted list; at no element nothing turns. Turned by program from the kit's worked walk over its own toy (slices.Sort at []int: Derived/Sort/WalkA14.lean, WalkANil.lean, Assembly.lean) to this program's numbers and to uint16; the plain lemmas are the kit's, by import.
-/
import Derived.Test.Qxb6629043aS8
import Derived.Sort.AssemblyPlain
namespace Go.Proofs.Qxb6629043a
open Go.RowKit Go.Sort

theorem plainU : Plain13 where
  swo := swo_ltInt
  ins := insertionSort_holds
  par := partialInsertionSort_holds
  prt := partition_holds _
  peq := partitionEqual_holds _
  pdq := pdq_sorts _

def pdqWalkU : Prop := ∀ (blk off cap a b limit : Nat) (d : Array Int) (w : World), Holds (Value.int .u16) w blk off d → blk < w.heap.size → a ≤ b → b ≤ d.size → d.size < 4611686018427387904 → limit < 4611686018427387904 → Sort.Below ltInt a b d →
  Calls Try.prog 13 #[.slice (some ⟨blk, off, none⟩) d.size cap, .int .i64 a, .int .i64 b, .int .i64 limit] w fun e w' =>
    e = .returned (.tuple #[]) ∧ ∃ n os, w' = grow (putRow (Value.int .u16) (Sort.ahead w n) blk off (Sort.pdq ltInt d a b limit true true)) os

theorem pdqWalkU_holds : pdqWalkU := fun blk off cap a b limit d w hH hb hab hbd hsz hl hB =>
  U.pdqsort_u plainU (b - a + 1) blk off cap a b limit d w (by omega) hH hb hab hbd hsz hl hB

set_option maxRecDepth 100000 in
theorem U.Sort_u (hpdq : pdqWalkU) (blk off cap : Nat) (d : Array Int) (w : World) (hH : Holds (Value.int .u16) w blk off d) (hblk : blk < w.heap.size) (hsz : d.size < 4611686018427387904) :
    Calls Try.prog 12 #[.slice (some ⟨blk, off, none⟩) d.size cap] w fun e w' => e = .returned (.tuple #[]) ∧ ∃ n os, w' = grow (putRow (Value.int .u16) (Sort.ahead w n) blk off (Sort.sort ltInt d)) os := by
  have HH : Hid (Holds (Value.int .u16) w blk off d) := hH
  clear hH
  have hLen : ∀ w, Calls Try.prog 14 #[.int .u64 (d.size : Int)] w fun e w' => e = .returned (.int .i64 (bitsLen d.size : Nat)) ∧ w' = w := fun w => by
    have h := U.bits_Len (d.size : Int) w (by omega) (by omega)
    rwa [Int.toNat_natCast, bitLen_eq _ (by omega)] at h
  have hk : bitsLen d.size ≤ 62 := (bitsLen_le_iff d.size 62).2 (by omega)
  go_enter Try.func12, Try.ntmps12
  go_wp2_with (first
    | (go_at_call 14; refine (hLen _).mono ?_; rintro e w' ⟨rfl, rfl⟩)
    | (go_at_call 13; refine (hpdq blk off cap 0 d.size (bitsLen d.size) d _ (by exact HH.out) (by exact hblk) (Nat.zero_le _) (Nat.le_refl _) hsz (by omega) (Or.inl rfl)).mono ?_; rintro e w' ⟨rfl, n, os, rfl⟩))
  go_end0
  exact ⟨rfl, n, os, rfl⟩

theorem U.insertionSort_int_nil (p : Option Addr) (cap : Nat) (w : World) :
    Calls Try.prog 15 #[.slice p 0 cap, .int .i64 0, .int .i64 0] w fun e w' => e = .returned (.tuple #[]) ∧ w' = w := by
  go_enter Try.func15, Try.ntmps15
  go_wp2
  refine wp_loop_rounds 1 ?_
  rw [rounds_succ]
  go_wp2
  go_end0
  exact ⟨rfl, rfl⟩

set_option maxRecDepth 100000 in
theorem U.pdqsort_int_nil (p : Option Addr) (cap : Nat) (w : World) :
    Calls Try.prog 13 #[.slice p 0 cap, .int .i64 0, .int .i64 0, .int .i64 0] w fun e w' => e = .returned (.tuple #[]) ∧ w' = w := by
  go_enter Try.func13, Try.ntmps13
  go_wp2
  refine wp_loop_rounds 1 ?_
  rw [rounds_succ]
  go_wp2_with (first | (go_at_call 15; refine (U.insertionSort_int_nil p cap _).mono ?_; rintro e w' ⟨rfl, rfl⟩))
  refine bodyPost_ret (results_none rfl _ _ _) rfl ?_      -- an explicit 'return' in a function without results
  exact ⟨rfl, rfl⟩

set_option maxRecDepth 100000 in
theorem U.Sort_int_nil (p : Option Addr) (cap : Nat) (w : World) :
    Calls Try.prog 12 #[.slice p 0 cap] w fun e w' => e = .returned (.tuple #[]) ∧ w' = w := by
  have hLen : ∀ w, Calls Try.prog 14 #[.int .u64 0] w fun e w' => e = .returned (.int .i64 0) ∧ w' = w := fun w => U.bits_Len 0 w (by omega) (by omega)
  go_enter Try.func12, Try.ntmps12
  go_wp2_with (first
    | (go_at_call 14; refine (hLen _).mono ?_; rintro e w' ⟨rfl, rfl⟩)
    | (go_at_call 13; refine (U.pdqsort_int_nil p cap _).mono ?_; rintro e w' ⟨rfl, rfl⟩))
  go_end0
  exact ⟨rfl, rfl⟩

/-- slices.Sort at []uint16. -/
theorem slices_Sort (blk off cap : Nat) (zs : List Int) (w : World) (hH : Holds (Value.int .u16) w blk off zs.toArray) (hblk : blk < w.heap.size) (hsz : zs.length < 4611686018427387904) :
    Calls Try.prog 12 #[.slice (some ⟨blk, off, none⟩) zs.length cap] w fun e w' =>
      e = .returned (.tuple #[]) ∧ ∃ n os, w' = grow (putRow (Value.int .u16) (Sort.ahead w n) blk off (zs.mergeSort fun x y => decide (x ≤ y)).toArray) os := by
  have h := U.Sort_u pdqWalkU_holds blk off cap zs.toArray w hH hblk (by simpa using hsz)
  have e : Sort.sort ltInt zs.toArray = (zs.mergeSort fun x y => decide (x ≤ y)).toArray := by rw [← sortInt zs]
  rw [e] at h
  simpa using h

#print axioms slices_Sort
#print axioms U.Sort_int_nil

end Go.Proofs.Qxb6629043a
