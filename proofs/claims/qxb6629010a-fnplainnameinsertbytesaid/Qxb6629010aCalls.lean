/-
  DERIVED. THE CONTRACTS OF THE FUNCTIONS THAT THE TWO LAWS CALL.
-/
import Derived.Test.Qxb6629010aRows
import Derived.Test.Qxb6629010aPlain
import Derived.WalkKit
import Derived.WalkSpells
import Derived.WalkLawsBesides
namespace Go.Proofs.Qxb6629010a
open Go.RowKit
open Plain

theorem ret_bool {a b : Bool} (h : a = b) : Ending.returned (.bool a) = .returned (.bool b) := by rw [h]

theorem grown_trans {a b c : World} (h : Grown a b) (k : Grown b c) : Grown a c :=
  ⟨World.keptBut_trans h.1 (World.keptBut_mono (fun _ f => f) k.1), fun x => (k.2.1 x).trans (h.2.1 x), Nat.le_trans h.2.2 k.2.2⟩

theorem frozen_iter (w : World) (s : ByteArray) (pos : Nat) (a : Addr) : (w.iter s pos).frozen? a = w.frozen? a := by
  by_cases h : a.block = w.heap.size
  · have e1 : (w.iter s pos).heap[a.block]? = some (.stringIter s pos) := by rw [h]; exact World.iter_heap w s pos
    have e2 : w.heap[a.block]? = none := by rw [h]; simp
    simp [World.frozen?, e1, e2]
  · exact World.frozen?_alloc_old _ _ _ h

theorem grown_iter (w : World) (s : ByteArray) (pos : Nat) : Grown w (w.iter s pos) :=
  ⟨World.keptBut_alloc _ _ _, fun a => frozen_iter w s pos a, by show w.heap.size ≤ (w.heap.push _).size; simp⟩

/-! ### cleanByteB1 -/
theorem clN_cast (n : Nat) (h1 : ¬ (n : Int) = 47) (h2 : 32 ≤ (n : Int)) : ((n : Int) != 47 && (n : Int) != 127) = clN n := by
  by_cases h3 : (n : Int) = 127
  · rw [clN_false.2 (by omega), h3]; rfl
  · rw [clN_true.2 (by omega)]; simp [h1, h3]

theorem cleanByte_any (n : Nat) (w : World) :
    Calls Try.prog 9 #[.int .u8 n] w fun e w' => e = .returned (.bool (clN n)) ∧ w' = w := by
  go_enter Try.func9, Try.ntmps9
  go_wp2
  all_goals
    go_ret
    refine ⟨ret_bool ?_, rfl⟩
  · exact (clN_false.2 (by omega)).symm
  · exact clN_cast n ‹_› ‹_›
  · exact (clN_false.2 (by omega)).symm

/-! ### cleanBytesB1 -/
set_option maxHeartbeats 400000 in
theorem cleanBytes_any (s : ByteArray) (w : World) (hs : s.size ≤ maxLen) :
    Calls Try.prog 7 #[.string s] w fun e w' => e = .returned (.bool (cleanL s.data.toList)) ∧ w' = w := by
  unfold maxLen at hs
  rw [← clean_zero]
  go_enter Try.func7, Try.ntmps7
  go_wp2
  go_loop [3] (fun i => ∃ k : Nat, k ≤ s.size ∧ i = .int .i64 k ∧ cleanFrom s 0 = cleanFrom s k) (fun i => s.size - (intOf i).toNat)
  case atStart => exact ⟨0, Nat.zero_le _, rfl, rfl⟩
  case round =>
    obtain ⟨k, hk, rfl, hc⟩ := hrel
    have HC : Hid (cleanFrom s 0 = cleanFrom s k) := hc
    clear hc
    by_cases hlt : k < s.size
    · have HS : Hid (cleanFrom s k = (clN (s[k]'hlt).toNat && cleanFrom s (k + 1))) := clean_step s k hlt
      go_wp2_with (go_at_call 9; refine (cleanByte_any _ _).mono ?_; rintro e w' ⟨rfl, rfl⟩)
      · have hn : (!clN (s[k]'hlt).toNat) = true := by assumption
        go_ret
        exact ⟨ret_bool (by rw [HC.out, HS.out]; simp at hn; rw [hn]; rfl), rfl⟩
      · have hn : (!clN (s[k]'hlt).toNat) = false := by assumption
        go_round
        case rel => exact ⟨k + 1, by omega, by go_num, by rw [HC.out, HS.out]; simp at hn; rw [hn]; rfl⟩
        case measure => simp [intOf]; omega
    · go_wp2
      go_ret
      exact ⟨ret_bool (by rw [HC.out, clean_end s k hlt]), rfl⟩

/-! ### PlainName -/
theorem plain_spec {s : ByteArray} (h : s.toList = [] ∨ s.toList = [46] ∨ s.toList = [46, 46]) : plainL s.data.toList = false := by
  rw [ByteArray.toList_eq] at h
  rcases h with h | h | h <;> rw [h] <;> rfl
theorem plain_else {s : ByteArray} (h1 : ¬ s.toList = []) (h2 : ¬ s.toList = [46]) (h3 : ¬ s.toList = [46, 46]) : plainL s.data.toList = cleanFrom s 0 := by
  rw [ByteArray.toList_eq] at h1 h2 h3
  rw [clean_zero, plainL]
  generalize s.data.toList = l at *
  have : specL l = false := by simp [specL, h1, h2, h3]
  rw [this]; rfl
theorem unclean_at {s : ByteArray} {pos : Nat} (hp : pos < s.size) (h : (((Utf8.decode s pos).1 : Nat) : Int) = 47 ∨ (((Utf8.decode s pos).1 : Nat) : Int) < 32 ∨ (((Utf8.decode s pos).1 : Nat) : Int) = 127) : cleanFrom s pos = false := by
  rw [range_step s pos hp, clN_false.2 (by omega)]; rfl
theorem clean_at {s : ByteArray} {pos : Nat} (hp : pos < s.size) (h1 : ¬ (((Utf8.decode s pos).1 : Nat) : Int) = 47) (h2 : 32 ≤ (((Utf8.decode s pos).1 : Nat) : Int)) (h3 : ¬ (((Utf8.decode s pos).1 : Nat) : Int) = 127) : cleanFrom s pos = cleanFrom s (pos + (Utf8.decode s pos).2) := by
  rw [range_step s pos hp, clN_true.2 (by omega)]; rfl

set_option maxHeartbeats 800000 in
theorem plainName_any (s : ByteArray) (w : World) :
    Calls Try.prog 6 #[.string s] w fun e w' => e = .returned (.bool (plainL s.data.toList)) ∧ Grown w w' := by
  by_cases h1 : s.toList = []
  · have HP : Hid (plainL s.data.toList = false) := plain_spec (.inl h1)
    go_enter Try.func6, Try.ntmps6
    go_wp2
    go_ret
    exact ⟨ret_bool HP.out.symm, Grown.refl _⟩
  by_cases h2 : s.toList = [46]
  · have HP : Hid (plainL s.data.toList = false) := plain_spec (.inr (.inl h2))
    go_enter Try.func6, Try.ntmps6
    go_wp2
    go_ret
    exact ⟨ret_bool HP.out.symm, Grown.refl _⟩
  by_cases h3 : s.toList = [46, 46]
  · have HP : Hid (plainL s.data.toList = false) := plain_spec (.inr (.inr h3))
    go_enter Try.func6, Try.ntmps6
    go_wp2
    go_ret
    exact ⟨ret_bool HP.out.symm, Grown.refl _⟩
  rw [plain_else h1 h2 h3]
  have g1 : s.toList.isEmpty = false := by cases h : s.toList with
    | nil => exact absurd h h1
    | cons _ _ => rfl
  have g2 : (s.toList == [46]) = false := by simpa using h2
  have g3 : (s.toList == [46, 46]) = false := by simpa using h3
  clear h1 h2 h3
  go_enter Try.func6, Try.ntmps6
  go_wp2
  go_loopw [4] (fun _ wr => ∃ pos : Nat, wr = w.iter s pos ∧ cleanFrom s 0 = cleanFrom s pos) (fun _ wr => s.size - wr.iterPos w.heap.size)
  case atStart => exact ⟨0, rfl, rfl⟩
  case round =>
    obtain ⟨pos, rfl, hc⟩ := hrel
    have HC : Hid (cleanFrom s 0 = cleanFrom s pos) := hc
    clear hc
    by_cases hp : pos < s.size
    · have hnx : ∀ ty, (Instr.next (.pointer (some ⟨w.heap.size, 0, none⟩)) true ty).run Try.prog (w.iter s pos) = _ := fun ty => run_next_any w s pos ty hp
      have hwd := width_pos s pos hp
      go_wp2
      · have hx : (((Utf8.decode s pos).1 : Nat) : Int) = 47 := by assumption
        go_ret
        exact ⟨ret_bool (by rw [HC.out, unclean_at hp (.inl hx)]), grown_iter _ _ _⟩
      · have hx : (((((Utf8.decode s pos).1 : Nat) : Int) == 47) = true ∨ (((Utf8.decode s pos).1 : Nat) : Int) < 32) ∨ ((((Utf8.decode s pos).1 : Nat) : Int) == 127) = true := by assumption
        go_ret
        exact ⟨ret_bool (by rw [HC.out, unclean_at hp (by simp only [beq_iff_eq] at hx; omega)]), grown_iter _ _ _⟩
      · have hx : (((((Utf8.decode s pos).1 : Nat) : Int) == 47) = false ∧ 32 ≤ (((Utf8.decode s pos).1 : Nat) : Int)) ∧ ((((Utf8.decode s pos).1 : Nat) : Int) == 127) = false := by assumption
        go_roundw
        case rel =>
          simp only [beq_eq_false_iff_ne, ne_eq] at hx
          exact ⟨_, rfl, by rw [HC.out, clean_at hp hx.1.1 hx.1.2 hx.2]⟩
        case measure => simp; omega
      · have hx : (((Utf8.decode s pos).1 : Nat) : Int) < 32 := by assumption
        go_ret
        exact ⟨ret_bool (by rw [HC.out, unclean_at hp (.inr (.inl hx))]), grown_iter _ _ _⟩
    · have hnx : ∀ ty, (Instr.next (.pointer (some ⟨w.heap.size, 0, none⟩)) true ty).run Try.prog (w.iter s pos) = _ := fun ty => run_next_end w s pos ty hp
      go_wp2
      go_ret
      exact ⟨ret_bool (by rw [HC.out, clean_end s pos hp]), grown_iter _ _ _⟩

end Go.Proofs.Qxb6629010a
