/-
  DERIVED. THE WALKS OF 'FnTypeStringInjectiveOnKnown' AND ITS TWO CALLEES (no road of them comes to fmt).
-/
import Derived.Test.Qxb6628534aFmtRows
import Derived.WalkKit
import Derived.WalkSpells
namespace Go.Proofs.Qxb6628534aFmt.Inj
open Go.RowKit

/-- The names of the nine known types. -/
def nameL : Nat → List UInt8
  | 0 => [102, 101, 101, 100]
  | 1 => [104, 97, 110, 100, 115, 104, 97, 107, 101]
  | 2 => [105, 110, 102, 111]
  | 3 => [104, 97, 118, 101]
  | 4 => [117, 110, 104, 97, 118, 101]
  | 5 => [119, 97, 110, 116]
  | 6 => [117, 110, 119, 97, 110, 116]
  | 7 => [114, 101, 113, 117, 101, 115, 116]
  | _ => [100, 97, 116, 97]
def nameB (n : Nat) : ByteArray := ⟨(nameL n).toArray⟩

theorem nine {a : Int} (h0 : 0 ≤ a) (h8 : a ≤ 8) : a = 0 ∨ a = 1 ∨ a = 2 ∨ a = 3 ∨ a = 4 ∨ a = 5 ∨ a = 6 ∨ a = 7 ∨ a = 8 := by omega

set_option maxHeartbeats 400000 in
theorem str_any (a : Int) (w : World) (h0 : 0 ≤ a) (h8 : a ≤ 8) :
    Calls Tryf.prog 5 #[.int .u8 a] w fun e w' => e = .returned (.string (nameB a.toNat)) ∧ w' = w := by
  rcases nine h0 h8 with rfl | rfl | rfl | rfl | rfl | rfl | rfl | rfl | rfl
  all_goals
    go_enter Tryf.func5, Tryf.ntmps5
    go_wp2
    go_ret
    exact ⟨rfl, rfl⟩

set_option maxHeartbeats 400000 in
theorem lower_yes (s : ByteArray) (w : World) (hs : s.size ≤ maxLen) (hz : 0 < s.size) (hl : ∀ (k : Nat) (hk : k < s.size), 97 ≤ s[k].toNat ∧ s[k].toNat ≤ 122) :
    Calls Tryf.prog 6 #[.string s] w fun e w' => e = .returned (.bool true) ∧ w' = w := by
  unfold maxLen at hs
  have h0 : ((s.size : Int) == 0) = false := beq_eq_false_iff_ne.2 (by omega)
  go_enter Tryf.func6, Tryf.ntmps6
  go_wp2
  go_loop [3] (fun i => ∃ k : Nat, k ≤ s.size ∧ i = .int .i64 k) (fun i => s.size - (intOf i).toNat)
  case atStart => exact ⟨0, Nat.zero_le _, rfl⟩
  case round =>
    obtain ⟨k, hk, rfl⟩ := hrel
    by_cases hlt : k < s.size
    · have hk1 : 97 ≤ (s[k].toNat : Int) := by have := (hl k hlt).1; omega
      have hk2 : (s[k].toNat : Int) ≤ 122 := by have := (hl k hlt).2; omega
      go_wp2
      go_round
      case rel => exact ⟨k + 1, by omega, by go_num⟩
      case measure => simp [intOf]; omega
    · go_wp2
      go_ret
      exact ⟨rfl, rfl⟩

theorem nameL_ok (n : Nat) : 0 < (nameL n).length ∧ (nameL n).length ≤ 9 ∧ (nameL n).all (fun c => decide (97 ≤ c.toNat) && decide (c.toNat ≤ 122)) = true := by
  match n with
  | 0 => exact (by decide)
  | 1 => exact (by decide)
  | 2 => exact (by decide)
  | 3 => exact (by decide)
  | 4 => exact (by decide)
  | 5 => exact (by decide)
  | 6 => exact (by decide)
  | 7 => exact (by decide)
  | _ + 8 => exact (by decide : 0 < (nameL 8).length ∧ (nameL 8).length ≤ 9 ∧ (nameL 8).all (fun c => decide (97 ≤ c.toNat) && decide (c.toNat ≤ 122)) = true)

theorem lower_name (a : Int) (w : World) : Calls Tryf.prog 6 #[.string (nameB a.toNat)] w fun e w' => e = .returned (.bool true) ∧ w' = w := by
  obtain ⟨h1, h2, h3⟩ := nameL_ok a.toNat
  have hsz : (nameB a.toNat).size = (nameL a.toNat).length := by simp [nameB, ByteArray.size]
  refine lower_yes _ w (by unfold maxLen; omega) (by omega) fun k hk => ?_
  have := List.all_eq_true.1 h3 (nameB a.toNat)[k] (by
    have : (nameB a.toNat)[k] = (nameL a.toNat)[k]'(by omega) := rfl
    rw [this]; exact List.getElem_mem _)
  simpa using this

theorem names_part (a b : Int) (ha : 0 ≤ a) (hb : 0 ≤ b) (ha8 : a ≤ 8) (hb8 : b ≤ 8) : (nameL a.toNat == nameL b.toNat) = (a == b) := by
  rcases nine ha ha8 with rfl | rfl | rfl | rfl | rfl | rfl | rfl | rfl | rfl <;>
  rcases nine hb hb8 with rfl | rfl | rfl | rfl | rfl | rfl | rfl | rfl | rfl <;> rfl

theorem nameB_list (n : Nat) : (nameB n).toList = nameL n := by rw [ByteArray.toList_eq]; simp [nameB]
theorem ret_bool {a b : Bool} (h : a = b) : Ending.returned (.bool a) = .returned (.bool b) := by rw [h]

set_option maxHeartbeats 400000 in
theorem inj_any (a b : Int) (w : World) (ha : 0 ≤ a) (hb : 0 ≤ b) :
    Calls Tryf.prog 3 #[.int .u8 a, .int .u8 b] w fun e w' => e = .returned (.bool true) ∧ w' = w := by
  by_cases ha8 : 8 < a
  · go_enter Tryf.func3, Tryf.ntmps3
    go_wp2
    go_ret
    exact ⟨rfl, rfl⟩
  by_cases hb8 : 8 < b
  · go_enter Tryf.func3, Tryf.ntmps3
    go_wp2
    go_ret
    exact ⟨rfl, rfl⟩
  have ca := fun w => str_any a w ha (by omega)
  have cb := fun w => str_any b w hb (by omega)
  have la := fun w => lower_name a w
  have lb := fun w => lower_name b w
  have HE : Hid ((((nameB a.toNat).toList == (nameB b.toNat).toList) == (a == b)) = true) := (by show _ = _; rw [nameB_list, nameB_list, names_part a b ha hb (by omega) (by omega)]; simp)
  go_enter Tryf.func3, Tryf.ntmps3
  go_wp2_with fail
  refine (ca _).mono ?_
  rintro e w' ⟨rfl, rfl⟩
  go_wp2_with fail
  refine (cb _).mono ?_
  rintro e w' ⟨rfl, rfl⟩
  go_wp2_with fail
  refine (la _).mono ?_
  rintro e w' ⟨rfl, rfl⟩
  go_wp2_with fail
  refine (lb _).mono ?_
  rintro e w' ⟨rfl, rfl⟩
  go_wp2_with fail
  go_ret
  exact ⟨ret_bool (HE.out), rfl⟩

end Go.Proofs.Qxb6628534aFmt.Inj
