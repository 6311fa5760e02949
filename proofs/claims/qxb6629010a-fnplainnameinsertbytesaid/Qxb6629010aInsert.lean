/-
  DERIVED. THE WALK OF FnPlainNameInsertByte.
-/
import Derived.Test.Qxb6629010aCalls
import Derived.Laws.BytesArg
import Derived.Deep.RegionWith
namespace Go.Proofs.Qxb6629010a
open Go.RowKit
open Plain

set_option maxHeartbeats 400000 in
theorem zzBytesInsert_any (a b : ByteArray) (c : Int) (w : World) (ha : a.size ≤ maxLen) (hb : b.size ≤ maxLen) :
    Calls Try.prog 8 #[.string a, .string b, .int .u8 c] w fun e w' => ∃ r : Bool, e = .returned (.bool r) ∧ w' = w := by
  unfold maxLen at ha hb
  go_enter Try.func8, Try.ntmps8
  go_wp2
  all_goals
    go_ret
    exact ⟨_, rfl, rfl⟩

theorem toList_add3 (a b c : ByteArray) : (a ++ b ++ c).toList = a.data.toList ++ b.data.toList ++ c.data.toList := by
  rw [ByteArray.toList_eq, ByteArray.data_append, Array.toList_append, ByteArray.data_append, Array.toList_append]
theorem data_add3 (a b c : ByteArray) : (a ++ b ++ c).data.toList = a.data.toList ++ b.data.toList ++ c.data.toList := by
  rw [ByteArray.data_append, Array.toList_append, ByteArray.data_append, Array.toList_append]

/-- 'string([]byte{c})'. -/
theorem conv_one (c : Nat) (w : World) : (convert 25 9 (.slice (some ⟨w.heap.size, 0, none⟩) 1 1)).run Try.prog (w.alloc (.cells #[.int .u8 c] 5)) = .ok (.string ⟨#[UInt8.ofNat c]⟩) (w.alloc (.cells #[.int .u8 c] 5)) := by
  have h := run_convert_bytes_arg (P := Try.prog) (w.alloc (.cells #[.int .u8 c] 5)) 25 5 Try.underlying25 Try.underlying5 w.heap.size 0 1 1 [(c : Int)] rfl (fun i hi => by
    obtain rfl : i = 0 := by omega
    exact cell_one_new w (.int .u8 c) 5 0 (.int .u8 c) rfl) 9 Try.underlying9
  exact h

set_option maxHeartbeats 1600000 in
theorem insert_walk (a b : ByteArray) (c : Nat) (ha : a.size ≤ maxLen) (hb : b.size ≤ maxLen) (hc : c < 256) (w : World) :
    Calls Try.prog 4 #[.string a, .string b, .int .u8 c] w fun e w' => e = .returned (.bool true) ∧ Grown w w' := by
  have cz := fun w => zzBytesInsert_any a b c w ha hb
  have ka := fun w => cleanBytes_any a w ha
  have kb := fun w => cleanBytes_any b w hb
  have kc := fun w => cleanByte_any c w
  have pt := fun w => plainName_any (a ++ ⟨#[UInt8.ofNat c]⟩ ++ b) w
  have pb := fun w => plainName_any (a ++ ⟨#[95]⟩ ++ b) w
  have eb : plainL (a ++ ⟨#[95]⟩ ++ b : ByteArray).data.toList = (cleanL a.data.toList && cleanL b.data.toList) := by rw [data_add3]; exact base_eq _ _
  have hn : (UInt8.ofNat c).toNat = c := by simp; omega
  have et : plainL (a ++ ⟨#[UInt8.ofNat c]⟩ ++ b : ByteArray).data.toList = ((!((a ++ ⟨#[UInt8.ofNat c]⟩ ++ b : ByteArray).toList == [46]) && !((a ++ ⟨#[UInt8.ofNat c]⟩ ++ b : ByteArray).toList == [46, 46])) && (clN c && (cleanL a.data.toList && cleanL b.data.toList))) := by
    rw [toList_add3, data_add3]
    have := insert_eq a.data.toList b.data.toList (UInt8.ofNat c)
    rw [hn] at this
    refine this.trans ?_
    rw [specL, show ((a.data.toList ++ [UInt8.ofNat c] ++ b.data.toList == []) = false) from by simp]
    simp
  rw [eb] at pb
  rw [et] at pt
  have kv := fun w => conv_one c w
  clear eb et hn
  generalize cleanL a.data.toList = ca at *
  generalize cleanL b.data.toList = cb at *
  generalize clN c = cc at *
  unfold maxLen at ha hb
  by_cases ha6 : 65536 < a.size
  · go_enter Try.func4, Try.ntmps4
    go_wp2_with fail
    refine (cz _).mono ?_
    rintro e w' ⟨r, rfl, rfl⟩
    go_wp2_with fail
    all_goals
      go_ret
      exact ⟨rfl, Grown.refl _⟩
  by_cases hb6 : 65536 < b.size
  · go_enter Try.func4, Try.ntmps4
    go_wp2_with fail
    refine (cz _).mono ?_
    rintro e w' ⟨r, rfl, rfl⟩
    go_wp2_with fail
    all_goals
      go_ret
      exact ⟨rfl, Grown.refl _⟩
  go_enter Try.func4, Try.ntmps4
  go_wp2_with fail
  refine (cz _).mono ?_
  rintro e w' ⟨r, rfl, rfl⟩
  cases r
  · go_wp2_with fail
    go_ret
    exact ⟨rfl, Grown.refl _⟩
  go_wp2_with fail
  refine (pt _).mono ?_
  rintro e w1 ⟨rfl, g1⟩
  go_wp2_with fail
  refine (pb _).mono ?_
  rintro e w2 ⟨rfl, g2⟩
  have G : Hid (Grown w' w2) := grown_trans (grown_trans ((Grown.refl w').alloc _ _) g1) g2
  clear g1 g2 pt pb cz kv
  go_wp2_with fail
  refine (kc _).mono ?_
  rintro e w3 ⟨rfl, rfl⟩
  cases he2 : ((a ++ ⟨#[UInt8.ofNat c]⟩ ++ b : ByteArray).toList == [46]) <;> cases he3 : ((a ++ ⟨#[UInt8.ofNat c]⟩ ++ b : ByteArray).toList == [46, 46]) <;> cases ca <;> cases cb <;> cases cc
  all_goals
    go_wp2_with (first | (go_at_call_of 7 (Value.string a); refine (ka _).mono ?_; rintro e w4 ⟨rfl, rfl⟩) | (go_at_call_of 7 (Value.string b); refine (kb _).mono ?_; rintro e w5 ⟨rfl, rfl⟩))
    go_ret
    exact ⟨rfl, G.out⟩

end Go.Proofs.Qxb6629010a
