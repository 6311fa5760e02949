/-
  DERIVED. THE WALK OF FnPlainNameJoin.
-/
import Derived.Test.Qxb6629010aCalls
namespace Go.Proofs.Qxb6629010a
open Go.RowKit
open Plain

set_option maxHeartbeats 400000 in
theorem zzBytesJoin_any (a b : ByteArray) (w : World) (ha : a.size ≤ maxLen) (hb : b.size ≤ maxLen) :
    Calls Try.prog 5 #[.string a, .string b] w fun e w' => ∃ r : Bool, e = .returned (.bool r) ∧ w' = w := by
  unfold maxLen at ha hb
  go_enter Try.func5, Try.ntmps5
  go_wp2
  all_goals
    go_ret
    exact ⟨_, rfl, rfl⟩

theorem toList_add (a b : ByteArray) : (a ++ b).toList = a.data.toList ++ b.data.toList := by
  rw [ByteArray.toList_eq, ByteArray.data_append, Array.toList_append]
theorem data_add (a b : ByteArray) : (a ++ b).data.toList = a.data.toList ++ b.data.toList := by
  rw [ByteArray.data_append, Array.toList_append]

set_option maxHeartbeats 800000 in
theorem join_walk (a b : ByteArray) (ha : a.size ≤ maxLen) (hb : b.size ≤ maxLen) (w : World) :
    Calls Try.prog 3 #[.string a, .string b] w fun e w' => e = .returned (.bool true) ∧ Grown w w' := by
  have cz := fun w => zzBytesJoin_any a b w ha hb
  have ka := fun w => cleanBytes_any a w ha
  have kb := fun w => cleanBytes_any b w hb
  have pw := fun w => plainName_any (a ++ b) w
  have pl := fun w => plainName_any (a ++ ⟨#[95]⟩) w
  have pr := fun w => plainName_any (⟨#[95]⟩ ++ b) w
  have el : plainL (a ++ ⟨#[95]⟩ : ByteArray).data.toList = cleanL a.data.toList := by rw [data_add]; exact left_eq _
  have er : plainL (⟨#[95]⟩ ++ b : ByteArray).data.toList = cleanL b.data.toList := by rw [data_add]; exact right_eq _
  have ew : plainL (a ++ b).data.toList = (!specL (a ++ b).toList && (cleanL a.data.toList && cleanL b.data.toList)) := by
    rw [toList_add, data_add]; exact whole_eq _ _
  rw [el] at pl
  rw [er] at pr
  rw [ew] at pw
  clear el er ew
  unfold specL at pw
  generalize cleanL a.data.toList = ca at *
  generalize cleanL b.data.toList = cb at *
  unfold maxLen at ha hb
  by_cases ha6 : 65536 < a.size
  · go_enter Try.func3, Try.ntmps3
    go_wp2_with fail
    refine (cz _).mono ?_
    rintro e w' ⟨r, rfl, rfl⟩
    go_wp2_with fail
    all_goals
      go_ret
      exact ⟨rfl, Grown.refl _⟩
  by_cases hb6 : 65536 < b.size
  · go_enter Try.func3, Try.ntmps3
    go_wp2_with fail
    refine (cz _).mono ?_
    rintro e w' ⟨r, rfl, rfl⟩
    go_wp2_with fail
    all_goals
      go_ret
      exact ⟨rfl, Grown.refl _⟩
  go_enter Try.func3, Try.ntmps3
  go_wp2_with fail
  refine (cz _).mono ?_
  rintro e w' ⟨r, rfl, rfl⟩
  cases r
  · go_wp2_with fail
    go_ret
    exact ⟨rfl, Grown.refl _⟩
  go_wp2_with fail
  refine (pw _).mono ?_
  rintro e w1 ⟨rfl, g1⟩
  go_wp2_with fail
  refine (pl _).mono ?_
  rintro e w2 ⟨rfl, g2⟩
  go_wp2_with fail
  refine (pr _).mono ?_
  rintro e w3 ⟨rfl, g3⟩
  have G : Hid (Grown w' w3) := grown_trans g1 (grown_trans g2 g3)
  clear g1 g2 g3 pw pl pr cz
  cases he1 : (a ++ b).toList.isEmpty <;> cases he2 : ((a ++ b).toList == [46]) <;> cases he3 : ((a ++ b).toList == [46, 46]) <;> cases ca <;> cases cb
  all_goals
    go_wp2_with fail
    refine (ka _).mono ?_
    rintro e w4 ⟨rfl, rfl⟩
    go_wp2_with fail
    refine (kb _).mono ?_
    rintro e w5 ⟨rfl, rfl⟩
    go_wp2_with fail
    go_ret
    exact ⟨rfl, G.out⟩

end Go.Proofs.Qxb6629010a
