/-
  DERIVED. Missing, zzHas, zzSame: the walks.
-/
import Derived.Test.Qxb6629085aMem
import Derived.WalkSmall
import Derived.Deep.OwnRows
namespace Go.Proofs.Qxb6629085a
open Go.RowKit

/-! ### The plain part -/
/-- The members of ms that os does not hold. -/
def missM (ms os : List Mem) : List Mem := ms.filter fun m => !hasM os m
/-- The cells of a row of members. -/
def flat (ms : List Mem) : List Value := ms.flatMap fun m => [.string m.1, .string m.2]

theorem length_flat (ms : List Mem) : (flat ms).length = ms.length * 2 := by
  induction ms with
  | nil => rfl
  | cons m r ih => simp [flat] at ih ⊢; omega
theorem flat_snoc (ms : List Mem) (m : Mem) : flat (ms ++ [m]) = flat ms ++ [.string m.1, .string m.2] := by simp [flat]
theorem flat_at : ∀ (ms : List Mem) (i : Nat), i < ms.length → (flat ms)[i * 2]? = some (.string (ms.getD i noM).1) ∧ (flat ms)[i * 2 + 1]? = some (.string (ms.getD i noM).2)
  | [], i, h => absurd h (Nat.not_lt_zero _)
  | m :: r, 0, _ => ⟨rfl, rfl⟩
  | m :: r, i + 1, h => by
    have ih := flat_at r i (by simpa using h)
    have e : flat (m :: r) = .string m.1 :: .string m.2 :: flat r := rfl
    rw [e, show (i + 1) * 2 = i * 2 + 1 + 1 by omega]
    simpa using ih

theorem take_snocM {ms : List Mem} {k : Nat} (h : k < ms.length) : ms.take (k + 1) = ms.take k ++ [ms.getD k noM] := by
  rw [List.take_succ_eq_append_getElem h, List.getD_eq_getElem?_getD, List.getElem?_eq_getElem h]
  rfl
theorem miss_keep {ms os : List Mem} {k : Nat} (h : k < ms.length) (e : hasM os (ms.getD k noM) = false) : missM (ms.take (k + 1)) os = missM (ms.take k) os ++ [ms.getD k noM] := by
  rw [take_snocM h, missM, List.filter_append]
  congr 1
  simp only [List.filter_cons, e, List.filter_nil, Bool.not_false, if_true]
theorem miss_drop {ms os : List Mem} {k : Nat} (h : k < ms.length) (e : hasM os (ms.getD k noM) = true) : missM (ms.take (k + 1)) os = missM (ms.take k) os := by
  rw [take_snocM h, missM, List.filter_append]
  simp only [List.filter_cons, e, List.filter_nil, Bool.not_true, Bool.false_eq_true, if_false, List.append_nil]
  rfl
theorem length_miss (ms os : List Mem) : (missM ms os).length ≤ ms.length := List.length_filter_le _ _

/-! ### A slice that the call has built -/
theorem grownBy_of_below {w w' : World} (hB : Below w.heap.size w w') : w.grownBy w' none := ⟨hB.os, hB.tape, hB.output, hB.size, fun k hk _ => hB.block k hk⟩
theorem owns_below {w w' : World} {B n : Nat} {v : Value} {xs : List Value} (h : w.ownsRow B 29 2 v n xs) (hB : Below w.heap.size w w') : w'.ownsRow B 29 2 v n xs :=
  h.kept (grownBy_of_below hB) (by cases v.ownBlock <;> simp)

theorem mIn_of_owns {w : World} {B : Nat} {v : Value} {out : List Mem} (h : w.ownsRow B 29 2 v out.length (flat out)) : ∃ a cap, v = .slice a out.length cap ∧ MIn w a out.length out := by
  rcases h.2 with ⟨rfl, h0⟩ | ⟨g, cap, cur, rfl, _, hb, _, _, _, ht⟩
  · exact ⟨none, 0, by rw [h0], fun hp => by omega⟩
  · refine ⟨_, cap, rfl, fun _ => ⟨g, 0, rfl, fun i hi => ?_⟩⟩
    have hc : ∀ j u, j < out.length * 2 → (flat out)[j]? = some u → w.cell? ⟨g, j, none⟩ = some u := fun j u hj hu => by
      rw [← ht, List.getElem?_take_of_lt hj] at hu
      simp only [World.cell?, hb]
      simpa using hu
    obtain ⟨f1, f2⟩ := flat_at out i hi
    rw [Nat.zero_add]
    exact ⟨hc _ _ (by omega) f1, hc _ _ (by omega) f2⟩

theorem info29 : (Try.prog.info? 29).map (fun i => (i.zero, i.size, i.bytes)) = some (some (.agg #[.string ByteArray.empty, .string ByteArray.empty]), 2, 32) := by kernel_rfl

/-- 'out = append(out, m)' onto a slice of members of the call's own. -/
theorem append_m {w : World} {ops : Array Oper} {rest : List Oper} {o : Oper} {a : Act} {Q : Exit → Act → World → Prop} (hg : o.guard = none) (s x : Operand)
    (ho : o.op = .call { callee := .builtin .append, args := #[s, x], argTypes := #[25, 25] }) (B : Nat) (v : Value) (out : List Mem) (hs : a.eval s = v)
    (hown : w.ownsRow B 29 2 v out.length (flat out)) (g : Nat) (yn ya : ByteArray) (hx : a.eval x = .slice (some ⟨g, 0, none⟩) 1 1)
    (hnews : ∀ j u, [Value.string yn, Value.string ya][j]? = some u → w.cell? ((⟨g, 0, none⟩ : Addr).add j) = some u) (hlen : out.length ≤ 2000000) (hB : B ≤ w.heap.size)
    (h : ∀ v' w', w'.ownsRow B 29 2 v' (out ++ [(yn, ya)]).length (flat (out ++ [(yn, ya)])) → w.grownBy w' v.ownBlock → wpList Try.prog ops Q rest (a.put o.dst v') w') :
    wpList Try.prog ops Q (o :: rest) a w := by
  obtain ⟨i0, hi, hz0, hz1, hz2⟩ := info_parts info29
  refine wpList_append_own w hg s x 25 ho B 29 i0 (.agg #[.string ByteArray.empty, .string ByteArray.empty]) 2 32 Try.underlying25 hi hz0 hz1 hz2 rfl (by decide) v out.length (flat out) hs hown ⟨g, 0, none⟩ 1 1 [.string yn, .string ya] hx rfl hnews
    (fun u hu => by simp at hu; rcases hu with rfl | rfl <;> rfl) (by unfold maxLen; omega) (by omega) hB fun v' w' h1 h2 _ => h v' w' ?_ h2
  rw [flat_snoc]
  simpa using h1

/-! ### Missing -/
set_option maxHeartbeats 1000000 in
set_option maxRecDepth 100000 in
theorem missing_any (a b : Option Addr) (L ca K cb : Nat) (ms os : List Mem) (w : World) (hL : L ≤ 1000000) (hK : K ≤ 1000000) (HL : Hid (ms.length = L)) (HK : Hid (os.length = K)) (hM : MIn w a L ms) (hO : MIn w b K os) :
    Calls Try.prog 8 #[.slice a L ca, .slice b K cb] w fun e w' => ∃ a' c' L', e = .returned (.slice a' L' c') ∧ Hid ((missM ms os).length = L') ∧ L' ≤ L ∧ MIn w' a' L' (missM ms os) ∧ Below w.heap.size w w' := by
  go_enter Try.func8, Try.ntmps8
  go_wp2
  go_loopw [5, 10] (fun v i wr => ∃ (k : Nat) (out : List Mem), k ≤ L ∧ i = .int .i64 k ∧ wr.ownsRow w.heap.size 29 2 v out.length (flat out) ∧ out.length ≤ k ∧ Hid (out = missM (ms.take k) os) ∧ Below w.heap.size w wr) (fun _ i _ => L - (intOf i).toNat)
  case atStart => exact ⟨0, [], Nat.zero_le _, rfl, World.ownsRow_nil _ _ _ _, Nat.zero_le _, rfl, Below.refl _ _⟩
  case round =>
    obtain ⟨k, out, hk, rfl, hrow, hol, HO, hB⟩ := hrel
    have hBs := hB.size
    by_cases hlt : k < L
    · obtain ⟨b0, o0, rfl, l0, g0, g1⟩ := m_cell hM rfl hB hlt
      have HKK : Hid (k < ms.length) := by show _ < _; rw [HL.out]; exact hlt
      obtain ⟨Y, hY⟩ : ∃ Y, Y = ms.getD k noM := ⟨_, rfl⟩
      rw [← hY] at g0 g1
      have HY : Hid (Y = ms.getD k noM) := hY
      clear hY
      obtain ⟨yn, ya⟩ := Y
      have hkI : (k : Int) < (L : Int) := by omega
      simp only [] at g0 g1
      have hB1 : Below w.heap.size w (wr.alloc (.cells #[.string yn, .string ya] 29)) := hB.alloc hBs _
      have hO1 := mIn_below hO rfl hB1
      go_wp2_with fail
      refine (contains_any b K cb os yn ya _ hK HK hO1).mono ?_
      rintro e w2 ⟨rfl, hB2⟩
      have r0 : w2.cell? ⟨wr.heap.size, 0, none⟩ = some (.string yn) := by rw [hB2.cell (p := ⟨wr.heap.size, 0, none⟩) (by simp)]; simp
      have r1 : w2.cell? ⟨wr.heap.size, 1, none⟩ = some (.string ya) := by rw [hB2.cell (p := ⟨wr.heap.size, 1, none⟩) (by simp)]; simp
      have hrow2 := owns_below (hrow.alloc (.cells #[.string yn, .string ya] 29)) hB2
      have hB2' : Below w.heap.size w w2 := hB1.trans (hB2.mono hB1.size)
      have hB2s := hB2'.size
      cases hq : hasM os (yn, ya) with
      | true =>
        have HN : Hid (out = missM (ms.take (k + 1)) os) := by show _ = _; rw [miss_drop HKK.out (by rw [← HY.out]; exact hq)]; exact HO.out
        clear hq
        go_wp2_with fail
        go_roundw
        case rel => exact ⟨k + 1, out, by omega, by go_num, hrow2, by omega, HN, hB2'⟩
        case measure => simp [intOf]; omega
      | false =>
        have HN : Hid (out ++ [(yn, ya)] = missM (ms.take (k + 1)) os) := by show _ = _; rw [miss_keep HKK.out (by rw [← HY.out]; exact hq), ← HY.out, HO.out]
        clear hq
        go_wp2_with (first
          | (at_builtin; refine append_m rfl _ _ rfl w.heap.size _ out rfl (hrow2.alloc _) w2.heap.size yn ya rfl (cell_two_new _ _ _ _) (by omega) (by simp; omega) ?_; intro v3 w3 hrow3 hg3)
          | go_in)
        have hB3 : Below w.heap.size w w3 := (hB2'.alloc hB2s _).grown hg3 (by simp; omega) (fun j hj => (hrow2.lt j hj).1)
        go_roundw
        case rel => exact ⟨k + 1, out ++ [(yn, ya)], by omega, by go_num, hrow3, by simp; omega, HN, hB3⟩
        case measure => simp [intOf]; omega
    · have HE : Hid (out = missM ms os) := by
        have : k = ms.length := by rw [HL.out]; omega
        show _ = _
        rw [HO.out, this, List.take_length]
      have hkI : ¬ (k : Int) < (L : Int) := by omega
      have HLL : Hid ((missM ms os).length ≤ L) := by show _ ≤ _; rw [← HL.out]; exact length_miss ms os
      go_wp2_with fail
      obtain ⟨a', c', hv, hin⟩ := mIn_of_owns hrow
      go_ret
      refine ⟨a', c', _, by rw [← hv]; rfl, by rw [HE.out]; rfl, ?_, by rw [HE.out] at hin ⊢; exact hin, hB⟩
      rw [HE.out]; exact HLL.out

end Go.Proofs.Qxb6629085a
