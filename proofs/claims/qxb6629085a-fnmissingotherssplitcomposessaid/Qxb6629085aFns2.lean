/-
  DERIVED. zzHas, zzSame, zzMembers: the walks.
-/
import Derived.Test.Qxb6629085aFns
import Derived.Deep.RegionHeld3
namespace Go.Proofs.Qxb6629085a
open Go.RowKit

/-! ### zzHas -/
/-- x stands at none of the places from k on. -/
def UnmetFrom (ms : List Mem) (x : Mem) (k : Nat) : Prop := ∀ j, k ≤ j → j < ms.length → eqM x (ms.getD j noM) = false

theorem unmetFrom_pred {ms : List Mem} {x : Mem} {k : Nat} (h : UnmetFrom ms x (k + 1)) (e : eqM x (ms.getD k noM) = false) : UnmetFrom ms x k := fun j hj hl => by
  by_cases ej : j = k
  · rw [ej]; exact e
  · exact h j (by omega) hl

theorem eqM_of {xn xa yn ya : ByteArray} {p q : Bool} (h1 : (yn.toList == xn.toList) = p) (h2 : (ya.toList == xa.toList) = q) : eqM (xn, xa) (yn, ya) = (p && q) := by
  rw [← h1, ← h2, eqM, Bool.beq_comm (a := yn.toList), Bool.beq_comm (a := ya.toList)]

set_option maxHeartbeats 800000 in
theorem has_any (a : Option Addr) (L c : Nat) (ms : List Mem) (xn xa : ByteArray) (w : World) (hL : L ≤ 1000000) (HL : Hid (ms.length = L)) (hM : MIn w a L ms) :
    Calls Try.prog 9 #[.slice a L c, .string xn, .string xa] w fun e w' => e = .returned (.bool (hasM ms (xn, xa))) ∧ w = w' := by
  go_enter Try.func9, Try.ntmps9
  go_wp2
  go_loop [7] (fun i => ∃ k : Nat, k ≤ L ∧ i = .int .i64 ((k : Int) - 1) ∧ Hid (UnmetFrom ms (xn, xa) k)) (fun i => (intOf i + 1).toNat)
  case atStart => exact ⟨L, Nat.le_refl _, rfl, fun j hj hl => by rw [HL.out] at hl; omega⟩
  case round =>
    obtain ⟨k, hk, rfl, HU⟩ := hrel
    by_cases h0 : k = 0
    · subst h0
      have HR : Hid (hasM ms (xn, xa) = false) := unmet_all fun j hj => HU.out j (Nat.zero_le _) hj
      go_wp2
      go_ret
      exact ⟨by rw [HR.out]; rfl, rfl⟩
    · obtain ⟨j, rfl⟩ : ∃ j, k = j + 1 := ⟨k - 1, by omega⟩
      obtain ⟨b, off, rfl, lb, g0, g1⟩ := m_cell hM rfl (Below.refl _ w) (show j < L by omega)
      have HK : Hid (j < ms.length) := by show _ < _; rw [HL.out]; omega
      obtain ⟨Y, hY⟩ : ∃ Y, Y = ms.getD j noM := ⟨_, rfl⟩
      rw [← hY] at g0 g1
      have HY : Hid (Y = ms.getD j noM) := hY
      clear hY
      obtain ⟨yn, ya⟩ := Y
      simp only [] at g0 g1
      have hjL : (j : Int) < (L : Int) := by omega
      have hj1 : ((j + 1 : Nat) : Int) - 1 = (j : Int) := by omega
      rw [hj1]
      clear hj1
      cases e1 : (yn.toList == xn.toList) with
      | false =>
        have HN : Hid (UnmetFrom ms (xn, xa) j) := unmetFrom_pred HU.out (by rw [← HY.out, eqM_of e1 rfl]; rfl)
        go_wp2
        go_round
        case rel => exact ⟨j, by omega, rfl, HN⟩
        case measure => simp [intOf]
      | true =>
        cases e2 : (ya.toList == xa.toList) with
        | false =>
          have HN : Hid (UnmetFrom ms (xn, xa) j) := unmetFrom_pred HU.out (by rw [← HY.out, eqM_of e1 e2]; rfl)
          go_wp2
          go_round
          case rel => exact ⟨j, by omega, rfl, HN⟩
          case measure => simp [intOf]
        | true =>
          have HR : Hid (hasM ms (xn, xa) = true) := has_at HK.out (by rw [← HY.out, eqM_of e1 e2]; rfl)
          go_wp2
          go_ret
          exact ⟨by rw [HR.out]; rfl, rfl⟩

/-! ### zzSame, at two slices that hold one list -/
set_option maxHeartbeats 800000 in
theorem same_yes (a b : Option Addr) (L ca cb : Nat) (ms : List Mem) (w : World) (hL : L ≤ 1000000) (ha : MIn w a L ms) (hb : MIn w b L ms) :
    Calls Try.prog 11 #[.slice a L ca, .slice b L cb] w fun e w' => e = .returned (.bool true) ∧ Below w.heap.size w w' := by
  go_enter Try.func11, Try.ntmps11
  go_wp2
  go_loopw [5] (fun i wr => ∃ k : Nat, k ≤ L ∧ i = .int .i64 k ∧ Below w.heap.size w wr) (fun i _ => L - (intOf i).toNat)
  case atStart => exact ⟨0, Nat.zero_le _, rfl, Below.refl _ _⟩
  case round =>
    obtain ⟨k, hk, rfl, hB⟩ := hrel
    by_cases hlt : k < L
    · obtain ⟨b0, o0, rfl, l0, g0, g1⟩ := m_cell ha rfl hB hlt
      obtain ⟨b1, o1, rfl, l1, k0, k1⟩ := m_cell hb rfl hB hlt
      obtain ⟨Y, hY⟩ : ∃ Y, Y = ms.getD k noM := ⟨_, rfl⟩
      rw [← hY] at g0 g1 k0 k1
      clear hY
      obtain ⟨yn, ya⟩ := Y
      simp only [] at g0 g1 k0 k1
      have hkI : (k : Int) < (L : Int) := by omega
      go_wp2_with fail
      go_quiet (fail)
      go_wp2
      go_roundw
      case rel => exact ⟨k + 1, by omega, by go_num, below_drewN hB _⟩
      case measure => simp [intOf]; omega
    · have hkI : ¬ (k : Int) < (L : Int) := by omega
      go_wp2
      go_ret
      exact ⟨rfl, hB⟩

/-! ### zzMembers -/
/-- A slice of strings that came in. -/
def SIn (w : World) (a : Option Addr) (L : Nat) (ss : List ByteArray) : Prop :=
  (0 < L → ∃ b off, a = some ⟨b, off, none⟩ ∧ ∀ i, i < L → w.cell? ⟨b, off + i, none⟩ = some (.string (ss.getD i ByteArray.empty))) ∧ ∀ i, i < L → (ss.getD i ByteArray.empty).size ≤ maxLen

theorem s_cell {w w' : World} {a : Option Addr} {L : Nat} {ss : List ByteArray} (h : SIn w a L ss) {B : Nat} (hw : B = w.heap.size) (hB : Below B w w') {k : Nat} (hk : k < L) :
    ∃ b off, a = some ⟨b, off, none⟩ ∧ b < B ∧ w'.cell? ⟨b, off + k, none⟩ = some (.string (ss.getD k ByteArray.empty)) := by
  subst hw
  obtain ⟨b, off, rfl, hc⟩ := h.1 (by omega)
  have c1 := hc k hk
  have hl := World.block_lt_of_cell? w _ c1
  exact ⟨b, off, rfl, hl, by rw [hB.cell (p := ⟨b, off + k, none⟩) hl]; exact c1⟩

/-- The members of two lists of L strings. -/
def mems (ns ads : List ByteArray) (L : Nat) : List Mem := (List.range L).map fun i => (ns.getD i ByteArray.empty, ads.getD i ByteArray.empty)

theorem length_mems (ns ads : List ByteArray) (L : Nat) : (mems ns ads L).length = L := by simp [mems]
theorem mems_at {ns ads : List ByteArray} {L i : Nat} (h : i < L) : (mems ns ads L).getD i noM = (ns.getD i ByteArray.empty, ads.getD i ByteArray.empty) := by
  simp [mems, List.getD_eq_getElem?_getD, h]

/-- Cell j of the row behind k rounds. -/
def cellAt (ns ads : List ByteArray) (k j : Nat) : Value :=
  if j < k * 2 then (if j % 2 = 0 then .string (ns.getD (j / 2) ByteArray.empty) else .string (ads.getD (j / 2) ByteArray.empty)) else .string ByteArray.empty

theorem cellAt_zero (ns ads : List ByteArray) (j : Nat) : cellAt ns ads 0 j = .string ByteArray.empty := by simp [cellAt]
theorem cellAt_succ (ns ads : List ByteArray) (k j : Nat) :
    (if j = k * 2 + 1 then Value.string (ads.getD k ByteArray.empty) else if j = k * 2 then .string (ns.getD k ByteArray.empty) else cellAt ns ads k j) = cellAt ns ads (k + 1) j := by
  unfold cellAt
  by_cases h1 : j = k * 2 + 1
  · rw [if_pos h1, if_pos (by omega), if_neg (by omega), show j / 2 = k by omega]
  · rw [if_neg h1]
    by_cases h2 : j = k * 2
    · rw [if_pos h2, if_pos (by omega), if_pos (by omega), show j / 2 = k by omega]
    · rw [if_neg h2]
      by_cases h3 : j < k * 2
      · rw [if_pos h3, if_pos (show j < (k + 1) * 2 by omega)]
      · rw [if_neg h3, if_neg (by omega)]

theorem made_two (w : World) (s : Value) (n : Nat) (t : TypeId) : (w.alloc (.cells (madeCells #[s, s] n) t)).rowIs w.heap.size t n (fun _ => s) := by
  have h := World.rowIs_alloc w (madeCells #[s, s] n) t (fun _ => s) (fun i hi => by
    rw [size_madeCells] at hi
    have : i % 2 = 0 ∨ i % 2 = 1 := by omega
    rcases this with e | e <;> simp [madeCells, hi, e])
  rw [size_madeCells] at h
  exact h

/-- 'make([]Member, n)'. -/
theorem make_m {w : World} {ops : Array Oper} {rest : List Oper} {o : Oper} {a : Act} {Q : Exit → Act → World → Prop}
    (hg : o.guard = none) (l c : Operand) (hop : o.op = Op.makeSlice 25 l c) (n : Nat) (hl : a.eval l = .int .i64 (n : Int)) (hc : a.eval c = .int .i64 (n : Int)) (hn : n ≤ 1000000)
    (hK : ∀ w', w'.rowIs w.heap.size 29 (n * 2) (fun _ => .string ByteArray.empty) → Below w.heap.size w w' → wpList Try.prog ops Q rest (a.put o.dst (.slice (some ⟨w.heap.size, 0, none⟩) n n)) w') :
    wpList Try.prog ops Q (o :: rest) a w := by
  obtain ⟨i0, hi, hz0, hz1, hz2⟩ := info_parts info29
  refine wpList_plain hg fun K' hK' => ?_
  have hrun := run_make (P := Try.prog) w 25 29 i0 (.agg #[.string ByteArray.empty, .string ByteArray.empty]) Try.underlying25 hi hz0 .i64 .i64 (n : Int) (n : Int) (by omega) (Int.le_refl _) (by rw [hz2]; omega) (by omega)
  rw [hz1] at hrun
  simp only [Int.toNat_natCast] at hrun
  unfold Oper.wp
  simp [execOp, hop, hl, hc, hrun, Result.andThen]
  exact hK' _ _ (hK _ (made_two w (.string ByteArray.empty) (n * 2) 29) ((Below.refl _ w).alloc (Nat.le_refl _) _))

theorem two_other (w : World) (B o1 o2 b o : Nat) (x y : Value) (h : ¬ b = B) : ((w.setCell ⟨B, o1, none⟩ x).setCell ⟨B, o2, none⟩ y).drew.cell? ⟨b, o, none⟩ = w.cell? ⟨b, o, none⟩ := by
  have h' : ¬ B = b := fun e => h e.symm
  simp [World.cell?, World.setCell, World.drew, Array.getElem?_modify, h']

theorem row_two {w : World} {B k n : Nat} {ns ads : List ByteArray} (hR : w.rowIs B 29 n (cellAt ns ads k)) :
    ((w.setCell ⟨B, k * 2, none⟩ (.string (ns.getD k ByteArray.empty))).setCell ⟨B, k * 2 + 1, none⟩ (.string (ads.getD k ByteArray.empty))).rowIs B 29 n (cellAt ns ads (k + 1)) :=
  ((hR.set (k * 2) _).set (k * 2 + 1) _).congr fun i _ => cellAt_succ ns ads k i

theorem mIn_row {w : World} {B L : Nat} {ns ads : List ByteArray} (hR : w.rowIs B 29 (L * 2) (cellAt ns ads L)) : MIn w (some ⟨B, 0, none⟩) L (mems ns ads L) := fun _ => by
  refine ⟨B, 0, rfl, fun i hi => ?_⟩
  have c0 := hR.cell (i := i * 2) (by omega)
  have c1 := hR.cell (i := i * 2 + 1) (by omega)
  unfold cellAt at c0 c1
  rw [if_pos (show i * 2 < L * 2 by omega), if_pos (show i * 2 % 2 = 0 by omega), show i * 2 / 2 = i by omega] at c0
  rw [if_pos (show i * 2 + 1 < L * 2 by omega), if_neg (show ¬ (i * 2 + 1) % 2 = 0 by omega), show (i * 2 + 1) / 2 = i by omega] at c1
  rw [mems_at hi, Nat.zero_add]
  exact ⟨c0, c1⟩

set_option maxHeartbeats 1000000 in
set_option maxRecDepth 100000 in
theorem members_any (a b : Option Addr) (L ca cb : Nat) (ns ads : List ByteArray) (w : World) (hL : L ≤ 1000000) (ha : SIn w a L ns) (hb : SIn w b L ads) :
    Calls Try.prog 7 #[.slice a L ca, .slice b L cb] w fun e w' => ∃ a', e = .returned (.slice a' L L) ∧ MIn w' a' L (mems ns ads L) ∧ Below w.heap.size w w' := by
  go_enter Try.func7, Try.ntmps7
  go_wp2_with (first
    | (at_make; refine make_m rfl _ _ rfl L rfl rfl hL ?_; intro w0 hR0 hB0)
    | go_in)
  have hR0' : w0.rowIs w.heap.size 29 (L * 2) (cellAt ns ads 0) := hR0.congr fun i _ => (cellAt_zero ns ads i).symm
  clear hR0
  go_loopw [6] (fun i wr => ∃ k : Nat, k ≤ L ∧ i = .int .i64 k ∧ wr.rowIs w.heap.size 29 (L * 2) (cellAt ns ads k) ∧ Below w.heap.size w wr) (fun i _ => L - (intOf i).toNat)
  case atStart => exact ⟨0, Nat.zero_le _, rfl, hR0', hB0⟩
  case round =>
    obtain ⟨k, hk, rfl, hR, hB⟩ := hrel
    clear hR0' hB0
    by_cases hlt : k < L
    · obtain ⟨b0, o0, rfl, l0, g0⟩ := s_cell ha rfl hB hlt
      obtain ⟨b1, o1, rfl, l1, g1⟩ := s_cell hb rfl hB hlt
      obtain ⟨yn, hyn⟩ : ∃ yn, yn = ns.getD k ByteArray.empty := ⟨_, rfl⟩
      obtain ⟨ya, hya⟩ : ∃ ya, ya = ads.getD k ByteArray.empty := ⟨_, rfl⟩
      rw [← hyn] at g0
      rw [← hya] at g1
      have HN : Hid (yn = ns.getD k ByteArray.empty) := hyn
      have HA : Hid (ya = ads.getD k ByteArray.empty) := hya
      clear hyn hya
      have t0 := hR.cell (i := k * 2) (by omega)
      have t1 := hR.cell (i := k * 2 + 1) (by omega)
      have f0 := hR.frozen (k * 2)
      have f1 := hR.frozen (k * 2 + 1)
      generalize cellAt ns ads k (k * 2) = c0 at t0
      generalize cellAt ns ads k (k * 2 + 1) = c1 at t1
      have hkI : (k : Int) < (L : Int) := by omega
      have n0 : ¬ b0 = w.heap.size := by omega
      have n1 : ¬ b1 = w.heap.size := by omega
      go_wp2_with fail
      go_region_held3 (fun w' => w'.cell? ⟨b0, o0 + k, none⟩ = some (.string yn) ∧ w'.cell? ⟨b1, o1 + k, none⟩ = some (.string ya)) (first | (exact ⟨(two_other _ _ _ _ _ _ _ _ n0).trans g0, (two_other _ _ _ _ _ _ _ _ n1).trans g1⟩) | go_keep) (fail)
      have hB2 : Below w.heap.size w ((wr.setCell ⟨w.heap.size, k * 2, none⟩ (.string yn)).setCell ⟨w.heap.size, k * 2 + 1, none⟩ (.string ya)) := (hB.setCell (Nat.le_refl _) _).setCell (Nat.le_refl _) _
      have hR2 := row_two hR
      rw [← HN.out, ← HA.out] at hR2
      go_wp2_with fail
      go_roundw
      case rel => exact ⟨k + 1, by omega, by go_num, hR2, hB2.drew⟩
      case measure => simp [intOf]; omega
    · obtain rfl : k = L := by omega
      have hkI : ¬ (k : Int) < (k : Int) := by omega
      go_wp2_with fail
      go_ret
      exact ⟨_, rfl, mIn_row hR, hB⟩

end Go.Proofs.Qxb6629085a
