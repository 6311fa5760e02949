/-
  DERIVED. MEMBERS: the plain words; slices.Index, slices.Contains at []Member.
-/
import Derived.Test.Qxb6629085aProg
import Derived.KernelRfl
import Derived.WalkKit
import Derived.WalkSpells
import Derived.WalkLawsBesides
import Derived.Deep.QuietTactic
import Derived.BigQuiet
import Derived.Laws.StructEq
import Derived.Shelf.SlicesE.Kit
namespace Go.Proofs.Qxb6629085a
open Go.RowKit

abbrev Mem := ByteArray × ByteArray
def noM : Mem := (ByteArray.empty, ByteArray.empty)
def eqM (x y : Mem) : Bool := x.1.toList == y.1.toList && x.2.toList == y.2.toList
/-- Does ms hold x? -/
def hasM (ms : List Mem) (x : Mem) : Bool := ms.any fun y => eqM x y

theorem eqM_iff {x y : Mem} : eqM x y = true ↔ x = y := by
  obtain ⟨a, b⟩ := x
  obtain ⟨c, d⟩ := y
  simp only [eqM, ByteArray.toList_eq, Bool.and_eq_true, beq_iff_eq, Prod.mk.injEq]
  constructor
  · rintro ⟨h1, h2⟩
    exact ⟨WideShapes.bytes_inj h1, WideShapes.bytes_inj h2⟩
  · rintro ⟨rfl, rfl⟩; exact ⟨rfl, rfl⟩

theorem hasM_iff {ms : List Mem} {x : Mem} : hasM ms x = true ↔ x ∈ ms := by
  simp only [hasM, List.any_eq_true]
  constructor
  · rintro ⟨y, hy, e⟩; rw [eqM_iff.1 e]; exact hy
  · intro h; exact ⟨x, h, eqM_iff.2 rfl⟩

/-- A slice of members: where it has an element, its cells. -/
def MIn (w : World) (a : Option Addr) (L : Nat) (ms : List Mem) : Prop :=
  0 < L → ∃ b off, a = some ⟨b, off, none⟩ ∧ ∀ i, i < L → w.cell? ⟨b, off + i * 2, none⟩ = some (.string (ms.getD i noM).1) ∧ w.cell? ⟨b, off + i * 2 + 1, none⟩ = some (.string (ms.getD i noM).2)

theorem mIn_below {w w' : World} {a : Option Addr} {L : Nat} {ms : List Mem} (h : MIn w a L ms) {B : Nat} (hw : B = w.heap.size) (hB : Below B w w') : MIn w' a L ms := by
  subst hw
  intro h0
  obtain ⟨b, off, rfl, hc⟩ := h h0
  refine ⟨b, off, rfl, fun i hi => ?_⟩
  obtain ⟨c1, c2⟩ := hc i hi
  exact ⟨by rw [hB.cell (p := ⟨b, off + i * 2, none⟩) (World.block_lt_of_cell? w _ c1)]; exact c1, by rw [hB.cell (p := ⟨b, off + i * 2 + 1, none⟩) (World.block_lt_of_cell? w _ c2)]; exact c2⟩

theorem m_cell {w w' : World} {a : Option Addr} {L : Nat} {ms : List Mem} (h : MIn w a L ms) {B : Nat} (hw : B = w.heap.size) (hB : Below B w w') {k : Nat} (hk : k < L) :
    ∃ b off, a = some ⟨b, off, none⟩ ∧ b < B ∧ w'.cell? ⟨b, off + k * 2, none⟩ = some (.string (ms.getD k noM).1) ∧ w'.cell? ⟨b, off + k * 2 + 1, none⟩ = some (.string (ms.getD k noM).2) := by
  subst hw
  obtain ⟨b, off, rfl, hc⟩ := h (by omega)
  obtain ⟨c1, c2⟩ := hc k hk
  have hl := World.block_lt_of_cell? w _ c1
  exact ⟨b, off, rfl, hl, by rw [hB.cell (p := ⟨b, off + k * 2, none⟩) hl]; exact c1, by rw [hB.cell (p := ⟨b, off + k * 2 + 1, none⟩) hl]; exact c2⟩

/-! ### '==' at Member -/
theorem eqMem (x y : Mem) (w : World) : Sem.run Try.prog (binOp .eql 29 (.agg #[.string x.1, .string x.2]) (.agg #[.string y.1, .string y.2])) w = .ok (.bool (eqM x y)) w := by
  have u9 := Try.underlying9
  have a9 := Try.isAgg9
  have z9 := Try.sizeOf9
  have hS : Try.prog.underlying 29 = some (.struct (Try.prog.fieldsOf 29)) := by kernel_rfl
  have hp : Try.prog.stoodInHeld 29 = false := by kernel_rfl
  rw [run_eql_struct, show (10000 : Nat) = 9999 + 1 from rfl, run_equalIn_agg w 9999 29 _ _ hS hp]
  simp only [Program.fieldsOf, Try.underlying29]
  go_simp
  by_cases h1 : x.1.toList = y.1.toList <;> by_cases h2 : x.2.toList = y.2.toList <;> simp [eqM, h1, h2]
theorem guardMem (op : BinOp) (a b : Operand) (x y : Mem) (w : World) : Sem.run Try.prog (eqGuard op 29 a b (.agg #[.string x.1, .string x.2]) (.agg #[.string y.1, .string y.2])) w = .ok () w :=
  GuardAt.agg (P := Try.prog) (T := 29) (fun x : Mem => #[.string x.1, .string x.2]) (by kernel_rfl) op a b x y w

/-! ### slices.Index -/
/-- x stands at none of the first k places. -/
def Unmet (ms : List Mem) (x : Mem) (k : Nat) : Prop := ∀ j, j < k → eqM x (ms.getD j noM) = false

theorem unmet_succ {ms : List Mem} {x : Mem} {k : Nat} (h : Unmet ms x k) (e : eqM x (ms.getD k noM) = false) : Unmet ms x (k + 1) := fun j hj => by
  by_cases ej : j = k
  · rw [ej]; exact e
  · exact h j (by omega)
theorem getD_memM {ms : List Mem} {i : Nat} (h : i < ms.length) : ms.getD i noM ∈ ms := by
  rw [List.getD_eq_getElem?_getD, List.getElem?_eq_getElem h]
  exact List.getElem_mem _
theorem has_at {ms : List Mem} {x : Mem} {k : Nat} (hk : k < ms.length) (e : eqM x (ms.getD k noM) = true) : hasM ms x = true := by
  rw [hasM_iff, eqM_iff.1 e]
  exact getD_memM hk
theorem unmet_all {ms : List Mem} {x : Mem} (h : Unmet ms x ms.length) : hasM ms x = false := by
  cases hh : hasM ms x
  · rfl
  · obtain ⟨i, hi, e⟩ := List.getElem_of_mem (hasM_iff.1 hh)
    have := h i hi
    rw [List.getD_eq_getElem?_getD, List.getElem?_eq_getElem hi] at this
    simp only [Option.getD_some] at this
    rw [e, eqM_iff.2 rfl] at this
    cases this

set_option maxHeartbeats 800000 in
theorem index_any (a : Option Addr) (L c : Nat) (ms : List Mem) (xn xa : ByteArray) (w : World) (hL : L ≤ 1000000) (HL : Hid (ms.length = L)) (hM : MIn w a L ms) :
    Calls Try.prog 13 #[.slice a L c, .agg #[.string xn, .string xa]] w fun e w' => (∃ r : Int, e = .returned (.int .i64 r) ∧ Hid (decide (0 ≤ r) = hasM ms (xn, xa)) ∧ -1 ≤ r) ∧ Below w.heap.size w w' := by
  have hB0 : Below w.heap.size w (w.alloc (.cells #[.string xn, .string xa] 29)) := (Below.refl _ w).alloc (Nat.le_refl _) _
  have p0 : (w.alloc (.cells #[.string xn, .string xa] 29)).cell? ⟨w.heap.size, 0, none⟩ = some (.string xn) := by simp
  have p1 : (w.alloc (.cells #[.string xn, .string xa] 29)).cell? ⟨w.heap.size, 1, none⟩ = some (.string xa) := by simp
  go_enter Try.func13, Try.ntmps13
  go_wp2
  go_loopw [8] (fun i wr => ∃ k : Nat, k ≤ L ∧ i = .int .i64 k ∧ Below w.heap.size w wr ∧ wr.cell? ⟨w.heap.size, 0, none⟩ = some (.string xn) ∧ wr.cell? ⟨w.heap.size, 1, none⟩ = some (.string xa) ∧ Hid (Unmet ms (xn, xa) k)) (fun i _ => L - (intOf i).toNat)
  case atStart => exact ⟨0, Nat.zero_le _, rfl, hB0, p0, p1, fun j hj => absurd hj (Nat.not_lt_zero _)⟩
  case round =>
    obtain ⟨k, hk, rfl, hB, q0, q1, HU⟩ := hrel
    clear hB0 p0 p1
    by_cases hlt : k < L
    · obtain ⟨b, off, rfl, lb, g0, g1⟩ := m_cell hM rfl hB hlt
      have HK : Hid (k < ms.length) := by show _ < _; rw [HL.out]; exact hlt
      obtain ⟨Y, hY⟩ : ∃ Y, Y = ms.getD k noM := ⟨_, rfl⟩
      rw [← hY] at g0 g1
      have HY : Hid (Y = ms.getD k noM) := hY
      clear hY
      obtain ⟨yn, ya⟩ := Y
      have he := fun (w : World) => eqMem (xn, xa) (yn, ya) w
      have hg := fun (op : BinOp) (a b : Operand) (w : World) => guardMem op a b (xn, xa) (yn, ya) w
      have hkI : (k : Int) < (L : Int) := by omega
      simp only [] at he hg g0 g1
      cases hq : eqM (xn, xa) (yn, ya) with
      | true =>
        rw [hq] at he
        have HR : Hid (hasM ms (xn, xa) = true) := has_at HK.out (by rw [← HY.out]; exact hq)
        clear hq
        go_wp2_with fail
        go_quiet (fail)
        go_wp2
        go_ret
        exact ⟨⟨k, rfl, by rw [HR.out]; exact decide_eq_true (by omega), by omega⟩, below_drewN hB _⟩
      | false =>
        rw [hq] at he
        have HN : Hid (Unmet ms (xn, xa) (k + 1)) := unmet_succ HU.out (by rw [← HY.out]; exact hq)
        clear hq
        go_wp2_with fail
        go_quiet (fail)
        go_wp2
        go_roundw
        case rel => exact ⟨k + 1, by omega, by go_num, below_drewN hB _, q0, q1, HN⟩
        case measure => simp [intOf]; omega
    · have HR : Hid (hasM ms (xn, xa) = false) := by
        have : k = ms.length := by rw [HL.out]; omega
        have h := HU.out
        rw [this] at h
        exact unmet_all h
      have hkI : ¬ (k : Int) < (L : Int) := by omega
      go_wp2
      go_ret
      exact ⟨⟨-1, rfl, by rw [HR.out]; rfl, by omega⟩, hB⟩

/-! ### slices.Contains -/
theorem contains_any (a : Option Addr) (L c : Nat) (ms : List Mem) (xn xa : ByteArray) (w : World) (hL : L ≤ 1000000) (HL : Hid (ms.length = L)) (hM : MIn w a L ms) :
    Calls Try.prog 12 #[.slice a L c, .agg #[.string xn, .string xa]] w fun e w' => e = .returned (.bool (hasM ms (xn, xa))) ∧ Below w.heap.size w w' := by
  have hB0 : Below w.heap.size w (w.alloc (.cells #[.string xn, .string xa] 29)) := (Below.refl _ w).alloc (Nat.le_refl _) _
  go_enter Try.func12, Try.ntmps12
  go_wp2_with fail
  refine (index_any a L c ms xn xa _ hL HL (mIn_below hM rfl hB0)).mono ?_
  rintro e w' ⟨⟨r, rfl, HR, hr⟩, hB⟩
  obtain ⟨bb, hbb⟩ : ∃ bb, decide (0 ≤ r) = bb := ⟨_, rfl⟩
  have HBB : Hid (bb = hasM ms (xn, xa)) := by rw [← hbb]; exact HR
  go_wp2
  go_ret
  exact ⟨by rw [← HBB.out]; rfl, hB0.trans (hB.mono (by simp))⟩

end Go.Proofs.Qxb6629085a
