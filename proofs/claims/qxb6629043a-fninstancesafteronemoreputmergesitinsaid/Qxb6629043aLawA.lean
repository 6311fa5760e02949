/-
  DERIVED. THE WALK OF FnInstancesAreSortedDistinctIdsOfClass.
-/
import Derived.Test.Qxb6629043aInst
import Derived.Deep.OwnRows
import Derived.Deep.RegionHeld3
namespace Go.Proofs.Qxb6629043a
open Go.RowKit Go.Sort

/-! ### The plain part -/
/-- The pairs of the first k places. -/
def Sof (zc zi : List Int) : Nat → Int → Int → Bool
  | 0 => fun _ _ => false
  | k + 1 => addS (Sof zc zi k) (zc.getD k 0) (zi.getD k 0)

theorem Sof_succ (zc zi : List Int) (k : Nat) (c i : Int) : Sof zc zi (k + 1) c i = (Sof zc zi k c i || decide (c = zc.getD k 0 ∧ i = zi.getD k 0)) := rfl

/-- jj of the ids are below m, the rest are not. -/
def Cut (ts : List Int) (m jj : Nat) : Prop := jj ≤ ts.length ∧ (∀ i, i < jj → ts.getD i 0 < m) ∧ ∀ i, jj ≤ i → i < ts.length → (m : Int) ≤ ts.getD i 0

theorem wf_u16 {x : Int} : (Lit.int .u16 x).wf = true ↔ 0 ≤ x ∧ x ≤ 65535 := by
  simp [Lit.wf, IntKind.min, IntKind.max, IntKind.signed, IntKind.bits]

theorem getD_mem {ts : List Int} {i : Nat} (h : i < ts.length) : ts.getD i 0 ∈ ts := by
  rw [List.getD_eq_getElem?_getD, List.getElem?_eq_getElem h]
  exact List.getElem_mem _
theorem mem_getD {ts : List Int} {x : Int} (h : x ∈ ts) : ∃ i, i < ts.length ∧ ts.getD i 0 = x := by
  obtain ⟨i, hi, rfl⟩ := List.getElem_of_mem h
  exact ⟨i, hi, by rw [List.getD_eq_getElem?_getD, List.getElem?_eq_getElem hi]; rfl⟩
theorem rising {ts : List Int} (h : ts.Pairwise (· < ·)) {i j : Nat} (hij : i < j) (hj : j < ts.length) : ts.getD i 0 < ts.getD j 0 := by
  rw [List.getD_eq_getElem?_getD, List.getD_eq_getElem?_getD, List.getElem?_eq_getElem hj, List.getElem?_eq_getElem (by omega)]
  exact List.pairwise_iff_getElem.1 h i j (by omega) hj hij

theorem Cut.start {S : Int → Int → Bool} {c : Int} {ts : List Int} (h : Ids S c ts) : Cut ts 0 0 :=
  ⟨Nat.zero_le _, fun _ hi => absurd hi (Nat.not_lt_zero _), fun _ _ hi => (wf_u16.1 ((h.2 _).1 (getD_mem hi)).1).1⟩

theorem Cut.here {S : Int → Int → Bool} {c : Int} {ts : List Int} {m jj : Nat} (h : Ids S c ts) (hC : Cut ts m jj) (hm : m < 65536) (hS : S c m = true) : jj < ts.length ∧ ts.getD jj 0 = m := by
  obtain ⟨i, hi, e⟩ := mem_getD ((h.2 (m : Int)).2 ⟨wf_u16.2 (by omega), hS⟩)
  have hji : jj ≤ i := by
    rcases Nat.lt_or_ge i jj with hlt | hge
    · have := hC.2.1 i hlt
      omega
    · exact hge
  refine ⟨by omega, ?_⟩
  have h1 := hC.2.2 jj (Nat.le_refl _) (by omega)
  rcases Nat.lt_or_ge jj i with hlt | hge
  · have := rising h.1 hlt hi
    omega
  · have : jj = i := by omega
    rw [this, e]

theorem Cut.hit {S : Int → Int → Bool} {c : Int} {ts : List Int} {m jj : Nat} (h : Ids S c ts) (hC : Cut ts m jj) (hm : m < 65536) (hS : S c m = true) : Cut ts (m + 1) (jj + 1) := by
  obtain ⟨h1, h2⟩ := hC.here h hm hS
  refine ⟨by omega, fun i hi => ?_, fun i hi hl => ?_⟩
  · rcases Nat.lt_or_ge i jj with hlt | hge
    · have := hC.2.1 i hlt
      omega
    · have : i = jj := by omega
      rw [this, h2]; omega
  · have := rising h.1 (show jj < i by omega) hl
    omega

theorem Cut.miss {S : Int → Int → Bool} {c : Int} {ts : List Int} {m jj : Nat} (h : Ids S c ts) (hC : Cut ts m jj) (hS : S c m = false) : Cut ts (m + 1) jj := by
  refine ⟨hC.1, fun i hi => ?_, fun i hi hl => ?_⟩
  · have := hC.2.1 i hi
    omega
  · have h1 := hC.2.2 i hi hl
    have h2 := ((h.2 _).1 (getD_mem hl)).2
    have : ts.getD i 0 ≠ m := fun e => by rw [e, hS] at h2; cases h2
    omega

/-- 65536, kept from the walk. -/
def lim : Nat := 65536
theorem lim_eq : lim = 65536 := rfl

theorem Cut.done {S : Int → Int → Bool} {c : Int} {ts : List Int} {m jj : Nat} (h : Ids S c ts) (hC : Cut ts m jj) (hm : 65536 ≤ m) : jj = ts.length := by
  rcases Nat.lt_or_ge jj ts.length with hlt | hge
  · have h1 := hC.2.2 jj (Nat.le_refl _) hlt
    have h2 := wf_u16.1 ((h.2 _).1 (getD_mem hlt)).1
    omega
  · have := hC.1
    omega

/-! ### The presence table -/
theorem row_hit {w : World} {b m J : Nat} {zc zi : List Int} {c : Int} (hR : w.rowIs b 4 65536 (fun j => .bool (Sof zc zi m c (j : Int)))) (hC : c = zc.getD m 0) (hJ : (J : Int) = zi.getD m 0) :
    (w.setCell ⟨b, J, none⟩ (.bool true)).rowIs b 4 65536 (fun j => .bool (Sof zc zi (m + 1) c (j : Int))) := by
  refine (hR.set J (.bool true)).congr fun i _ => ?_
  rw [Sof_succ]
  by_cases e : i = J
  · rw [if_pos e, decide_eq_true ⟨hC, by rw [e, hJ]⟩]; simp
  · rw [if_neg e, decide_eq_false (by rintro ⟨_, h⟩; rw [← hJ] at h; exact e (by omega))]; simp
theorem row_miss {w : World} {b m : Nat} {zc zi : List Int} {c : Int} (hR : w.rowIs b 4 65536 (fun j => .bool (Sof zc zi m c (j : Int)))) (hC : ¬ zc.getD m 0 = c) :
    w.rowIs b 4 65536 (fun j => .bool (Sof zc zi (m + 1) c (j : Int))) := by
  refine hR.congr fun i _ => ?_
  rw [Sof_succ, decide_eq_false (by rintro ⟨h, _⟩; exact hC h.symm)]; simp

/-! ### Words for the slices -/
/-- A slice that came in: where it has an element, its cells. -/
def InRow (w : World) (a : Option Addr) (n : Nat) (zs : List Int) : Prop :=
  (0 < n → ∃ b off, a = some ⟨b, off, none⟩ ∧ ∀ i, i < n → w.cell? ⟨b, off + i, none⟩ = some (.int .u16 (zs.getD i 0))) ∧ ∀ i, i < n → (Lit.int .u16 (zs.getD i 0)).wf = true

theorem instances_at (mb bm n : Nat) (S : Int → Int → Bool) (c : Int) (w : World) (h : MibAt w mb bm n S) (hc : (Lit.int .u16 c).wf = true) (hn : n < 1000000) :
    Calls Try.prog 8 #[.pointer (some ⟨mb, 0, none⟩), .int .u16 c] w fun e w' => ∃ a cap L ts, e = .returned (.slice a L cap) ∧ Hid (ts.length = L) ∧ Ids S c ts ∧ L ≤ n ∧ InRow w' a L ts ∧ Below w.heap.size w w' := by
  refine (instances_any mb bm n S c w h hc hn).mono ?_
  rintro e w' ⟨v, ts, rfl, hI, hl, hS, hB⟩
  have hwf : ∀ i, i < ts.length → (Lit.int .u16 (ts.getD i 0)).wf = true := fun i hi => ((hI.2 _).1 (getD_mem hi)).1
  rcases hS with ⟨rfl, rfl⟩ | ⟨g, cap, rfl, hb, hg, hcell⟩
  · exact ⟨none, 0, 0, [], rfl, rfl, hI, hl, ⟨fun h => absurd h (Nat.lt_irrefl _), hwf⟩, hB⟩
  · exact ⟨_, cap, ts.length, ts, rfl, rfl, hI, hl, ⟨fun _ => ⟨g, 0, rfl, fun i hi => by rw [Nat.zero_add]; exact hcell i hi⟩, hwf⟩, hB⟩

theorem below_in {w w' : World} {a : Option Addr} {n : Nat} {zs : List Int} (h : InRow w a n zs) (hB : Below w.heap.size w w') : InRow w' a n zs := by
  refine ⟨fun h0 => ?_, h.2⟩
  obtain ⟨b, off, rfl, hc⟩ := h.1 h0
  refine ⟨b, off, rfl, fun i hi => ?_⟩
  rw [hB.cell (p := ⟨b, off + i, none⟩) (World.block_lt_of_cell? w _ (hc i hi))]
  exact hc i hi

theorem in_cell {w w' : World} {a : Option Addr} {n : Nat} {zs : List Int} (h : InRow w a n zs) {B : Nat} (hw : B = w.heap.size) (hB : Below B w w') {k : Nat} (hk : k < n) :
    ∃ b off, a = some ⟨b, off, none⟩ ∧ b < B ∧ w'.cell? ⟨b, off + k, none⟩ = some (.int .u16 (zs.getD k 0)) := by
  subst hw
  obtain ⟨b, off, rfl, hc⟩ := h.1 (by omega)
  have hl := World.block_lt_of_cell? w _ (hc k hk)
  exact ⟨b, off, rfl, hl, by rw [hB.cell (p := ⟨b, off + k, none⟩) hl]; exact hc k hk⟩

/-- 'make([]T, n)': a row of n zero values; nothing else turns. -/
theorem make_row_is {P : Program} (w : World) {ops : Array Oper} {rest : List Oper} {o : Oper} {a : Act} {Q : Exit → Act → World → Prop}
    (hg : o.guard = none) (l c : Operand) (t : TypeId) (hop : o.op = Op.makeSlice t l c)
    (e : TypeId) (i : TypeInfo) (z : Value) (ht : P.underlying t = some (.slice e)) (hi : P.info? e = some i) (hz : i.zero = some z) (hsize : i.size = 1) (hz1 : z.cells = #[z])
    (kl kc : IntKind) (n : Nat) (hl : a.eval l = .int kl (n : Int)) (hc : a.eval c = .int kc (n : Int)) (hbytes : i.bytes * n ≤ 281474976710656) (h63 : n ≤ 9223372036854775807)
    (hK : ∀ w', w'.rowIs w.heap.size e n (fun _ => z) → Below w.heap.size w w' → wpList P ops Q rest (a.put o.dst (.slice (some ⟨w.heap.size, 0, none⟩) n n)) w') :
    wpList P ops Q (o :: rest) a w :=
  wpList_make_row w hg l c t hop e i z ht hi hz hsize hz1 kl kc n hl hc hbytes h63 (hK _ (World.rowIs_made w z n e) ((Below.refl _ w).alloc (Nat.le_refl _) _))

theorem wrap16 (m : Nat) (h : (m : Int) < 65536) : IntKind.u16.wrap (m : Int) = (m : Int) := by
  simp only [IntKind.wrap_u16]
  omega
theorem conv16 (m : Nat) (h : (m : Int) < 65536) (W : World) : Sem.run Try.prog (convert 3 23 (.int .i64 (m : Int))) W = .ok (.int .u16 (m : Int)) W := by
  rw [run_convert_int W 3 23 .i64 (m : Int) (by rw [Try.underlying3]; rfl) Try.underlying23, show Try.prog.intKind 23 = .u16 from by simp [Program.intKind, Try.underlying23], wrap16 m h]
/-- 'uint16(v)' of an int below 65536. -/
theorem wpList_conv16 {w : World} {ops : Array Oper} {rest : List Oper} {o : Oper} {a : Act} {Q : Exit → Act → World → Prop}
    (hg : o.guard = none) (x : Operand) (hop : o.op = Op.convert 3 23 x) (m : Nat) (h : (m : Int) < 65536) (hx : a.eval x = .int .i64 (m : Int))
    (hK : wpList Try.prog ops Q rest (a.put o.dst (.int .u16 (m : Int))) w) : wpList Try.prog ops Q (o :: rest) a w := by
  refine wpList_plain hg fun K' hK' => ?_
  unfold Oper.wp
  simp [execOp, hop, hx, conv16 m h w, Result.andThen]
  exact hK' _ _ hK

end Go.Proofs.Qxb6629043a
