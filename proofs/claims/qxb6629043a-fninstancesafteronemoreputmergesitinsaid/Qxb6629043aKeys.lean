/-
  DERIVED. THE MAP's KEYS: ME{Class, Instance}: two uint16.
-/
import Derived.Test.Qxb6629043aProg
import Derived.KernelRfl
import Derived.Maps.RangeWalk
import Derived.Maps.Views
import Derived.Maps.OwnSet
import Derived.DeepKeys4
import Derived.OpenShut
namespace Go.Proofs.Qxb6629043a
open Go.Maps (Keyed)

theorem laidOut : laidOutB Try.prog = true := by kernel_rfl
theorem cells40 : Try.prog.cellsOf 40 = 2 := by kernel_rfl
theorem cells23 : Try.prog.cellsOf 23 = 1 := by kernel_rfl
theorem types86 : Try.prog.types.size = 86 := by kernel_rfl
theorem row40 : 40 < Try.prog.types.size := by rw [types86]; omega
theorem deep40 : Try.prog.keyType 40 = true := by kernel_rfl
theorem wide40 : (match Try.prog.underlying 40 with | some (.array _ _) | some (.struct _) => true | _ => false) = true := by rw [Try.underlying40]
theorem keyLaw : Keyed Try.prog 40 := Keyed.of_law (deep_law_laid laidOut (m := 3) (by omega) row40 (by kernel_rfl) wide40)

/-- A key's value. -/
abbrev mkME (p : Int × Int) : Value := .agg #[.int .u16 p.1, .int .u16 p.2]
/-- What it reads as. -/
def klit (c i : Int) : Lit := .string (keyBytes [.int .u16 c, .int .u16 i])
/-- Both numbers are uint16s. -/
def Wf (c i : Int) : Prop := (Lit.int .u16 c).wf = true ∧ (Lit.int .u16 i).wf = true

theorem formedME {a b : Value} : (Value.agg #[a, b]).formed Try.prog 40 = true := by simp [Value.formed, Try.underlying40, cells40]

theorem lits_int (d : Nat) (v : Value) (l : List Lit) : Try.prog.keyLits (d + 1) 23 [v] = some l ↔ ∃ n, v = .int .u16 n ∧ (Lit.int .u16 n).wf = true ∧ l = [.int .u16 n] := by
  cases v <;> simp [Program.keyLits, Try.underlying23]
  rename_i q n
  constructor
  · rintro ⟨⟨rfl, h⟩, rfl⟩; exact ⟨n, ⟨rfl, rfl⟩, h, rfl⟩
  · rintro ⟨m, ⟨rfl, rfl⟩, h, rfl⟩; exact ⟨⟨rfl, h⟩, rfl⟩

theorem lits_me (d : Nat) (cs : List Value) (l : List Lit) : Try.prog.keyLits (d + 2) 40 cs = some l ↔ ∃ c i, cs = [.int .u16 c, .int .u16 i] ∧ Wf c i ∧ l = [.int .u16 c, .int .u16 i] := by
  have h40 : Try.prog.keyLits (d + 2) 40 cs = if cs.length = 2 then (do
      let a ← Try.prog.keyLits (d + 1) 23 (cs.take 1)
      let b ← Try.prog.keyLits (d + 1) 23 ((cs.drop 1).take 1)
      pure (a ++ b)) else none := by
    conv => lhs; unfold Program.keyLits
    simp only [Try.underlying40, cells40]
    split
    · rename_i hc
      rw [if_pos hc.1]
      simp only [List.mapM_cons, List.mapM_nil, cells23, List.drop_zero]
      cases Try.prog.keyLits (d + 1) 23 (List.take 1 cs) with
      | none => rfl
      | some x =>
        cases Try.prog.keyLits (d + 1) 23 (List.take 1 (List.drop 1 cs)) with
        | none => rfl
        | some y => simp
    · rename_i hc
      rw [if_neg]
      intro h
      exact hc ⟨h, by simp⟩
  rw [h40]
  constructor
  · intro h
    split at h
    · rename_i hlen
      match cs, hlen with
      | [a, b], _ =>
        simp only [List.take_succ_cons, List.take_zero, List.drop_succ_cons, List.drop_zero] at h
        cases ha : Try.prog.keyLits (d + 1) 23 [a] with
        | none => rw [ha] at h; cases h
        | some x =>
          cases hb : Try.prog.keyLits (d + 1) 23 [b] with
          | none => rw [ha, hb] at h; cases h
          | some y =>
            rw [ha, hb] at h
            obtain ⟨c, rfl, hc, rfl⟩ := (lits_int _ _ _).1 ha
            obtain ⟨i, rfl, hi, rfl⟩ := (lits_int _ _ _).1 hb
            exact ⟨c, i, rfl, ⟨hc, hi⟩, (Option.some.inj h).symm⟩
    · cases h
  · rintro ⟨c, i, rfl, ⟨hc, hi⟩, rfl⟩
    have ha := (lits_int d (.int .u16 c) _).2 ⟨c, rfl, hc, rfl⟩
    have hb := (lits_int d (.int .u16 i) _).2 ⟨i, rfl, hi, rfl⟩
    simp [ha, hb]

theorem keyOf_unfold (v : Value) : keyOf Try.prog 40 v = if v.formed Try.prog 40 then (Try.prog.keyLits (85 + 2) 40 v.cells.toList).map fun ls => .string (keyBytes ls) else none := by
  rw [keyOf, Try.underlying40, deep40, types86]
  simp

theorem keyOf_me {c i : Int} (h : Wf c i) : keyOf Try.prog 40 (mkME (c, i)) = some (klit c i) := by
  rw [keyOf_unfold, formedME, if_pos rfl]
  have := (lits_me 85 [.int .u16 c, .int .u16 i] _).2 ⟨c, i, rfl, h, rfl⟩
  rw [show (mkME (c, i)).cells.toList = [.int .u16 c, .int .u16 i] from rfl, this]
  rfl

theorem keyOf_me_inv {v : Value} {l : Lit} (h : keyOf Try.prog 40 v = some l) : ∃ c i, v = mkME (c, i) ∧ Wf c i ∧ l = klit c i := by
  rw [keyOf_unfold] at h
  split at h
  · rename_i hf
    obtain ⟨ls, hls, rfl⟩ := Option.map_eq_some_iff.1 h
    obtain ⟨c, i, hcs, hw, rfl⟩ := (lits_me _ _ _).1 hls
    refine ⟨c, i, ?_, hw, rfl⟩
    cases v <;> simp [Value.formed, Try.underlying40] at hf
    rename_i cs
    simp only [Value.cells] at hcs
    show Value.agg cs = _
    rw [← Array.toArray_toList (xs := cs), hcs]
  · cases h

theorem klit_inj {c i c' i' : Int} (h : Wf c i) (h' : Wf c' i') (e : klit c i = klit c' i') : c = c' ∧ i = i' := by
  have := keyLaw.inj (keyOf_me h) (e ▸ keyOf_me h')
  simp [mkME] at this
  exact this

theorem klit_key {c i : Int} (h : Wf c i) : WideAt.IsKeyLit (klit c i) := keyLaw.key (keyOf_me h)

theorem same_klit {c i c' i' : Int} (h : Wf c i) (h' : Wf c' i') : (klit c i).sameKey (klit c' i') = decide (c = c' ∧ i = i') := by
  by_cases e : c = c' ∧ i = i'
  · obtain ⟨rfl, rfl⟩ := e
    rw [WideAt.sameKey_self (klit_key h)]; simp
  · rw [decide_eq_false e]
    cases hs : (klit c i).sameKey (klit c' i')
    · rfl
    · exact absurd (klit_inj h h' (WideAt.sameKey_eq hs)) e

end Go.Proofs.Qxb6629043a
