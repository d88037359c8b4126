/-
  DERIVED. The two kinds of key: strings, and a pair of strings.
-/
import Derived.Test.Qxb6600940aMakers
import Derived.DeepKeys4
import Derived.Maps.Keyed
namespace Go.Proofs.Qxb6600940a
open Go.RowKit Go.Maps
theorem laidOut : laidOutB Try.prog = true := by kernel_rfl
theorem key9 : Keyed Try.prog 9 := string_keyed Try.underlying9
theorem keyStr (s : ByteArray) (h : s.size ≤ maxLen) : ∃ l, keyOf Try.prog 9 (.string s) = some l := by
  simp [keyOf, Try.underlying9, mapKey, h]
theorem key47 : Keyed Try.prog 47 := Keyed.of_law (deep_law_laid laidOut (m := 2) (by omega) (of_decide_eq_true (by kernel_rfl)) (by kernel_rfl) (by rw [Try.underlying47]))
theorem key66 : Keyed Try.prog 66 := Keyed.of_law (deep_law_laid laidOut (m := 2) (by omega) (of_decide_eq_true (by kernel_rfl)) (by kernel_rfl) (by rw [Try.underlying66]))
theorem kt47 : Try.prog.keyType 47 = true := by kernel_rfl
theorem kt66 : Try.prog.keyType 66 = true := by kernel_rfl
theorem cells9 : Try.prog.cellsOf 9 = 1 := by kernel_rfl
theorem cells47 : Try.prog.cellsOf 47 = 2 := by kernel_rfl
theorem cells66 : Try.prog.cellsOf 66 = 2 := by kernel_rfl
theorem lits9 (d : Nat) (a : ByteArray) (h : a.size ≤ maxLen) : Try.prog.keyLits (d + 1) 9 [.string a] = some [.string a.data.toList] := by
  unfold Program.keyLits; simp only [Try.underlying9]; rw [if_pos h]
theorem lits47 (d : Nat) (a b : ByteArray) (ha : a.size ≤ maxLen) (hb : b.size ≤ maxLen) : Try.prog.keyLits (d + 2) 47 [.string a, .string b] = some [.string a.data.toList, .string b.data.toList] := by
  unfold Program.keyLits
  simp only [Try.underlying47, cells47]
  simp [cells9, lits9 d a ha, lits9 d b hb]
theorem lits66 (d : Nat) (a b : ByteArray) (ha : a.size ≤ maxLen) (hb : b.size ≤ maxLen) : Try.prog.keyLits (d + 2) 66 [.string a, .string b] = some [.string a.data.toList, .string b.data.toList] := by
  unfold Program.keyLits
  simp only [Try.underlying66, cells66]
  simp [cells9, lits9 d a ha, lits9 d b hb]
theorem size96 : Try.prog.types.size + 1 = 95 + 2 := by kernel_rfl
theorem keySubj (a b : ByteArray) (ha : a.size ≤ maxLen) (hb : b.size ≤ maxLen) : ∃ l, keyOf Try.prog 47 (.agg #[.string a, .string b]) = some l := by
  unfold keyOf
  simp only [Try.underlying47]
  rw [if_pos (by simp [kt47, Value.formed, cells47, Try.underlying47]), size96]
  show ∃ l, Option.map _ (Try.prog.keyLits (95 + 2) 47 [.string a, .string b]) = some l
  rw [lits47 95 a b ha hb]
  exact ⟨_, rfl⟩
theorem keySubj6 (a b : ByteArray) (ha : a.size ≤ maxLen) (hb : b.size ≤ maxLen) : ∃ l, keyOf Try.prog 66 (.agg #[.string a, .string b]) = some l := by
  unfold keyOf
  simp only [Try.underlying66]
  rw [if_pos (by simp [kt66, Value.formed, cells66, Try.underlying66]), size96]
  show ∃ l, Option.map _ (Try.prog.keyLits (95 + 2) 66 [.string a, .string b]) = some l
  rw [lits66 95 a b ha hb]
  exact ⟨_, rfl⟩
end Go.Proofs.Qxb6600940a
