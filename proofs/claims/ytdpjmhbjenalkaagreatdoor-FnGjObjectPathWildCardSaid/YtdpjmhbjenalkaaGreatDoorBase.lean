/- Plain words on bytes and lists, and what the walks of this claim use of them. -/
import Derived.WalkKit
import Derived.WalkSpells
import Derived.WalkLawsBesides
import Derived.Lib.Hide
import Derived.Lib.Strings
import Derived.Deep.QuietTactic
import Derived.BigQuiet
namespace Go.Proofs.YtdpjmhbjenalkaaGreatDoor
open Go.RowKit

abbrev Bs := List UInt8
/-- The string of a list of bytes. -/
abbrev mkS (l : Bs) : ByteArray := ⟨l.toArray⟩
theorem mkS_data (l : Bs) : (mkS l).data.toList = l := by simp
theorem mkS_size (l : Bs) : (mkS l).size = l.length := by simp [ByteArray.size]
theorem mkS_of (s : ByteArray) : mkS s.data.toList = s := Lib.mk_data s
theorem size_list (s : ByteArray) : s.data.toList.length = s.size := (Lib.size_eq s).symm
theorem extract_mk (s : ByteArray) (a b : Nat) : s.extract a b = mkS ((s.data.toList.drop a).take (b - a)) := Lib.extract_eq s a b
theorem extract_end (s : ByteArray) (a : Nat) : s.extract a s.size = mkS (s.data.toList.drop a) := by
  rw [extract_mk, List.take_of_length_le]
  rw [List.length_drop, size_list]; omega
theorem extract_head (s : ByteArray) (b : Nat) : s.extract 0 b = mkS (s.data.toList.take b) := by
  rw [extract_mk, List.drop_zero, Nat.sub_zero]
/-- The byte at a place, and what is left from there on. -/
theorem drop_at (s : ByteArray) (k : Nat) (h : k < s.size) : s.data.toList.drop k = s[k] :: s.data.toList.drop (k + 1) := by
  rw [List.drop_eq_getElem_cons (by rw [size_list]; exact h)]; rfl
theorem take_at (s : ByteArray) (k : Nat) (h : k < s.size) : s.data.toList.take (k + 1) = s.data.toList.take k ++ [s[k]] := by
  rw [List.take_succ_eq_append_getElem (by rw [size_list]; exact h)]; rfl
theorem drop_end (s : ByteArray) (k : Nat) (h : s.size ≤ k) : s.data.toList.drop k = [] := List.drop_eq_nil_of_le (by rw [size_list]; exact h)
theorem byte_lt (b : UInt8) : (b.toNat : Int) ≤ 255 := by have := b.toNat_lt; omega
/-- A test for one byte, as the walk tells it. -/
theorem tst_eq {b : UInt8} {n : Nat} (h : b.toNat = n) : ((b.toNat : Int) == (n : Int)) = true := by rw [h]; simp
theorem tst_ne {b : UInt8} {n : Nat} (h : b.toNat ≠ n) : ((b.toNat : Int) == (n : Int)) = false := by
  rw [beq_eq_false_iff_ne]; omega
end Go.Proofs.YtdpjmhbjenalkaaGreatDoor
