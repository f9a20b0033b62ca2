/- The walks of DoorObjectPath and GjObjectPath, and of gjWord. -/
import Derived.Test.YtdpjmhbjenalkaaGreatDoorOpath
import Derived.StillTactics
namespace Go.Proofs.YtdpjmhbjenalkaaGreatDoor
open Go.RowKit

def OPath.tup (r : OPath) : Value := .tuple r.cells

set_option maxHeartbeats 1000000 in
theorem doorObjectPath_any (s : ByteArray) (w : World) (hs : s.size ≤ 140737488351232) :
    Calls Tryz.prog 53 #[.string s] w fun e w' => e = .returned (opPlain [] false s.data.toList).tup ∧ Below w.heap.size w w' := by
  have HC := Lib.hid (fun W => parseObjectPath_any s W hs)
  generalize opPlain [] false s.data.toList = r at HC ⊢
  go_enter Tryz.func53, Tryz.ntmps53
  go_wp2_with (go_at_call 82; refine (HC.out _).mono ?_; rintro e w' ⟨rfl, hb⟩; unfold OPath.cells)
  go_quiet (fail)
  go_wp2_with fail
  refine bodyPost_ret (v := .tuple #[.string (mkS r.part), .string (mkS r.path), .string (mkS r.pipe), .bool r.piped, .bool r.wild, .bool r.more]) (by simp [results, Tryz.results53, go_sem]) rfl ⟨rfl, ?_⟩
  exact Below_drewN (hb.alloc hb.size _) _

set_option maxHeartbeats 1000000 in
theorem gjObjectPath_any (s : ByteArray) (w : World) (hs : s.size ≤ 140737488351232) :
    Calls Tryz.prog 27 #[.string s] w fun e w' => e = .returned (opPlain [] false s.data.toList).tup ∧ Below w.heap.size w w' := by
  have HC := Lib.hid (fun W => doorObjectPath_any s W hs)
  generalize opPlain [] false s.data.toList = r at HC ⊢
  go_enter Tryz.func27, Tryz.ntmps27
  go_wp2_with (go_at_call 53; refine (HC.out _).mono ?_; rintro e w' ⟨rfl, hb⟩; unfold OPath.tup OPath.cells)
  exact bodyPost_ret (v := .tuple #[.string (mkS r.part), .string (mkS r.path), .string (mkS r.pipe), .bool r.piped, .bool r.wild, .bool r.more]) (by simp [results, Tryz.results27, go_sem]) rfl ⟨rfl, hb⟩

def wordC (c : Nat) : Bool := (97 ≤ c && c ≤ 122) || (65 ≤ c && c ≤ 90) || (48 ≤ c && c ≤ 57) || c == 95
def wordL (l : Bs) : Bool := l.all fun b => wordC b.toNat
def wordB (l : Bs) : Bool := wordL l && !l.isEmpty
theorem wordL_at {s : ByteArray} {k : Nat} (hk : k < s.size) (h : wordL (s.data.toList.take k) = true) (hc : wordC (s[k]).toNat = true) : wordL (s.data.toList.take (k + 1)) = true := by
  rw [take_at s k hk, wordL, List.all_append]
  simp only [wordL] at h
  simp [h, hc]
theorem wordL_no {s : ByteArray} {k : Nat} (hk : k < s.size) (hc : wordC (s[k]).toNat = false) : wordL s.data.toList = false := by
  rw [wordL, List.all_eq_false]
  exact ⟨s[k], by rw [← List.take_append_drop k s.data.toList, drop_at s k hk]; simp, by simp [hc]⟩

set_option maxHeartbeats 1000000 in
theorem gjWord_any (s : ByteArray) (w : World) (hs : s.size ≤ 140737488351232) :
    Calls Tryz.prog 23 #[.string s] w fun e w' => e = .returned (.bool (wordB s.data.toList)) ∧ w = w' := by
  go_enter Tryz.func23, Tryz.ntmps23
  go_wp2
  go_loop [3, 4] (fun i _ => ∃ k : Nat, k ≤ s.size ∧ i = .int .i64 k ∧ Hid (wordL (s.data.toList.take k) = true)) (fun i _ => s.size - (intOf i).toNat)
  case atStart => exact ⟨0, Nat.zero_le _, rfl, rfl⟩
  case round =>
    obtain ⟨k, hk, rfl, hm⟩ := hrel
    by_cases hlt : k < s.size
    · cases hc : wordC (s[k]).toNat with
      | true =>
        have HM := Lib.hid (wordL_at hlt hm.out hc)
        have hx := hc
        simp only [wordC, Bool.or_eq_true, Bool.and_eq_true, decide_eq_true_eq, beq_iff_eq] at hx
        clear hc
        go_wp2
        all_goals first | exact ⟨⟨k + 1, by omega, by go_num, HM⟩, by simp [intOf]; omega⟩ | (exfalso; simp_all; omega)
      | false =>
        have HN := Lib.hid (wordL_no hlt hc)
        have hx := hc
        simp only [wordC, Bool.or_eq_false_iff, Bool.and_eq_false_iff, decide_eq_false_iff_not, beq_eq_false_iff_ne] at hx
        clear hc
        go_wp2
        all_goals try (go_ret; exact ⟨by rw [wordB, HN.out]; rfl, rfl⟩)
        all_goals
          exfalso
          (try simp only [Bool.not_eq_eq_eq_not, Bool.not_false, decide_eq_true_eq, beq_iff_eq] at *)
          omega
    · have HM := Lib.hid hm.out
      rw [List.take_of_length_le (by rw [size_list]; omega)] at HM
      go_wp2
      go_ret
      refine ⟨?_, rfl⟩
      rw [wordB, HM.out, Lib.toList_data]
      simp
end Go.Proofs.YtdpjmhbjenalkaaGreatDoor
