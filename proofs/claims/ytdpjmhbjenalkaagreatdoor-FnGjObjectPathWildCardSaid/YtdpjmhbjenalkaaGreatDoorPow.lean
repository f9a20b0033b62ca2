/- Walks of getModifier and isDotPiperChar. -/
import Derived.Test.YtdpjmhbjenalkaaGreatDoorProg
import Derived.Test.YtdpjmhbjenalkaaGreatDoorBase
namespace Go.Proofs.YtdpjmhbjenalkaaGreatDoor
open Go.RowKit

/-- The number of the function of a modifier, by its name. -/
def modFn (l : Bs) : Option Nat :=
  if l = [112, 114, 101, 116, 116, 121] then some 131 else if l = [117, 103, 108, 121] then some 132 else if l = [114, 101, 118, 101, 114, 115, 101] then some 133 else
  if l = [116, 104, 105, 115] then some 134 else if l = [102, 108, 97, 116, 116, 101, 110] then some 135 else if l = [106, 111, 105, 110] then some 136 else
  if l = [118, 97, 108, 105, 100] then some 137 else if l = [107, 101, 121, 115] then some 138 else if l = [118, 97, 108, 117, 101, 115] then some 139 else
  if l = [116, 111, 115, 116, 114] then some 140 else if l = [102, 114, 111, 109, 115, 116, 114] then some 141 else if l = [103, 114, 111, 117, 112] then some 142 else
  if l = [100, 105, 103] then some 143 else none
def modV (o : Option Nat) : Value := match o with | some f => .func (.func f) #[] #[] | none => .nilFunc

set_option maxHeartbeats 1000000 in
theorem getModifier_any (s : ByteArray) (w : World) :
    Calls Tryz.prog 89 #[.string s] w fun e w' => e = .returned (modV (modFn s.data.toList)) ∧ w = w' := by
  go_enter Tryz.func89, Tryz.ntmps89
  go_wp2
  all_goals
    go_ret
    refine ⟨?_, rfl⟩
    simp only [Lib.toList_data, beq_iff_eq, beq_eq_false_iff_ne] at *
    simp [modFn, modV, *]

/-- Up to the first of '.', '|', ':'. -/
def modName : Bs → Bs
  | [] => []
  | c :: r => if c.toNat = 46 ∨ c.toNat = 124 ∨ c.toNat = 58 then [] else c :: modName r
/-- isDotPiperChar. -/
def dotP : Bs → Bool
  | [] => false
  | c :: r => if c.toNat = 64 then (modFn (modName r)).isSome else c.toNat == 91 || c.toNat == 123

theorem modName_stop (c : UInt8) (r : Bs) (h : c.toNat = 46 ∨ c.toNat = 124 ∨ c.toNat = 58) : modName (c :: r) = [] := by simp [modName, h]
theorem modName_go (c : UInt8) (r : Bs) (h : ¬ (c.toNat = 46 ∨ c.toNat = 124 ∨ c.toNat = 58)) : modName (c :: r) = c :: modName r := by simp only [modName]; rw [if_neg h]
/-- The rest of the walk, behind the search for the name's end. -/
theorem name_at (s : ByteArray) (k : Nat) (hm : modName (s.data.toList.drop 1) = (s.data.toList.drop 1).take (k - 1) ++ modName (s.data.toList.drop k)) (he : modName (s.data.toList.drop k) = []) :
    (s.extract 1 k).data.toList = modName (s.data.toList.drop 1) := by
  rw [hm, he, List.append_nil, extract_mk, mkS_data]

theorem neqNil0 (w : World) : (binOp .neq 65 .nilFunc .nilFunc).run Tryz.prog w = .ok (.bool false) w := by kernel_rfl
theorem neqNil1 (f : Nat) (w : World) : (binOp .neq 65 (.func (.func f) #[] #[]) .nilFunc).run Tryz.prog w = .ok (.bool true) w := by kernel_rfl
attribute [local go_sem] neqNil0 neqNil1

set_option maxHeartbeats 1000000 in
set_option maxRecDepth 100000 in
theorem isDotPiperChar_any (s : ByteArray) (w : World) (h0 : 0 < s.size) (hs : s.size ≤ 140737488351232) :
    Calls Tryz.prog 123 #[.string s] w fun e w' => e = .returned (.bool (dotP s.data.toList)) ∧ w = w' := by
  have hd := drop_at s 0 h0
  rw [List.drop_zero] at hd
  by_cases hc : (s[0]).toNat = 64
  · have hc1 : (((s[0]).toNat : Int) == 64) = true := tst_eq (n := 64) hc
    have hfin : dotP s.data.toList = (modFn (modName (s.data.toList.drop 1))).isSome := by
      rw [hd]; simp [dotP, hc]
    have HF := Lib.hid hfin; clear hfin
    clear hd hc
    go_enter Tryz.func123, Tryz.ntmps123
    go_wp2_with fail
    go_loop [4] (fun i => ∃ k : Nat, 1 ≤ k ∧ k ≤ s.size ∧ i = .int .i64 k ∧ Hid (modName (s.data.toList.drop 1) = (s.data.toList.drop 1).take (k - 1) ++ modName (s.data.toList.drop k))) (fun i => s.size - (intOf i).toNat)
    case atStart => exact ⟨1, Nat.le_refl _, h0, rfl, by simp [Hid]⟩
    case round =>
      obtain ⟨k, hk1, hk, rfl, hm⟩ := hrel
      by_cases hlt : k < s.size
      · by_cases hx : (s[k]).toNat = 46 ∨ (s[k]).toNat = 124 ∨ (s[k]).toNat = 58
        · have hn : (s.extract 1 k).data.toList = modName (s.data.toList.drop 1) := name_at s k hm.out (by rw [drop_at s k hlt]; exact modName_stop _ _ hx)
          have HN := Lib.hid hn; clear hn
          cases ho : modFn (modName (s.data.toList.drop 1)) with
          | none =>
            have HO := Lib.hid ho; clear ho
            have hcall := getModifier_any (s.extract 1 k) w
            rw [HN.out, HO.out] at hcall
            have HC := Lib.hid hcall; clear hcall
            rcases hx with hx | hx | hx
            all_goals
              have HX := Lib.hid hx; clear hx
              try have hx1 : (((s[k]).toNat : Int) == 46) = true := tst_eq (n := 46) HX.out
              try have hx1 : (((s[k]).toNat : Int) == 124) = true := tst_eq (n := 124) HX.out
              try have hx1 : (((s[k]).toNat : Int) == 58) = true := tst_eq (n := 58) HX.out
              go_wp2_with fail
              all_goals
                refine HC.out.mono ?_
                rintro e w' ⟨rfl, rfl⟩
                simp only [modV]
                go_wp2_with fail
                go_ret
                rw [HF.out, HO.out]
                exact ⟨rfl, rfl⟩
          | some f =>
            have HO := Lib.hid ho; clear ho
            have hcall := getModifier_any (s.extract 1 k) w
            rw [HN.out, HO.out] at hcall
            have HC := Lib.hid hcall; clear hcall
            rcases hx with hx | hx | hx
            all_goals
              have HX := Lib.hid hx; clear hx
              try have hx1 : (((s[k]).toNat : Int) == 46) = true := tst_eq (n := 46) HX.out
              try have hx1 : (((s[k]).toNat : Int) == 124) = true := tst_eq (n := 124) HX.out
              try have hx1 : (((s[k]).toNat : Int) == 58) = true := tst_eq (n := 58) HX.out
              go_wp2_with fail
              all_goals
                refine HC.out.mono ?_
                rintro e w' ⟨rfl, rfl⟩
                simp only [modV]
                go_wp2_with fail
                go_ret
                rw [HF.out, HO.out]
                exact ⟨rfl, rfl⟩
        · have n1 : (((s[k]).toNat : Int) == 46) = false := tst_ne (n := 46) (fun h => hx (.inl h))
          have n2 : (((s[k]).toNat : Int) == 124) = false := tst_ne (n := 124) (fun h => hx (.inr (.inl h)))
          have n3 : (((s[k]).toNat : Int) == 58) = false := tst_ne (n := 58) (fun h => hx (.inr (.inr h)))
          have HM : Hid (modName (s.data.toList.drop 1) = (s.data.toList.drop 1).take (k + 1 - 1) ++ modName (s.data.toList.drop (k + 1))) := by
            have e := hm.out
            rw [drop_at s k hlt, modName_go _ _ hx] at e
            refine e.trans ?_
            have e2 := take_at s k hlt
            have e3 : (s.data.toList.drop 1).take (k + 1 - 1) = (s.data.toList.drop 1).take (k - 1) ++ [s[k]] := by
              have hk2 : k + 1 - 1 = (k - 1) + 1 := by omega
              rw [hk2, List.take_succ_eq_append_getElem (by rw [List.length_drop, size_list]; omega)]
              congr 2
              simp only [List.getElem_drop]
              have : 1 + (k - 1) = k := by omega
              simp only [this]
              rfl
            rw [e3, List.append_assoc]; rfl
          clear hx
          go_wp2_with fail
          go_round
          case rel => exact ⟨k + 1, by omega, by omega, by go_num, HM⟩
          case measure => simp [intOf]; omega
      · have hn : (s.extract 1 k).data.toList = modName (s.data.toList.drop 1) := name_at s k hm.out (by rw [drop_end s k (by omega)]; rfl)
        have HN := Lib.hid hn; clear hn
        cases ho : modFn (modName (s.data.toList.drop 1)) with
        | none =>
          have HO := Lib.hid ho; clear ho
          have hcall := getModifier_any (s.extract 1 k) w
          rw [HN.out, HO.out] at hcall
          have HC := Lib.hid hcall; clear hcall
          go_wp2_with fail
          refine HC.out.mono ?_
          rintro e w' ⟨rfl, rfl⟩
          simp only [modV]
          go_wp2_with fail
          go_ret
          rw [HF.out, HO.out]
          exact ⟨rfl, rfl⟩
        | some f =>
          have HO := Lib.hid ho; clear ho
          have hcall := getModifier_any (s.extract 1 k) w
          rw [HN.out, HO.out] at hcall
          have HC := Lib.hid hcall; clear hcall
          go_wp2_with fail
          refine HC.out.mono ?_
          rintro e w' ⟨rfl, rfl⟩
          simp only [modV]
          go_wp2_with fail
          go_ret
          rw [HF.out, HO.out]
          exact ⟨rfl, rfl⟩
  · have hc1 : (((s[0]).toNat : Int) == 64) = false := tst_ne (n := 64) hc
    have hfin : dotP s.data.toList = ((s[0]).toNat == 91 || (s[0]).toNat == 123) := by
      rw [hd]; simp [dotP, hc]
    have HF := Lib.hid hfin; clear hfin
    clear hd hc
    go_enter Tryz.func123, Tryz.ntmps123
    go_wp2_with fail
    all_goals
      go_ret
      rw [HF.out]
      refine ⟨?_, rfl⟩
      refine congrArg (fun b => Ending.returned (.bool b)) ?_
      rw [Bool.eq_iff_iff]
      simp
      omega
theorem isDotPiperChar_at (s : ByteArray) (k : Nat) (hk : k < s.size) (hs : s.size ≤ 140737488351232) (W : World) :
    Calls Tryz.prog 123 #[.string (s.extract k s.size)] W fun e w' => e = .returned (.bool (dotP (s.data.toList.drop k))) ∧ W = w' := by
  have h := isDotPiperChar_any (s.extract k s.size) W (by rw [extract_end, mkS_size, List.length_drop, size_list]; omega) (by rw [extract_end, mkS_size, List.length_drop, size_list]; omega)
  rwa [show (s.extract k s.size).data.toList = s.data.toList.drop k from by rw [extract_end, mkS_data]] at h
end Go.Proofs.YtdpjmhbjenalkaaGreatDoor
