/- FnGjObjectPathWild: the plain law, and the walk. -/
import Derived.Test.YtdpjmhbjenalkaaGreatDoorOdoor
namespace Go.Proofs.YtdpjmhbjenalkaaGreatDoor
open Go.RowKit

def starC (c : Nat) : Bool := c == 42 || c == 63
def starL (l : Bs) : Bool := l.any fun b => starC b.toNat
def okL (l : Bs) : Bool := l.all fun b => wordC b.toNat || starC b.toNat
theorem word_ne {c : Nat} (h : wordC c = true) : c ≠ 124 ∧ c ≠ 46 ∧ c ≠ 42 ∧ c ≠ 63 ∧ c ≠ 92 ∧ c ≠ 64 ∧ c ≠ 91 ∧ c ≠ 123 := by
  simp only [wordC, Bool.or_eq_true, Bool.and_eq_true, decide_eq_true_eq, beq_iff_eq] at h
  omega
theorem opPlain_words (p r : Bs) (h : okL p = true) : ∀ (acc : Bs) (wd : Bool), opPlain acc wd (p ++ r) = opPlain (acc ++ p) (wd || starL p) r := by
  induction p with
  | nil => intro acc wd; simp [starL]
  | cons b p ih =>
    intro acc wd
    simp only [okL, List.all_cons, Bool.and_eq_true] at h
    have ih := ih (by simpa [okL] using h.2)
    rw [List.cons_append]
    by_cases hb : starC b.toNat = true
    · have hb' := hb
      simp only [starC, Bool.or_eq_true, beq_iff_eq] at hb'
      rw [opPlain_star hb', ih]
      simp [starL, hb]
    · have hw : wordC b.toNat = true := by simpa [hb] using h.1
      obtain ⟨h1, h2, h3, h4, h5, _⟩ := word_ne hw
      rw [opPlain_go h1 h2 h3 h4 h5, ih]
      simp only [Bool.not_eq_true] at hb
      simp [starL, hb]
theorem dotP_word (l : Bs) (h : wordB l = true) : dotP l = false := by
  cases l with
  | nil => rfl
  | cons c r =>
    simp only [wordB, wordL, List.all_cons, Bool.and_eq_true] at h
    obtain ⟨_, _, _, _, _, h6, h7, h8⟩ := word_ne h.1.1
    simp [dotP, h6, h7, h8]
theorem op_one (p : Bs) (h : okL p = true) : opPlain [] false p = { part := p, wild := starL p } := by
  have e := opPlain_words p [] h [] false
  rw [List.append_nil] at e
  rw [e]; simp [opPlain]
theorem op_two (p r : Bs) (h : okL p = true) (hr : wordB r = true) : opPlain [] false (p ++ 46 :: r) = { part := p, path := r, more := true, wild := starL p } := by
  rw [opPlain_words p _ h, opPlain_dot (by decide), opDot, if_neg (by rw [dotP_word r hr]; decide)]
  simp
theorem okL_at {s : ByteArray} {k : Nat} (hk : k < s.size) (h : okL (s.data.toList.take k) = true) (hc : (wordC (s[k]).toNat || starC (s[k]).toNat) = true) : okL (s.data.toList.take (k + 1)) = true := by
  rw [take_at s k hk, okL, List.all_append]
  simp only [okL] at h
  simp only [h, List.all_cons, List.all_nil, hc, Bool.and_self]
theorem starL_at {s : ByteArray} {k : Nat} (hk : k < s.size) : starL (s.data.toList.take (k + 1)) = (starL (s.data.toList.take k) || starC (s[k]).toNat) := by
  rw [take_at s k hk, starL, starL, List.any_append]
  simp

set_option maxHeartbeats 2000000 in
set_option maxRecDepth 100000 in
theorem law8 (s t : ByteArray) (w : World) (hs : s.size ≤ 140737488351232) (ht : t.size ≤ 140737488351232) :
    Calls Tryz.prog 8 #[.string s, .string t] w fun e w' => e = .returned (.bool true) ∧ Below w.heap.size w w' := by
  by_cases hs2 : 2147483647 < s.size
  · go_enter Tryz.func8, Tryz.ntmps8
    go_wp2_with fail
    go_ret
    exact ⟨rfl, Below.refl _ _⟩
  by_cases ht2 : 2147483647 < t.size
  · go_enter Tryz.func8, Tryz.ntmps8
    go_wp2_with fail
    go_ret
    exact ⟨rfl, Below.refl _ _⟩
  go_enter Tryz.func8, Tryz.ntmps8
  go_wp2_with fail
  go_loop [5, 6] (fun v i => ∃ (k : Nat) (wd : Bool), k ≤ s.size ∧ i = .int .i64 k ∧ v = .bool wd ∧ Hid (okL (s.data.toList.take k) = true) ∧ Hid (starL (s.data.toList.take k) = wd)) (fun _ i => s.size - (intOf i).toNat)
  case atStart => exact ⟨0, false, Nat.zero_le _, rfl, rfl, rfl, rfl⟩
  case round =>
    obtain ⟨k, wd, hk, rfl, rfl, h1, h2⟩ := hrel
    by_cases hlt : k < s.size
    · by_cases h42 : (s[k]).toNat = 42
      · have t1 : (((s[k]).toNat : Int) == 42) = true := tst_eq (n := 42) h42
        have H1 := Lib.hid (okL_at hlt h1.out (by rw [h42]; rfl))
        have H2 : Hid (starL (s.data.toList.take (k + 1)) = true) := by have e := starL_at (s := s) hlt; rw [h42] at e; exact e.trans (by simp [starC])
        clear h42
        go_wp2_with fail
        go_round
        case rel => exact ⟨k + 1, true, by omega, by go_num, rfl, H1, H2⟩
        case measure => simp [intOf]; omega
      by_cases h63 : (s[k]).toNat = 63
      · have t1 : (((s[k]).toNat : Int) == 42) = false := tst_ne (n := 42) h42
        have t2 : (((s[k]).toNat : Int) == 63) = true := tst_eq (n := 63) h63
        have H1 := Lib.hid (okL_at hlt h1.out (by rw [h63]; rfl))
        have H2 : Hid (starL (s.data.toList.take (k + 1)) = true) := by have e := starL_at (s := s) hlt; rw [h63] at e; exact e.trans (by simp [starC])
        clear h42 h63
        go_wp2_with fail
        go_round
        case rel => exact ⟨k + 1, true, by omega, by go_num, rfl, H1, H2⟩
        case measure => simp [intOf]; omega
      have t1 : (((s[k]).toNat : Int) == 42) = false := tst_ne (n := 42) h42
      have t2 : (((s[k]).toNat : Int) == 63) = false := tst_ne (n := 63) h63
      have hc := gjWord_any (s.extract k (k + 1)) w (by rw [extract_mk, mkS_size, List.length_take]; omega)
      have e1 : wordB (s.extract k (k + 1)).data.toList = wordC (s[k]).toNat := by
        rw [extract_mk, mkS_data, drop_at s k hlt, show k + 1 - k = 1 from by omega]
        simp [wordB, wordL]
      rw [e1] at hc
      cases hw : wordC (s[k]).toNat with
      | true =>
        rw [hw] at hc
        have HC := Lib.hid hc
        have H1 := Lib.hid (okL_at hlt h1.out (by rw [hw]; rfl))
        have H2 : Hid (starL (s.data.toList.take (k + 1)) = wd) := by
          have e := starL_at (s := s) hlt
          rw [h2.out] at e
          refine e.trans ?_
          simp [starC, h42, h63]
        clear hc hw e1 h42 h63
        go_wp2_with (go_at_call 23; refine HC.out.mono ?_; rintro e w' ⟨rfl, rfl⟩)
        go_round
        case rel => exact ⟨k + 1, wd, by omega, by go_num, rfl, H1, H2⟩
        case measure => simp [intOf]; omega
      | false =>
        rw [hw] at hc
        have HC := Lib.hid hc
        clear hc hw e1 h42 h63
        go_wp2_with (go_at_call 23; refine HC.out.mono ?_; rintro e w' ⟨rfl, rfl⟩)
        go_ret
        exact ⟨rfl, Below.refl _ _⟩
    · obtain rfl : k = s.size := by omega
      have H1 := h1
      have H2 := h2
      rw [List.take_of_length_le (by rw [size_list]; omega)] at H1 H2
      clear h1 h2
      have hc := gjWord_any t w ht
      have h27 := gjObjectPath_any s w hs
      rw [op_one _ H1.out, H2.out] at h27
      have H27 := Lib.hid h27; clear h27
      cases hw : wordB t.data.toList with
      | false =>
        rw [hw] at hc
        have HC := Lib.hid hc
        clear hc hw
        go_wp2_with (go_at_call 23; refine HC.out.mono ?_; rintro e w' ⟨rfl, rfl⟩)
        all_goals
          go_ret
          exact ⟨rfl, Below.refl _ _⟩
      | true =>
        rw [hw] at hc
        have HC := Lib.hid hc
        have HW := Lib.hid hw
        clear hc hw
        go_wp2_with (go_at_call 23; refine HC.out.mono ?_; rintro e w' ⟨rfl, rfl⟩)
        all_goals try (go_ret; exact ⟨rfl, Below.refl _ _⟩)
        refine H27.out.mono ?_
        rintro e w1 ⟨rfl, hb1⟩
        unfold OPath.tup OPath.cells
        simp only [mkS_of]
        have e2 : (s ++ { data := #[46] } ++ t : ByteArray).data.toList = s.data.toList ++ 46 :: t.data.toList := by simp
        have z2 : (s ++ { data := #[46] } ++ t : ByteArray).size ≤ 140737488351232 := by
          rw [← size_list, e2]
          simp only [List.length_append, List.length_cons, size_list]
          omega
        have h28 := gjObjectPath_any (s ++ { data := #[46] } ++ t) w1 z2
        rw [e2, op_two _ _ H1.out HW.out, H2.out] at h28
        have H28 := Lib.hid h28; clear h28 e2 z2
        go_wp2_with fail
        refine H28.out.mono ?_
        rintro e w2 ⟨rfl, hb2⟩
        unfold OPath.tup OPath.cells
        simp only [mkS_of]
        go_wp2_with fail
        all_goals
          go_ret
          refine ⟨rfl, hb1.trans (hb2.mono hb1.size)⟩
end Go.Proofs.YtdpjmhbjenalkaaGreatDoor
