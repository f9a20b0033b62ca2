/- The walk of parseObjectPath. -/
import Derived.Test.YtdpjmhbjenalkaaGreatDoorPow
import Derived.Test.YtdpjmhbjenalkaaGreatDoorRow
namespace Go.Proofs.YtdpjmhbjenalkaaGreatDoor
open Go.RowKit

/-- objectPathResult. -/
structure OPath where
  part : Bs := []
  path : Bs := []
  pipe : Bs := []
  piped : Bool := false
  wild : Bool := false
  more : Bool := false
def OPath.cells (r : OPath) : Array Value := #[.string (mkS r.part), .string (mkS r.path), .string (mkS r.pipe), .bool r.piped, .bool r.wild, .bool r.more]
/-- What stands behind a dot: more of the path, or a pipe. -/
def opDot (acc : Bs) (wild : Bool) (r : Bs) : OPath := if dotP r then { part := acc, pipe := r, piped := true, wild } else { part := acc, path := r, more := true, wild }
def opEsc (acc : Bs) (wild : Bool) : Bs → OPath
  | [] => { part := acc, wild }
  | c :: r =>
    if c.toNat = 92 then (match r with | [] => { part := acc, wild } | d :: r' => opEsc (acc ++ [d]) wild r')
    else if c.toNat = 46 then opDot acc wild r
    else if c.toNat = 124 then { part := acc, pipe := r, piped := true, wild }
    else if c.toNat = 42 then opEsc (acc ++ [c]) true r
    else if c.toNat = 63 then opEsc (acc ++ [c]) true r
    else opEsc (acc ++ [c]) wild r
def opPlain (acc : Bs) (wild : Bool) : Bs → OPath
  | [] => { part := acc, wild }
  | c :: r =>
    if c.toNat = 124 then { part := acc, pipe := r, piped := true, wild }
    else if c.toNat = 46 then opDot acc wild r
    else if c.toNat = 42 then opPlain (acc ++ [c]) true r
    else if c.toNat = 63 then opPlain (acc ++ [c]) true r
    else if c.toNat = 92 then (match r with | [] => { part := acc, wild } | d :: r' => opEsc (acc ++ [d]) wild r')
    else opPlain (acc ++ [c]) wild r

section
variable {acc r : Bs} {wild : Bool} {c : UInt8}
theorem opPlain_pipe (h : c.toNat = 124) : opPlain acc wild (c :: r) = { part := acc, pipe := r, piped := true, wild } := by unfold opPlain; simp [h]
theorem opPlain_dot (h : c.toNat = 46) : opPlain acc wild (c :: r) = opDot acc wild r := by unfold opPlain; simp [h]
theorem opPlain_star (h : c.toNat = 42 ∨ c.toNat = 63) : opPlain acc wild (c :: r) = opPlain (acc ++ [c]) true r := by
  rcases h with h | h <;> (conv => lhs; unfold opPlain) <;> simp [h]
theorem opPlain_end (h : c.toNat = 92) : opPlain acc wild [c] = { part := acc, wild } := by unfold opPlain; simp [h]
theorem opPlain_esc (h : c.toNat = 92) (d : UInt8) : opPlain acc wild (c :: d :: r) = opEsc (acc ++ [d]) wild r := by unfold opPlain; simp [h]
theorem opPlain_go (h1 : c.toNat ≠ 124) (h2 : c.toNat ≠ 46) (h3 : c.toNat ≠ 42) (h4 : c.toNat ≠ 63) (h5 : c.toNat ≠ 92) : opPlain acc wild (c :: r) = opPlain (acc ++ [c]) wild r := by
  conv => lhs; unfold opPlain
  simp [h1, h2, h3, h4, h5]
theorem opEsc_pipe (h : c.toNat = 124) : opEsc acc wild (c :: r) = { part := acc, pipe := r, piped := true, wild } := by unfold opEsc; simp [h]
theorem opEsc_dot (h : c.toNat = 46) : opEsc acc wild (c :: r) = opDot acc wild r := by unfold opEsc; simp [h]
theorem opEsc_star (h : c.toNat = 42 ∨ c.toNat = 63) : opEsc acc wild (c :: r) = opEsc (acc ++ [c]) true r := by
  rcases h with h | h <;> (conv => lhs; unfold opEsc) <;> simp [h]
theorem opEsc_end (h : c.toNat = 92) : opEsc acc wild [c] = { part := acc, wild } := by unfold opEsc; simp [h]
theorem opEsc_esc (h : c.toNat = 92) (d : UInt8) : opEsc acc wild (c :: d :: r) = opEsc (acc ++ [d]) wild r := by
  conv => lhs; unfold opEsc
  simp [h]
theorem opEsc_go (h1 : c.toNat ≠ 124) (h2 : c.toNat ≠ 46) (h3 : c.toNat ≠ 42) (h4 : c.toNat ≠ 63) (h5 : c.toNat ≠ 92) : opEsc acc wild (c :: r) = opEsc (acc ++ [c]) wild r := by
  conv => lhs; unfold opEsc
  simp [h1, h2, h3, h4, h5]
end

/-- The struct under way. -/
def IsOp (w : World) (g : Nat) (r : OPath) : Prop := w.heap[g]? = some (.cells r.cells 118 (0, 0))
section
variable {w : World} {g : Nat} {r : OPath}
theorem heap_set {t : TypeId} {cs : Array Value} {fz : Nat × Nat} (h : w.heap[g]? = some (.cells cs t fz)) (i : Nat) (u : Value) : (w.setCell ⟨g, i, none⟩ u).heap[g]? = some (.cells (cs.setIfInBounds i u) t fz) := by
  simp [World.setCell, Array.getElem?_modify, h]
theorem IsOp.part (h : IsOp w g r) (x : Bs) : IsOp (w.setCell ⟨g, 0, none⟩ (.string (mkS x))) g { r with part := x } := heap_set h 0 _
theorem IsOp.path (h : IsOp w g r) (x : Bs) : IsOp (w.setCell ⟨g, 1, none⟩ (.string (mkS x))) g { r with path := x } := heap_set h 1 _
theorem IsOp.pipe (h : IsOp w g r) (x : Bs) : IsOp (w.setCell ⟨g, 2, none⟩ (.string (mkS x))) g { r with pipe := x } := heap_set h 2 _
theorem IsOp.piped (h : IsOp w g r) (x : Bool) : IsOp (w.setCell ⟨g, 3, none⟩ (.bool x)) g { r with piped := x } := heap_set h 3 _
theorem IsOp.wild (h : IsOp w g r) (x : Bool) : IsOp (w.setCell ⟨g, 4, none⟩ (.bool x)) g { r with wild := x } := heap_set h 4 _
theorem IsOp.more (h : IsOp w g r) (x : Bool) : IsOp (w.setCell ⟨g, 5, none⟩ (.bool x)) g { r with more := x } := heap_set h 5 _
theorem IsOp.cell (h : IsOp w g r) (i : Nat) : w.cell? ⟨g, i, none⟩ = r.cells[i]? := cell_of_row w g i _ _ _ h
theorem IsOp.frozen (h : IsOp w g r) (i : Nat) : w.frozen? ⟨g, i, none⟩ = false := by
  unfold IsOp at h
  simp [World.frozen?, h]
theorem IsOp.below {w' : World} (h : IsOp w g r) (hb : Below w.heap.size w w') : IsOp w' g r :=
  (hb.block g (Array.getElem?_eq_some_iff.1 h).1).trans h
end
theorem op_results {w : World} {g : Nat} {r : OPath} (h : IsOp w g r) {a : Act} (ha : a.tmps[2]? = some (.pointer (some ⟨g, 0, none⟩))) : (results Tryz.f82 a.tmps).run Tryz.prog w = .ok (.agg r.cells) w := by
  have c0 := h.cell 0
  have c1 := h.cell 1
  have c2 := h.cell 2
  have c3 := h.cell 3
  have c4 := h.cell 4
  have c5 := h.cell 5
  simp [OPath.cells] at c0 c1 c2 c3 c4 c5
  simp [results, Tryz.results82, go_sem, OPath.cells, *]
theorem op_ret {w : World} {g : Nat} {r : OPath} {R : Ending → World → Prop} {a : Act} (h : IsOp w g r) (ha : a.tmps[2]? = some (.pointer (some ⟨g, 0, none⟩))) (hd : a.defers = []) (hR : R (.returned (.agg r.cells)) w) : bodyPost Tryz.prog Tryz.f82 R .ret a w :=
  bodyPost_ret (op_results h ha) hd hR

theorem IsOp.grown {w w' : World} {g : Nat} {r : OPath} {row : Option Nat} (h : IsOp w g r) (hg : w.grownBy w' row) (hne : row ≠ some g) : IsOp w' g r :=
  (hg.block g (Array.getElem?_eq_some_iff.1 h).1 (fun e => hne e.symm)).trans h
/-- What a walk wants of the struct. -/
theorem IsOp.facts {w : World} {g : Nat} {r : OPath} (h : IsOp w g r) : w.cell? ⟨g, 0, none⟩ = some (.string (mkS r.part)) ∧ w.cell? ⟨g, 1, none⟩ = some (.string (mkS r.path)) ∧ w.cell? ⟨g, 2, none⟩ = some (.string (mkS r.pipe)) ∧
    w.cell? ⟨g, 3, none⟩ = some (.bool r.piped) ∧ w.cell? ⟨g, 4, none⟩ = some (.bool r.wild) ∧ w.cell? ⟨g, 5, none⟩ = some (.bool r.more) ∧ ∀ i, w.frozen? ⟨g, i, none⟩ = false :=
  ⟨h.cell 0, h.cell 1, h.cell 2, h.cell 3, h.cell 4, h.cell 5, h.frozen⟩

theorem IsOp.app {W w1 : World} {g : Nat} {r : OPath} {B : Nat} {v : Value} {l : Bs} {o : Obj} (hI : IsOp W g r) (hO : Own W B v l) (hg : (W.alloc o).grownBy w1 v.ownBlock) : IsOp w1 g r :=
  (hI.below ((Below.refl _ _).alloc (Nat.le_refl _) o)).grown hg (hO.ne_ hI (by decide))
theorem below_app {B0 : Nat} {w0 W w1 : World} {B : Nat} {v : Value} {l : Bs} {o : Obj} (hB : Below B0 w0 W) (hO : Own W B v l) (hg : (W.alloc o).grownBy w1 v.ownBlock) (h1 : B0 ≤ B) (h2 : B0 ≤ W.heap.size) : Below B0 w0 w1 :=
  (hB.alloc h2 o).grown hg (by rw [World.size_alloc]; omega) (fun k hk => Nat.le_trans h1 (hO.lt k hk).1)

set_option maxHeartbeats 4000000 in
set_option maxRecDepth 100000 in
theorem parseObjectPath_any (s : ByteArray) (w : World) (hs : s.size ≤ 140737488351232) :
    Calls Tryz.prog 82 #[.string s] w fun e w' => e = .returned (.agg (opPlain [] false s.data.toList).cells) ∧ Below w.heap.size w w' := by
  go_enter Tryz.func82, Tryz.ntmps82
  go_wp2_with fail
  go_loopw [3] (fun i wr => ∃ (k : Nat) (wd : Bool), k ≤ s.size ∧ i = .int .i64 k ∧ IsOp wr w.heap.size { wild := wd } ∧ Below w.heap.size w wr ∧ Hid (opPlain [] false s.data.toList = opPlain (s.data.toList.take k) wd (s.data.toList.drop k)))
    (fun i _ => s.size - (intOf i).toNat)
  case atStart => exact ⟨0, false, Nat.zero_le _, rfl, heap_alloc_new w _, (Below.refl _ _).alloc (Nat.le_refl _) _, rfl⟩
  case round =>
    obtain ⟨k, wd, hk, rfl, hI, hB, hm⟩ := hrel
    obtain ⟨c0, c1, c2, c3, c4, c5, fz⟩ := hI.facts
    have HI := Lib.hid hI; clear hI
    have HB := Lib.hid hB; clear hB
    have HE1 := Lib.hid (extract_head s k)
    have HE2 := Lib.hid (extract_end s (k + 1))
    by_cases hlt : k < s.size
    · have hm' := hm.out
      rw [drop_at s k hlt] at hm'
      by_cases h1 : (s[k]).toNat = 124
      · have t1 : (((s[k]).toNat : Int) == 124) = true := tst_eq (n := 124) h1
        rw [opPlain_pipe h1] at hm'
        have HM := Lib.hid hm'; clear hm' h1
        go_wp2_with fail
        rw [HE1.out, HE2.out]
        refine op_ret (((HI.out.part _).pipe _).piped true) rfl rfl ?_
        rw [HM.out]
        exact ⟨rfl, ((HB.out.setCell (Nat.le_refl _) _).setCell (Nat.le_refl _) _).setCell (Nat.le_refl _) _⟩
      have t1 : (((s[k]).toNat : Int) == 124) = false := tst_ne (n := 124) h1
      by_cases h2 : (s[k]).toNat = 46
      · have t2 : (((s[k]).toNat : Int) == 46) = true := tst_eq (n := 46) h2
        rw [opPlain_dot h2] at hm'
        by_cases hlt2 : k + 1 < s.size
        · have hcall := isDotPiperChar_at s (k + 1) hlt2 hs
          cases hd : dotP (s.data.toList.drop (k + 1)) with
          | true =>
            rw [hd] at hcall
            rw [opDot, if_pos hd] at hm'
            have HC := Lib.hid hcall; clear hcall hd
            have HM := Lib.hid hm'; clear hm' h1 h2
            go_wp2_with (go_at_call 123; refine (HC.out _).mono ?_; rintro e w' ⟨rfl, rfl⟩)
            rw [HE1.out, HE2.out]
            refine op_ret (((HI.out.part _).pipe _).piped true) rfl rfl ?_
            rw [HM.out]
            exact ⟨rfl, ((HB.out.setCell (Nat.le_refl _) _).setCell (Nat.le_refl _) _).setCell (Nat.le_refl _) _⟩
          | false =>
            rw [hd] at hcall
            rw [opDot, if_neg (by rw [hd]; decide)] at hm'
            have HC := Lib.hid hcall; clear hcall hd
            have HM := Lib.hid hm'; clear hm' h1 h2
            go_wp2_with (go_at_call 123; refine (HC.out _).mono ?_; rintro e w' ⟨rfl, rfl⟩)
            rw [HE1.out, HE2.out]
            refine op_ret (((HI.out.part _).path _).more true) rfl rfl ?_
            rw [HM.out]
            exact ⟨rfl, ((HB.out.setCell (Nat.le_refl _) _).setCell (Nat.le_refl _) _).setCell (Nat.le_refl _) _⟩
        · rw [opDot, if_neg (by rw [drop_end s (k + 1) (by omega)]; decide)] at hm'
          have HM := Lib.hid hm'; clear hm' h1 h2
          go_wp2_with fail
          rw [HE1.out, HE2.out]
          refine op_ret (((HI.out.part _).path _).more true) rfl rfl ?_
          rw [HM.out]
          exact ⟨rfl, ((HB.out.setCell (Nat.le_refl _) _).setCell (Nat.le_refl _) _).setCell (Nat.le_refl _) _⟩
      have t2 : (((s[k]).toNat : Int) == 46) = false := tst_ne (n := 46) h2
      by_cases h3 : (s[k]).toNat = 42
      · have t3 : (((s[k]).toNat : Int) == 42) = true := tst_eq (n := 42) h3
        rw [opPlain_star (.inl h3), ← take_at s k hlt] at hm'
        have HM := Lib.hid hm'; clear hm' h1 h2 h3
        go_wp2_with fail
        go_roundw
        case rel => exact ⟨k + 1, true, by omega, by go_num, HI.out.wild true, HB.out.setCell (Nat.le_refl _) _, HM⟩
        case measure => simp [intOf]; omega
      have t3 : (((s[k]).toNat : Int) == 42) = false := tst_ne (n := 42) h3
      by_cases h4 : (s[k]).toNat = 63
      · have t4 : (((s[k]).toNat : Int) == 63) = true := tst_eq (n := 63) h4
        rw [opPlain_star (.inr h4), ← take_at s k hlt] at hm'
        have HM := Lib.hid hm'; clear hm' h1 h2 h3 h4
        go_wp2_with fail
        go_roundw
        case rel => exact ⟨k + 1, true, by omega, by go_num, HI.out.wild true, HB.out.setCell (Nat.le_refl _) _, HM⟩
        case measure => simp [intOf]; omega
      have t4 : (((s[k]).toNat : Int) == 63) = false := tst_ne (n := 63) h4
      by_cases h5 : (s[k]).toNat = 92
      · have t5 : (((s[k]).toNat : Int) == 92) = true := tst_eq (n := 92) h5
        by_cases hlt2 : k + 1 < s.size
        · rw [drop_at s (k + 1) hlt2, opPlain_esc h5] at hm'
          have HM := Lib.hid hm'; clear hm' h1 h2 h3 h4 h5 hm
          obtain ⟨A0, n0, p0, W0, hcv, hown0, hb0⟩ := conv_ex wr w.heap.size (s.extract 0 k) (by have := HB.out.size; omega) (by rw [HE1.out, mkS_size, List.length_take, size_list]; omega)
          rw [HE1.out, mkS_data] at hown0
          have HO0 := Lib.hid hown0; clear hown0
          have HI0 := Lib.hid (HI.out.below hb0)
          obtain ⟨d0, d1, d2, d3, d4, d5, dz⟩ := HI0.out.facts
          have HB0 := Lib.hid (HB.out.trans (hb0.mono HB.out.size)); clear hb0
          have HL1 := Lib.hid (show (s.data.toList.take k).length + [s[k + 1]].length ≤ 140737488355328 from by rw [List.length_take, size_list]; simp; omega)
          have HS1 := Lib.hid (show w.heap.size ≤ (W0.alloc (.cells #[bv (s[k + 1])] 5)).heap.size from by have := HB0.out.size; rw [World.size_alloc]; omega)
          go_wp2_with (at_builtin; refine wp_app (HO0.out.alloc _) (Src.one W0 (s[k + 1]) 1) rfl _ _ rfl rfl rfl HS1.out HL1.out ?_; intro v1 w1 hown1 hg1 hat1)
          have HI1 := Lib.hid (HI0.out.app HO0.out hg1)
          have HB1 := Lib.hid (below_app HB0.out HO0.out hg1 (Nat.le_refl _) HB0.out.size)
          obtain ⟨A1, n1, p1, hv1⟩ := hown1.slc
          subst hv1
          have HO1 := Lib.hid hown1; clear hown1 hg1 hat1
          go_loopw [3, 4] (fun i v wr => ∃ (j : Nat) (wd : Bool) (acc : Bs) (A : Option Addr) (n c : Nat), j ≤ s.size + 1 ∧ i = .int .i64 j ∧ v = .slice A n c ∧ Hid (Own wr w.heap.size (.slice A n c) acc) ∧ acc.length ≤ j ∧ Hid (IsOp wr w.heap.size { wild := wd }) ∧ Hid (Below w.heap.size w wr) ∧
              Hid (opPlain [] false s.data.toList = opEsc acc wd (s.data.toList.drop j)))
            (fun i _ _ => s.size + 1 - (intOf i).toNat)
          case atStart => exact ⟨k + 2, wd, _, A1, n1, p1, by omega, by go_num, rfl, HO1, by rw [List.length_append, List.length_take, size_list]; simp; omega, HI1, HB1, HM⟩
          case round =>
            clear HI0 d0 d1 d2 d3 d4 d5 dz HB0 HL1 HS1 HO0 HI1 HB1 HO1 HM HI HB c0 c1 c2 c3 c4 c5 fz t1 t2 t3 t4 t5 hcv HE1 HE2
            obtain ⟨j, wd, acc, A, n, c, hj, rfl, rfl, HO, hacc, HI, HB, hm⟩ := hrel
            obtain ⟨c0, c1, c2, c3, c4, c5, fz⟩ := HI.out.facts
            have HE2 := Lib.hid (extract_end s (j + 1))
            have hst := HO.out.string
            by_cases hlt3 : j < s.size
            · have hm' := hm.out
              rw [drop_at s j hlt3] at hm'
              by_cases h5 : (s[j]).toNat = 92
              · have t5 : (((s[j]).toNat : Int) == 92) = true := tst_eq (n := 92) h5
                by_cases hlt4 : j + 1 < s.size
                · rw [drop_at s (j + 1) hlt4, opEsc_esc h5] at hm'
                  have HM := Lib.hid hm'; clear hm' h5 hm
                  have HL1 := Lib.hid (show acc.length + [s[j + 1]].length ≤ 140737488355328 from by simp; omega)
                  have HS1 := Lib.hid (show w.heap.size ≤ (wr.alloc (.cells #[bv (s[j + 1])] 5)).heap.size from by have := HB.out.size; rw [World.size_alloc]; omega)
                  clear hst
                  go_wp2_with (at_builtin; refine wp_app (HO.out.alloc _) (Src.one wr (s[j + 1]) 1) rfl _ _ rfl rfl rfl HS1.out HL1.out ?_; intro v1 w1 hown1 hg1 hat1)
                  have HI1 := Lib.hid (HI.out.app HO.out hg1)
                  have HB1 := Lib.hid (below_app HB.out HO.out hg1 (Nat.le_refl _) HB.out.size)
                  obtain ⟨A1, n1, p1, hv1⟩ := hown1.slc
                  subst hv1
                  have HO1 := Lib.hid hown1; clear hown1 hg1 hat1
                  go_roundw
                  case rel => exact ⟨j + 2, wd, _, A1, n1, p1, by omega, by go_num, rfl, HO1, by simp; omega, HI1, HB1, HM⟩
                  case measure => simp [intOf]; omega
                · rw [drop_end s (j + 1) (by omega), opEsc_end h5] at hm'
                  have HM : Hid (opPlain [] false s.data.toList = opEsc acc wd (s.data.toList.drop (j + 2))) := by rw [drop_end s (j + 2) (by omega)]; exact hm'.trans rfl
                  clear hm' h5 hm hst
                  go_wp2_with fail
                  go_roundw
                  case rel => exact ⟨j + 2, wd, acc, A, n, c, by omega, by go_num, rfl, HO, by omega, HI, HB, HM⟩
                  case measure => simp [intOf]; omega
              have t5 : (((s[j]).toNat : Int) == 92) = false := tst_ne (n := 92) h5
              by_cases h2 : (s[j]).toNat = 46
              · have t2 : (((s[j]).toNat : Int) == 46) = true := tst_eq (n := 46) h2
                rw [opEsc_dot h2] at hm'
                by_cases hlt2 : j + 1 < s.size
                · have hcall := isDotPiperChar_at s (j + 1) hlt2 hs
                  cases hd : dotP (s.data.toList.drop (j + 1)) with
                  | true =>
                    rw [hd] at hcall
                    rw [opDot, if_pos hd] at hm'
                    have HC := Lib.hid hcall; clear hcall hd
                    have HM := Lib.hid hm'; clear hm' h2 h5 hm
                    go_wp2_with (go_at_call 123; refine (HC.out _).mono ?_; rintro e w' ⟨rfl, rfl⟩)
                    rw [HE2.out]
                    refine op_ret (((HI.out.part _).pipe _).piped true) rfl rfl ?_
                    rw [HM.out]
                    exact ⟨rfl, ((HB.out.setCell (Nat.le_refl _) _).setCell (Nat.le_refl _) _).setCell (Nat.le_refl _) _⟩
                  | false =>
                    rw [hd] at hcall
                    rw [opDot, if_neg (by rw [hd]; decide)] at hm'
                    have HC := Lib.hid hcall; clear hcall hd
                    have HM := Lib.hid hm'; clear hm' h2 h5 hm
                    go_wp2_with (go_at_call 123; refine (HC.out _).mono ?_; rintro e w' ⟨rfl, rfl⟩)
                    rw [HE2.out]
                    refine op_ret (((HI.out.part _).path _).more true) rfl rfl ?_
                    rw [HM.out]
                    exact ⟨rfl, ((HB.out.setCell (Nat.le_refl _) _).setCell (Nat.le_refl _) _).setCell (Nat.le_refl _) _⟩
                · rw [opDot, if_neg (by rw [drop_end s (j + 1) (by omega)]; decide)] at hm'
                  have HM := Lib.hid hm'; clear hm' h2 h5 hm
                  go_wp2_with fail
                  rw [HE2.out]
                  refine op_ret (((HI.out.part _).path _).more true) rfl rfl ?_
                  rw [HM.out]
                  exact ⟨rfl, ((HB.out.setCell (Nat.le_refl _) _).setCell (Nat.le_refl _) _).setCell (Nat.le_refl _) _⟩
              have t2 : (((s[j]).toNat : Int) == 46) = false := tst_ne (n := 46) h2
              by_cases h1 : (s[j]).toNat = 124
              · have t1 : (((s[j]).toNat : Int) == 124) = true := tst_eq (n := 124) h1
                rw [opEsc_pipe h1] at hm'
                have HM := Lib.hid hm'; clear hm' h1 h2 h5 hm
                go_wp2_with fail
                rw [HE2.out]
                refine op_ret (((HI.out.part _).pipe _).piped true) rfl rfl ?_
                rw [HM.out]
                exact ⟨rfl, ((HB.out.setCell (Nat.le_refl _) _).setCell (Nat.le_refl _) _).setCell (Nat.le_refl _) _⟩
              have t1 : (((s[j]).toNat : Int) == 124) = false := tst_ne (n := 124) h1
              have HL1 := Lib.hid (show acc.length + [s[j]].length ≤ 140737488355328 from by simp; omega)
              by_cases h3 : (s[j]).toNat = 42 ∨ (s[j]).toNat = 63
              · rw [opEsc_star h3] at hm'
                have HM := Lib.hid hm'; clear hm' hst hm
                have HI2 := Lib.hid (HI.out.wild true)
                have HB2 := Lib.hid (HB.out.setCell (p := ⟨w.heap.size, 4, none⟩) (Nat.le_refl _) (.bool true))
                have HO2 := Lib.hid (HO.out.setCell (a := ⟨w.heap.size, 4, none⟩) (HO.out.ne_ HI.out (by decide)) (.bool true))
                have HS1 := Lib.hid (show w.heap.size ≤ ((wr.setCell ⟨w.heap.size, 4, none⟩ (.bool true)).alloc (.cells #[bv (s[j])] 5)).heap.size from by have := HB2.out.size; rw [World.size_alloc]; omega)
                have HR1 : Hid (Src ((wr.setCell ⟨w.heap.size, 4, none⟩ (.bool true)).alloc (.cells #[bv (s[j])] 5)) (.slice (some ⟨wr.heap.size, 0, none⟩) 1 1) 81 [s[j]]) := by
                  have h := Src.one (wr.setCell ⟨w.heap.size, 4, none⟩ (.bool true)) (s[j]) 1
                  rwa [show (wr.setCell ⟨w.heap.size, 4, none⟩ (.bool true)).heap.size = wr.heap.size from by simp [World.setCell]] at h
                rcases h3 with h3 | h3
                all_goals
                  have H3 := Lib.hid h3
                  clear h3
                  try have t3 : (((s[j]).toNat : Int) == 42) = true := tst_eq (n := 42) H3.out
                  try have t4 : (((s[j]).toNat : Int) == 63) = true := tst_eq (n := 63) H3.out
                  try have t3 : (((s[j]).toNat : Int) == 42) = false := tst_ne (n := 42) (by rw [H3.out]; decide)
                  clear h1 h2 h5
                  go_wp2_with (at_builtin; refine wp_app (HO2.out.alloc _) HR1.out rfl _ _ rfl rfl rfl HS1.out HL1.out ?_; intro v1 w1 hown1 hg1 hat1)
                  have HI1 := Lib.hid (HI2.out.app HO2.out hg1)
                  have HB1 := Lib.hid (below_app HB2.out HO2.out hg1 (Nat.le_refl _) HB2.out.size)
                  obtain ⟨A1, n1, p1, hv1⟩ := hown1.slc
                  subst hv1
                  have HO1 := Lib.hid hown1; clear hown1 hg1 hat1
                  go_roundw
                  case rel => exact ⟨j + 1, true, _, A1, n1, p1, by omega, by go_num, rfl, HO1, by simp; omega, HI1, HB1, HM⟩
                  case measure => simp [intOf]; omega
              have t3 : (((s[j]).toNat : Int) == 42) = false := tst_ne (n := 42) (fun h => h3 (.inl h))
              have t4 : (((s[j]).toNat : Int) == 63) = false := tst_ne (n := 63) (fun h => h3 (.inr h))
              rw [opEsc_go h1 h2 (fun h => h3 (.inl h)) (fun h => h3 (.inr h)) h5] at hm'
              have HM := Lib.hid hm'; clear hm' h1 h2 h3 h5 hm hst
              have HS1 := Lib.hid (show w.heap.size ≤ (wr.alloc (.cells #[bv (s[j])] 5)).heap.size from by have := HB.out.size; rw [World.size_alloc]; omega)
              go_wp2_with (at_builtin; refine wp_app (HO.out.alloc _) (Src.one wr (s[j]) 1) rfl _ _ rfl rfl rfl HS1.out HL1.out ?_; intro v1 w1 hown1 hg1 hat1)
              have HI1 := Lib.hid (HI.out.app HO.out hg1)
              have HB1 := Lib.hid (below_app HB.out HO.out hg1 (Nat.le_refl _) HB.out.size)
              obtain ⟨A1, n1, p1, hv1⟩ := hown1.slc
              subst hv1
              have HO1 := Lib.hid hown1; clear hown1 hg1 hat1
              go_roundw
              case rel => exact ⟨j + 1, wd, _, A1, n1, p1, by omega, by go_num, rfl, HO1, by simp; omega, HI1, HB1, HM⟩
              case measure => simp [intOf]; omega
            · have hm' := hm.out
              rw [drop_end s j (by omega)] at hm'
              have HM : Hid (opPlain [] false s.data.toList = { part := acc, wild := wd }) := hm'.trans rfl
              clear hm' hm
              go_wp2_with fail
              refine op_ret (HI.out.part _) rfl rfl ?_
              rw [HM.out]
              exact ⟨rfl, HB.out.setCell (Nat.le_refl _) _⟩
        · rw [drop_end s (k + 1) (by omega), opPlain_end h5] at hm'
          have HM := Lib.hid hm'; clear hm' h1 h2 h3 h4 h5 hm
          obtain ⟨A0, n0, p0, W0, hcv, hown0, hb0⟩ := conv_ex wr w.heap.size (s.extract 0 k) (by have := HB.out.size; omega) (by rw [HE1.out, mkS_size, List.length_take, size_list]; omega)
          rw [HE1.out, mkS_data] at hown0
          have hst := hown0.string
          clear hown0
          have HI0 := Lib.hid (HI.out.below hb0)
          obtain ⟨d0, d1, d2, d3, d4, d5, dz⟩ := HI0.out.facts
          have HB0 := Lib.hid (HB.out.trans (hb0.mono HB.out.size)); clear hb0
          go_wp2_with fail
          refine op_ret (HI0.out.part _) rfl rfl ?_
          rw [HM.out]
          exact ⟨rfl, HB0.out.setCell (Nat.le_refl _) _⟩
      have t5 : (((s[k]).toNat : Int) == 92) = false := tst_ne (n := 92) h5
      rw [opPlain_go h1 h2 h3 h4 h5, ← take_at s k hlt] at hm'
      have HM := Lib.hid hm'; clear hm' h1 h2 h3 h4 h5
      go_wp2_with fail
      go_roundw
      case rel => exact ⟨k + 1, wd, by omega, by go_num, HI.out, HB.out, HM⟩
      case measure => simp [intOf]; omega
    · have hm' := hm.out
      rw [drop_end s k (by omega), List.take_of_length_le (by rw [size_list]; omega)] at hm'
      have HM := Lib.hid hm'; clear hm'
      go_wp2_with fail
      have HP := HI.out.part s.data.toList
      rw [mkS_of] at HP
      refine op_ret HP rfl rfl ?_
      rw [HM.out]
      exact ⟨rfl, HB.out.setCell (Nat.le_refl _) _⟩
end Go.Proofs.YtdpjmhbjenalkaaGreatDoor
