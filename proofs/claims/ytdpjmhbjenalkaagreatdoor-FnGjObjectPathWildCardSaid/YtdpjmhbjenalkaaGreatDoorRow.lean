/- A slice of bytes that a call has made itself (a conversion's row let in): what append, string(..) and []byte(..) make of it. -/
import Derived.Test.YtdpjmhbjenalkaaGreatDoorProg
import Derived.Test.YtdpjmhbjenalkaaGreatDoorBase
import Derived.Laws.AppendOwn
import Derived.Lib.AppendStr
import Derived.Lib.ConvBytes
import Derived.Maps.AppendAt
import Derived.Laws.BytesArg
import Derived.Below
import Derived.Deep.Draws
namespace Go.Proofs.YtdpjmhbjenalkaaGreatDoor
open Go.RowKit

/-- A byte as a cell. -/
def bv (b : UInt8) : Value := .int .u8 b.toNat
def cellsOf (l : Bs) : List Value := l.map bv
theorem cellsOf_length (l : Bs) : (cellsOf l).length = l.length := by simp [cellsOf]
theorem cellsOf_append (a b : Bs) : cellsOf (a ++ b) = cellsOf a ++ cellsOf b := by simp [cellsOf]
theorem cellsOf_one (l : Bs) : ∀ u ∈ cellsOf l, u.oneCell' = true := by
  intro u hu
  simp only [cellsOf, List.mem_map] at hu
  obtain ⟨b, _, rfl⟩ := hu
  rfl
theorem strCells_eq (s : ByteArray) : Lib.strCells s = cellsOf s.data.toList := rfl

/-- The slice value v is nil and l empty, or its block is one from 'base' on, none of its cells is frozen, and its elements are l. -/
def Own (w : World) (base : Nat) (v : Value) (l : Bs) : Prop :=
  (v = .slice none 0 0 ∧ l = []) ∨
  ∃ g cap cur fz, v = .slice (some ⟨g, 0, none⟩) l.length cap ∧ base ≤ g ∧ w.heap[g]? = some (.cells cur 5 fz) ∧ (cur.size ≤ fz.1 ∨ fz.2 = 0) ∧ l.length ≤ cap ∧ cap ≤ maxLen ∧ cur.size = cap ∧ cur.toList.take l.length = cellsOf l

section
variable {w : World} {base : Nat} {v : Value} {l : Bs}
theorem Own.nil (w : World) (base : Nat) : Own w base (.slice none 0 0) [] := .inl ⟨rfl, rfl⟩
theorem Own.kept {w' : World} {row : Option Nat} (h : Own w base v l) (hg : w.grownBy w' row) (hne : v.ownBlock = none ∨ v.ownBlock ≠ row) : Own w' base v l := by
  rcases h with hn | ⟨g, cap, cur, fz, rfl, hb, hgg, rest⟩
  · exact .inl hn
  · refine .inr ⟨g, cap, cur, fz, rfl, hb, ?_, rest⟩
    rw [hg.block g (Array.getElem?_eq_some_iff.1 hgg).1 (by simpa [Value.ownBlock] using hne)]
    exact hgg
theorem Own.below {w' : World} (h : Own w base v l) (hb : Below w.heap.size w w') : Own w' base v l := by
  rcases h with hn | ⟨g, cap, cur, fz, rfl, hb', hgg, rest⟩
  · exact .inl hn
  · refine .inr ⟨g, cap, cur, fz, rfl, hb', ?_, rest⟩
    rw [hb.block g (Array.getElem?_eq_some_iff.1 hgg).1]
    exact hgg
theorem Own.alloc (h : Own w base v l) (o : Obj) : Own (w.alloc o) base v l :=
  h.kept (World.grownBy_alloc w o none) (by cases hv : v.ownBlock <;> simp)
theorem Own.drew (h : Own w base v l) : Own w.drew base v l := h
theorem Own.drewN (h : Own w base v l) (n : Nat) : Own (w.drewN n) base v l := h
theorem Own.mono {b' : Nat} (h : Own w base v l) (hb : b' ≤ base) : Own w b' v l := by
  rcases h with hn | ⟨g, cap, cur, fz, rfl, hb', rest⟩
  · exact .inl hn
  · exact .inr ⟨g, cap, cur, fz, rfl, by omega, rest⟩
theorem Own.setCell (h : Own w base v l) {a : Addr} (ha : v.ownBlock ≠ some a.block) (u : Value) : Own (w.setCell a u) base v l := by
  rcases h with hn | ⟨g, cap, cur, fz, rfl, hb', hg, rest⟩
  · exact .inl hn
  · refine .inr ⟨g, cap, cur, fz, rfl, hb', ?_, rest⟩
    rw [Below.heap_setCell _ _ _ _ (fun e => ha (by simp [Value.ownBlock, e]))]
    exact hg
theorem Own.lt (h : Own w base v l) : ∀ k, v.ownBlock = some k → base ≤ k ∧ k < w.heap.size := by
  intro k hk
  rcases h with ⟨rfl, _⟩ | ⟨g, cap, cur, fz, rfl, hb, hg, _⟩
  · simp [Value.ownBlock] at hk
  · simp [Value.ownBlock] at hk
    subst hk
    exact ⟨hb, (Array.getElem?_eq_some_iff.1 hg).1⟩
/-- It isn't a block of another element type. -/
theorem Own.ne_ {g t : Nat} {cs : Array Value} {fz : Nat × Nat} (h : Own w base v l) (hg : w.heap[g]? = some (.cells cs t fz)) (ht : t ≠ 5) : v.ownBlock ≠ some g := by
  rcases h with ⟨rfl, _⟩ | ⟨g', cap, cur, fz', rfl, hb, hg', _⟩
  · simp [Value.ownBlock]
  · intro e
    simp only [Value.ownBlock, Option.some.injEq] at e
    subst e
    rw [hg'] at hg
    simp only [Option.some.injEq, Obj.cells.injEq] at hg
    exact ht hg.2.1.symm
theorem Own.slice (h : Own w base v l) : ∃ A c, v = .slice A l.length c := by
  rcases h with ⟨rfl, rfl⟩ | ⟨g, cap, cur, fz, rfl, _⟩
  · exact ⟨none, 0, rfl⟩
  · exact ⟨_, cap, rfl⟩
theorem Own.slc (h : Own w base v l) : ∃ A n c, v = .slice A n c := by
  obtain ⟨A, c, e⟩ := h.slice
  exact ⟨A, _, c, e⟩
theorem Own.len_le (h : Own w base v l) : l.length ≤ maxLen := by
  rcases h with ⟨rfl, rfl⟩ | ⟨g, cap, cur, fz, rfl, _, _, _, h1, h2, _⟩
  · simp
  · omega
theorem Own.cells {g c : Nat} (h : Own w base (.slice (some ⟨g, 0, none⟩) l.length c) l) : ∀ j u, (cellsOf l)[j]? = some u → w.cell? ((⟨g, 0, none⟩ : Addr).add j) = some u := by
  intro j u hu
  rcases h with ⟨hv, _⟩ | ⟨g', cap, cur, fz, hv, _, hgg, _, _, _, _, htake⟩
  · cases hv
  · injection hv with ha _ _
    injection ha with ha
    injection ha with ha _ _
    subst ha
    have hadd : (⟨g, 0, none⟩ : Addr).add j = ⟨g, j, none⟩ := by unfold Addr.add; split <;> simp_all
    rw [hadd, cell_of_row w g j cur 5 fz hgg]
    rw [← htake, List.getElem?_take] at hu
    split at hu
    · simpa using hu
    · cases hu
end

theorem run_storeCells_at' (P : Program) (g o : Nat) (t : TypeId) (fz : Nat × Nat) : ∀ (vs : List Value) (i : Nat) (cur : Array Value) (w : World), w.heap[g]? = some (.cells cur t fz) → (cur.size ≤ fz.1 ∨ fz.2 = 0) → o + i + vs.length ≤ cur.size → (∀ v ∈ vs, v.oneCell' = true) →
    (storeCells ⟨g, o, none⟩ vs i).run P w = .ok () (w.setRow g (cur.toList.take (o + i) ++ vs ++ cur.toList.drop (o + i + vs.length)).toArray)
  | [], i, cur, w, hg, _, _, _ => by
    simp only [storeCells, List.append_nil, List.length_nil, Nat.add_zero, List.take_append_drop, Array.toArray_toList]
    rw [setRow_self w g cur t fz hg]
    rfl
  | v :: rest, i, cur, w, hg, hfz, hl, h1 => by
    have hi : o + i < cur.size := by simp at hl; omega
    have hadd : (⟨g, o, none⟩ : Addr).add i = ⟨g, o + i, none⟩ := by unfold Addr.add; split <;> simp_all
    have hcell : w.cell? ⟨g, o + i, none⟩ = some cur[o + i] := by simp [World.cell?, hg, hi]
    have hfro : w.frozen? ⟨g, o + i, none⟩ = false := by
      obtain ⟨lo, hi'⟩ := fz
      simp only [World.frozen?, hg, Bool.and_eq_false_iff, decide_eq_false_iff_not]
      simp only at hfz
      rcases hfz with h | h
      · left; omega
      · right; omega
    have hst : (store ((⟨g, o, none⟩ : Addr).add i) v).run P w = .ok () (w.setRow g (cur.setIfInBounds (o + i) v)) := by
      rw [hadd, run_store P w _ v _ (h1 v (by simp)), hcell]
      simp [hfro, setCell_eq_setRow w g (o + i) cur t fz v hg]
    have ih := run_storeCells_at' P g o t fz rest (i + 1) (cur.setIfInBounds (o + i) v) (w.setRow g (cur.setIfInBounds (o + i) v)) (setRow_heap w g cur _ t _ hg) (by simpa using hfz) (by simp at hl ⊢; omega) (fun x hx => h1 x (by simp [hx]))
    simp only [storeCells, Sem.run_bind, hst, Result.andThen_ok, ih, setRow_setRow]
    congr 3
    have e := list_seg_step cur.toList (o + i) v rest (by simp at hl ⊢; omega)
    simpa [Array.toList_setIfInBounds, Nat.add_assoc] using e

theorem Below_drewN {B : Nat} {w W : World} (h : Below B w W) (n : Nat) : Below B w (W.drewN n) := ⟨h.os, h.tape, h.output, h.size, h.block⟩
theorem info5 : (Tryz.prog.info? 5).map (fun i => (i.zero, i.size, i.bytes)) = some (some (.int .u8 0), 1, 1) := by kernel_rfl

/-- What is appended: a string, or a slice of bytes that is read. -/
def Src (w : World) (x : Value) (t2 : TypeId) (news : Bs) : Prop :=
  (∃ s : ByteArray, x = .string s ∧ t2 = 9 ∧ news = s.data.toList) ∨
  (∃ A c, x = .slice A news.length c ∧ t2 = 81 ∧ (0 < news.length → ∃ a, A = some a ∧ ∀ j u, (cellsOf news)[j]? = some u → w.cell? (a.add j) = some u))
theorem Src.str (w : World) (s : ByteArray) : Src w (.string s) 9 s.data.toList := .inl ⟨s, rfl, rfl, rfl⟩
theorem Src.one (w : World) (b : UInt8) (c : Nat) : Src (w.alloc (.cells #[bv b] 5)) (.slice (some ⟨w.heap.size, 0, none⟩) 1 c) 81 [b] :=
  .inr ⟨_, c, rfl, rfl, fun _ => ⟨_, rfl, by simpa [cellsOf] using cell_one_new w (bv b) 5⟩⟩
theorem Src.own {w : World} {base : Nat} {v : Value} {l : Bs} (h : Own w base v l) : Src w v 81 l := by
  rcases h with ⟨rfl, rfl⟩ | ⟨g, cap, cur, fz, rfl, h2⟩
  · exact .inr ⟨none, 0, rfl, rfl, fun h => absurd h (by simp)⟩
  · exact .inr ⟨_, cap, rfl, rfl, fun _ => ⟨_, rfl, Own.cells (base := base) (.inr ⟨g, cap, cur, fz, rfl, h2⟩)⟩⟩
theorem Src.lenOf {w : World} {x : Value} {t2 : TypeId} {news : Bs} (h : Src w x t2 news) (w' : World) : (Builtin.lenOf x).run Tryz.prog w' = .ok news.length w' := by
  rcases h with ⟨s, rfl, rfl, rfl⟩ | ⟨A, c, rfl, rfl, _⟩
  · simp [Builtin.lenOf]
  · simp [Builtin.lenOf]
theorem Src.first {w : World} {x : Value} {t2 : TypeId} {news : Bs} (h : Src w x t2 news) (w' : World) (hw : ∀ p : Addr, w'.cell? p = w.cell? p) : (Builtin.firstCells 1 news.length x).run Tryz.prog w' = .ok (cellsOf news).toArray w' := by
  rcases h with ⟨s, rfl, rfl, rfl⟩ | ⟨A, c, rfl, rfl, h⟩
  · rw [size_list]; exact Lib.run_firstCells_string w' 1 s
  · rcases Nat.eq_zero_or_pos news.length with h0 | h0
    · have e : news = [] := List.eq_nil_of_length_eq_zero h0
      subst e
      cases A with
      | none => simp [Builtin.firstCells, cellsOf]
      | some a => exact run_firstCells_some (P := Tryz.prog) w' 1 0 a 0 c [] rfl (by simp)
    · obtain ⟨a, rfl, hc⟩ := h h0
      exact run_firstCells_some (P := Tryz.prog) w' 1 news.length a news.length c (cellsOf news) (by simp [cellsOf]) (fun j u hu => (hw _).trans (hc j u hu))
theorem Src.zeros {w : World} {x : Value} {t2 : TypeId} {news : Bs} (h : Src w x t2 news) : ∃ d, Tryz.prog.underlying t2 = some d ∧ (d = .string ∨ d = .slice 5) := by
  rcases h with ⟨s, rfl, rfl, rfl⟩ | ⟨A, c, rfl, rfl, h⟩
  · exact ⟨_, Tryz.underlying9, .inl rfl⟩
  · exact ⟨_, Tryz.underlying81, .inr rfl⟩

theorem run_app {w : World} {base : Nat} {v x : Value} {l news : Bs} {t2 : TypeId} (ty : TypeId) (hown : Own w base v l) (hsrc : Src w x t2 news) (hbase : base ≤ w.heap.size) (hb : l.length + news.length ≤ 140737488355328) :
    ∃ v' w', (Builtin.append_ #[81, t2] ty #[v, x]).run Tryz.prog w = .ok v' w' ∧ Own w' base v' (l ++ news) ∧ w.grownBy w' v.ownBlock ∧ (v'.ownBlock = v.ownBlock ∨ v'.ownBlock = some w.heap.size) := by
  obtain ⟨i, hi, hzz⟩ := Option.map_eq_some_iff.1 info5
  simp only [Prod.mk.injEq] at hzz
  obtain ⟨hz, hs1, hby⟩ := hzz
  obtain ⟨d, hd, hdz⟩ := hsrc.zeros
  have hlen := hsrc.lenOf
  have grow : ∀ (A : Option Addr) (cap : Nat), cap < l.length + news.length → v = .slice A l.length cap → (Builtin.firstCells 1 l.length v).run Tryz.prog w.drew = .ok (cellsOf l).toArray w.drew →
      ∃ v' w', (Builtin.append_ #[81, t2] ty #[v, x]).run Tryz.prog w = .ok v' w' ∧ Own w' base v' (l ++ news) ∧ w.grownBy w' v.ownBlock ∧ (v'.ownBlock = v.ownBlock ∨ v'.ownBlock = some w.heap.size) := by
    intro A cap hc hv hf
    have hn : ¬ (l.length + news.length ≤ cap) := by omega
    have h63' : ¬ (9223372036854775807 < ((l.length : Int) + (news.length : Int))) := by omega
    have h48' : ¬ (281474976710656 < Builtin.nextslicecap (l.length + news.length) cap) := by
      have := growslice_fits (need := l.length + news.length) (old := cap) (bytes := 1) (by omega) (by omega)
      omega
    have hfn := hsrc.first w.drew (fun _ => rfl)
    have hge := grownCap_ge w (l.length + news.length) cap 5
    have hcm := grownCap_le_maxLen w (l.length + news.length) cap 5 (by simp only [maxLen]; omega)
    refine ⟨_, w.drew.alloc (.cells (((cellsOf l).toArray ++ (cellsOf news).toArray) ++ Builtin.zeroCells (Value.int .u8 0).cells (grownCap w (l.length + news.length) cap 5 - (l.length + news.length))) 5), ?_, .inr ⟨w.heap.size, grownCap w (l.length + news.length) cap 5, _, (0, 0), rfl, hbase, heap_alloc_new w.drew _, .inr rfl, ?_, hcm, ?_, ?_⟩, ⟨rfl, rfl, rfl, by simp, fun k hk _ => heap_alloc_old w.drew _ hk⟩, .inr rfl⟩
    · subst hv
      rcases hdz with rfl | rfl <;> simp [Builtin.append_, run_underlying Tryz.underlying81, run_underlying hd, sizeOf, typeInfo, zeroValue, hi, hz, hs1, hby, hlen, hn, h63', h48', Question.forced, hf, hfn, newRow, grownCap]
      all_goals rw [← Array.append_assoc, show (cellsOf l).toArray ++ (cellsOf news).toArray = (cellsOf l ++ cellsOf news).toArray from by simp]
    · simpa using hge
    · have hz1 : (Value.int IntKind.u8 0).cells.size = 1 := rfl
      simp only [Array.size_append, List.size_toArray, size_zeroCells, hz1, cellsOf_length]
      omega
    · rw [cellsOf_append]
      simp only [Array.toList_append, List.append_assoc]
      rw [← List.append_assoc]
      exact List.take_left' (by simp [cellsOf])
  rcases hown with ⟨rfl, rfl⟩ | ⟨g, cap, cur, fz, rfl, hbg, hg, hfz, hnc, hcm, hcs, htake⟩
  · rcases Nat.eq_zero_or_pos news.length with h0 | h0
    · have e : news = [] := List.eq_nil_of_length_eq_zero h0
      subst e
      have hfn := hsrc.first w (fun _ => rfl)
      refine ⟨.slice none 0 0, w, ?_, .inl ⟨rfl, rfl⟩, ⟨rfl, rfl, rfl, Nat.le_refl _, fun _ _ _ => rfl⟩, .inl rfl⟩
      simp only [List.length_nil] at hlen hfn
      rcases hdz with rfl | rfl <;> simp [Builtin.append_, run_underlying Tryz.underlying81, run_underlying hd, sizeOf, typeInfo, hi, hs1, hlen, hfn]
    · exact grow none 0 (by simpa using h0) rfl (by simp [Builtin.firstCells, cellsOf])
  · by_cases hroom : l.length + news.length ≤ cap
    · have hst := run_storeCells_at' Tryz.prog g l.length 5 fz (cellsOf news) 0 cur w hg hfz (by rw [cellsOf_length]; omega) (cellsOf_one news)
      simp only [Nat.add_zero, cellsOf_length] at hst
      have hfn := hsrc.first w (fun _ => rfl)
      refine ⟨.slice (some ⟨g, 0, none⟩) (l ++ news).length cap, w.setRow g (cur.toList.take l.length ++ cellsOf news ++ cur.toList.drop (l.length + news.length)).toArray, ?_, .inr ⟨g, cap, _, fz, rfl, hbg, setRow_heap w g cur _ 5 _ hg, ?_, by simpa using hroom, hcm, ?_, ?_⟩, ⟨rfl, rfl, rfl, by simp, fun k _ hk => setRow_other w g k _ (fun e => hk (by simp [Value.ownBlock, e]))⟩, .inl rfl⟩
      · rcases hdz with rfl | rfl <;> simp [Builtin.append_, run_underlying Tryz.underlying81, run_underlying hd, sizeOf, typeInfo, hi, hs1, hlen, hroom, hfn, Addr.add_lit, hst]
      · rcases hfz with h | h
        · left
          simp only [List.size_toArray, List.length_append, List.length_take, List.length_drop, Array.length_toList, cellsOf_length]
          omega
        · exact .inr h
      · simp only [List.size_toArray, List.length_append, List.length_take, List.length_drop, Array.length_toList, cellsOf_length]
        omega
      · rw [htake, cellsOf_append]
        exact List.take_left' (by simp [cellsOf])
    · refine grow _ cap (by omega) rfl ?_
      exact run_firstCells_some (P := Tryz.prog) w.drew 1 l.length ⟨g, 0, none⟩ l.length cap (cellsOf l) (by simp [cellsOf]) (Own.cells (w := w) (base := base) (.inr ⟨g, cap, cur, fz, rfl, hbg, hg, hfz, hnc, hcm, hcs, htake⟩))

/-- The operation, for the walk. -/
theorem wp_app {w : World} {ops : Array Oper} {rest : List Oper} {o : Oper} {a : Act} {Q : Exit → Act → World → Prop} {base : Nat} {v : Value} {l news : Bs} {t2 : TypeId} (hown : Own w base v l) {x : Value} (hsrc : Src w x t2 news) (hgd : o.guard = none) (sl y : Operand)
    (ho : o.op = .call { callee := .builtin .append, args := #[sl, y], argTypes := #[81, t2] })
    (hs : a.eval sl = v) (hy : a.eval y = x) (hbase : base ≤ w.heap.size) (hb : l.length + news.length ≤ 140737488355328)
    (h : ∀ v' w', Own w' base v' (l ++ news) → w.grownBy w' v.ownBlock → (v'.ownBlock = v.ownBlock ∨ v'.ownBlock = some w.heap.size) → wpList Tryz.prog ops Q rest (a.put o.dst v') w') : wpList Tryz.prog ops Q (o :: rest) a w := by
  refine wpList_plain hgd fun K hK => ?_
  obtain ⟨v', w', hr, h2, h3, h4⟩ := run_app o.type hown hsrc hbase hb
  unfold Oper.wp execOp
  simp only [ho, resolve, invoke, builtin, Sem.run_bind, Sem.run_pure, Result.andThen_ok, List.map_toArray, List.map_cons, List.map_nil, hs, hy, hr]
  exact hK _ _ (h v' w' h2 h3 h4)

/-- []byte(s): the new row. -/
theorem Own.conv (w : World) (base : Nat) (s : ByteArray) (hb : base ≤ w.heap.size) (hs : s.size ≤ 140737488351232) : Own (Lib.bytesWorld w 5 s) base (.slice (some ⟨w.heap.size, 0, none⟩) s.size (grownCap w s.size 0 5)) s.data.toList := by
  have hge := grownCap_ge w s.size 0 5
  have hcm := grownCap_le_maxLen w s.size 0 5 (by simp only [maxLen]; omega)
  have hsz : (Lib.bytesCells w 5 s).size = grownCap w s.size 0 5 := by
    simp only [Lib.bytesCells, Array.size_append, Array.size_map, Array.size_replicate]
    have : s.data.size = s.size := rfl
    omega
  refine .inr ⟨w.heap.size, grownCap w s.size 0 5, Lib.bytesCells w 5 s, _, by rw [size_list], hb, Lib.bytesWorld_at_new w 5 s, .inl (Nat.le_refl _), by rw [size_list]; exact hge, hcm, hsz, ?_⟩
  simp only [Lib.bytesCells, Array.toList_append]
  rw [List.take_left' (by simp)]
  simp [cellsOf, bv]
theorem bytesWorld_below (w : World) (s : ByteArray) : Below w.heap.size w (Lib.bytesWorld w 5 s) := by
  refine ⟨?_, ?_, ?_, by rw [Lib.bytesWorld_size]; omega, fun k hk => Lib.bytesWorld_at_old w 5 s k hk⟩
  all_goals
    simp only [Lib.bytesWorld, World.freeze]
    split <;> rfl
theorem run_conv (w : World) (s : ByteArray) : (convert 9 81 (.string s)).run Tryz.prog w = .ok (.slice (some ⟨w.heap.size, 0, none⟩) s.size (grownCap w s.size 0 5)) (Lib.bytesWorld w 5 s) :=
  Lib.run_convert_string_bytes w 9 81 5 s Tryz.underlying9 Tryz.underlying81 Tryz.underlying5
/-- The conversion, its value and world under names of their own. -/
theorem conv_ex (w : World) (base : Nat) (s : ByteArray) (hb : base ≤ w.heap.size) (hs : s.size ≤ 140737488351232) :
    ∃ A n c w', (convert 9 81 (.string s)).run Tryz.prog w = .ok (.slice A n c) w' ∧ Own w' base (.slice A n c) s.data.toList ∧ Below w.heap.size w w' :=
  ⟨_, _, _, _, run_conv w s, Own.conv w base s hb hs, bytesWorld_below w s⟩
theorem strOf_bytes (l : Bs) : Value.string (strOfNums (l.map fun b => (b.toNat : Int))) = .string (mkS l) := by
  have e : (l.map fun b => (b.toNat : Int)).map (fun n => UInt8.ofNat n.toNat) = l := by
    rw [List.map_map]
    refine (List.map_congr_left (g := id) fun b _ => ?_).trans (List.map_id l)
    simp
  rw [strOfNums, e]
/-- string(b). -/
theorem Own.string {w : World} {base : Nat} {v : Value} {l : Bs} (h : Own w base v l) : (convert 81 9 v).run Tryz.prog w = .ok (.string (mkS l)) w := by
  rcases h with ⟨rfl, rfl⟩ | ⟨g, cap, cur, fz, rfl, hb, hg, hfz, h1, h2, h3, h4⟩
  · exact run_convert_bytes_nil w 81 5 Tryz.underlying81 Tryz.underlying5 0 0 9 Tryz.underlying9
  · have hc := Own.cells (w := w) (base := base) (.inr ⟨g, cap, cur, fz, rfl, hb, hg, hfz, h1, h2, h3, h4⟩)
    have := run_convert_bytes_arg (P := Tryz.prog) w 81 5 Tryz.underlying81 Tryz.underlying5 g 0 l.length cap (l.map fun b => (b.toNat : Int)) (by simp) (fun j hj => by
      have e := hc j (bv (l[j])) (by simp [cellsOf, List.getElem?_eq_getElem hj])
      have hadd : (⟨g, 0, none⟩ : Addr).add j = ⟨g, 0 + j, none⟩ := by unfold Addr.add; split <;> simp_all
      rw [hadd] at e
      rw [e]
      simp [bv, List.getD_eq_getElem?_getD, List.getElem?_eq_getElem hj]) 9 Tryz.underlying9
    refine this.trans ?_
    rw [strOf_bytes]
end Go.Proofs.YtdpjmhbjenalkaaGreatDoor
