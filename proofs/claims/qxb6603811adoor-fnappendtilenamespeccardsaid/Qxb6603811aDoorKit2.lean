import Derived.Test.Qxb6603811aDoorWalkC
import Derived.Deep.RegionHeld3
import Derived.Deep.DrawnRows
namespace Go.Proofs.Qxb6603811aDoor
open Go.RowKit

/-- append as one step of a region that draws its order -/
theorem step_append_bytes {w : World} {ops : Array Oper} {o : Oper} {a : Act} {K : Act → World → Prop} {Q : Exit → Act → World → Prop} {E : Prop} (hgd : o.guard = none) (s x : Operand) (tx : TypeId)
    (ho : o.op = .call { callee := .builtin .append, args := #[s, x], argTypes := #[22, tx] })
    (B : Nat) (v : Value) (xs : List Value) (hv : a.eval s = v) (hrow : rowOf w B 5 v xs) (xv : Value) (m : Nat) (news : List Value) (hx : a.eval x = xv) (hs : Src Tryd.prog 1 tx xv m news w) (hm : 0 < m)
    (hb : xs.length + m ≤ 140737488355328) (hBw : B ≤ w.heap.size)
    (h : ∀ v' w', w'.ownsRow B 5 1 v' (xs ++ news).length (xs ++ news) → Below B w w' → K (a.put o.dst v') w') :
    if Region.wanted o (yielded ops a.tmps) = true then Oper.wp Tryd.prog o a w K Q else E := by
  obtain ⟨i0, hi, hz0, hz1, hz2⟩ := info_parts Tryd.info5
  have hw : Region.wanted o (yielded ops a.tmps) = true := by simp [Region.wanted, hgd]
  rw [if_pos hw]
  obtain ⟨v', w', hr, h2, h3, _⟩ := run_append_row (P := Tryd.prog) w B 22 tx o.type 5 i0 (.int .u8 0) 1 Tryd.underlying22 hi hz0 hz1 hz2 rfl v xs hrow xv m news hs hm (by omega) (by omega) hBw
  unfold Oper.wp execOp
  simp only [ho, resolve, invoke, builtin, Sem.run_bind, Sem.run_pure, Result.andThen_ok, List.map_toArray, List.map_cons, List.map_nil, hv, hx, hr]
  exact h v' w' (own_as h2 rfl) h3

/-- append of whatever many bytes onto an owned row that is not nil and has room for them -/
theorem append_room (w : World) {ops : Array Oper} {rest : List Oper} {o : Oper} {a : Act} {Q : Exit → Act → World → Prop} (hgd : o.guard = none) (s x : Operand) (tx : TypeId)
    (ho : o.op = .call { callee := .builtin .append, args := #[s, x], argTypes := #[22, tx] })
    (B g cap : Nat) (xs : List Value) (hv : a.eval s = .slice (some ⟨g, 0, none⟩) xs.length cap) (hown : w.ownsRow B 5 1 (.slice (some ⟨g, 0, none⟩) xs.length cap) xs.length xs) (xv : Value) (m : Nat) (news : List Value) (hx : a.eval x = xv) (hs : Src Tryd.prog 1 tx xv m news w)
    (hroom : xs.length + m ≤ cap)
    (h : ∀ w', w'.ownsRow B 5 1 (.slice (some ⟨g, 0, none⟩) (xs.length + m) cap) (xs ++ news).length (xs ++ news) → Below B w w' → (∀ k, k < w.heap.size → k ≠ g → w'.heap[k]? = w.heap[k]?) → wpList Tryd.prog ops Q rest (a.put o.dst (.slice (some ⟨g, 0, none⟩) (xs.length + m) cap)) w') : wpList Tryd.prog ops Q (o :: rest) a w := by
  obtain ⟨i0, hi, hz0, hz1, hz2⟩ := info_parts Tryd.info5
  refine wpList_plain hgd fun K hK => ?_
  have hl : news.length = m := by simpa using hs.newsLen
  rcases hown.2 with ⟨h0, _⟩ | ⟨g', cap', cur, hv', hbg, hg, hnc, hcm, hcs, htake⟩
  · cases h0
  · simp only [Value.slice.injEq, Option.some.injEq, Addr.mk.injEq, and_true, true_and] at hv'
    obtain ⟨rfl, rfl⟩ := hv'
    have hs' : Src Tryd.prog i0.size tx xv m news w := by rw [hz1]; exact hs
    have hfit : xs.length * i0.size + news.length ≤ cur.size := by rw [hz1]; omega
    have hr := run_append_room_at (P := Tryd.prog) w 22 tx o.type 5 i0 Tryd.underlying22 hi g xs.length cap cur hg xv m news hs' hroom hfit
    rw [hz1] at hr
    have hlen : (xs ++ news).length = (xs.length + m) * 1 := by rw [List.length_append, hl, Nat.mul_one]
    have hown' : (w.setRow g (cur.toList.take (xs.length * 1) ++ news ++ cur.toList.drop (xs.length * 1 + news.length)).toArray).ownsRow B 5 1 (.slice (some ⟨g, 0, none⟩) (xs.length + m) cap) (xs.length + m) (xs ++ news) := by
      refine ⟨hlen, .inr ⟨g, cap, _, rfl, hbg, setRow_heap w g cur _ 5 _ hg, hroom, hcm, ?_, ?_⟩⟩
      · simp only [List.size_toArray, List.length_append, List.length_take, List.length_drop, Array.length_toList]
        omega
      · rw [htake, ← hlen]
        exact List.take_left
    unfold Oper.wp execOp
    simp only [ho, resolve, invoke, builtin, Sem.run_bind, Sem.run_pure, Result.andThen_ok, List.map_toArray, List.map_cons, List.map_nil, hv, hx, hr]
    exact hK _ _ (h _ (own_as hown' rfl) (below_setRow B w g _ hbg) (fun k _ hk => setRow_other w g k _ hk))

theorem src_new_at (w : World) (H : Nat) (hH : w.heap.size = H) (cs : List Value) (h1 : ∀ u ∈ cs, u.oneCell' = true) : Src Tryd.prog 1 22 (.slice (some ⟨H, 0, none⟩) cs.length cs.length) cs.length cs (w.alloc (.cells cs.toArray 5)) := by
  subst hH
  exact src_new w cs h1

theorem src_new_d (w : World) (cs : List Value) (h1 : ∀ u ∈ cs, u.oneCell' = true) : Src Tryd.prog 1 22 (.slice (some ⟨w.heap.size, 0, none⟩) cs.length cs.length) cs.length cs (w.alloc (.cells cs.toArray 5)).drew := by
  refine Src.ofSlice _ Tryd.underlying22 _ _ _ _ (by simp) (fun j u hu => ?_) h1
  rw [Addr.add_lit]
  simp [go_sem, hu]

/-- an owned row as what is appended -/
theorem src_owned {w : World} {B : Nat} {v : Value} {n : Nat} {l : List UInt8} (h : w.ownsRow B 5 1 v n (Lib.byteCells l)) : Src Tryd.prog 1 22 v n (Lib.byteCells l) w := by
  have hn : (Lib.byteCells l).length = n * 1 := h.1
  rcases h.2 with ⟨rfl, rfl⟩ | ⟨g, cap, cur, rfl, _, hg, _⟩
  · have : Lib.byteCells l = [] := List.eq_nil_of_length_eq_zero (by omega)
    rw [this]
    exact Src.ofNil w Tryd.underlying22 0
  · exact Src.ofSlice w Tryd.underlying22 _ _ _ _ hn (h.cells (g := g) rfl) (fun u hu => by
      simp only [Lib.byteCells, List.mem_map] at hu
      obtain ⟨b, _, rfl⟩ := hu
      rfl)

/-- a full row as what is appended -/
theorem src_full {w : World} {v : Value} {l : List UInt8} (h : fullRow w v (Lib.byteCells l)) : Src Tryd.prog 1 22 v l.length (Lib.byteCells l) w := by
  obtain ⟨a, h1, h2, h3⟩ := h
  rw [bc_length] at h1
  subst h1
  cases a with
  | none =>
    have h0 := h2 rfl
    have hl : l = [] := List.eq_nil_of_length_eq_zero (by rw [← bc_length, h0]; rfl)
    subst hl
    exact Src.ofNil w Tryd.underlying22 _
  | some x =>
    exact Src.ofSlice w Tryd.underlying22 _ _ _ _ (by rw [bc_length, Nat.mul_one]) (h3 x rfl) (fun u hu => by
      simp only [Lib.byteCells, List.mem_map] at hu
      obtain ⟨b, _, rfl⟩ := hu
      rfl)

theorem owns_of_rowIs {w : World} {g n B : Nat} {f : Nat → Value} (h : w.rowIs g 5 n f) (hB : B ≤ g) (hn : n ≤ maxLen) : w.ownsRow B 5 1 (.slice (some ⟨g, 0, none⟩) n n) n ((List.range n).map f) := by
  obtain ⟨c, hb, hc, hf⟩ := h
  refine ⟨by simp, .inr ⟨g, n, c, rfl, hB, hb, Nat.le_refl _, hn, by omega, ?_⟩⟩
  apply List.ext_getElem?
  intro i
  by_cases hi : i < n
  · rw [List.getElem?_take_of_lt (by omega)]
    simp [hi, hf i hi]
  · rw [List.getElem?_eq_none (by simp; omega), List.getElem?_eq_none (by simp; omega)]

theorem full_of_rowIs {w : World} {g n : Nat} {f : Nat → Value} {xs : List Value} (h : w.rowIs g 5 n f) (hx : xs = (List.range n).map f) : fullRow w (.slice (some ⟨g, 0, none⟩) n n) xs := by
  subst hx
  refine ⟨some ⟨g, 0, none⟩, by simp, (fun h0 => by cases h0), fun x hx j u hu => ?_⟩
  cases hx
  rw [Addr.add_lit]
  by_cases hj : j < n
  · simp [hj] at hu
    rw [Nat.zero_add, h.cell hj, hu]
  · rw [List.getElem?_eq_none (by simp; omega)] at hu
    cases hu

/-- make, at this dump's []byte -/
theorem make_bytes (n : Nat) (hn : n ≤ 1073741824) (w : World) :
    (Instr.makeSlice 22 (.int .i64 (n : Int)) (.int .i64 (n : Int))).run Tryd.prog w = .ok (.slice (some ⟨w.heap.size, 0, none⟩) n n) (w.alloc (.cells (madeCells #[.int .u8 0] n) 5)) :=
  run_make_row' (P := Tryd.prog) 22 5 (.int .u8 0) 1 Tryd.underlying22 Tryd.info5 rfl .i64 .i64 n (by omega) (by omega) w
theorem make_room (c : Int) (n : Nat) (hc : c = n) (hn : n ≤ 1073741824) (w : World) :
    (Instr.makeSlice 22 (.int .i64 0) (.int .i64 c)).run Tryd.prog w = .ok (.slice (some ⟨w.heap.size, 0, none⟩) 0 n) (w.alloc (.cells (madeCells #[.int .u8 0] n) 5)) := by
  subst hc
  obtain ⟨i0, hi, hz0, hz1, hz2⟩ := info_parts Tryd.info5
  have hr := run_make (P := Tryd.prog) w 22 5 i0 (.int .u8 0) Tryd.underlying22 hi hz0 .i64 .i64 0 n (Int.le_refl _) (by omega) (by rw [hz2]; omega) (by omega)
  simp only [Int.toNat_natCast, Int.toNat_zero, hz1, Nat.mul_one] at hr
  exact hr
theorem owns_room (w : World) (n : Nat) (hn : n ≤ 1073741824) : (w.alloc (.cells (madeCells #[.int .u8 0] n) 5)).ownsRow w.heap.size 5 1 (.slice (some ⟨w.heap.size, 0, none⟩) 0 n) 0 [] :=
  World.ownsRow_made w _ n (Nat.le_refl _) (by unfold maxLen; omega) (by rw [size_madeCells, Nat.mul_one])

end Go.Proofs.Qxb6603811aDoor
