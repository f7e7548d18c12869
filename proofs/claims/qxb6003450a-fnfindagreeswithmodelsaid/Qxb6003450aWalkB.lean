import Derived.Test.Qxb6003450aWalkA
namespace Go.Proofs.Qxb6003450a
open Go.RowKit

theorem src_one (w : World) (H n : Nat) (hH : w.heap.size = H) (hn : n < 256) : Src Try.prog 1 29 (.slice (some ⟨H, 0, none⟩) 1 1) [UInt8.ofNat n].length (bc [UInt8.ofNat n]) (w.alloc (.cells #[.int .u8 (n : Int)] 5)) := by
  have := src_new_at w H hH [UInt8.ofNat n]
  have e1 : bc [UInt8.ofNat n] = [.int .u8 (n : Int)] := by
    have : (UInt8.ofNat n).toNat = n := by simp; omega
    simp [bc, this]
  rw [e1] at this ⊢
  exact this

set_option maxHeartbeats 1000000 in
theorem label_any (v : Value) (l : List UInt8) (s : ByteArray) (B : Nat) (w : World) (h : w.ownsRow B 5 1 v l.length (bc l)) (hB : B ≤ w.heap.size) (hl : l.length ≤ 100) (h0 : 1 ≤ s.size) (h1 : s.size ≤ 20) :
    Calls Try.prog 47 #[v, .string s] w fun e w' => ∃ v', e = .returned v' ∧ w'.ownsRow B 5 1 v' (l ++ lab s.data.toList).length (bc (l ++ lab s.data.toList)) ∧ Below B w w' := by
  obtain ⟨r, hr⟩ : ∃ r, r = s.data.toList := ⟨_, rfl⟩
  have hrl : r.length = s.size := by rw [hr]; simp
  have hq : IntKind.u8.wrap ((s.size : Nat) : Int) = (s.size : Int) := by rw [IntKind.wrap_u8]; omega
  have hs2 := fun w => src_string w s
  rw [← hr] at hs2 ⊢
  have HL : Hid (r.length = s.size) := hrl
  clear hr hrl
  have hss : s.size < 256 := by omega
  go_enter Try.func47, Try.ntmps47
  go_wp2_with (at_builtin; refine append_bytes _ rfl (.tmp 5) (.tmp 9) 29 rfl B v l rfl (h.alloc _) _ [UInt8.ofNat s.size] rfl (src_one w _ s.size rfl hss) (Nat.le_refl _) (show l.length + 1 ≤ _ by omega) (show B ≤ (w.alloc _).heap.size by simp; omega) ?_)
  intro v1 w1 l1 HL1 hown1 hg1 hb1
  have hb1' : Below B w w1 := ((Below.refl B w).alloc hB _).trans hb1
  have hr0 : 0 < r.length := by rw [HL.out]; omega
  have hr1 : l1.length + r.length ≤ 140737488355328 := by rw [HL1.out, List.length_append, HL.out]; simp; omega
  have hBs := Nat.le_trans hB hb1'.size
  go_wp2_with (at_builtin; refine append_bytes _ rfl (.tmp 11) (.tmp 12) 9 rfl B v1 l1 rfl hown1 _ r rfl (hs2 _) hr0 hr1 hBs ?_)
  intro v2 w2 l2 HL2 hown2 hg2 hb2
  go_wp2
  go_ret
  refine ⟨v2, rfl, ?_, hb1'.trans hb2⟩
  have e : l ++ lab r = l2 := by simp [lab, HL.out, HL1.out, HL2.out]
  rw [e]
  exact hown2

set_option maxHeartbeats 1000000 in
theorem wire_any (s : ByteArray) (w : World) (h1 : s.size ≤ 20) :
    Calls Try.prog 45 #[.string s] w fun e w' => ∃ v', e = .returned v' ∧ w'.ownsRow w.heap.size 5 1 v' (wire s.data.toList).length (bc (wire s.data.toList)) ∧ Below w.heap.size w w' := by
  by_cases h : s.size = 0
  · have hs : s = ⟨#[]⟩ := by
      cases s with
      | mk d =>
        have : d.size = 0 := h
        rw [Array.eq_empty_of_size_eq_zero this]
    subst hs
    clear h h1
    go_enter Try.func45, Try.ntmps45
    go_wp2
    go_ret
    refine ⟨_, rfl, ?_, (Below.refl _ _).alloc (Nat.le_refl _) _⟩
    exact ⟨rfl, .inr ⟨w.heap.size, 1, _, rfl, Nat.le_refl _, heap_alloc_new w _, Nat.le_refl _, by decide, rfl, rfl⟩⟩
  · have hne : ¬ s = ⟨#[]⟩ := fun e => h (by rw [e]; rfl)
    have hx := label_any (.slice none 0 0) [] s w.heap.size w (World.ownsRow_nil _ _ _ _) (Nat.le_refl _) (by simp) (by omega) h1
    rw [List.nil_append] at hx
    have hwl : wire s.data.toList = lab s.data.toList ++ [0] := by
      unfold wire
      rw [if_neg]
      intro e
      have := congrArg List.length e
      rw [List.length_nil] at this
      exact h (by simpa using this)
    rw [hwl]
    have hem : s.toList.isEmpty = false := by
      rw [ByteArray.toList_eq]
      cases hd : s.data.toList with
      | nil =>
        have := congrArg List.length hd
        rw [List.length_nil] at this
        exact absurd (by simpa using this) h
      | cons _ _ => rfl
    have hll : (lab s.data.toList).length = s.size + 1 := by simp [lab]
    obtain ⟨l, hl⟩ : ∃ l, l = lab s.data.toList := ⟨_, rfl⟩
    rw [← hl] at hx hll ⊢
    clear hl hwl
    go_enter Try.func45, Try.ntmps45
    go_wp2_with fail
    refine hx.mono ?_
    rintro e w1 ⟨v1, rfl, ho, hb⟩
    have hz := src_one w1 _ 0 rfl (by decide)
    have hl2 : l.length + 1 ≤ 140737488355328 := by omega
    have hsz := hb.size
    go_wp2_with (at_builtin; refine append_bytes _ rfl (.tmp 7) (.tmp 8) 29 rfl w.heap.size v1 l rfl (ho.alloc _) _ [UInt8.ofNat 0] rfl hz (Nat.le_refl _) hl2 (show w.heap.size ≤ (w1.alloc _).heap.size by simp; omega) ?_)
    intro v2 w2 l2 HL2 hown2 hg2 hb2
    go_wp2
    go_ret
    refine ⟨v2, rfl, ?_, (hb.alloc hsz _).trans hb2⟩
    rw [HL2.out] at hown2
    exact hown2

/-- a block with room: cells of a tag d, as many as cap, the first of them the bytes l -/
def roomIs (w : World) (g : Nat) (d : TypeId) (cap : Nat) (l : List UInt8) : Prop :=
  ∃ cur : Array Value, w.heap[g]? = some (.cells cur d (0, 0)) ∧ cur.size = cap ∧ cur.toList.take l.length = bc l

theorem roomIs.cell {w : World} {g : Nat} {d : TypeId} {cap : Nat} {l : List UInt8} (h : roomIs w g d cap l) (j : Nat) (hj : j < l.length) : w.cell? ⟨g, j, none⟩ = some (.int .u8 ((l.getD j 0).toNat : Int)) := by
  obtain ⟨cur, h1, h2, h3⟩ := h
  rw [cell_of_row w g j cur d (0, 0) h1]
  have h4 : (cur.toList.take l.length)[j]? = (bc l)[j]? := by rw [h3]
  rw [List.getElem?_take_of_lt hj] at h4
  simp only [Array.getElem?_toList] at h4
  rw [h4]
  simp [bc, hj, List.getD]
theorem roomIs.kept {w w' : World} {g : Nat} {d : TypeId} {cap : Nat} {l : List UInt8} (h : roomIs w g d cap l) (hk : w'.heap[g]? = w.heap[g]?) : roomIs w' g d cap l := by
  obtain ⟨cur, h1, h2⟩ := h
  exact ⟨cur, hk.trans h1, h2⟩
theorem roomIs.lt {w : World} {g : Nat} {d : TypeId} {cap : Nat} {l : List UInt8} (h : roomIs w g d cap l) : g < w.heap.size := by
  obtain ⟨cur, h1, h2⟩ := h
  exact (Array.getElem?_eq_some_iff.1 h1).1

/-- append where there is room -/
theorem append_room (w : World) {ops : Array Oper} {rest : List Oper} {o : Oper} {a : Act} {Q : Exit → Act → World → Prop} (hgd : o.guard = none) (s x : Operand) (tx : TypeId)
    (ho : o.op = .call { callee := .builtin .append, args := #[s, x], argTypes := #[29, tx] })
    (g : Nat) (d : TypeId) (cap n : Nat) (l : List UInt8) (hv : a.eval s = .slice (some ⟨g, 0, none⟩) n cap) (hn : n = l.length) (hrow : roomIs w g d cap l) (xv : Value) (r : List UInt8) (hx : a.eval x = xv) (hs : Src Try.prog 1 tx xv r.length (bc r) w)
    (hroom : l.length + r.length ≤ cap)
    (h : ∀ w' l', Hid (l' = l ++ r) → roomIs w' g d cap l' → w.grownBy w' (some g) → wpList Try.prog ops Q rest (a.put o.dst (.slice (some ⟨g, 0, none⟩) l'.length cap)) w') : wpList Try.prog ops Q (o :: rest) a w := by
  obtain ⟨i0, hi, hz0, hz1, hz2⟩ := info_parts Try.info5
  refine wpList_plain hgd fun K hK => ?_
  obtain ⟨cur, h1, h2, h3⟩ := hrow
  subst hn
  have hs' : Src Try.prog i0.size tx xv r.length (bc r) w := by rw [hz1]; exact hs
  have hfit : l.length * i0.size + (bc r).length ≤ cur.size := by rw [hz1, bc_length]; omega
  have hr := run_append_room_tag (P := Try.prog) w 29 tx o.type 5 d i0 Try.underlying29 hi g l.length cap cur h1 xv r.length (bc r) hs' hroom hfit
  rw [hz1, Nat.mul_one] at hr
  unfold Oper.wp execOp
  simp only [ho, resolve, invoke, builtin, Sem.run_bind, Sem.run_pure, Result.andThen_ok, List.map_toArray, List.map_cons, List.map_nil, hv, hx, hr]
  have := h (w.setRow g (cur.toList.take l.length ++ bc r ++ cur.toList.drop (l.length + (bc r).length)).toArray) (l ++ r) rfl ?_ ⟨rfl, rfl, rfl, by simp, fun k _ hk => setRow_other w g k _ (fun e => hk (by rw [e]))⟩
  · rw [List.length_append] at this
    exact hK _ _ this
  · refine ⟨_, setRow_heap w g cur _ d _ h1, ?_, ?_⟩
    · simp only [List.size_toArray, List.length_append, List.length_take, List.length_drop, Array.length_toList, bc_length]
      omega
    · rw [h3, bc_append]
      show List.take (l ++ r).length (bc l ++ bc r ++ _) = _
      rw [show (l ++ r).length = (bc l ++ bc r).length by simp [bc_length]]
      exact List.take_left

theorem Src.of_grown {w w' : World} {row : Option Nat} (_h : w.grownBy w' row) : True := trivial

set_option maxHeartbeats 1000000 in
theorem appendFold_any (s : ByteArray) (g : Nat) (d : TypeId) (cap : Nat) (w : World) (h : roomIs w g d cap []) (hs : s.size ≤ cap) (hc : cap ≤ 1048576) :
    Calls Try.prog 48 #[.string s, .slice (some ⟨g, 0, none⟩) 0 cap] w fun e w' => e = .returned (.slice (some ⟨g, 0, none⟩) s.size cap) ∧ roomIs w' g d cap (fold s.data.toList) ∧ w.grownBy w' (some g) := by
  have hgl := h.lt
  go_enter Try.func48, Try.ntmps48
  go_wp2
  go_loopw [1, 5] (fun v i wx => ∃ k : Nat, k ≤ s.size ∧ i = .int .i64 k ∧ v = .slice (some ⟨g, 0, none⟩) k cap ∧ (∃ l, Hid (l = fold (s.data.toList.take k)) ∧ l.length = k ∧ roomIs wx g d cap l) ∧ w.grownBy wx (some g)) (fun _ i _ => s.size - (intOf i).toNat)
  case atStart => exact ⟨0, Nat.zero_le _, rfl, rfl, ⟨[], rfl, rfl, h⟩, World.grownBy.refl _ _⟩
  case round =>
    obtain ⟨k, hk, rfl, rfl, ⟨l, Hl, hll, hrow⟩, hgr⟩ := hrel
    by_cases hlt : k < s.size
    · have hlt' : (k : Int) < (s.size : Int) := by omega
      have hat := str_at s k hlt
      obtain ⟨b, hb⟩ : ∃ b, s.data.toList.getD k 0 = b := ⟨_, rfl⟩
      rw [hb] at hat
      have Hb : Hid (s.data.toList.getD k 0 = b) := hb
      clear hb
      have hlow := (low b).toNat_lt
      have hso := src_one wr _ (low b).toNat rfl hlow
      have hrm : l.length + 1 ≤ cap := by omega
      have hrow1 := hrow.kept (w' := wr.alloc (.cells #[.int .u8 ((low b).toNat : Int)] 5)) (Below.heap_alloc _ _ _ hrow.lt)
      go_wp2_with fail
      refine (low61 b _).mono ?_
      rintro e w1 ⟨rfl, rfl⟩
      go_wp2_with (at_builtin; refine append_room _ rfl (.tmp 12) (.tmp 17) 29 rfl g d cap k l rfl hll.symm hrow1 _ [UInt8.ofNat (low b).toNat] rfl hso hrm ?_)
      intro w2 l2 Hl2 hrow2 hgr2
      have hll2 : l2.length = k + 1 := by rw [Hl2.out]; simp; exact hll
      have hgr3 : w.grownBy w2 (some g) := (hgr.trans (World.grownBy_alloc _ _ _)).trans hgr2
      clear hgr hgr2 hrow hrow1 hso hll
      go_wp2
      go_roundw
      case rel =>
        refine ⟨k + 1, by omega, by go_num, by rw [hll2], ⟨l2, ?_, hll2, hrow2⟩, hgr3⟩
        show l2 = _
        rw [Hl2.out, Hl.out]
        have h2 : k < s.data.toList.length := by simpa using hlt
        have h3 : s.data.toList.getD k 0 = s.data.toList[k] := by rw [List.getD_eq_getElem?_getD, List.getElem?_eq_getElem h2]; rfl
        rw [List.take_succ_eq_append_getElem h2, ← h3, Hb.out]
        simp [fold]
      case measure => simp [intOf]; omega
    · obtain rfl : k = s.size := by omega
      have e : s.data.toList.take s.size = s.data.toList := List.take_of_length_le (by simp)
      rw [Hl.out, e] at hrow
      go_wp2
      go_ret
      exact ⟨rfl, hrow, hgr⟩
end Go.Proofs.Qxb6003450a
