import Derived.Test.Qxb6603811aDoorWalkF
namespace Go.Proofs.Qxb6603811aDoor
open Go.RowKit

/-- what the walk is told of the slice of bytes that came in -/
def IsBytes (w : World) (a : Option Addr) (len cap : Nat) (l : List UInt8) : Prop :=
  len = l.length ∧ len ≤ cap ∧ cap ≤ 9223372036854775807 ∧ (a = none → len = 0) ∧ (0 < len → ∃ b off : Nat, a = some ⟨b, off, none⟩ ∧ b < w.heap.size ∧ ∀ j, j < len → w.cell? ⟨b, off + j, none⟩ = some (.int .u8 ((l.getD j 0).toNat : Int)))

def cpy (l : List UInt8) (k j : Nat) : Value := if j < k then .int .u8 ((l.getD j 0).toNat : Int) else .int .u8 0
theorem cpy_all (l : List UInt8) (n : Nat) (hn : n = l.length) : Lib.byteCells l = (List.range n).map (cpy l n) := by
  subst hn
  apply List.ext_getElem (by simp [Lib.byteCells])
  intro i h1 h2
  have hi : i < l.length := by simpa [Lib.byteCells] using h1
  simp [cpy, Lib.byteCells, List.getD, hi]

set_option maxHeartbeats 1000000 in
theorem clone_any (a : Option Addr) (len cap : Nat) (l : List UInt8) (w : World) (h : IsBytes w a len cap l) (hl : len ≤ 1048576) :
    Calls Tryd.prog 6 #[.slice a len cap] w fun e w' => ∃ v', e = .returned v' ∧ fullRow w' v' (Lib.byteCells l) ∧ Below w.heap.size w w' := by
  obtain ⟨hn, hlc, hcm, h0, hc⟩ := h
  have heq := fun wx => Lib.run_eql_slice_nil (P := Tryd.prog) wx 22 5 a len cap 0 0 Tryd.underlying22
  cases a with
  | none =>
    have hz := h0 rfl
    subst hz
    have hl0 : l = [] := List.eq_nil_of_length_eq_zero hn.symm
    subst hl0
    clear hn h0 hc hlc hcm hl
    go_enter Tryd.func6, Tryd.ntmps6
    go_wp2
    go_ret
    exact ⟨_, rfl, full_nil _, Below.refl _ _⟩
  | some x =>
    have hmk := make_bytes len (by omega)
    have HN : Hid (len = l.length) := hn
    clear hn h0
    go_enter Tryd.func6, Tryd.ntmps6
    go_wp2
    go_loopw [4] (fun i wx => ∃ k : Nat, k ≤ len ∧ i = .int .i64 k ∧ wx.rowIs w.heap.size 5 len (cpy l k) ∧ Below w.heap.size w wx) (fun i _ => len - (intOf i).toNat)
    case atStart => exact ⟨0, Nat.zero_le _, rfl, (World.rowIs_made w _ len 5).congr (fun i _ => by simp [cpy]), (Below.refl _ _).alloc (Nat.le_refl _) _⟩
    case round =>
      obtain ⟨k, hk, rfl, hrow, hbx⟩ := hrel
      by_cases hlt : k < len
      · obtain ⟨b, off, hx, hbl, hcc⟩ := hc (by omega)
        cases hx
        have c0 := (hbx.cell (p := ⟨b, off + k, none⟩) hbl).trans (hcc k hlt)
        have c1 := hrow.cell (i := k) hlt
        have f1 := hrow.frozen k
        clear hc hcc
        go_wp2
        go_roundw
        case rel =>
          refine ⟨k + 1, by omega, by go_num, ?_, hbx.setCell (Nat.le_refl _) _⟩
          refine (hrow.set k _).congr fun j hj => ?_
          unfold cpy
          by_cases e : j = k
          · subst e; simp
          · simp only [if_neg e]
            have : j < k + 1 ↔ j < k := by omega
            simp only [this]
        case measure => simp [intOf]; omega
      · obtain rfl : k = len := by omega
        go_wp2
        go_ret
        exact ⟨_, rfl, full_of_rowIs hrow (cpy_all l k HN.out), hbx⟩

set_option maxHeartbeats 400000 in
theorem bytes_any (a : Option Addr) (len cap : Nat) (x y : Value) (w : World) (hl : len ≤ 9223372036854775807) :
    Calls Tryd.prog 5 #[.slice a len cap, x, y] w fun e w' => e = .returned (.bool (decide (len ≤ 1048576))) ∧ w' = w := by
  by_cases h : len ≤ 1048576
  · go_enter Tryd.func5, Tryd.ntmps5
    go_wp2
    go_ret
    exact ⟨ret_bool (decide_eq_true h).symm, rfl⟩
  · go_enter Tryd.func5, Tryd.ntmps5
    go_wp2
    go_ret
    exact ⟨ret_bool (decide_eq_false h).symm, rfl⟩

theorem tile_short (i : Nat) (wd : Int) (_h : i < 18446744073709551616) (h1 : -9223372036854775808 ≤ wd) (h2 : wd ≤ 9223372036854775807) : (tile i wd).length ≤ 1000 := by
  have hl := Lib.itoa_length_le wd h1 h2
  have hg := grp_length 7 i
  have hw := wrt_length (grp 7 i) 0
  unfold wrt at hw
  rw [if_pos rfl] at hw
  unfold tile part
  rw [List.length_append]
  split
  · simp; omega
  · simp; omega
theorem tile_pos (i : Nat) (wd : Int) : 0 < (tile i wd).length := by
  unfold tile
  rw [grp, nm]
  simp
  omega

set_option maxHeartbeats 1000000 in
theorem spec_any (a : Option Addr) (len cap : Nat) (l : List UInt8) (idx : Nat) (width : Int) (w : World) (h : IsBytes w a len cap l) (hidx : idx < 18446744073709551616) (hw0 : -9223372036854775808 ≤ width) (hw1 : width ≤ 9223372036854775807)
    (htab : Lib.TabIs Tryd.prog w "internal/strconv.uint64pow10" .u64 Lib.pow10Tab) :
    Calls Tryd.prog 3 #[.slice a len cap, .int .u64 idx, .int .i64 width] w fun e w' => e = .returned (.bool true) ∧ Below w.heap.size w w' := by
  have hlc := h.2.1
  have hcm := h.2.2.1
  by_cases hl : len ≤ 1048576
  · have hb0 : decide (len ≤ 1048576) = true := decide_eq_true hl
    have hl' : ¬ (1048576 : Int) < (len : Int) := by omega
    go_enter Tryd.func3, Tryd.ntmps3
    go_wp2_with fail
    refine (bytes_any a len cap _ _ _ (by omega)).mono ?_
    rintro e w0 ⟨rfl, rfl⟩
    rw [hb0]
    go_wp2_with fail
    refine (clone_any a len cap l _ h hl).mono ?_
    rintro e w1 ⟨v1, rfl, hf, hb1⟩
    go_wp2_with fail
    refine (model_any idx width _ hidx hw0 hw1).mono ?_
    rintro e w2 ⟨v2, rfl, ho2, hb2⟩
    have hb2' : Below w0.heap.size w0 w2 := hb1.trans (hb2.mono hb1.size)
    have htl : (tile idx width).length ≤ 1000 := tile_short idx width hidx hw0 hw1
    have htp := tile_pos idx width
    obtain ⟨t, ht⟩ : ∃ t, t = tile idx width := ⟨_, rfl⟩
    rw [← ht] at ho2 htl htp
    have HT : Hid (t = tile idx width) := ht
    have hln : l.length = len := h.1.symm
    obtain ⟨g2, c2, hv2, hB2, hg2, _⟩ := owned_cell ho2 htp
    obtain ⟨m, hm⟩ : ∃ m, m = t.length := ⟨_, rfl⟩
    rw [← hm] at ho2 htl htp hv2
    have HM : Hid (m = t.length) := hm
    subst hv2
    -- the clone, in the world behind the model
    have hf2 : fullRow w2 v1 (Lib.byteCells l) := by
      obtain ⟨a1, e1, e2, e3⟩ := hf
      exact ⟨a1, e1, e2, fun x hx j u hu => (hb2.cell (World.block_lt_of_cell? w1 _ (e3 x hx j u hu))).trans (e3 x hx j u hu)⟩
    have hv1 : ∃ a1, v1 = .slice a1 len len := by
      obtain ⟨a1, e1, _⟩ := hf
      rw [bc_length, hln] at e1
      exact ⟨a1, e1⟩
    obtain ⟨a1, hv1⟩ := hv1
    subst hv1
    clear hf hm ht
    have hmk := make_room ((len : Int) + (m : Int)) (len + m) (by omega) (by omega)
    have hro := owns_room w2 (len + m) (by omega)
    have hs2 := hb2'.size
    have hb3 : Below w2.heap.size w2 (w2.alloc (.cells (madeCells #[.int .u8 0] (len + m)) 5)) := (Below.refl _ _).alloc (Nat.le_refl _) _
    have hsrc : Src Tryd.prog 1 22 (.slice a1 len len) len (Lib.byteCells l) (w2.alloc (.cells (madeCells #[.int .u8 0] (len + m)) 5)) := by
      have := src_full (w := w2.alloc (.cells (madeCells #[.int .u8 0] (len + m)) 5)) (v := .slice a1 len len) (l := l) (by
        obtain ⟨a2, e1, e2, e3⟩ := hf2
        exact ⟨a2, e1, e2, fun x hx j u hu => (hb3.cell (World.block_lt_of_cell? w2 _ (e3 x hx j u hu))).trans (e3 x hx j u hu)⟩)
      rw [hln] at this
      exact this
    have HLN : Hid (l.length = len) := hln
    clear hln hb2
    go_wp2_with (at_builtin; refine append_room _ rfl (.tmp 29) (.tmp 30) 22 rfl w2.heap.size w2.heap.size (len + m) [] rfl hro _ len _ rfl hsrc (by simp) ?_)
    intro w3 hown3 hb4 _
    have hb4' : Below w2.heap.size w2 w3 := hb3.trans hb4
    have hs3 := hb4'.size
    have ho3 := owned_kept ho2 (w' := w3) (fun k hk => hb4'.block k (by cases hk; exact hg2))
    have hown3' := own_as hown3 (ys := Lib.byteCells l) (by simp)
    clear hro hsrc hmk hown3 hb3 hb4 ho2
    go_wp2_with (at_builtin; refine append_bytes _ rfl (.tmp 32) (.tmp 33) 22 rfl w2.heap.size _ _ rfl (rowOf.owned hown3') _ m _ rfl (src_owned ho3) htp (by rw [bc_length, HLN.out]; omega) (by omega) ?_)
    intro v4 w4 hown4 hb5 _
    have hb5' : Below w2.heap.size w2 w4 := hb4'.trans hb5
    have hs4 := hb5'.size
    have h4 := own_as hown4 (ys := Lib.byteCells (l ++ t)) (by rw [bc_append])
    have hf4 : fullRow w4 (.slice a1 len len) (Lib.byteCells l) := by
      obtain ⟨a2, e1, e2, e3⟩ := hf2
      exact ⟨a2, e1, e2, fun x hx j u hu => (hb5'.cell (World.block_lt_of_cell? w2 _ (e3 x hx j u hu))).trans (e3 x hx j u hu)⟩
    have hb5'' : Below w0.heap.size w0 w4 := hb2'.trans (hb5'.mono hs2)
    have htab4 := Lib.tabBelow_of_tabIs htab w4 hb5''
    clear hown4 hb5 ho3 hown3' hf2
    go_wp2_with fail
    refine (zzatn_any idx width _ _ _ hidx hw0 hw1 hf4 (by rw [bc_length, HLN.out]; omega) htab4).mono ?_
    rintro e w5 ⟨v5, rfl, ho5, hb6⟩
    have r4 : Reads w5 v4 (l ++ t) := (Reads.of_owned h4).below hb6
    have r5 : Reads w5 v5 (l ++ t) := by
      rw [HT.out]
      exact Reads.of_owned (own_as ho5 (ys := Lib.byteCells (l ++ tile idx width)) (by rw [bc_append]))
    have hbl : (l ++ t).length ≤ 9223372036854775807 := by rw [List.length_append, HLN.out, ← HM.out]; omega
    have hb7 : Below w0.heap.size w0 w5 := hb5''.trans (hb6.mono hb5''.size)
    clear h4 ho5 htab4 hf4
    go_wp2_with fail
    refine (eq_any v5 v4 (l ++ t) (l ++ t) _ r5 r4 hbl hbl).mono ?_
    rintro e w6 ⟨rfl, q, rfl⟩
    go_wp2
    go_ret
    exact ⟨ret_bool (by simp), below_drewN hb7 q⟩
  · have hb0 : decide (len ≤ 1048576) = false := decide_eq_false hl
    go_enter Tryd.func3, Tryd.ntmps3
    go_wp2_with fail
    refine (bytes_any a len cap _ _ _ (by omega)).mono ?_
    rintro e w' ⟨rfl, rfl⟩
    rw [hb0]
    go_wp2
    go_ret
    exact ⟨rfl, Below.refl _ _⟩
end Go.Proofs.Qxb6603811aDoor
