import Derived.Test.Qxb6603811aDoorWalkE
namespace Go.Proofs.Qxb6603811aDoor
open Go.RowKit
open Go.Lib (decDigits itoa)

def lenV : Value → Nat | .slice _ n _ => n | _ => 0

theorem padz_cons (l : List UInt8) (h : l.length % 3 ≠ 0) : padz (48 :: l) = padz l := by
  unfold padz
  have h2 : l.length % 3 = 1 ∨ l.length % 3 = 2 := by omega
  rcases h2 with h2 | h2
  · have : (48 :: l).length % 3 = 2 := by simp; omega
    rw [this, h2]; rfl
  · have : (48 :: l).length % 3 = 0 := by simp; omega
    rw [this, h2]; rfl
theorem padz_done (l : List UInt8) (h : l.length % 3 = 0) : padz l = l := by
  unfold padz
  rw [h]; rfl

/-- what has been written when the first 'k' digits are -/
def ndP (l : List UInt8) (k : Nat) : List UInt8 := if k = l.length then nd l else ndX (l.take k)

theorem take3 (l : List UInt8) (k : Nat) (h : k + 3 ≤ l.length) : l.take (k + 3) = l.take k ++ [l.getD k 0, l.getD (k + 1) 0, l.getD (k + 2) 0] := by
  have e3 : l.take (k + 3) = l.take (k + 2) ++ [l.getD (k + 2) 0] := by rw [show k + 3 = (k + 2) + 1 from rfl, List.take_add_one]; simp [List.getD, show k + 2 < l.length by omega]
  have e2 : l.take (k + 2) = l.take (k + 1) ++ [l.getD (k + 1) 0] := by rw [show k + 2 = (k + 1) + 1 from rfl, List.take_add_one]; simp [List.getD, show k + 1 < l.length by omega]
  have e1 : l.take (k + 1) = l.take k ++ [l.getD k 0] := by rw [List.take_add_one]; simp [List.getD, show k < l.length by omega]
  rw [e3, e2, e1]
  simp
theorem ndP_mid (l : List UInt8) (k : Nat) (hk : k % 3 = 0) (h : k + 3 < l.length) : ndP l (k + 3) = ndP l k ++ [47, 120, l.getD k 0, l.getD (k + 1) 0, l.getD (k + 2) 0] := by
  unfold ndP
  rw [if_neg (by omega), if_neg (by omega), take3 l k (by omega)]
  exact ndX_snoc (k / 3) _ _ _ _ (by rw [List.length_take]; omega)
theorem ndP_last (l : List UInt8) (k : Nat) (hk : k % 3 = 0) (h : k + 3 = l.length) : ndP l (k + 3) = ndP l k ++ [47, l.getD k 0, l.getD (k + 1) 0, l.getD (k + 2) 0] := by
  unfold ndP
  rw [if_pos h, if_neg (by omega)]
  have e : l = l.take k ++ [l.getD k 0, l.getD (k + 1) 0, l.getD (k + 2) 0] := by
    rw [← take3 l k (by omega), h, List.take_length]
  conv => lhs; rw [e]
  exact nd_snoc (k / 3) _ _ _ _ (by rw [List.length_take]; omega)
theorem ndX_length (l : List UInt8) : (ndX l).length ≤ 2 * l.length := by
  match l with
  | a :: b :: c :: r => have := ndX_length r; simp [ndX]; omega
  | [] => simp [ndX]
  | [_] => simp [ndX]
  | [_, _] => simp [ndX]
theorem nd_length (l : List UInt8) : (nd l).length ≤ 2 * l.length := by
  match l with
  | [a, b, c] => simp [nd]
  | a :: b :: c :: d :: r => have := nd_length (d :: r); simp [nd] at *; omega
  | [] => simp [nd]
  | [_] => simp [nd]
  | [_, _] => simp [nd]
theorem ndP_length (l : List UInt8) (k : Nat) : (ndP l k).length ≤ 2 * l.length := by
  unfold ndP
  split
  · exact nd_length l
  · have h1 := ndX_length (l.take k)
    have h2 : (l.take k).length ≤ l.length := List.length_take_le' _ _
    omega

theorem itoa_pos (v : Int) : 0 < (itoa v).length := by
  unfold itoa
  split
  · simp
  · rw [Lib.decDigits_length]
    have := Lib.nDigits_pos v.toNat
    omega

set_option maxHeartbeats 2000000 in
theorem model_any (idx : Nat) (width : Int) (w : World) (hidx : idx < 18446744073709551616) (hw0 : -9223372036854775808 ≤ width) (hw1 : width ≤ 9223372036854775807) :
    Calls Tryd.prog 7 #[.int .u64 idx, .int .i64 width] w fun e w' => ∃ v', e = .returned v' ∧ w'.ownsRow w.heap.size 5 1 v' (tile idx width).length (Lib.byteCells (tile idx width)) ∧ Below w.heap.size w w' := by
  have hdl := dec_len idx hidx
  have hdp := Lib.nDigits_pos idx
  rw [← Lib.decDigits_length] at hdp
  go_enter Tryd.func7, Tryd.ntmps7
  go_wp2_with fail
  refine (dig_any idx _ hidx).mono ?_
  rintro e w1 ⟨v1, rfl, ho, hb⟩
  go_wp2_with fail
  go_loopw [5] (fun v wr => ∃ l : List UInt8, Hid (padz l = padz (decDigits idx)) ∧ 0 < l.length ∧ l.length + (3 - l.length % 3) % 3 ≤ 21 ∧ wr.ownsRow w.heap.size 5 1 v l.length (Lib.byteCells l) ∧ Below w.heap.size w wr) (fun v _ => (3 - lenV v % 3) % 3)
  case atStart => exact ⟨_, rfl, by omega, by omega, ho, hb⟩
  case round =>
    clear ho hb hdl hdp
    obtain ⟨l, hpd, hlp, hl22, hown, hbw⟩ := hrel
    have hl23 : l.length ≤ 21 := by omega
    obtain ⟨g, cap, hv, hBg, hglt, _, _, hcell, _⟩ := owned_cell hown hlp
    obtain ⟨n, hn⟩ : ∃ n, n = l.length := ⟨_, rfl⟩
    rw [← hn] at hown hl22 hlp hl23 hv hcell
    have HN : Hid (n = l.length) := hn
    clear hn
    subst hv
    have hsz := hbw.size
    by_cases h3 : n % 3 = 0
    · have h3' : ((n : Int) % 3 != 0) = false := by rw [bne_eq_false_iff_eq]; omega
      have hpl : l = padz (decDigits idx) := by rw [← hpd.out, padz_done l (by have := HN.out; omega)]
      have HP : Hid (l = padz (decDigits idx)) := hpl
      have hc2 : ∀ j, j < n → wr.cell? ⟨g, j, none⟩ = some (.int .u8 ((l.getD j 0).toNat : Int)) := fun j hj => by
        rw [hcell j hj]
        have : j < l.length := by have := HN.out; omega
        simp [Lib.byteCells, List.getD, this]
      clear hpl hpd hcell hown
      obtain ⟨wd, rfl⟩ : ∃ wd, wd = wr := ⟨_, rfl⟩
      go_wp2_with fail
      go_loopw [7, 8] (fun v i wx => ∃ k : Nat, k ≤ n ∧ k % 3 = 0 ∧ i = .int .i64 k ∧ wx.ownsRow wd.heap.size 5 1 v (Lib.byteCells (ndP l k)).length (Lib.byteCells (ndP l k)) ∧ Below wd.heap.size wd wx) (fun _ i _ => n - (intOf i).toNat)
      case atStart => exact ⟨0, Nat.zero_le _, rfl, rfl, by rw [show ndP l 0 = [] by unfold ndP; rw [if_neg (by have := HN.out; omega)]; rfl]; exact World.ownsRow_nil _ _ _ _, Below.refl _ _⟩
      case round =>
        obtain ⟨k, hk, hk3, rfl, hov, hbx⟩ := hrel
        have hszx := hbx.size
        have hndl := ndP_length l k
        rw [← HN.out] at hndl
        by_cases hlt : k + 3 ≤ n
        · have hlt' : (k : Int) + 3 ≤ (n : Int) := by omega
          have c0 := hc2 k (by omega)
          have c1 := hc2 (k + 1) (by omega)
          have c2 := hc2 (k + 2) (by omega)
          obtain ⟨a, ha⟩ : ∃ a, a = l.getD k 0 := ⟨_, rfl⟩
          obtain ⟨b, hb'⟩ : ∃ b, b = l.getD (k + 1) 0 := ⟨_, rfl⟩
          obtain ⟨c, hc'⟩ : ∃ c, c = l.getD (k + 2) 0 := ⟨_, rfl⟩
          rw [← ha] at c0
          rw [← hb'] at c1
          rw [← hc'] at c2
          have HA : Hid (a = l.getD k 0 ∧ b = l.getD (k + 1) 0 ∧ c = l.getD (k + 2) 0) := ⟨ha, hb', hc'⟩
          obtain ⟨ys, hys⟩ : ∃ ys, ys = Lib.byteCells (ndP l k) := ⟨_, rfl⟩
          have hyl : ys.length ≤ 2 * n := by rw [hys, bc_length]; exact hndl
          rw [← hys] at hov
          have HY : Hid (ys = Lib.byteCells (ndP l k)) := hys
          clear hc2 ha hb' hc' hys hndl
          go_wp2_with (at_builtin; refine append_bytes _ rfl (.tmp 32) (.tmp 33) 22 rfl wd.heap.size _ _ rfl (rowOf.owned (hov.alloc _)) _ 1 _ rfl (src_new wr [.int .u8 47] (by simp [Value.oneCell'])) (by decide) (by omega) (by simp; omega) ?_)
          intro v1 w1 hown1 hb1 _
          have hb1' : Below wd.heap.size wd w1 := (hbx.alloc hszx _).trans hb1
          have hs1 := hb1'.size
          clear hov
          by_cases hl : k + 3 < n
          · have hl' : (k : Int) + 3 < (n : Int) := by omega
            go_wp2_with (at_builtin; refine append_bytes _ rfl (.tmp 40) (.tmp 41) 22 rfl wd.heap.size _ _ rfl (rowOf.owned (hown1.alloc _)) _ 1 _ rfl (src_new w1 [.int .u8 120] (by simp [Value.oneCell'])) (by decide) (by simp; omega) (by simp; omega) ?_)
            intro v2 w2 hown2 hb2 _
            have hb2' : Below wd.heap.size wd w2 := (hb1'.alloc hs1 _).trans hb2
            have hs2 := hb2'.size
            have d0 := (hb2'.cell (p := ⟨g, k, none⟩) hglt).trans c0
            have d1 := (hb2'.cell (p := ⟨g, k + 1, none⟩) hglt).trans c1
            have d2 := (hb2'.cell (p := ⟨g, k + 2, none⟩) hglt).trans c2
            have hg2 : g < w2.heap.size := Nat.lt_of_lt_of_le hglt hs2
            have i0 : (k : Int) < (n : Int) := by omega
            have i1 : (k : Int) + 1 < (n : Int) := by omega
            have i2 : (k : Int) + 2 < (n : Int) := by omega
            have q1 : IntKind.i64.wrap ((k : Int) + 1) = (k : Int) + 1 := by rw [IntKind.wrap_i64]; omega
            have q2 : IntKind.i64.wrap ((k : Int) + 2) = (k : Int) + 2 := by rw [IntKind.wrap_i64]; omega
            have p1 : (0 : Int) ≤ (k : Int) + 1 := by omega
            have p2 : (0 : Int) ≤ (k : Int) + 2 := by omega
            have t2 : ((k : Int) + 2).toNat = k + 2 := by omega
            have hz := rowOf.owned (own_as hown2 (ys := ys ++ [.int .u8 47, .int .u8 120]) (by simp))
            clear hown1 hb1 hb2 hb1' hs1 hbx hszx c0 c1 c2 hown2
            go_wp2
            go_region_held3 (fun w' => w'.cell? ⟨g, k, none⟩ = some (.int .u8 (a.toNat : Int)) ∧ w'.cell? ⟨g, k + 1, none⟩ = some (.int .u8 (b.toNat : Int)) ∧ w'.cell? ⟨g, k + 2, none⟩ = some (.int .u8 (c.toNat : Int))) (simp [go_sem, *])
              ((refine step_append_bytes (by rfl) (.tmp 43) (.tmp 58) 22 (by rfl) wd.heap.size v2 (ys ++ [.int .u8 47, .int .u8 120]) (by rfl) (by exact hz.alloc _) (.slice (some ⟨w2.heap.size, 0, none⟩) 3 3) 3 [.int .u8 (a.toNat : Int), .int .u8 (b.toNat : Int), .int .u8 (c.toNat : Int)] (by rfl) (by exact (src_new_d w2 [.int .u8 (a.toNat : Int), .int .u8 (b.toNat : Int), .int .u8 (c.toNat : Int)] (by simp [Value.oneCell']))) (by decide) (by simp; omega) (by simp; omega) ?_; intro v3 w3 hown3 hb3; have e0 : w3.cell? ⟨g, k, none⟩ = some (.int .u8 (a.toNat : Int)) := (hb3.cell (p := ⟨g, k, none⟩) hglt).trans (by simp [go_sem, *]); have e1 : w3.cell? ⟨g, k + 1, none⟩ = some (.int .u8 (b.toNat : Int)) := (hb3.cell (p := ⟨g, k + 1, none⟩) hglt).trans (by simp [go_sem, *]); have e2 : w3.cell? ⟨g, k + 2, none⟩ = some (.int .u8 (c.toNat : Int)) := (hb3.cell (p := ⟨g, k + 2, none⟩) hglt).trans (by simp [go_sem, *])))
            have hb3' : Below wd.heap.size wd w3 := ((hb2'.alloc hs2 _).drew).trans hb3
            have h4 := own_as hown3 (ys := Lib.byteCells (ndP l (k + 3))) (by rw [ndP_mid l k hk3 (by have := HN.out; omega), bc_append, ← HY.out, ← HA.out.1, ← HA.out.2.1, ← HA.out.2.2]; simp [Lib.byteCells])
            clear hown3 hz hb3 d0 d1 d2 e0 e1 e2 hb2'
            go_wp2
            go_roundw
            case rel => exact ⟨k + 3, by omega, by omega, by go_num, h4, hb3'⟩
            case measure => simp [intOf]; omega
          · have hl' : ¬ (k : Int) + 3 < (n : Int) := by omega
            have d0 := (hb1'.cell (p := ⟨g, k, none⟩) hglt).trans c0
            have d1 := (hb1'.cell (p := ⟨g, k + 1, none⟩) hglt).trans c1
            have d2 := (hb1'.cell (p := ⟨g, k + 2, none⟩) hglt).trans c2
            have hg1 : g < w1.heap.size := Nat.lt_of_lt_of_le hglt hs1
            have i0 : (k : Int) < (n : Int) := by omega
            have i1 : (k : Int) + 1 < (n : Int) := by omega
            have i2 : (k : Int) + 2 < (n : Int) := by omega
            have q1 : IntKind.i64.wrap ((k : Int) + 1) = (k : Int) + 1 := by rw [IntKind.wrap_i64]; omega
            have q2 : IntKind.i64.wrap ((k : Int) + 2) = (k : Int) + 2 := by rw [IntKind.wrap_i64]; omega
            have p1 : (0 : Int) ≤ (k : Int) + 1 := by omega
            have p2 : (0 : Int) ≤ (k : Int) + 2 := by omega
            have t2 : ((k : Int) + 2).toNat = k + 2 := by omega
            have hz := rowOf.owned (own_as hown1 (ys := ys ++ [.int .u8 47]) (by simp))
            clear hb1 hbx hszx c0 c1 c2 hown1
            go_wp2
            go_region_held3 (fun w' => w'.cell? ⟨g, k, none⟩ = some (.int .u8 (a.toNat : Int)) ∧ w'.cell? ⟨g, k + 1, none⟩ = some (.int .u8 (b.toNat : Int)) ∧ w'.cell? ⟨g, k + 2, none⟩ = some (.int .u8 (c.toNat : Int))) (simp [go_sem, *])
              ((refine step_append_bytes (by rfl) (.tmp 43) (.tmp 58) 22 (by rfl) wd.heap.size v1 (ys ++ [.int .u8 47]) (by rfl) (by exact hz.alloc _) (.slice (some ⟨w1.heap.size, 0, none⟩) 3 3) 3 [.int .u8 (a.toNat : Int), .int .u8 (b.toNat : Int), .int .u8 (c.toNat : Int)] (by rfl) (by exact (src_new_d w1 [.int .u8 (a.toNat : Int), .int .u8 (b.toNat : Int), .int .u8 (c.toNat : Int)] (by simp [Value.oneCell']))) (by decide) (by simp; omega) (by simp; omega) ?_; intro v3 w3 hown3 hb3; have e0 : w3.cell? ⟨g, k, none⟩ = some (.int .u8 (a.toNat : Int)) := (hb3.cell (p := ⟨g, k, none⟩) hglt).trans (by simp [go_sem, *]); have e1 : w3.cell? ⟨g, k + 1, none⟩ = some (.int .u8 (b.toNat : Int)) := (hb3.cell (p := ⟨g, k + 1, none⟩) hglt).trans (by simp [go_sem, *]); have e2 : w3.cell? ⟨g, k + 2, none⟩ = some (.int .u8 (c.toNat : Int)) := (hb3.cell (p := ⟨g, k + 2, none⟩) hglt).trans (by simp [go_sem, *])))
            have hb3' : Below wd.heap.size wd w3 := ((hb1'.alloc hs1 _).drew).trans hb3
            have h4 := own_as hown3 (ys := Lib.byteCells (ndP l (k + 3))) (by rw [ndP_last l k hk3 (by have := HN.out; omega), bc_append, ← HY.out, ← HA.out.1, ← HA.out.2.1, ← HA.out.2.2]; simp [Lib.byteCells])
            clear hown3 hz hb3 d0 d1 d2 e0 e1 e2 hb1'
            go_wp2
            go_roundw
            case rel => exact ⟨k + 3, by omega, by omega, by go_num, h4, hb3'⟩
            case measure => simp [intOf]; omega
        · obtain rfl : k = n := by omega
          have hname : ndP l k = nm (grp 7 idx) := by
            unfold ndP
            rw [if_pos HN.out, HP.out]
            exact model_name idx (by omega)
          rw [hname] at hov hndl
          have hov' := own_as hov rfl
          obtain ⟨ys, hys⟩ : ∃ ys, ys = Lib.byteCells (nm (grp 7 idx)) := ⟨_, rfl⟩
          have hyl : ys.length ≤ 2 * k := by rw [hys, bc_length]; exact hndl
          rw [← hys] at hov'
          have HY : Hid (ys = Lib.byteCells (nm (grp 7 idx))) := hys
          have hlt' : ¬ (k : Int) + 3 ≤ (k : Int) := by omega
          clear hov hndl hname hys hc2
          by_cases hwd : width < 256
          · go_wp2_with (at_builtin; refine append_bytes _ rfl (.tmp 62) (.tmp 63) 22 rfl wd.heap.size _ _ rfl (rowOf.owned (hov'.alloc _)) _ 3 _ rfl (src_new wr [.int .u8 46, .int .u8 112, .int .u8 47] (by simp [Value.oneCell'])) (by decide) (by omega) (by simp; omega) ?_)
            intro v1 w1 hown1 hb1 _
            have hb1' : Below wd.heap.size wd w1 := (hbx.alloc hszx _).trans hb1
            have hs1 := hb1'.size
            have h1 := own_as hown1 (ys := ys ++ [.int .u8 46, .int .u8 112, .int .u8 47]) (by simp)
            clear hown1 hb1 hov' hbx hszx
            go_wp2_with (go_at_call 11; refine (sdig_any width _ hw0 hw1).mono ?_; rintro e w2 ⟨v2, rfl, ho2, hb2⟩; refine Hid.out ?_)
            refine Lib.hid ?_
            have hil := Lib.itoa_length_le width hw0 hw1
            have hip := itoa_pos width
            have h2 := owned_kept h1 (w' := w2) (fun j hj => hb2.block j (h1.lt j hj).2)
            have hb2' : Below wd.heap.size wd w2 := hb1'.trans (hb2.mono hs1)
            have hs2 := hb2'.size
            obtain ⟨li, hli⟩ : ∃ li, li = itoa width := ⟨_, rfl⟩
            rw [← hli] at ho2 hil hip
            have HI : Hid (li = itoa width) := hli
            clear hli h1 hb2 hb1' hs1
            go_wp2_with (at_builtin; refine append_bytes _ rfl (.tmp 65) (.tmp 67) 22 rfl wd.heap.size _ _ rfl (rowOf.owned h2) _ li.length _ rfl (src_owned ho2) hip (by simp; omega) (by omega) ?_)
            intro v3 w3 hown3 hb3 _
            clear ho2 h2
            go_wp2
            go_ret
            refine ⟨v3, rfl, ?_, hbw.trans ((hb2'.trans hb3).mono hsz)⟩
            have h4 := ownsRow_mono (own_as hown3 (ys := Lib.byteCells (tile idx width)) (by rw [HI.out, HY.out]; unfold tile part; rw [if_pos hwd]; simp [Lib.byteCells])) hsz
            rw [bc_length] at h4
            exact h4
          · go_wp2
            go_ret
            refine ⟨_, rfl, ?_, hbw.trans (hbx.mono hsz)⟩
            have h4 := ownsRow_mono (own_as hov' (ys := Lib.byteCells (tile idx width)) (by rw [HY.out]; unfold tile part; rw [if_neg (by omega), List.append_nil])) hsz
            rw [bc_length] at h4
            exact h4
    · have h3' : ((n : Int) % 3 != 0) = true := by rw [bne_iff_ne]; omega
      have HL22 : Hid (n + (3 - n % 3) % 3 ≤ 21) := hl22
      have hmk := make_room ((n : Int) + 1) (n + 1) (by omega) (by omega)
      have hro := owns_room wr (n + 1) (by omega)
      have hb1 : Below wr.heap.size wr (wr.alloc (.cells (madeCells #[.int .u8 0] (n + 1)) 5)) := (Below.refl _ _).alloc (Nat.le_refl _) _
      clear hl22 hcell
      go_wp2_with (at_builtin; refine append_bytes _ rfl (.tmp 19) (.tmp 20) 22 rfl wr.heap.size _ _ rfl (rowOf.owned (hro.alloc _)) _ 1 _ rfl (src_new_at (wr.alloc (.cells (madeCells #[.int .u8 0] (n + 1)) 5)) (wr.heap.size + 1) (by simp) [.int .u8 48] (by simp [Value.oneCell'])) (by decide) (by simp) (by simp; omega) ?_)
      intro v2 w2 hown2 hb2 _
      have hb2' : Below wr.heap.size wr w2 := ((hb1.alloc (by simp) _)).trans hb2
      have ho2 := owned_kept hown (w' := w2) (fun k hk => hb2'.block k (by cases hk; exact hglt))
      have hs2 := hb2'.size
      clear hro hmk hb1 hb2 hown
      go_wp2_with (at_builtin; refine append_bytes _ rfl (.tmp 22) (.tmp 23) 22 rfl wr.heap.size _ _ rfl (rowOf.owned hown2) _ n _ rfl (src_owned ho2) hlp (by simp; omega) (by omega) ?_)
      intro v3 w3 hown3 hb3 _
      have h4 := ownsRow_mono (own_as hown3 (ys := Lib.byteCells (48 :: l)) rfl) hsz
      rw [bc_length] at h4
      have hlenv : lenV v3 = n + 1 := by
        rw [List.length_cons, ← HN.out] at h4
        obtain ⟨g3, c3, rfl, _⟩ := owned_cell h4 (by omega)
        rfl
      clear ho2 hown2 hown3
      go_wp2
      go_roundw
      case rel =>
        have hln := HN.out
        refine ⟨48 :: l, ?_, by simp, ?_, h4, hbw.trans ((hb2'.trans hb3).mono hsz)⟩
        · show _ = _
          rw [padz_cons l (by omega)]
          exact hpd.out
        · have := HL22.out
          simp only [List.length_cons]
          omega
      case measure =>
        show (3 - lenV v3 % 3) % 3 < (3 - n % 3) % 3
        rw [hlenv]
        omega
end Go.Proofs.Qxb6603811aDoor
