import Derived.Test.Qxb6603811aDoorKit2
namespace Go.Proofs.Qxb6603811aDoor
open Go.RowKit
open Go.Lib (decDigits itoa)

theorem dec_split (m : Nat) : decDigits m = (if m / 10 = 0 then [] else decDigits (m / 10)) ++ [UInt8.ofNat (48 + m % 10)] := by
  by_cases h : m < 10
  · have h1 : m / 10 = 0 := by omega
    have h2 : m % 10 = m := by omega
    rw [Lib.decDigits_one h, if_pos h1, h2]; rfl
  · have h1 : ¬ m / 10 = 0 := by omega
    rw [if_neg h1, decDigits, dif_neg h]

theorem dec_len (u : Nat) (h : u < 18446744073709551616) : (decDigits u).length ≤ 20 := by
  rw [Lib.decDigits_length]
  exact Lib.nDigits_le20 u (by omega)

def revd (rl : List UInt8) (n k j : Nat) : Value := if j < k then .int .u8 ((rl.getD (n - 1 - j) 0).toNat : Int) else .int .u8 0

theorem revd_all (rl : List UInt8) (n : Nat) (hn : n = rl.length) : (List.range n).map (revd rl n n) = Lib.byteCells rl.reverse := by
  subst hn
  apply List.ext_getElem (by simp [Lib.byteCells])
  intro i h1 h2
  have hi : i < rl.length := by simpa using h1
  have h3 : rl.length - 1 - i < rl.length := by omega
  simp [revd, Lib.byteCells, List.getElem_reverse, List.getD, hi, h3]

set_option maxHeartbeats 1000000 in
theorem dig_any (u : Nat) (w : World) (hu : u < 18446744073709551616) :
    Calls Tryd.prog 10 #[.int .u64 u] w fun e w' => ∃ v', e = .returned v' ∧ w'.ownsRow w.heap.size 5 1 v' (decDigits u).length (Lib.byteCells (decDigits u)) ∧ Below w.heap.size w w' := by
  by_cases h0 : u = 0
  · subst h0
    go_enter Tryd.func10, Tryd.ntmps10
    go_wp2
    go_ret
    refine ⟨_, rfl, ?_, (Below.refl _ _).alloc (Nat.le_refl _) _⟩
    have e1 : decDigits 0 = [48] := by rw [Lib.decDigits_one (by omega)]; rfl
    rw [e1]
    exact World.ownsRow_lit w #[.int .u8 48] 1 (Nat.le_refl _) (by decide) rfl
  · have hb0 : ((u : Int) == 0) = false := by rw [beq_eq_false_iff_ne]; omega
    have hdl := dec_len u hu
    go_enter Tryd.func10, Tryd.ntmps10
    go_wp2
    go_loopw [0, 3] (fun m v wr => ∃ (k : Nat) (rl : List UInt8), m = .int .u64 k ∧ k < 18446744073709551616 ∧ Hid (decDigits u = (if k = 0 then [] else decDigits k) ++ rl.reverse) ∧ rl.length ≤ 20 ∧ wr.ownsRow w.heap.size 5 1 v rl.length (Lib.byteCells rl) ∧ Below w.heap.size w wr) (fun m _ _ => (intOf m).toNat)
    case atStart => exact ⟨u, [], rfl, hu, by show _ = _; rw [if_neg h0]; simp, by simp, World.ownsRow_nil _ _ _ _, Below.refl _ _⟩
    case round =>
      obtain ⟨k, rl, rfl, hk, hd, hrl, hown, hb⟩ := hrel
      have hsz := hb.size
      by_cases hk0 : 0 < k
      · have hk1 : (0 : Int) < (k : Int) := by omega
        have hq : IntKind.u64.wrap ((k : Int) / 10) = (k : Int) / 10 := by rw [IntKind.wrap_u64]; omega
        have hlr := congrArg List.length hd.out
        have hlk : (decDigits k).length = (if k / 10 = 0 then [] else decDigits (k / 10)).length + 1 := by conv => lhs; rw [dec_split k]
                                                                                                           simp
        rw [if_neg (by omega), List.length_append, List.length_reverse] at hlr
        have hrl2 : rl.length + 1 ≤ 20 := by omega
        clear hlr hlk
        go_wp2_with (at_builtin; refine append_bytes _ rfl (.tmp 11) (.tmp 16) 22 rfl w.heap.size _ _ rfl (rowOf.owned (hown.alloc _)) _ 1 _ rfl (src_new wr [.int .u8 (48 + (k : Int) % 10)] (by simp [Value.oneCell'])) (by decide) (by rw [bc_length]; omega) (by simp; omega) ?_)
        intro v1 w1 hown1 hb1 _
        have hb1' : Below w.heap.size w w1 := (hb.alloc hsz _).trans hb1
        have hown1' := own_as hown1 (ys := Lib.byteCells (rl ++ [UInt8.ofNat (48 + k % 10)])) (by rw [bc_append, bc_digit _ (by omega)]; simp)
        rw [bc_length] at hown1'
        clear hown hown1 hb1 hb
        go_wp2
        go_roundw
        case rel =>
          refine ⟨k / 10, rl ++ [UInt8.ofNat (48 + k % 10)], by go_num, by omega, ?_, by simp; omega, hown1', hb1'⟩
          show _ = _
          rw [hd.out, if_neg (by omega)]
          conv => lhs; rw [dec_split k]
          simp
        case measure => simp [intOf]; omega
      · obtain rfl : k = 0 := by omega
        have hrev : decDigits u = rl.reverse := by rw [hd.out]; simp
        have hz : ¬ (0 : Int) < ((0 : Nat) : Int) := by omega
        have hlen : 0 < rl.length := by
          have := congrArg List.length hrev
          rw [List.length_reverse, Lib.decDigits_length] at this
          have := Lib.nDigits_pos u
          omega
        obtain ⟨g, cap, rfl, hBg, hglt, hnc, hcm, hcell, _⟩ := owned_cell hown hlen
        obtain ⟨n, hn⟩ : ∃ n, n = rl.length := ⟨_, rfl⟩
        rw [← hn] at hlen hrl hcell hnc hown
        rw [← hn]
        have HN : Hid (n = rl.length) := hn
        have HR : Hid (decDigits u = rl.reverse) := hrev
        have hc2 : ∀ j, j < n → wr.cell? ⟨g, j, none⟩ = some (.int .u8 ((rl.getD j 0).toNat : Int)) := fun j hj => by
          rw [hcell j hj]
          have : j < rl.length := by omega
          simp [Lib.byteCells, List.getD, this]
        have hmk := make_bytes n (by omega)
        clear hcell hn hrev hd hown
        go_wp2
        go_loopw [5] (fun i wx => ∃ k : Nat, k ≤ n ∧ i = .int .i64 k ∧ wx.rowIs wr.heap.size 5 n (revd rl n k) ∧ Below wr.heap.size wr wx) (fun i _ => n - (intOf i).toNat)
        case atStart => exact ⟨0, Nat.zero_le _, rfl, (World.rowIs_made wr _ n 5).congr (fun i _ => by simp [revd]), (Below.refl _ _).alloc (Nat.le_refl _) _⟩
        case round =>
          obtain ⟨k, hk, rfl, hrow, hbx⟩ := hrel
          by_cases hlt : k < n
          · have c0 := (hbx.cell (p := ⟨g, n - 1 - k, none⟩) hglt).trans (hc2 (n - 1 - k) (by omega))
            have c1 := hrow.cell (i := k) hlt
            have f1 := hrow.frozen k
            have hi : ((n : Int) - 1 - (k : Int)).toNat = n - 1 - k := by omega
            clear hc2
            go_wp2
            go_roundw
            case rel =>
              refine ⟨k + 1, by omega, by go_num, ?_, hbx.setCell (Nat.le_refl _) _⟩
              refine (hrow.set k _).congr fun j hj => ?_
              unfold revd
              by_cases e : j = k
              · subst e; simp
              · simp only [if_neg e]
                have : j < k + 1 ↔ j < k := by omega
                simp only [this]
            case measure => simp [intOf]; omega
          · obtain rfl : k = n := by omega
            go_wp2
            go_ret
            refine ⟨_, rfl, ?_, hb.trans (hbx.mono hsz)⟩
            have ho := owns_of_rowIs hrow hsz (by unfold maxLen; omega)
            have he : (List.range k).map (revd rl k k) = Lib.byteCells (decDigits u) := by rw [HR.out]; exact revd_all rl k HN.out
            have h3 := own_as ho he
            rw [bc_length] at h3
            exact h3
end Go.Proofs.Qxb6603811aDoor
