import Derived.Test.Qxb6003450aWalkD
namespace Go.Proofs.Qxb6003450a
open Go.RowKit

structure Good (T G : Nat → ByteArray) (i : Nat) : Prop where
  t0 : 1 ≤ (T i).size
  t1 : (T i).size ≤ 20
  g1 : (G i).size ≤ 20
  ns : fold (T i).data.toList ≠ [42]
  ap : ∀ j, j < i → fold (T j).data.toList ≠ fold (T i).data.toList

structure Fits (o q1 q2 : ByteArray) (nc nn ng : Nat) (T G : Nat → ByteArray) : Prop where
  o1 : o.size ≤ 20
  c1 : nc ≤ 8
  n1 : nn = nc
  g1 : ng = nc
  q10 : 1 ≤ q1.size
  q11 : q1.size ≤ 20
  q20 : 1 ≤ q2.size
  q21 : q2.size ≤ 20
  all : ∀ i, i < nc → Good T G i

def FitsAns (o q1 q2 : ByteArray) (nc nn ng : Nat) (T G : Nat → ByteArray) (e : Ending) : Prop := ∃ b, e = .returned (.bool b) ∧ (b = true → Fits o q1 q2 nc nn ng T G)
theorem FitsAns.no {o q1 q2 : ByteArray} {nc nn ng : Nat} {T G : Nat → ByteArray} : FitsAns o q1 q2 nc nn ng T G (.returned (.bool false)) := ⟨false, rfl, fun h => by cases h⟩
theorem FitsAns.yes {o q1 q2 : ByteArray} {nc nn ng : Nat} {T G : Nat → ByteArray} (h : Fits o q1 q2 nc nn ng T G) : FitsAns o q1 q2 nc nn ng T G (.returned (.bool true)) := ⟨true, rfl, fun _ => h⟩

theorem things {w : World} {a : Option Addr} {n : Nat} {S : Nat → Value} (h : ThingsAt w a n S) {k : Nat} (hk : k < n) : ∃ g off : Nat, a = some ⟨g, off, none⟩ ∧ g < w.heap.size ∧ ∀ i, i < n → w.cell? ⟨g, off + i, none⟩ = some (S i) := by
  rcases h.2 with h | h
  · omega
  · exact h

set_option maxHeartbeats 2000000 in
theorem fits_any (o q1 q2 : ByteArray) (a b c : Option Addr) (nc cc nn cn ng cg : Nat) (T G : Nat → ByteArray) (w : World)
    (hT : ThingsAt w a nc (fun i => .string (T i))) (hG : ThingsAt w c ng (fun i => .string (G i)))
    (ho : o.size ≤ 9223372036854775807) (h1 : q1.size ≤ 9223372036854775807) (h2 : q2.size ≤ 9223372036854775807) (hc : nc ≤ 9223372036854775807) (hn : nn ≤ 9223372036854775807) (hg : ng ≤ 9223372036854775807)
    (hTs : ∀ i, i < nc → (T i).size ≤ 9223372036854775807) (hGs : ∀ i, i < ng → (G i).size ≤ 9223372036854775807) :
    Calls Try.prog 10 #[.string o, .slice a nc cc, .slice b nn cn, .slice c ng cg, .string q1, .string q2] w fun e w' => FitsAns o q1 q2 nc nn ng T G e ∧ Below w.heap.size w w' := by
  by_cases hA : (20 : Int) < (o.size : Int)
  · go_enter Try.func10, Try.ntmps10
    go_wp2
    go_ret
    exact ⟨.no, Below.refl _ _⟩
  by_cases hB : (8 : Int) < (nc : Int)
  · go_enter Try.func10, Try.ntmps10
    go_wp2
    go_ret
    exact ⟨.no, Below.refl _ _⟩
  by_cases hC : nn = nc
  case neg =>
    have hC' : ¬ (nn : Int) = (nc : Int) := by omega
    go_enter Try.func10, Try.ntmps10
    go_wp2
    go_ret
    exact ⟨.no, Below.refl _ _⟩
  by_cases hD : ng = nc
  case neg =>
    subst hC
    have hD' : ¬ (ng : Int) = (nn : Int) := by omega
    go_enter Try.func10, Try.ntmps10
    go_wp2
    go_ret
    exact ⟨.no, Below.refl _ _⟩
  subst hC
  subst hD
  by_cases hE : (q1.size : Int) < 1
  · go_enter Try.func10, Try.ntmps10
    go_wp2
    go_ret
    exact ⟨.no, Below.refl _ _⟩
  by_cases hF : (20 : Int) < (q1.size : Int)
  · go_enter Try.func10, Try.ntmps10
    go_wp2
    go_ret
    exact ⟨.no, Below.refl _ _⟩
  by_cases hH : (q2.size : Int) < 1
  · go_enter Try.func10, Try.ntmps10
    go_wp2
    go_ret
    exact ⟨.no, Below.refl _ _⟩
  by_cases hI : (20 : Int) < (q2.size : Int)
  · go_enter Try.func10, Try.ntmps10
    go_wp2
    go_ret
    exact ⟨.no, Below.refl _ _⟩
  go_enter Try.func10, Try.ntmps10
  go_wp2
  go_loopw [13] (fun i wx => ∃ k : Nat, k ≤ ng ∧ i = .int .i64 k ∧ Hid (∀ i, i < k → Good T G i) ∧ Below w.heap.size w wx) (fun i _ => ng - (intOf i).toNat)
  case atStart => exact ⟨0, Nat.zero_le _, rfl, fun i hi => absurd hi (by omega), Below.refl _ _⟩
  case round =>
    obtain ⟨k, hk, rfl, HK, hbx⟩ := hrel
    by_cases hlt : k < ng
    · have hlt' : (k : Int) < (ng : Int) := by omega
      obtain ⟨g, off, hx, hbl, hcc⟩ := things hT hlt
      obtain ⟨g2, off2, hx2, hbl2, hcc2⟩ := things hG hlt
      subst hx hx2
      have c0 := (hbx.cell (p := ⟨g, off + k, none⟩) hbl).trans (hcc k hlt)
      have c1 := (hbx.cell (p := ⟨g2, off2 + k, none⟩) hbl2).trans (hcc2 k hlt)
      have hts := hTs k hlt
      have hgs := hGs k hlt
      by_cases hL : ((T k).size : Int) < 1
      · clear hcc hcc2 hT hG hTs hGs
        go_wp2
        go_ret
        exact ⟨.no, hbx⟩
      by_cases hM : (20 : Int) < ((T k).size : Int)
      · clear hcc hcc2 hT hG hTs hGs
        go_wp2
        go_ret
        exact ⟨.no, hbx⟩
      by_cases hN : (20 : Int) < ((G k).size : Int)
      · clear hcc hcc2 hT hG hTs hGs
        go_wp2
        go_ret
        exact ⟨.no, hbx⟩
      have HC : Hid (∀ i, i < ng → w.cell? ⟨g, off + i, none⟩ = some (.string (T i))) := hcc
      clear hcc hcc2 hT hG hTs hGs
      go_wp2_with fail
      refine (fold_any (T k) _ (by omega)).mono ?_
      rintro e w1 ⟨rfl, hb1⟩
      have hb1' : Below w.heap.size w w1 := hbx.trans (hb1.mono hbx.size)
      obtain ⟨F, hF⟩ : ∃ F, F = fold (T k).data.toList := ⟨_, rfl⟩
      rw [← hF]
      have HF : Hid (F = fold (T k).data.toList) := hF
      clear hF
      by_cases hS : F = [42]
      · subst hS
        go_wp2
        go_ret
        exact ⟨.no, hb1'⟩
      · have hS' : (F == [42]) = false := by simpa using hS
        have HS : Hid (¬ F = [42]) := hS
        clear hS hb1 hbx c0 c1 hts hgs
        go_wp2
        obtain ⟨wd, rfl⟩ : ∃ wd, wd = wr := ⟨_, rfl⟩
        go_loopw [15] (fun i wx => ∃ m : Nat, m ≤ k ∧ i = .int .i64 m ∧ Hid (∀ j, j < m → fold (T j).data.toList ≠ F) ∧ Below w.heap.size w wx) (fun i _ => k - (intOf i).toNat)
        case atStart => exact ⟨0, Nat.zero_le _, rfl, fun i hi => absurd hi (by omega), hb1'⟩
        case round =>
          clear hb1'
          obtain ⟨m, hm, rfl, HM, hbm⟩ := hrel
          by_cases hmk : m < k
          · have hmk' : (m : Int) < (k : Int) := by omega
            have hmn : (m : Int) < (ng : Int) := by omega
            have c0 := (hbm.cell (p := ⟨g, off + m, none⟩) hbl).trans (HC.out m (by omega))
            have htm := (HK.out m hmk).t1
            go_wp2_with fail
            refine (fold_any (T m) _ (by omega)).mono ?_
            rintro e w2 ⟨rfl, hb2⟩
            have hb2' : Below w.heap.size w w2 := hbm.trans (hb2.mono hbm.size)
            obtain ⟨F2, hF2⟩ : ∃ F2, F2 = fold (T m).data.toList := ⟨_, rfl⟩
            rw [← hF2]
            have HF2 : Hid (F2 = fold (T m).data.toList) := hF2
            clear hF2 hb2 hbm c0
            by_cases hS2 : F2 = F
            · subst hS2
              go_wp2
              go_ret
              exact ⟨.no, hb2'⟩
            · have hS2' : (F2 == F) = false := by simpa using hS2
              have HS2 : Hid (¬ F2 = F) := hS2
              clear hS2
              go_wp2
              go_roundw
              case rel =>
                refine ⟨m + 1, by omega, by go_num, fun j hj => ?_, hb2'⟩
                rcases Nat.lt_or_ge j m with h | h
                · exact HM.out j h
                · obtain rfl : j = m := by omega
                  rw [← HF2.out]
                  exact HS2.out
              case measure => simp [intOf]; omega
          · obtain rfl : m = k := by omega
            go_wp2
            go_roundw
            case rel =>
              refine ⟨m + 1, by omega, by go_num, fun j hj => ?_, hbm⟩
              rcases Nat.lt_or_ge j m with h | h
              · exact HK.out j h
              · obtain rfl : j = m := by omega
                exact ⟨by omega, by omega, by omega, by rw [← HF.out]; exact HS.out, fun i hi => by rw [← HF.out]; exact HM.out i hi⟩
            case measure => simp [intOf]; omega
    · obtain rfl : k = ng := by omega
      clear hT hG hTs hGs
      go_wp2
      go_ret
      exact ⟨.yes ⟨by omega, by omega, rfl, rfl, by omega, by omega, by omega, by omega, HK.out⟩, hbx⟩
end Go.Proofs.Qxb6003450a
