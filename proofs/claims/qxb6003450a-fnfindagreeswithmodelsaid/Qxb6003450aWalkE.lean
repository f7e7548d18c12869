import Derived.Test.Qxb6003450aWalkD
namespace Go.Proofs.Qxb6003450a
open Go.RowKit

def AnyBool (e : Ending) : Prop := ∃ r, e = .returned (.bool r)
theorem AnyBool.mk (b : Bool) : AnyBool (.returned (.bool b)) := ⟨b, rfl⟩

set_option maxHeartbeats 2000000 in
theorem bytes_any (o q1 q2 : ByteArray) (a b c : Option Addr) (nc cc nn cn ng cg : Nat) (T G : Nat → ByteArray) (x y z : Value) (w : World)
    (hT : ThingsAt w a nc (fun i => .string (T i))) (hG : ThingsAt w c ng (fun i => .string (G i)))
    (ho : o.size ≤ 9223372036854775807) (h1 : q1.size ≤ 9223372036854775807) (h2 : q2.size ≤ 9223372036854775807) (hc : nc ≤ 9223372036854775807) (hn : nn ≤ 9223372036854775807) (hg : ng ≤ 9223372036854775807)
    (hTs : ∀ i, i < nc → (T i).size ≤ 9223372036854775807) (hGs : ∀ i, i < ng → (G i).size ≤ 9223372036854775807) :
    Calls Try.prog 9 #[.string o, .slice a nc cc, .slice b nn cn, .slice c ng cg, x, .string q1, .string q2, y, z] w fun e w' => AnyBool e ∧ w' = w := by
  by_cases hA : (1048576 : Int) < (o.size : Int)
  · go_enter Try.func9, Try.ntmps9
    go_wp2
    go_ret
    exact ⟨AnyBool.mk _, rfl⟩
  by_cases hB : (1048576 : Int) < (nc : Int)
  · go_enter Try.func9, Try.ntmps9
    go_wp2
    go_ret
    exact ⟨AnyBool.mk _, rfl⟩
  by_cases hC : (1048576 : Int) < (o.size : Int) + (nc : Int)
  · go_enter Try.func9, Try.ntmps9
    go_wp2
    go_ret
    exact ⟨AnyBool.mk _, rfl⟩
  go_enter Try.func9, Try.ntmps9
  go_wp2
  go_loop [19, 20] (fun v i => ∃ k s : Nat, k ≤ nc ∧ i = .int .i64 k ∧ v = .int .i64 s ∧ s ≤ 1048576) (fun _ i => nc - (intOf i).toNat)
  case atStart => exact ⟨0, o.size + nc, Nat.zero_le _, rfl, by go_num, by omega⟩
  case round =>
    obtain ⟨k, s, hk, rfl, rfl, hs⟩ := hrel
    have hs' : ¬ (1048576 : Int) < (s : Int) := by omega
    by_cases hlt : k < nc
    · have hlt' : (k : Int) < (nc : Int) := by omega
      obtain ⟨g, off, hx, hbl, hcc⟩ : ∃ g off : Nat, a = some ⟨g, off, none⟩ ∧ g < w.heap.size ∧ ∀ i, i < nc → w.cell? ⟨g, off + i, none⟩ = some (.string (T i)) := by
        rcases hT.2 with h | h
        · omega
        · exact h
      subst hx
      have c0 := hcc k hlt
      have hts := hTs k hlt
      by_cases hD : (1048576 : Int) < ((T k).size : Int)
      · clear hcc hT hG hTs hGs
        go_wp2
        go_ret
        exact ⟨AnyBool.mk _, rfl⟩
      by_cases hE : (1048576 : Int) < (s : Int) + ((T k).size : Int)
      · clear hcc hT hG hTs hGs
        go_wp2
        go_ret
        exact ⟨AnyBool.mk _, rfl⟩
      · clear hcc hT hG hTs hGs
        go_wp2
        go_round
        case rel => exact ⟨k + 1, s + (T k).size, by omega, by go_num, by go_num, by omega⟩
        case measure => simp [intOf]; omega
    · obtain rfl : k = nc := by omega
      by_cases hF : (1048576 : Int) < (nn : Int)
      · go_wp2
        go_ret
        exact ⟨AnyBool.mk _, rfl⟩
      by_cases hH : (1048576 : Int) < (s : Int) + (nn : Int)
      · go_wp2
        go_ret
        exact ⟨AnyBool.mk _, rfl⟩
      by_cases hI : (1048576 : Int) < (ng : Int)
      · go_wp2
        go_ret
        exact ⟨AnyBool.mk _, rfl⟩
      by_cases hJ : (1048576 : Int) < (s : Int) + (nn : Int) + (ng : Int)
      · go_wp2
        go_ret
        exact ⟨AnyBool.mk _, rfl⟩
      go_wp2
      go_loop [19, 21] (fun v i => ∃ k s : Nat, k ≤ ng ∧ i = .int .i64 k ∧ v = .int .i64 s ∧ s ≤ 1048576) (fun _ i => ng - (intOf i).toNat)
      case atStart => exact ⟨0, s + nn + ng, Nat.zero_le _, rfl, by go_num, by omega⟩
      case round =>
        clear hs' hs hH hJ
        obtain ⟨m, t, hm, rfl, rfl, ht⟩ := hrel
        have ht' : ¬ (1048576 : Int) < (t : Int) := by omega
        by_cases hlt2 : m < ng
        · have hlt2' : (m : Int) < (ng : Int) := by omega
          obtain ⟨g, off, hx, hbl, hcc⟩ : ∃ g off : Nat, c = some ⟨g, off, none⟩ ∧ g < w.heap.size ∧ ∀ i, i < ng → w.cell? ⟨g, off + i, none⟩ = some (.string (G i)) := by
            rcases hG.2 with h | h
            · omega
            · exact h
          subst hx
          have c0 := hcc m hlt2
          have hts := hGs m hlt2
          by_cases hD : (1048576 : Int) < ((G m).size : Int)
          · clear hcc hT hG hTs hGs
            go_wp2
            go_ret
            exact ⟨AnyBool.mk _, rfl⟩
          by_cases hE : (1048576 : Int) < (t : Int) + ((G m).size : Int)
          · clear hcc hT hG hTs hGs
            go_wp2
            go_ret
            exact ⟨AnyBool.mk _, rfl⟩
          · clear hcc hT hG hTs hGs
            go_wp2
            go_round
            case rel => exact ⟨m + 1, t + (G m).size, by omega, by go_num, by go_num, by omega⟩
            case measure => simp [intOf]; omega
        · obtain rfl : m = ng := by omega
          by_cases hK : (1048576 : Int) < (q1.size : Int)
          · go_wp2
            go_ret
            exact ⟨AnyBool.mk _, rfl⟩
          by_cases hL : (1048576 : Int) < (t : Int) + (q1.size : Int)
          · go_wp2
            go_ret
            exact ⟨AnyBool.mk _, rfl⟩
          by_cases hM : (1048576 : Int) < (q2.size : Int)
          · go_wp2
            go_ret
            exact ⟨AnyBool.mk _, rfl⟩
          by_cases hN : (1048576 : Int) < (t : Int) + (q1.size : Int) + (q2.size : Int)
          · go_wp2
            go_ret
            exact ⟨AnyBool.mk _, rfl⟩
          go_wp2
          go_ret
          exact ⟨AnyBool.mk _, rfl⟩
end Go.Proofs.Qxb6003450a
