import Derived.Test.Qxb6003450aExpect
namespace Go.Proofs.Qxb6003450a
open Go.RowKit

theorem exp_wild {star : Bool} {G : Nat → List UInt8} {ns : Nat → Bool} {cn gn : Nat → Int} {sn : Int} {f1 f2 : List UInt8} {i : Nat} (h1 : ns i = false) (h2 : 0 ≤ gn i) (h3 : ¬ G i = f2) (h4 : G i = [42]) :
    expect2 star G ns cn gn sn f1 f2 (some i) = ⟨false, true, gn i, -1⟩ := by
  show (if ns i = true then _ else if 0 ≤ gn i ∧ G i = f2 then _ else if 0 ≤ gn i ∧ G i = [42] then _ else _) = _
  rw [if_neg (by simp [h1]), if_neg (fun h => h3 h.2), if_pos ⟨h2, h4⟩]

theorem exp_none {star : Bool} {G : Nat → List UInt8} {ns : Nat → Bool} {cn gn : Nat → Int} {sn : Int} {f1 f2 : List UInt8} {i : Nat} (h1 : ns i = false) (h2 : ¬ 0 ≤ gn i) :
    expect2 star G ns cn gn sn f1 f2 (some i) = ⟨false, false, -1, -1⟩ := by
  show (if ns i = true then _ else if 0 ≤ gn i ∧ G i = f2 then _ else if 0 ≤ gn i ∧ G i = [42] then _ else _) = _
  rw [if_neg (by simp [h1]), if_neg (fun h => h2 h.1), if_neg (fun h => h2 h.1)]

set_option maxRecDepth 20000 in
set_option maxHeartbeats 4000000 in
theorem expect_2 (fb : Nat) (ov mv rv sv : Value) (cb gb nb hb n : Nat) (C G : Nat → List UInt8) (cn gn : Nat → Int) (sn : Int) (star : Bool) (a : Option Addr) (cap : Nat) (ns : Nat → Bool) (q1 q2 : ByteArray) (d : Nat) (w : World) (hd : (d : Int) % 3 = 2)
    (hR : Rws w fb ov mv rv sv cb gb nb hb n C G cn gn sn) (hns : ThingsAt w a n (fun i => .bool (ns i))) (hn : n ≤ 8) (h1 : q1.size ≤ 20) (h2 : q2.size ≤ 20) :
    Calls Try.prog 18 #[.pointer (some ⟨fb, 0, none⟩), .bool star, .slice a n cap, .string q1, .string q2, .int .u8 (d : Int)] w fun r w' => r = .returned (Exp.val (expect2 star G ns cn gn sn (fold q1.data.toList) (fold q2.data.toList) (lastIx C (fold q1.data.toList) n))) ∧ Below w.heap.size w w' := by
  obtain ⟨F, hF⟩ : ∃ F, F = fold q1.data.toList := ⟨_, rfl⟩
  obtain ⟨F2, hF2⟩ : ∃ F2, F2 = fold q2.data.toList := ⟨_, rfl⟩
  have hfo := fun w => fold_any q1 w (by omega)
  have hfo2 := fun w => fold_any q2 w (by omega)
  simp only [← hF] at hfo ⊢
  simp only [← hF2] at hfo2 ⊢
  have HF2 : Hid (∀ w, Calls Try.prog 29 #[.string q2] w fun e w' => e = .returned (.string ⟨F2.toArray⟩) ∧ Below w.heap.size w w') := hfo2
  clear hF hF2 hfo2
  go_enter Try.func18, Try.ntmps18
  go_wp2_with fail
  refine (hfo _).mono ?_
  rintro e w1 ⟨rfl, hb1⟩
  have hba : Below w.heap.size w ((w.alloc (.cells #[.bool false, .bool false, .int .i64 0, .int .i64 0] 48)).alloc (.cells #[.bool false, .bool false, .int .i64 (-1), .int .i64 (-1)] 48)) := ((Below.refl _ _).alloc (Nat.le_refl _) _).alloc (by simp) _
  have hb2 : Below w.heap.size w w1 := hba.trans (hb1.mono hba.size)
  have z0 : w.heap.size < ((w.alloc (.cells #[.bool false, .bool false, .int .i64 0, .int .i64 0] 48)).alloc (.cells #[.bool false, .bool false, .int .i64 (-1), .int .i64 (-1)] 48)).heap.size := by simp; omega
  have r0 : w1.cell? ⟨w.heap.size, 0, none⟩ = some (.bool false) := (hb1.cell (p := ⟨w.heap.size, 0, none⟩) z0).trans (by simp [go_sem])
  have r1 : w1.cell? ⟨w.heap.size, 1, none⟩ = some (.bool false) := (hb1.cell (p := ⟨w.heap.size, 1, none⟩) z0).trans (by simp [go_sem])
  have r2 : w1.cell? ⟨w.heap.size, 2, none⟩ = some (.int .i64 0) := (hb1.cell (p := ⟨w.heap.size, 2, none⟩) z0).trans (by simp [go_sem])
  have r3 : w1.cell? ⟨w.heap.size, 3, none⟩ = some (.int .i64 0) := (hb1.cell (p := ⟨w.heap.size, 3, none⟩) z0).trans (by simp [go_sem])
  have e0 : w1.cell? ⟨w.heap.size + 1, 0, none⟩ = some (.bool false) := (hb1.cell (p := ⟨w.heap.size + 1, 0, none⟩) (by simp)).trans (by simp [go_sem])
  have e1 : w1.cell? ⟨w.heap.size + 1, 1, none⟩ = some (.bool false) := (hb1.cell (p := ⟨w.heap.size + 1, 1, none⟩) (by simp)).trans (by simp [go_sem])
  have e2 : w1.cell? ⟨w.heap.size + 1, 2, none⟩ = some (.int .i64 (-1)) := (hb1.cell (p := ⟨w.heap.size + 1, 2, none⟩) (by simp)).trans (by simp [go_sem])
  have e3 : w1.cell? ⟨w.heap.size + 1, 3, none⟩ = some (.int .i64 (-1)) := (hb1.cell (p := ⟨w.heap.size + 1, 3, none⟩) (by simp)).trans (by simp [go_sem])
  have u0 : ∀ i, w1.frozen? ⟨w.heap.size, i, none⟩ = false := fun i => (hb1.frozen (p := ⟨w.heap.size, i, none⟩) z0).trans (by simp [go_sem])
  have u1 : ∀ i, w1.frozen? ⟨w.heap.size + 1, i, none⟩ = false := fun i => (hb1.frozen (p := ⟨w.heap.size + 1, i, none⟩) (by simp)).trans (by simp [go_sem])
  have hR1 := hR.below hb2
  have v4 := hR1.fr.cell (i := 4) (by decide)
  have v5 := hR1.fr.cell (i := 5) (by decide)
  have v6 := hR1.fr.cell (i := 6) (by decide)
  have v7 := hR1.fr.cell (i := 7) (by decide)
  have v8 := hR1.fr.cell (i := 8) (by decide)
  simp only [zf] at v4 v5 v6 v7 v8
  have HR : Hid (Rws w1 fb ov mv rv sv cb gb nb hb n C G cn gn sn) := hR1
  have HNS : Hid (n = 0 ∨ ∃ g off : Nat, a = some ⟨g, off, none⟩ ∧ g < w.heap.size ∧ ∀ i, i < n → w.cell? ⟨g, off + i, none⟩ = some (.bool (ns i))) := hns.2
  have HBL : Hid ((nb < w.heap.size ∧ fb < w.heap.size) ∧ gb < w.heap.size ∧ hb < w.heap.size) := ⟨⟨hR.nn.lt, hR.fr.lt⟩, hR.g.lt, hR.hh.lt⟩
  have hs2 : w.heap.size + 2 ≤ w1.heap.size := by have := hb1.size; simp at this; omega
  clear hR hns hR1 hba hb1 z0
  go_wp2
  go_loop [16, 17] (fun c i => ∃ k : Nat, k ≤ n ∧ i = .int .i64 (k : Int) ∧ c = .int .i64 (ciI (lastIx C F k))) (fun _ i => n - (intOf i).toNat)
  case atStart => exact ⟨0, Nat.zero_le _, rfl, rfl⟩
  case round =>
    obtain ⟨k, hk, rfl, rfl⟩ := hrel
    by_cases hlt : k < n
    · have hlt' : (k : Int) < (n : Int) := by omega
      have c0 := HR.out.c.cell hlt
      by_cases hE : C k = F
      · have hE' : (C k == F) = true := by simpa using hE
        have hl : lastIx C F (k + 1) = some k := by unfold lastIx; rw [if_pos hE]
        have HL : Hid (lastIx C F (k + 1) = some k) := hl
        clear hE hl
        go_wp2
        go_round
        case rel => exact ⟨k + 1, by omega, by go_num, by rw [HL.out]; rfl⟩
        case measure => simp [intOf]; omega
      · have hE' : (C k == F) = false := by simpa using hE
        have hl : lastIx C F (k + 1) = lastIx C F k := by rw [lastIx, if_neg hE]
        have HL : Hid (lastIx C F (k + 1) = lastIx C F k) := hl
        clear hE hl
        go_wp2
        go_round
        case rel => exact ⟨k + 1, by omega, by go_num, by rw [HL.out]⟩
        case measure => simp [intOf]; omega
    · obtain rfl : k = n := by omega
      clear hlt hk
      cases star
      case' false =>
        go_wp2_with fail
        refine (HF2.out _).mono ?_
        rintro e w3 ⟨rfl, hb3⟩
        have hb4 : Below w.heap.size w w3 := hb2.trans (hb3.mono hb2.size)
        have z0 : w.heap.size < w1.heap.size := by omega
        have z1 : w.heap.size + 1 < w1.heap.size := by omega
        have r0 := (hb3.cell (p := ⟨w.heap.size, 0, none⟩) z0).trans r0
        have r1 := (hb3.cell (p := ⟨w.heap.size, 1, none⟩) z0).trans r1
        have r2 := (hb3.cell (p := ⟨w.heap.size, 2, none⟩) z0).trans r2
        have r3 := (hb3.cell (p := ⟨w.heap.size, 3, none⟩) z0).trans r3
        have e0 := (hb3.cell (p := ⟨w.heap.size + 1, 0, none⟩) z1).trans e0
        have e1 := (hb3.cell (p := ⟨w.heap.size + 1, 1, none⟩) z1).trans e1
        have e2 := (hb3.cell (p := ⟨w.heap.size + 1, 2, none⟩) z1).trans e2
        have e3 := (hb3.cell (p := ⟨w.heap.size + 1, 3, none⟩) z1).trans e3
        have u0 : ∀ i, w3.frozen? ⟨w.heap.size, i, none⟩ = false := fun i => (hb3.frozen (p := ⟨w.heap.size, i, none⟩) z0).trans (u0 i)
        have u1 : ∀ i, w3.frozen? ⟨w.heap.size + 1, i, none⟩ = false := fun i => (hb3.frozen (p := ⟨w.heap.size + 1, i, none⟩) z1).trans (u1 i)
        have hR3 := HR.out.below hb3
        have v5 := hR3.fr.cell (i := 5) (by decide)
        have v6 := hR3.fr.cell (i := 6) (by decide)
        have v7 := hR3.fr.cell (i := 7) (by decide)
        have v8 := hR3.fr.cell (i := 8) (by decide)
        simp only [zf] at v5 v6 v7 v8
        have HR3 : Hid (Rws w3 fb ov mv rv sv cb gb nb hb k C G cn gn sn) := hR3
        clear HR hR3 hb3
        cases hci : lastIx C F k with
        | none =>
          have hm1 : ciI none = -1 := rfl
          go_wp2
          refine bodyPost_ret (v := Exp.val ⟨false, false, -1, -1⟩) (by simp [results, Try.results18, go_sem, *, Exp.val]) rfl ⟨by (try rw [hci]); rfl, ?_⟩
          repeat' first
            | with_reducible exact hb4
            | with_reducible refine below_set ?_ ?_
            | exact Nat.le_refl _
            | exact Nat.le_succ _
        | some i =>
          obtain ⟨hik, hCi⟩ := lastIx_lt hci
          have hm1 : ciI (some i) = (i : Int) := rfl
          have hik' : (i : Int) < (k : Int) := by omega
          have n0 := HR3.out.nn.cell hik
          have g0 := HR3.out.g.cell hik
          have j0 := HR3.out.hh.cell hik
          obtain ⟨g, off, hx, hgl, hcc⟩ : ∃ g off : Nat, a = some ⟨g, off, none⟩ ∧ g < w.heap.size ∧ ∀ i, i < k → w3.cell? ⟨g, off + i, none⟩ = some (.bool (ns i)) := by
            rcases HNS.out with h | ⟨g, off, h1, h2, h3⟩
            · omega
            · exact ⟨g, off, h1, h2, fun i hi => (hb4.cell (p := ⟨g, off + i, none⟩) h2).trans (h3 i hi)⟩
          subst hx
          have b0 := hcc i hik
          have a1 : ¬ g = w.heap.size + 1 := by omega
          have a2 : ¬ nb = w.heap.size + 1 := by have := HBL.out; omega
          have a3 : ¬ fb = w.heap.size + 1 := by have := HBL.out; omega
          have a4 : ¬ gb = w.heap.size + 1 := by have := HBL.out; omega
          have a5 : ¬ hb = w.heap.size + 1 := by have := HBL.out; omega
          have a6 : ¬ w.heap.size + 1 = g := by omega
          have a7 : ¬ w.heap.size + 1 = nb := by have := HBL.out; omega
          have a8 : ¬ w.heap.size + 1 = fb := by have := HBL.out; omega
          have a9 : ¬ w.heap.size + 1 = gb := by have := HBL.out; omega
          have a10 : ¬ w.heap.size + 1 = hb := by have := HBL.out; omega
          clear hcc hCi
          cases hbn : ns i
          · rw [hbn] at b0
            by_cases hg0 : 0 ≤ gn i
            · by_cases hG : G i = F2
              · have hG' : (G i == F2) = true := by simpa using hG
                have HG : Hid (G i = F2) := hG
                clear hG
                go_wp2
                refine bodyPost_ret (v := Exp.val ⟨true, false, gn i, -1⟩) (by simp [results, Try.results18, go_sem, *, Exp.val]) rfl ⟨by (try rw [hci]); simp [expect2, hbn, hg0, HG.out], ?_⟩
                repeat' first
                  | with_reducible exact hb4
                  | with_reducible refine below_set ?_ ?_
                  | exact Nat.le_refl _
                  | exact Nat.le_succ _
              · have hG' : (G i == F2) = false := by simpa using hG
                have HG : Hid (¬ G i = F2) := hG
                clear hG
                by_cases hS2 : G i = [42]
                · have hS2' : (G i == [42]) = true := by simpa using hS2
                  have HS2 : Hid (G i = [42]) := hS2
                  clear hS2
                  go_wp2
                  refine bodyPost_ret (v := Exp.val ⟨false, true, gn i, -1⟩) (by simp [results, Try.results18, go_sem, *, Exp.val]) rfl ⟨by (try rw [hci]); exact congrArg (fun e => Ending.returned (Exp.val e)) (exp_wild hbn hg0 HG.out HS2.out).symm, ?_⟩
                  repeat' first
                    | with_reducible exact hb4
                    | with_reducible refine below_set ?_ ?_
                    | exact Nat.le_refl _
                    | exact Nat.le_succ _
                · have hS2' : (G i == [42]) = false := by simpa using hS2
                  have HS2 : Hid (¬ G i = [42]) := hS2
                  clear hS2
                  go_wp2
                  refine bodyPost_ret (v := Exp.val ⟨false, false, -1, -1⟩) (by simp [results, Try.results18, go_sem, *, Exp.val]) rfl ⟨by (try rw [hci]); simp [expect2, hbn, HG.out, HS2.out], ?_⟩
                  repeat' first
                    | with_reducible exact hb4
                    | with_reducible refine below_set ?_ ?_
                    | exact Nat.le_refl _
                    | exact Nat.le_succ _
            · have HG0 : Hid (¬ (0 : Int) ≤ gn i) := hg0
              go_wp2
              refine bodyPost_ret (v := Exp.val ⟨false, false, -1, -1⟩) (by simp [results, Try.results18, go_sem, *, Exp.val]) rfl ⟨by (try rw [hci]); exact congrArg (fun e => Ending.returned (Exp.val e)) (exp_none hbn (by have := HG0.out; omega)).symm, ?_⟩
              repeat' first
                | with_reducible exact hb4
                | with_reducible refine below_set ?_ ?_
                | exact Nat.le_refl _
                | exact Nat.le_succ _
          · rw [hbn] at b0
            go_wp2
            refine bodyPost_ret (v := Exp.val ⟨false, false, -1, cn i⟩) (by simp [results, Try.results18, go_sem, *, Exp.val]) rfl ⟨by (try rw [hci]); simp [expect2, hbn], ?_⟩
            repeat' first
              | with_reducible exact hb4
              | with_reducible refine below_set ?_ ?_
              | exact Nat.le_refl _
              | exact Nat.le_succ _
      case' true =>
        go_wp2_with fail
        refine (HF2.out _).mono ?_
        rintro e w3 ⟨rfl, hb3⟩
        have hb4 : Below w.heap.size w w3 := hb2.trans (hb3.mono hb2.size)
        have z0 : w.heap.size < w1.heap.size := by omega
        have z1 : w.heap.size + 1 < w1.heap.size := by omega
        have r0 := (hb3.cell (p := ⟨w.heap.size, 0, none⟩) z0).trans r0
        have r1 := (hb3.cell (p := ⟨w.heap.size, 1, none⟩) z0).trans r1
        have r2 := (hb3.cell (p := ⟨w.heap.size, 2, none⟩) z0).trans r2
        have r3 := (hb3.cell (p := ⟨w.heap.size, 3, none⟩) z0).trans r3
        have e0 := (hb3.cell (p := ⟨w.heap.size + 1, 0, none⟩) z1).trans e0
        have e1 := (hb3.cell (p := ⟨w.heap.size + 1, 1, none⟩) z1).trans e1
        have e2 := (hb3.cell (p := ⟨w.heap.size + 1, 2, none⟩) z1).trans e2
        have e3 := (hb3.cell (p := ⟨w.heap.size + 1, 3, none⟩) z1).trans e3
        have u0 : ∀ i, w3.frozen? ⟨w.heap.size, i, none⟩ = false := fun i => (hb3.frozen (p := ⟨w.heap.size, i, none⟩) z0).trans (u0 i)
        have u1 : ∀ i, w3.frozen? ⟨w.heap.size + 1, i, none⟩ = false := fun i => (hb3.frozen (p := ⟨w.heap.size + 1, i, none⟩) z1).trans (u1 i)
        have hR3 := HR.out.below hb3
        have v5 := hR3.fr.cell (i := 5) (by decide)
        have v6 := hR3.fr.cell (i := 6) (by decide)
        have v7 := hR3.fr.cell (i := 7) (by decide)
        have v8 := hR3.fr.cell (i := 8) (by decide)
        simp only [zf] at v5 v6 v7 v8
        have HR3 : Hid (Rws w3 fb ov mv rv sv cb gb nb hb k C G cn gn sn) := hR3
        clear HR hR3 hb3
        cases hci : lastIx C F k with
        | none =>
          have hm1 : ciI none = -1 := rfl
          by_cases hS : F = [42]
          · have hS' : (F == [42]) = true := by simpa using hS
            have HS : Hid (F = [42]) := hS
            clear hS
            go_wp2
            refine bodyPost_ret (v := Exp.val ⟨false, false, -1, -1⟩) (by simp [results, Try.results18, go_sem, *, Exp.val]) rfl ⟨by (try rw [hci]); simp [expect2, HS.out], ?_⟩
            repeat' first
              | with_reducible exact hb4
              | with_reducible refine below_set ?_ ?_
              | exact Nat.le_refl _
              | exact Nat.le_succ _
          · have hS' : (F == [42]) = false := by simpa using hS
            have HS : Hid (¬ F = [42]) := hS
            clear hS
            go_wp2
            refine bodyPost_ret (v := Exp.val ⟨false, true, sn, -1⟩) (by simp [results, Try.results18, go_sem, *, Exp.val]) rfl ⟨by (try rw [hci]); simp [expect2, HS.out], ?_⟩
            repeat' first
              | with_reducible exact hb4
              | with_reducible refine below_set ?_ ?_
              | exact Nat.le_refl _
              | exact Nat.le_succ _
        | some i =>
          obtain ⟨hik, hCi⟩ := lastIx_lt hci
          have hm1 : ciI (some i) = (i : Int) := rfl
          have hik' : (i : Int) < (k : Int) := by omega
          have n0 := HR3.out.nn.cell hik
          have g0 := HR3.out.g.cell hik
          have j0 := HR3.out.hh.cell hik
          obtain ⟨g, off, hx, hgl, hcc⟩ : ∃ g off : Nat, a = some ⟨g, off, none⟩ ∧ g < w.heap.size ∧ ∀ i, i < k → w3.cell? ⟨g, off + i, none⟩ = some (.bool (ns i)) := by
            rcases HNS.out with h | ⟨g, off, h1, h2, h3⟩
            · omega
            · exact ⟨g, off, h1, h2, fun i hi => (hb4.cell (p := ⟨g, off + i, none⟩) h2).trans (h3 i hi)⟩
          subst hx
          have b0 := hcc i hik
          have a1 : ¬ g = w.heap.size + 1 := by omega
          have a2 : ¬ nb = w.heap.size + 1 := by have := HBL.out; omega
          have a3 : ¬ fb = w.heap.size + 1 := by have := HBL.out; omega
          have a4 : ¬ gb = w.heap.size + 1 := by have := HBL.out; omega
          have a5 : ¬ hb = w.heap.size + 1 := by have := HBL.out; omega
          have a6 : ¬ w.heap.size + 1 = g := by omega
          have a7 : ¬ w.heap.size + 1 = nb := by have := HBL.out; omega
          have a8 : ¬ w.heap.size + 1 = fb := by have := HBL.out; omega
          have a9 : ¬ w.heap.size + 1 = gb := by have := HBL.out; omega
          have a10 : ¬ w.heap.size + 1 = hb := by have := HBL.out; omega
          clear hcc hCi
          cases hbn : ns i
          · rw [hbn] at b0
            by_cases hg0 : 0 ≤ gn i
            · by_cases hG : G i = F2
              · have hG' : (G i == F2) = true := by simpa using hG
                have HG : Hid (G i = F2) := hG
                clear hG
                go_wp2
                refine bodyPost_ret (v := Exp.val ⟨true, false, gn i, -1⟩) (by simp [results, Try.results18, go_sem, *, Exp.val]) rfl ⟨by (try rw [hci]); simp [expect2, hbn, hg0, HG.out], ?_⟩
                repeat' first
                  | with_reducible exact hb4
                  | with_reducible refine below_set ?_ ?_
                  | exact Nat.le_refl _
                  | exact Nat.le_succ _
              · have hG' : (G i == F2) = false := by simpa using hG
                have HG : Hid (¬ G i = F2) := hG
                clear hG
                by_cases hS2 : G i = [42]
                · have hS2' : (G i == [42]) = true := by simpa using hS2
                  have HS2 : Hid (G i = [42]) := hS2
                  clear hS2
                  go_wp2
                  refine bodyPost_ret (v := Exp.val ⟨false, true, gn i, -1⟩) (by simp [results, Try.results18, go_sem, *, Exp.val]) rfl ⟨by (try rw [hci]); exact congrArg (fun e => Ending.returned (Exp.val e)) (exp_wild hbn hg0 HG.out HS2.out).symm, ?_⟩
                  repeat' first
                    | with_reducible exact hb4
                    | with_reducible refine below_set ?_ ?_
                    | exact Nat.le_refl _
                    | exact Nat.le_succ _
                · have hS2' : (G i == [42]) = false := by simpa using hS2
                  have HS2 : Hid (¬ G i = [42]) := hS2
                  clear hS2
                  go_wp2
                  refine bodyPost_ret (v := Exp.val ⟨false, false, -1, -1⟩) (by simp [results, Try.results18, go_sem, *, Exp.val]) rfl ⟨by (try rw [hci]); simp [expect2, hbn, HG.out, HS2.out], ?_⟩
                  repeat' first
                    | with_reducible exact hb4
                    | with_reducible refine below_set ?_ ?_
                    | exact Nat.le_refl _
                    | exact Nat.le_succ _
            · have HG0 : Hid (¬ (0 : Int) ≤ gn i) := hg0
              go_wp2
              refine bodyPost_ret (v := Exp.val ⟨false, false, -1, -1⟩) (by simp [results, Try.results18, go_sem, *, Exp.val]) rfl ⟨by (try rw [hci]); exact congrArg (fun e => Ending.returned (Exp.val e)) (exp_none hbn (by have := HG0.out; omega)).symm, ?_⟩
              repeat' first
                | with_reducible exact hb4
                | with_reducible refine below_set ?_ ?_
                | exact Nat.le_refl _
                | exact Nat.le_succ _
          · rw [hbn] at b0
            go_wp2
            refine bodyPost_ret (v := Exp.val ⟨false, false, -1, cn i⟩) (by simp [results, Try.results18, go_sem, *, Exp.val]) rfl ⟨by (try rw [hci]); simp [expect2, hbn], ?_⟩
            repeat' first
              | with_reducible exact hb4
              | with_reducible refine below_set ?_ ?_
              | exact Nat.le_refl _
              | exact Nat.le_succ _
end Go.Proofs.Qxb6003450a
