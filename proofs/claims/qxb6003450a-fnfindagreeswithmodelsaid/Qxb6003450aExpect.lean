import Derived.Test.Qxb6003450aZone
import Derived.Test.Qxb6003450aWalkD
namespace Go.Proofs.Qxb6003450a
open Go.RowKit

/-- the last of the first k that is f -/
def lastIx (C : Nat → List UInt8) (f : List UInt8) : Nat → Option Nat
  | 0 => none
  | k + 1 => if C k = f then some k else lastIx C f k
theorem lastIx_lt {C : Nat → List UInt8} {f : List UInt8} : ∀ {k i : Nat}, lastIx C f k = some i → i < k ∧ C i = f
  | 0, i, h => by cases h
  | k + 1, i, h => by
    unfold lastIx at h
    split at h
    · cases h
      exact ⟨Nat.lt_succ_self _, by assumption⟩
    · have := lastIx_lt h
      exact ⟨Nat.lt_succ_of_lt this.1, this.2⟩
theorem lastIx_none {C : Nat → List UInt8} {f : List UInt8} : ∀ {k : Nat}, lastIx C f k = none → ∀ i, i < k → C i ≠ f
  | 0, _, i, hi => by omega
  | k + 1, h, i, hi => by
    unfold lastIx at h
    split at h
    · cases h
    · rcases Nat.lt_or_ge i k with h1 | h1
      · exact lastIx_none h i h1
      · obtain rfl : i = k := by omega
        assumption
def ciI : Option Nat → Int
  | none => -1
  | some i => (i : Int)

/-- what the model expects -/
structure Exp where
  ex : Bool
  wd : Bool
  node : Int
  cut : Int
def Exp.val (e : Exp) : Value := .agg #[.bool e.ex, .bool e.wd, .int .i64 e.node, .int .i64 e.cut]
def expect1 (star : Bool) (ns : Nat → Bool) (cn : Nat → Int) (sn : Int) (f1 : List UInt8) : Option Nat → Exp
  | some i => ⟨true, false, cn i, if ns i then cn i else -1⟩
  | none => if star then (if f1 = [42] then ⟨true, false, sn, -1⟩ else ⟨false, true, sn, -1⟩) else ⟨false, false, -1, -1⟩
def expect2 (star : Bool) (G : Nat → List UInt8) (ns : Nat → Bool) (cn gn : Nat → Int) (sn : Int) (f1 f2 : List UInt8) : Option Nat → Exp
  | some i => if ns i then ⟨false, false, -1, cn i⟩ else if 0 ≤ gn i ∧ G i = f2 then ⟨true, false, gn i, -1⟩ else if 0 ≤ gn i ∧ G i = [42] then ⟨false, true, gn i, -1⟩ else ⟨false, false, -1, -1⟩
  | none => if star then (if f1 = [42] then ⟨false, false, -1, -1⟩ else ⟨false, true, sn, -1⟩) else ⟨false, false, -1, -1⟩

/-- the model's rows -/
structure Rws (w : World) (fb : Nat) (ov mv rv sv : Value) (cb gb nb hb n : Nat) (C G : Nat → List UInt8) (cn gn : Nat → Int) (sn : Int) : Prop where
  fr : w.rowIs fb 35 9 (zf ov mv rv sv (.slice (some ⟨cb, 0, none⟩) n n) (.slice (some ⟨gb, 0, none⟩) n n) (.slice (some ⟨nb, 0, none⟩) n n) (.slice (some ⟨hb, 0, none⟩) n n) sn)
  c : w.rowIs cb 9 n (fun i => .string ⟨(C i).toArray⟩)
  g : w.rowIs gb 9 n (fun i => .string ⟨(G i).toArray⟩)
  nn : w.rowIs nb 3 n (fun i => .int .i64 (cn i))
  hh : w.rowIs hb 3 n (fun i => .int .i64 (gn i))
theorem Rws.below {w w' : World} {fb : Nat} {ov mv rv sv : Value} {cb gb nb hb n : Nat} {C G : Nat → List UInt8} {cn gn : Nat → Int} {sn : Int} (h : Rws w fb ov mv rv sv cb gb nb hb n C G cn gn sn) (b : Below w.heap.size w w') : Rws w' fb ov mv rv sv cb gb nb hb n C G cn gn sn :=
  ⟨h.fr.of_block (b.block _ h.fr.lt), h.c.of_block (b.block _ h.c.lt), h.g.of_block (b.block _ h.g.lt), h.nn.of_block (b.block _ h.nn.lt), h.hh.of_block (b.block _ h.hh.lt)⟩

set_option maxRecDepth 20000 in
set_option maxHeartbeats 1000000 in
theorem expect_0 (fb : Nat) (star : Bool) (x q1 q2 : Value) (d : Nat) (w : World) (hd : (d : Int) % 3 = 0) :
    Calls Try.prog 18 #[.pointer (some ⟨fb, 0, none⟩), .bool star, x, q1, q2, .int .u8 (d : Int)] w fun r w' => r = .returned (Exp.val ⟨true, false, 0, -1⟩) ∧ Below w.heap.size w w' := by
  go_enter Try.func18, Try.ntmps18
  go_wp2
  refine bodyPost_ret (v := .agg #[.bool true, .bool false, .int .i64 0, .int .i64 (-1)]) (by simp [results, Try.results18, go_sem]) rfl ⟨rfl, ?_⟩
  exact ((Below.refl _ _).alloc (Nat.le_refl _) _).alloc (by simp) _

theorem below_set {B : Nat} {a w : World} {b o : Nat} {u : Value} (h : Below B a w) (hp : B ≤ b) : Below B a (w.setCell ⟨b, o, none⟩ u) := h.setCell (p := ⟨b, o, none⟩) hp u

set_option maxRecDepth 20000 in
set_option maxHeartbeats 2000000 in
theorem expect_1 (fb : Nat) (ov mv rv sv : Value) (cb gb nb hb n : Nat) (C G : Nat → List UInt8) (cn gn : Nat → Int) (sn : Int) (star : Bool) (a : Option Addr) (cap : Nat) (ns : Nat → Bool) (q1 : ByteArray) (q2 : Value) (d : Nat) (w : World) (hd : (d : Int) % 3 = 1)
    (hR : Rws w fb ov mv rv sv cb gb nb hb n C G cn gn sn) (hns : ThingsAt w a n (fun i => .bool (ns i))) (hn : n ≤ 8) (h1 : q1.size ≤ 20) :
    Calls Try.prog 18 #[.pointer (some ⟨fb, 0, none⟩), .bool star, .slice a n cap, .string q1, q2, .int .u8 (d : Int)] w fun r w' => r = .returned (Exp.val (expect1 star ns cn sn (fold q1.data.toList) (lastIx C (fold q1.data.toList) n))) ∧ Below w.heap.size w w' := by
  obtain ⟨F, hF⟩ : ∃ F, F = fold q1.data.toList := ⟨_, rfl⟩
  have hfo := fun w => fold_any q1 w (by omega)
  simp only [← hF] at hfo ⊢
  clear hF
  go_enter Try.func18, Try.ntmps18
  go_wp2_with fail
  refine (hfo _).mono ?_
  rintro e w1 ⟨rfl, hb1⟩
  have hba : Below w.heap.size w ((w.alloc (.cells #[.bool false, .bool false, .int .i64 0, .int .i64 0] 48)).alloc (.cells #[.bool false, .bool false, .int .i64 (-1), .int .i64 (-1)] 48)) := ((Below.refl _ _).alloc (Nat.le_refl _) _).alloc (by simp) _
  have hb2 : Below w.heap.size w w1 := hba.trans (hb1.mono hba.size)
  have z0 : w.heap.size < ((w.alloc (.cells #[.bool false, .bool false, .int .i64 0, .int .i64 0] 48)).alloc (.cells #[.bool false, .bool false, .int .i64 (-1), .int .i64 (-1)] 48)).heap.size := by simp; omega
  have r0 : w1.cell? ⟨w.heap.size, 0, none⟩ = some (.bool false) := (hb1.cell (p := ⟨w.heap.size, 0, none⟩) z0).trans (by simp [go_sem])
  have r1 : w1.cell? ⟨w.heap.size, 1, none⟩ = some (.bool false) := (hb1.cell (p := ⟨w.heap.size, 1, none⟩) z0).trans (by simp [go_sem])
  have r2 : w1.cell? ⟨w.heap.size, 2, none⟩ = some (.int .i64 0) := (hb1.cell (p := ⟨w.heap.size, 2, none⟩) z0).trans (by simp [go_sem])
  have r3 : w1.cell? ⟨w.heap.size, 3, none⟩ = some (.int .i64 0) := (hb1.cell (p := ⟨w.heap.size, 3, none⟩) z0).trans (by simp [go_sem])
  have e0 : w1.cell? ⟨w.heap.size + 1, 0, none⟩ = some (.bool false) := (hb1.cell (p := ⟨w.heap.size + 1, 0, none⟩) (by simp)).trans (by simp [go_sem])
  have e1 : w1.cell? ⟨w.heap.size + 1, 1, none⟩ = some (.bool false) := (hb1.cell (p := ⟨w.heap.size + 1, 1, none⟩) (by simp)).trans (by simp [go_sem])
  have e2 : w1.cell? ⟨w.heap.size + 1, 2, none⟩ = some (.int .i64 (-1)) := (hb1.cell (p := ⟨w.heap.size + 1, 2, none⟩) (by simp)).trans (by simp [go_sem])
  have e3 : w1.cell? ⟨w.heap.size + 1, 3, none⟩ = some (.int .i64 (-1)) := (hb1.cell (p := ⟨w.heap.size + 1, 3, none⟩) (by simp)).trans (by simp [go_sem])
  have u0 : ∀ i, w1.frozen? ⟨w.heap.size, i, none⟩ = false := fun i => (hb1.frozen (p := ⟨w.heap.size, i, none⟩) z0).trans (by simp [go_sem])
  have u1 : ∀ i, w1.frozen? ⟨w.heap.size + 1, i, none⟩ = false := fun i => (hb1.frozen (p := ⟨w.heap.size + 1, i, none⟩) (by simp)).trans (by simp [go_sem])
  have hR1 := hR.below hb2
  have v4 := hR1.fr.cell (i := 4) (by decide)
  have v5 := hR1.fr.cell (i := 5) (by decide)
  have v6 := hR1.fr.cell (i := 6) (by decide)
  have v7 := hR1.fr.cell (i := 7) (by decide)
  have v8 := hR1.fr.cell (i := 8) (by decide)
  simp only [zf] at v4 v5 v6 v7 v8
  have HR : Hid (Rws w1 fb ov mv rv sv cb gb nb hb n C G cn gn sn) := hR1
  have HNS : Hid (n = 0 ∨ ∃ g off : Nat, a = some ⟨g, off, none⟩ ∧ g < w.heap.size ∧ ∀ i, i < n → w.cell? ⟨g, off + i, none⟩ = some (.bool (ns i))) := hns.2
  have HBL : Hid (nb < w.heap.size ∧ fb < w.heap.size) := ⟨hR.nn.lt, hR.fr.lt⟩
  clear hR hns hR1 hba hb1 z0
  go_wp2
  go_loop [16, 17] (fun c i => ∃ k : Nat, k ≤ n ∧ i = .int .i64 (k : Int) ∧ c = .int .i64 (ciI (lastIx C F k))) (fun _ i => n - (intOf i).toNat)
  case atStart => exact ⟨0, Nat.zero_le _, rfl, rfl⟩
  case round =>
    obtain ⟨k, hk, rfl, rfl⟩ := hrel
    by_cases hlt : k < n
    · have hlt' : (k : Int) < (n : Int) := by omega
      have c0 := HR.out.c.cell hlt
      by_cases hE : C k = F
      · have hE' : (C k == F) = true := by simpa using hE
        have hl : lastIx C F (k + 1) = some k := by unfold lastIx; rw [if_pos hE]
        have HL : Hid (lastIx C F (k + 1) = some k) := hl
        clear hE hl
        go_wp2
        go_round
        case rel => exact ⟨k + 1, by omega, by go_num, by rw [HL.out]; rfl⟩
        case measure => simp [intOf]; omega
      · have hE' : (C k == F) = false := by simpa using hE
        have hl : lastIx C F (k + 1) = lastIx C F k := by rw [lastIx, if_neg hE]
        have HL : Hid (lastIx C F (k + 1) = lastIx C F k) := hl
        clear hE hl
        go_wp2
        go_round
        case rel => exact ⟨k + 1, by omega, by go_num, by rw [HL.out]⟩
        case measure => simp [intOf]; omega
    · obtain rfl : k = n := by omega
      clear hlt hk
      cases hci : lastIx C F k with
      | none =>
        have hm1 : ciI none = -1 := rfl
        cases star
        · go_wp2
          refine bodyPost_ret (v := Exp.val ⟨false, false, -1, -1⟩) (by simp [results, Try.results18, go_sem, *, Exp.val]) rfl ⟨rfl, ?_⟩
          repeat' first
            | with_reducible exact hb2
            | with_reducible refine below_set ?_ ?_
            | exact Nat.le_refl _
            | exact Nat.le_succ _
        · by_cases hS : F = [42]
          · have hS' : (F == [42]) = true := by simpa using hS
            have HS : Hid (F = [42]) := hS
            clear hS
            go_wp2
            refine bodyPost_ret (v := Exp.val ⟨true, false, sn, -1⟩) (by simp [results, Try.results18, go_sem, *, Exp.val]) rfl ⟨by simp [expect1, HS.out], ?_⟩
            repeat' first
              | with_reducible exact hb2
              | with_reducible refine below_set ?_ ?_
              | exact Nat.le_refl _
              | exact Nat.le_succ _
          · have hS' : (F == [42]) = false := by simpa using hS
            have HS : Hid (¬ F = [42]) := hS
            clear hS
            go_wp2
            refine bodyPost_ret (v := Exp.val ⟨false, true, sn, -1⟩) (by simp [results, Try.results18, go_sem, *, Exp.val]) rfl ⟨by simp [expect1, HS.out], ?_⟩
            repeat' first
              | with_reducible exact hb2
              | with_reducible refine below_set ?_ ?_
              | exact Nat.le_refl _
              | exact Nat.le_succ _
      | some i =>
        obtain ⟨hik, hCi⟩ := lastIx_lt hci
        have hm1 : ciI (some i) = (i : Int) := rfl
        have hik' : (i : Int) < (k : Int) := by omega
        have n0 := HR.out.nn.cell hik
        obtain ⟨g, off, hx, hgl, hcc⟩ : ∃ g off : Nat, a = some ⟨g, off, none⟩ ∧ g < w.heap.size ∧ ∀ i, i < k → w1.cell? ⟨g, off + i, none⟩ = some (.bool (ns i)) := by
          rcases HNS.out with h | ⟨g, off, h1, h2, h3⟩
          · omega
          · exact ⟨g, off, h1, h2, fun i hi => (hb2.cell (p := ⟨g, off + i, none⟩) h2).trans (h3 i hi)⟩
        subst hx
        have b0 := hcc i hik
        have hnl := HBL.out.1
        have hfl := HBL.out.2
        have a1 : ¬ g = w.heap.size + 1 := by omega
        have a2 : ¬ nb = w.heap.size + 1 := by omega
        have a3 : ¬ fb = w.heap.size + 1 := by omega
        have a4 : ¬ w.heap.size + 1 = g := by omega
        have a5 : ¬ w.heap.size + 1 = nb := by omega
        have a6 : ¬ w.heap.size + 1 = fb := by omega
        clear hcc hCi
        cases hb : ns i
        · rw [hb] at b0
          cases star
          · go_wp2
            refine bodyPost_ret (v := Exp.val ⟨true, false, cn i, -1⟩) (by simp [results, Try.results18, go_sem, *, Exp.val]) rfl ⟨by simp [expect1, hb], ?_⟩
            repeat' first
              | with_reducible exact hb2
              | with_reducible refine below_set ?_ ?_
              | exact Nat.le_refl _
              | exact Nat.le_succ _
          · go_wp2
            refine bodyPost_ret (v := Exp.val ⟨true, false, cn i, -1⟩) (by simp [results, Try.results18, go_sem, *, Exp.val]) rfl ⟨by simp [expect1, hb], ?_⟩
            repeat' first
              | with_reducible exact hb2
              | with_reducible refine below_set ?_ ?_
              | exact Nat.le_refl _
              | exact Nat.le_succ _
        · rw [hb] at b0
          cases star
          · go_wp2
            refine bodyPost_ret (v := Exp.val ⟨true, false, cn i, cn i⟩) (by simp [results, Try.results18, go_sem, *, Exp.val]) rfl ⟨by simp [expect1, hb], ?_⟩
            repeat' first
              | with_reducible exact hb2
              | with_reducible refine below_set ?_ ?_
              | exact Nat.le_refl _
              | exact Nat.le_succ _
          · go_wp2
            refine bodyPost_ret (v := Exp.val ⟨true, false, cn i, cn i⟩) (by simp [results, Try.results18, go_sem, *, Exp.val]) rfl ⟨by simp [expect1, hb], ?_⟩
            repeat' first
              | with_reducible exact hb2
              | with_reducible refine below_set ?_ ?_
              | exact Nat.le_refl _
              | exact Nat.le_succ _
end Go.Proofs.Qxb6003450a
