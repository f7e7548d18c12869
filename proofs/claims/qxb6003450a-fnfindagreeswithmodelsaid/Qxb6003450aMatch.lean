import Derived.Test.Qxb6003450aNode
import Derived.Test.Qxb6003450aSet
namespace Go.Proofs.Qxb6003450a
open Go.RowKit

/-- a node as it is handed on: none, or node i -/
def NodeOK (rb : Nat) (N : List Nd) (v : Value) (n : Int) : Prop := (v = .slice none 0 0 ∧ n = -1) ∨ ∃ (i : Nat) (p : Nd), N[i]? = some p ∧ v = nodeSl rb N i ∧ n = (i : Int)

theorem NodeOK.shape {rb : Nat} {N : List Nd} {v : Value} {n : Int} (h : NodeOK rb N v n) : ∃ a l c, v = .slice a l c := by
  rcases h with ⟨rfl, _⟩ | ⟨i, p, _, rfl, _⟩
  · exact ⟨_, _, _, rfl⟩
  · exact ⟨_, _, _, rfl⟩

set_option maxHeartbeats 400000 in
theorem rrs_any (a : Option Addr) (l c : Nat) (w : World) : Calls Try.prog 21 #[.agg #[.slice a l c]] w fun e w' => e = .returned (.slice a l c) ∧ Below w.heap.size w w' := by
  go_enter Try.func21, Try.ntmps21
  go_wp2
  go_ret
  exact ⟨rfl, (Below.refl _ _).alloc (Nat.le_refl _) _⟩

set_option maxRecDepth 20000 in
set_option maxHeartbeats 1000000 in
theorem nodeIs_any (fb mb B rb rc sb sc : Nat) (ov e f g h : Value) (sn : Int) (N : List Nd) (v : Value) (n : Int) (w : World)
    (hf : w.rowIs fb 35 9 (zf ov (.map (some mb)) (.slice (some ⟨rb, 0, none⟩) (rs N).length rc) (.slice (some ⟨sb, 0, none⟩) (N.length + 1) sc) e f g h sn))
    (hz : ZAt w B mb (.slice (some ⟨rb, 0, none⟩) (rs N).length rc) (.slice (some ⟨sb, 0, none⟩) (N.length + 1) sc) N) (hR : (rs N).length ≤ 300) (hN : N.length ≤ 100) (hv : NodeOK rb N v n) :
    Calls Try.prog 51 #[.pointer (some ⟨fb, 0, none⟩), v, .int .i64 n] w fun r w' => r = .returned (.bool true) ∧ w' = w := by
  rcases hv with ⟨rfl, rfl⟩ | ⟨i, p, hi, rfl, rfl⟩
  · clear hf hz
    go_enter Try.func51, Try.ntmps51
    go_wp2
    go_ret
    exact ⟨rfl, rfl⟩
  · have c3 := hf.cell (i := 3) (by decide)
    simp only [zf] at c3
    have hil : i < N.length := (List.getElem?_eq_some_iff.1 hi).1
    have s0 := ss_cell hz.ss i (by omega)
    have s1 := ss_cell hz.ss (i + 1) (by omega)
    have hr := hz.rrs hi
    have l1 := st_le N (i + 1)
    have hsu := st_succ N i p hi
    unfold nodeSl
    obtain ⟨x, hx⟩ : ∃ x, x = st N i := ⟨_, rfl⟩
    obtain ⟨y, hy⟩ : ∃ y, y = st N (i + 1) := ⟨_, rfl⟩
    rw [← hx] at s0 hsu hr ⊢
    rw [← hy] at s1 l1 hsu ⊢
    obtain ⟨m, hm⟩ : ∃ m, m = y - x := ⟨_, rfl⟩
    have hml : m = p.2.length := by omega
    rw [← hm]
    have hyx : (y : Int) - (x : Int) = (m : Int) := by omega
    have q0 : IntKind.i64.wrap (x : Int) = (x : Int) := by rw [IntKind.wrap_i64]; omega
    have q1 : IntKind.i64.wrap (y : Int) = (y : Int) := by rw [IntKind.wrap_i64]; omega
    have q2 : IntKind.i64.wrap ((y : Int) - (x : Int)) = (m : Int) := by rw [IntKind.wrap_i64]; omega
    have i0 : (i : Int) < (N.length : Int) + 1 := by omega
    have i1 : (i : Int) + 1 < (N.length : Int) + 1 := by omega
    have hm3 : m ≤ 300 := by omega
    have HM : Hid (m = p.2.length ∧ y = x + m) := ⟨hml, by omega⟩
    clear hx hy hm hml hsu hz hf hyx
    go_enter Try.func51, Try.ntmps51
    go_wp2
    go_loop [9] (fun v => ∃ j : Nat, j ≤ m ∧ v = .int .i64 (j : Int)) (fun v => m - (intOf v).toNat)
    case atStart => exact ⟨0, Nat.zero_le _, rfl⟩
    case round =>
      obtain ⟨j, hj, rfl⟩ := hrel
      by_cases hlt : j < m
      · have hlt' : (j : Int) < (m : Int) := by omega
        have t0 := hr.ttl j (by rw [← HM.out.1]; exact hlt)
        have e0 : ((x + j : Nat) : Int) = (x : Int) + (j : Int) := by omega
        rw [e0] at t0
        have q3 : IntKind.i64.wrap ((x : Int) + (j : Int)) = (x : Int) + (j : Int) := by rw [IntKind.wrap_i64]; have := HM.out.2; omega
        have q4 : IntKind.u32.wrap ((x : Int) + (j : Int)) = (x : Int) + (j : Int) := by rw [IntKind.wrap_u32]; have := HM.out.2; omega
        clear e0
        go_wp2
        go_round
        case rel => exact ⟨j + 1, by omega, by go_num⟩
        case measure => simp [intOf]; omega
      · obtain rfl : j = m := by omega
        go_wp2
        go_ret
        exact ⟨rfl, rfl⟩

/-- the NS set of the cut: none, or of node i -/
def CutOK (rb : Nat) (N : List Nd) (v u : Value) (n : Int) : Prop := (v = .slice none 0 0 ∧ u = .slice none 0 0 ∧ n = -1) ∨ ∃ (i : Nat) (k : List UInt8), N[i]? = some (k, [2, 43]) ∧ v = nodeSl rb N i ∧ u = .slice (some ⟨rb, st N i * 5, none⟩) 1 1 ∧ n = (i : Int)
theorem CutOK.node {rb : Nat} {N : List Nd} {v u : Value} {n : Int} (h : CutOK rb N v u n) : NodeOK rb N v n := by
  rcases h with ⟨rfl, _, rfl⟩ | ⟨i, k, h1, rfl, _, rfl⟩
  · exact .inl ⟨rfl, rfl⟩
  · exact .inr ⟨i, _, h1, rfl, rfl⟩

set_option maxRecDepth 20000 in
set_option maxHeartbeats 2000000 in
theorem matches_any (fb mb B rb rc sb sc : Nat) (ov e f g h : Value) (sn : Int) (N : List Nd) (cu cn nd : Value) (ex wd : Bool) (n c : Int) (w : World)
    (hf : w.rowIs fb 35 9 (zf ov (.map (some mb)) (.slice (some ⟨rb, 0, none⟩) (rs N).length rc) (.slice (some ⟨sb, 0, none⟩) (N.length + 1) sc) e f g h sn))
    (hz : ZAt w B mb (.slice (some ⟨rb, 0, none⟩) (rs N).length rc) (.slice (some ⟨sb, 0, none⟩) (N.length + 1) sc) N) (hR : (rs N).length ≤ 300) (hN : N.length ≤ 100) (hn : NodeOK rb N nd n) (hc : CutOK rb N cn cu c) :
    Calls Try.prog 17 #[.pointer (some ⟨fb, 0, none⟩), .agg #[cu, cn, nd, .bool ex, .bool wd], .agg #[.bool ex, .bool wd, .int .i64 n, .int .i64 c]] w fun r w' => r = .returned (.bool true) ∧ Below w.heap.size w w' := by
  obtain ⟨na, nl, nk, rfl⟩ := hn.shape
  obtain ⟨ca, cl, ck, rfl⟩ := hc.node.shape
  obtain ⟨ua, ul, uk, rfl⟩ : ∃ a l c, cu = .slice a l c := by
    rcases hc with ⟨_, rfl, _⟩ | ⟨_, _, _, _, rfl, _⟩
    · exact ⟨_, _, _, rfl⟩
    · exact ⟨_, _, _, rfl⟩
  obtain ⟨M, hM⟩ : ∃ M : Obj, M = .cells #[.slice ua ul uk, .slice ca cl ck, .slice na nl nk, .bool ex, .bool wd] 43 := ⟨_, rfl⟩
  obtain ⟨wa, hwa⟩ : ∃ wa, wa = (w.alloc (.cells #[.slice ua ul uk, .slice ca cl ck, .slice na nl nk, .bool ex, .bool wd] 43)).alloc (.cells #[.bool ex, .bool wd, .int .i64 n, .int .i64 c] 48) := ⟨_, rfl⟩
  have hba : Below w.heap.size w wa := by rw [hwa]; exact ((Below.refl _ _).alloc (Nat.le_refl _) _).alloc (by simp) _
  have hsz : wa.heap.size = w.heap.size + 2 := by rw [hwa]; simp
  have m0 : wa.cell? ⟨w.heap.size, 0, none⟩ = some (.slice ua ul uk) := by rw [hwa]; simp [go_sem]
  have m1 : wa.cell? ⟨w.heap.size, 1, none⟩ = some (.slice ca cl ck) := by rw [hwa]; simp [go_sem]
  have m2 : wa.cell? ⟨w.heap.size, 2, none⟩ = some (.slice na nl nk) := by rw [hwa]; simp [go_sem]
  have e2 : wa.cell? ⟨w.heap.size + 1, 2, none⟩ = some (.int .i64 n) := by rw [hwa]; simp [go_sem]
  have e3 : wa.cell? ⟨w.heap.size + 1, 3, none⟩ = some (.int .i64 c) := by rw [hwa]; simp [go_sem]
  have tok : True := trivial
  have HZ : Hid (∀ w', Below w.heap.size w w' → w'.rowIs fb 35 9 (zf ov (.map (some mb)) (.slice (some ⟨rb, 0, none⟩) (rs N).length rc) (.slice (some ⟨sb, 0, none⟩) (N.length + 1) sc) e f g h sn) ∧ ZAt w' B mb (.slice (some ⟨rb, 0, none⟩) (rs N).length rc) (.slice (some ⟨sb, 0, none⟩) (N.length + 1) sc) N) := fun w' hb => ⟨hf.of_block (hb.block fb hf.lt), hz.below hb⟩
  have HN : Hid (NodeOK rb N (.slice na nl nk) n) := hn
  have HC : Hid (CutOK rb N (.slice ca cl ck) (.slice ua ul uk) c) := hc
  clear hf hz hn hc hM M
  go_enter Try.func17, Try.ntmps17
  go_wp2
  rw [← hwa]
  clear hwa
  go_region_held3 (fun w' => w'.cell? ⟨w.heap.size, 1, none⟩ = some (.slice ca cl ck) ∧ w'.cell? ⟨w.heap.size, 2, none⟩ = some (.slice na nl nk) ∧ w'.cell? ⟨w.heap.size + 1, 2, none⟩ = some (.int .i64 n) ∧ w'.cell? ⟨w.heap.size + 1, 3, none⟩ = some (.int .i64 c)) (simp [go_sem, *])
    (first
      | (go_at_call_of 21 (Value.agg #[Value.slice na nl nk]); refine (rrs_any na nl nk _).mono ?_; rintro r w2 ⟨rfl, hb2⟩; have x0 := (hb2.cell (p := ⟨w.heap.size, 0, none⟩) (by simp [hsz])).trans m0; have x1 := (hb2.cell (p := ⟨w.heap.size, 1, none⟩) (by simp [hsz])).trans m1; have x2 := (hb2.cell (p := ⟨w.heap.size, 2, none⟩) (by simp [hsz])).trans m2; have x3 := (hb2.cell (p := ⟨w.heap.size + 1, 2, none⟩) (by simp [hsz])).trans e2; have x4 := (hb2.cell (p := ⟨w.heap.size + 1, 3, none⟩) (by simp [hsz])).trans e3; have hb2' : Below w.heap.size w w2 := hba.drew.trans (hb2.mono (by simp [hsz])); have hsz2 : w.heap.size + 2 ≤ w2.heap.size := (by have := hb2.size; simp [hsz] at this; omega))
      | (go_at_call 51; have _t := tok; refine (nodeIs_any fb mb B rb rc sb sc ov e f g h sn N _ _ _ (HZ.out _ hb2').1 (HZ.out _ hb2').2 hR hN HN.out).mono ?_; rintro r w3 ⟨rfl, rfl⟩; clear tok)
      | (go_at_call_of 21 (Value.agg #[Value.slice ca cl ck]); refine (rrs_any ca cl ck _).mono ?_; rintro r w4 ⟨rfl, hb4⟩; have y0 := (hb4.cell (p := ⟨w.heap.size, 0, none⟩) (Nat.lt_of_lt_of_le (by simp) hsz2)).trans x0; have y1 := (hb4.cell (p := ⟨w.heap.size, 1, none⟩) (Nat.lt_of_lt_of_le (by simp) hsz2)).trans x1; have y2 := (hb4.cell (p := ⟨w.heap.size, 2, none⟩) (Nat.lt_of_lt_of_le (by simp) hsz2)).trans x2; have y3 := (hb4.cell (p := ⟨w.heap.size + 1, 2, none⟩) (Nat.lt_of_lt_of_le (by simp) hsz2)).trans x3; have y4 := (hb4.cell (p := ⟨w.heap.size + 1, 3, none⟩) (Nat.lt_of_lt_of_le (by simp) hsz2)).trans x4; have hb4' : Below w.heap.size w w4 := hb2'.trans (hb4.mono hb2'.size))
      | (go_at_call 51; refine (nodeIs_any fb mb B rb rc sb sc ov e f g h sn N _ _ _ (HZ.out _ hb4').1 (HZ.out _ hb4').2 hR hN HC.out.node).mono ?_; rintro r w5 ⟨rfl, rfl⟩))
  obtain ⟨hf5, hz5⟩ := HZ.out _ hb4'
  have heq := fun wx => Lib.run_eql_slice_nil (P := Try.prog) wx 31 88 ua ul uk 0 0 Try.underlying31
  clear HZ HN m0 m1 m2 e2 e3 x0 x1 x2 x3 x4 y1 y2 y3 hba hsz hb4
  rcases HC.out with ⟨h1, h2, rfl⟩ | ⟨i, k, hi, h1, h2, rfl⟩
  · cases h1
    cases h2
    clear HC hf5 hz5
    go_wp2
    go_ret
    exact ⟨rfl, hb4'⟩
  · cases h2
    have c3 := hf5.cell (i := 3) (by decide)
    simp only [zf] at c3
    have hil : i < N.length := (List.getElem?_eq_some_iff.1 hi).1
    have s0 := ss_cell hz5.ss i (by omega)
    have hr := hz5.rrs hi
    have t0 := hr.ttl 0 (Nat.lt_succ_of_lt (Nat.lt_succ_self 0))
    have t1 := hr.type 0 (Nat.lt_succ_of_lt (Nat.lt_succ_self 0))
    simp only [Nat.zero_mul, Nat.add_zero, List.getD_cons_zero] at t0 t1
    have hx := st_le N i
    obtain ⟨x, hx0⟩ : ∃ x, x = st N i := ⟨_, rfl⟩
    rw [← hx0] at s0 t0 t1 hx y0 ⊢
    have i0 : (i : Int) < (N.length : Int) + 1 := by omega
    have i1 : ¬ (i : Int) < 0 := by omega
    clear HC hf5 hz5 hr hx0 h1 hi
    go_wp2
    go_quiet (fail)
    go_wp2
    go_ret
    exact ⟨rfl, hb4'.trans (below_drewN _ _ _)⟩
end Go.Proofs.Qxb6003450a
