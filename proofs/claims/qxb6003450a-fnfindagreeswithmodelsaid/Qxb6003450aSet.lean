import Derived.Test.Qxb6003450aZone
namespace Go.Proofs.Qxb6003450a
open Go.RowKit

/-- a slice of records: its types and its TTLs (the index of each in the zone) -/
structure RRsAt (w : World) (g off : Nat) (ts : List Nat) (from_ : Nat) : Prop where
  cells : ∀ j c, j < ts.length → c < 5 → ∃ k : List UInt8, w.cell? ⟨g, off + j * 5 + c, none⟩ = (rrc (from_ + j) (k, ts.getD j 0))[c]?

theorem RRsAt.below {w w' : World} {g off from_ : Nat} {ts : List Nat} (h : RRsAt w g off ts from_) (hb : Below w.heap.size w w') : RRsAt w' g off ts from_ := by
  refine ⟨fun j c hj hc => ?_⟩
  obtain ⟨k, hk⟩ := h.cells j c hj hc
  refine ⟨k, ?_⟩
  have hlt : c < (rrc (from_ + j) (k, ts.getD j 0)).length := by simpa [rrc] using hc
  rw [List.getElem?_eq_getElem hlt] at hk ⊢
  exact (hb.cell (p := ⟨g, off + j * 5 + c, none⟩) (World.block_lt_of_cell? w _ hk)).trans hk

theorem RRsAt.type {w : World} {g off from_ : Nat} {ts : List Nat} (h : RRsAt w g off ts from_) (j : Nat) (hj : j < ts.length) : w.cell? ⟨g, off + j * 5 + 1, none⟩ = some (.int .u16 (ts.getD j 0 : Int)) := by
  obtain ⟨k, hk⟩ := h.cells j 1 hj (by decide)
  exact hk
theorem RRsAt.ttl {w : World} {g off from_ : Nat} {ts : List Nat} (h : RRsAt w g off ts from_) (j : Nat) (hj : j < ts.length) : w.cell? ⟨g, off + j * 5 + 3, none⟩ = some (.int .u32 ((from_ + j : Nat) : Int)) := by
  obtain ⟨k, hk⟩ := h.cells j 3 hj (by decide)
  exact hk
theorem RRsAt.name {w : World} {g off from_ : Nat} {ts : List Nat} (h : RRsAt w g off ts from_) (j : Nat) (hj : j < ts.length) : ∃ k, w.cell? ⟨g, off + j * 5, none⟩ = some (.string k) := by
  obtain ⟨k, hk⟩ := h.cells j 0 hj (by decide)
  exact ⟨_, hk⟩
theorem RRsAt.class {w : World} {g off from_ : Nat} {ts : List Nat} (h : RRsAt w g off ts from_) (j : Nat) (hj : j < ts.length) : w.cell? ⟨g, off + j * 5 + 2, none⟩ = some (.int .u16 0) := by
  obtain ⟨k, hk⟩ := h.cells j 2 hj (by decide)
  exact hk
theorem RRsAt.data {w : World} {g off from_ : Nat} {ts : List Nat} (h : RRsAt w g off ts from_) (j : Nat) (hj : j < ts.length) : w.cell? ⟨g, off + j * 5 + 4, none⟩ = some (.slice none 0 0) := by
  obtain ⟨k, hk⟩ := h.cells j 4 hj (by decide)
  exact hk

/-- the records of node i -/
theorem ZAt.rrs {w : World} {B mb rb rc : Nat} {sv : Value} {N : List Nd} (h : ZAt w B mb (.slice (some ⟨rb, 0, none⟩) (rs N).length rc) sv N) {i : Nat} {p : Nd} (hi : N[i]? = some p) : RRsAt w rb (st N i * 5) p.2 (st N i) := by
  refine ⟨fun j c hj hc => ⟨p.1, ?_⟩⟩
  have hlt : st N i + j < (rs N).length := by
    have := st_le N (i + 1)
    rw [st_succ N i p hi] at this
    omega
  have e := rrC_at (rs N) 0 (st N i + j) c hlt hc
  rw [rs_at N i p hi j hj, Nat.zero_add] at e
  have hl : c < (rrc (st N i + j) (p.1, p.2.getD j 0)).length := by simpa [rrc] using hc
  rw [List.getElem?_eq_getElem hl] at e ⊢
  have := h.rr.cells (g := rb) rfl _ _ e
  rw [Addr.add_lit, Nat.zero_add] at this
  rw [← this]
  congr 2
  omega

set_option maxRecDepth 20000 in
set_option maxHeartbeats 1000000 in
theorem rrset_nil (w : World) : Calls Try.prog 50 #[.agg #[.slice none 0 0], .int .u16 2] w fun e w' => e = .returned (.slice none 0 0) ∧ Below w.heap.size w w' := by
  go_enter Try.func50, Try.ntmps50
  go_wp2
  go_loopw [11] (fun i wx => i = .int .i64 0 ∧ Below w.heap.size w wx ∧ wx.rowIs w.heap.size 41 1 (fun _ => .slice none 0 0)) (fun _ _ => 0)
  case atStart => exact ⟨rfl, (Below.refl _ _).alloc (Nat.le_refl _) _, ⟨_, Go.Deep.blk_alloc_new _ _, rfl, fun i hi => by match i, hi with | 0, _ => rfl⟩⟩
  case round =>
    obtain ⟨rfl, hb, hr⟩ := hrel
    go_wp2
    go_ret
    exact ⟨rfl, hb⟩

set_option maxRecDepth 20000 in
set_option maxHeartbeats 1000000 in
theorem rrset_ns (g off cap from_ : Nat) (w : World) (h : RRsAt w g off [2, 43] from_) (hcap : 2 ≤ cap) :
    Calls Try.prog 50 #[.agg #[.slice (some ⟨g, off, none⟩) 2 cap], .int .u16 2] w fun e w' => e = .returned (.slice (some ⟨g, off, none⟩) 1 1) ∧ Below w.heap.size w w' := by
  have hb0 : Below w.heap.size w (w.alloc (.cells #[.slice (some ⟨g, off, none⟩) 2 cap] 41)) := (Below.refl _ _).alloc (Nat.le_refl _) _
  have h0 := h.below hb0
  obtain ⟨k, n0⟩ := h0.name 0 (by decide)
  have t0 := h0.type 0 (by decide)
  have t1 := h0.type 1 (by decide)
  have l0 := h0.ttl 0 (by decide)
  have s0 := h0.class 0 (by decide)
  have d0 := h0.data 0 (by decide)
  have hgl : g < w.heap.size := World.block_lt_of_cell? w _ (h.type 0 (by decide))
  simp only [Nat.zero_mul, Nat.add_zero, Nat.one_mul, List.getD_cons_zero, List.getD_cons_succ] at n0 t0 t1 l0 s0 d0
  have i0 : (0 : Int) < 2 := by decide
  go_enter Try.func50, Try.ntmps50
  go_wp2
  go_loopw [11] (fun i wx => i = .int .i64 0 ∧ wx = (w.alloc (.cells #[.slice (some ⟨g, off, none⟩) 2 cap] 41))) (fun _ _ => 0)
  case atStart => exact ⟨rfl, rfl⟩
  case round =>
    obtain ⟨rfl, rfl⟩ := hrel
    go_wp2
    have hb1 : Below w.heap.size w ((w.alloc (.cells #[.slice (some ⟨g, off, none⟩) 2 cap] 41)).alloc (.cells #[.string k, .int .u16 2, .int .u16 0, .int .u32 (from_ : Int), .slice none 0 0] 88)) := hb0.alloc (by simp) _
    have t2 := (h.below hb1).type 1 (by decide)
    simp only [Nat.one_mul, List.getD_cons_zero, List.getD_cons_succ] at t2
    clear n0 t0 t1 l0 s0 d0 h0
    go_loopw [7] (fun i wx => i = .int .i64 1 ∧ wx = (w.alloc (.cells #[.slice (some ⟨g, off, none⟩) 2 cap] 41)).alloc (.cells #[.string k, .int .u16 2, .int .u16 0, .int .u32 (from_ : Int), .slice none 0 0] 88)) (fun _ _ => 0)
    case atStart => exact ⟨rfl, rfl⟩
    case round =>
      obtain ⟨rfl, rfl⟩ := hrel
      go_wp2
      go_ret
      exact ⟨rfl, hb1⟩

set_option maxRecDepth 20000 in
set_option maxHeartbeats 1000000 in
theorem rrset_one (g off cap from_ t : Nat) (w : World) (h : RRsAt w g off [t] from_) (ht : t ≠ 2) :
    Calls Try.prog 50 #[.agg #[.slice (some ⟨g, off, none⟩) 1 cap], .int .u16 2] w fun e w' => e = .returned (.slice none 0 0) ∧ Below w.heap.size w w' := by
  have hb0 : Below w.heap.size w (w.alloc (.cells #[.slice (some ⟨g, off, none⟩) 1 cap] 41)) := (Below.refl _ _).alloc (Nat.le_refl _) _
  have h0 := h.below hb0
  obtain ⟨k, n0⟩ := h0.name 0 (Nat.lt_succ_self 0)
  have t0 := h0.type 0 (Nat.lt_succ_self 0)
  have l0 := h0.ttl 0 (Nat.lt_succ_self 0)
  have s0 := h0.class 0 (Nat.lt_succ_self 0)
  have d0 := h0.data 0 (Nat.lt_succ_self 0)
  have hgl : g < w.heap.size := World.block_lt_of_cell? w _ (h.type 0 (Nat.lt_succ_self 0))
  simp only [Nat.zero_mul, Nat.add_zero, List.getD_cons_zero] at n0 t0 l0 s0 d0
  have ht' : ¬ (t : Int) = 2 := by omega
  go_enter Try.func50, Try.ntmps50
  go_wp2
  go_loopw [11] (fun i wx => ∃ m : Nat, m ≤ 1 ∧ i = .int .i64 (m : Int) ∧ Below w.heap.size w wx ∧ (m = 0 → wx = (w.alloc (.cells #[.slice (some ⟨g, off, none⟩) 1 cap] 41)))) (fun i _ => (1 - intOf i).toNat)
  case atStart => exact ⟨0, by decide, rfl, hb0, fun _ => rfl⟩
  case round =>
    obtain ⟨m, hm, rfl, hbm, hw⟩ := hrel
    match m, hm, hw with
    | 0, _, hw =>
      have hw := hw rfl
      subst hw
      go_wp2
      go_roundw
      case rel => exact ⟨1, Nat.le_refl _, by go_num, hb0.alloc (by simp) _, fun h => by cases h⟩
      case measure => simp [intOf]
    | 1, _, _ =>
      clear n0 t0 l0 s0 d0 h0 hw
      go_wp2
      go_ret
      exact ⟨rfl, hbm⟩
end Go.Proofs.Qxb6003450a
