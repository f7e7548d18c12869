import Derived.Test.Qxb6003450aZone
import Derived.Test.Qxb6003450aWalkB
namespace Go.Proofs.Qxb6003450a
open Go.RowKit

/-- the Zone's ten cells -/
def zz (o : ByteArray) (mb : Nat) (rv sv : Value) : Nat → Value
  | 0 => .string o | 1 => .string ⟨#[]⟩ | 2 => .int .u16 0 | 3 => .int .u16 0 | 4 => .int .u32 0 | 5 => .slice none 0 0 | 6 => .slice none 0 0 | 7 => .map (some mb) | 8 => rv | 9 => sv | _ => undef

/-- the records of node i, as the zone cuts them -/
def nodeSl (rb : Nat) (N : List Nd) (i : Nat) : Value := .slice (some ⟨rb, st N i * 5, none⟩) (st N (i + 1) - st N i) (st N (i + 1) - st N i)

theorem ss_cell {w : World} {B g cap : Nat} {N : List Nd} (h : w.ownsRow B 81 1 (.slice (some ⟨g, 0, none⟩) (N.length + 1) cap) (N.length + 1) (stC N)) (i : Nat) (hi : i ≤ N.length) : w.cell? ⟨g, i, none⟩ = some (.int .u32 (st N i : Int)) := by
  have := h.cells (g := g) rfl i (.int .u32 (st N i : Int)) (by
    unfold stC
    rw [List.getElem?_map, List.getElem?_range (by omega)]
    rfl)
  rwa [Addr.add_lit, Nat.zero_add] at this

theorem below_drewN (B : Nat) (w : World) (n : Nat) : Below B w (w.drewN n) := ⟨rfl, rfl, rfl, Nat.le_refl _, fun _ _ => rfl⟩

set_option maxRecDepth 20000 in
set_option maxHeartbeats 1000000 in
theorem node_any (zb mb B rb rn rc sb sc : Nat) (o : ByteArray) (N : List Nd) (i : Nat) (w : World)
    (hz : w.rowIs zb 90 10 (zz o mb (.slice (some ⟨rb, 0, none⟩) rn rc) (.slice (some ⟨sb, 0, none⟩) (N.length + 1) sc)))
    (hs : w.ownsRow B 81 1 (.slice (some ⟨sb, 0, none⟩) (N.length + 1) sc) (N.length + 1) (stC N)) (hrn : rn = (rs N).length) (hrc : rn ≤ rc) (hN : N.length ≤ 100) (hi : i < N.length) (hne : st N i < st N (i + 1)) :
    Calls Try.prog 62 #[.pointer (some ⟨zb, 0, none⟩), .int .i64 (i : Int)] w fun e w' => e = .returned (.agg #[nodeSl rb N i]) ∧ Below w.heap.size w w' := by
  have c8 := hz.cell (i := 8) (by decide)
  have c9 := hz.cell (i := 9) (by decide)
  simp only [zz] at c8 c9
  have s0 := ss_cell hs i (by omega)
  have s1 := ss_cell hs (i + 1) (by omega)
  have l0 := st_le N i
  have l1 := st_le N (i + 1)
  unfold nodeSl
  obtain ⟨x, hx⟩ : ∃ x, x = st N i := ⟨_, rfl⟩
  obtain ⟨y, hy⟩ : ∃ y, y = st N (i + 1) := ⟨_, rfl⟩
  rw [← hx] at s0 l0 hne ⊢
  rw [← hy] at s1 l1 hne ⊢
  have hzl := hz.lt
  have hsl : sb < w.heap.size := (hs.lt sb rfl).2
  have i0 : (i : Int) < (N.length : Int) + 1 := by omega
  have i1 : (i : Int) + 1 < (N.length : Int) + 1 := by omega
  have p0 : (0 : Int) ≤ (i : Int) := by omega
  have p1 : (0 : Int) ≤ (i : Int) + 1 := by omega
  have q1 : IntKind.i64.wrap ((i : Int) + 1) = (i : Int) + 1 := by rw [IntKind.wrap_i64]; omega
  have t1 : ((i : Int) + 1).toNat = i + 1 := by omega
  have b0 : (0 : Int) ≤ (x : Int) := by omega
  have b1 : (x : Int) ≤ (y : Int) := by omega
  have b3 : ¬ y = x := by omega
  have b2 : (y : Int) ≤ (rc : Int) := by omega
  clear hx hy hs hz
  go_enter Try.func62, Try.ntmps62
  go_wp2
  go_quiet (fail)
  go_wp2
  refine bodyPost_ret (v := .agg #[.slice (some ⟨rb, x * 5, none⟩) (y - x) (y - x)]) (by simp [results, Try.results62, go_sem]) rfl ⟨rfl, ?_⟩
  exact (((Below.refl _ w).alloc (Nat.le_refl _) _).trans (below_drewN _ _ _)).setCell (Nat.le_refl _) _

theorem look_run {w : World} {mb n : Nat} {D : DataW Unit} (h : w.ownsMap Try.prog 39 (plainElem Try.prog 3) mb n D) (s : ByteArray) (hs : s.size ≤ maxLen) {c : Int} (hc : D.atKey (.string s.data.toList) (.lit (.int .i64 0)) = .lit (.int .i64 c)) :
    (Instr.lookup 30 (.map (some mb)) (.string s) true).run Try.prog w = .ok (.tuple #[.int .i64 c, .bool (Maps.has D (.string s.data.toList))]) w := by
  obtain ⟨v, ps, hrun, hv⟩ := h.look_ok law39 Try.underlying30 (zero3 w) (plainElem_int Try.underlying3 (q := .i64) (a := 0) (by decide)) (WideMaps.keyOf_string_mk Try.underlying39 hs)
  obtain ⟨c', rfl, hz, _⟩ := plainElem_int_inv Try.underlying3 hv
  rw [hrun]
  rw [hc] at hz
  cases hz
  rfl

/-- the bytes of a key, wherever they lie -/
def KeyAt (w : World) (g off : Nat) (k : List UInt8) : Prop := ∀ j, j < k.length → w.cell? ⟨g, off + j, none⟩ = some (.int .u8 ((k.getD j 0).toNat : Int))

theorem key_conv {w : World} {g off : Nat} {k : List UInt8} (h : KeyAt w g off k) (cap q : Nat) : (convert 29 39 (.slice (some ⟨g, off, none⟩) k.length cap)).run Try.prog (w.drewN q) = .ok (.string ⟨k.toArray⟩) (w.drewN q) := by
  refine run_convert_bytes_back (P := Try.prog) _ 29 39 5 ⟨g, off, none⟩ cap k Try.underlying29 Try.underlying5 Try.underlying39 fun j hj => ?_
  rw [World.cell?_drewN, Addr.add_lit, h j hj]
  simp [List.getD, hj]

/-- the Zone as Find sees it -/
structure ZoneIs (w : World) (zb mb B rb rc sb sc : Nat) (o : ByteArray) (N : List Nd) : Prop where
  z : w.rowIs zb 90 10 (zz o mb (.slice (some ⟨rb, 0, none⟩) (rs N).length rc) (.slice (some ⟨sb, 0, none⟩) (N.length + 1) sc))
  at_ : ZAt w B mb (.slice (some ⟨rb, 0, none⟩) (rs N).length rc) (.slice (some ⟨sb, 0, none⟩) (N.length + 1) sc) N

theorem ZAt.below {w w' : World} {B mb : Nat} {rv sv : Value} {N : List Nd} (h : ZAt w B mb rv sv N) (hb : Below w.heap.size w w') : ZAt w' B mb rv sv N := by
  obtain ⟨⟨D, hD, hag⟩, h2, h3, h4⟩ := h
  refine ⟨⟨D, ?_, hag⟩, h2, owned_kept h3 (fun k _ hk => hb.block k hk), owned_kept h4 (fun k _ hk => hb.block k hk)⟩
  have hl := hD.lt
  obtain ⟨es, clock, h1, r⟩ := hD
  exact ⟨es, clock, (hb.block mb hl).trans h1, r⟩
theorem ZoneIs.below {w w' : World} {zb mb B rb rc sb sc : Nat} {o : ByteArray} {N : List Nd} (h : ZoneIs w zb mb B rb rc sb sc o N) (hb : Below w.heap.size w w') : ZoneIs w' zb mb B rb rc sb sc o N :=
  ⟨h.z.of_block (hb.block zb h.z.lt), h.at_.below hb⟩
theorem KeyAt.below {w w' : World} {g off : Nat} {k : List UInt8} (h : KeyAt w g off k) (hb : Below w.heap.size w w') : KeyAt w' g off k := fun j hj =>
  (hb.cell (p := ⟨g, off + j, none⟩) (World.block_lt_of_cell? w _ (h j hj))).trans (h j hj)

set_option maxRecDepth 20000 in
set_option maxHeartbeats 1000000 in
theorem find_miss (zb mb B rb rc sb sc : Nat) (o : ByteArray) (N : List Nd) (g off cap : Nat) (k : List UInt8) (w : World) (hz : ZoneIs w zb mb B rb rc sb sc o N) (hk : KeyAt w g off k) (hkl : k.length ≤ 1000) (hm : k ∉ keys N) :
    Calls Try.prog 49 #[.pointer (some ⟨zb, 0, none⟩), .slice (some ⟨g, off, none⟩) k.length cap] w fun e w' => e = .returned (.tuple #[.agg #[.slice none 0 0], .bool false]) ∧ Below w.heap.size w w' := by
  obtain ⟨⟨D, hD, hag⟩, _, _, _⟩ := hz.at_
  have c7 := hz.z.cell (i := 7) (by decide)
  simp only [zz] at c7
  have hzl := hz.z.lt
  have hks : (⟨k.toArray⟩ : ByteArray).size ≤ maxLen := by
    have : (⟨k.toArray⟩ : ByteArray).size = k.length := by simp [ByteArray.size]
    rw [this]; unfold maxLen; omega
  have hb1 : Below w.heap.size w (w.alloc (.cells #[.slice none 0 0] 41)) := (Below.refl _ _).alloc (Nat.le_refl _) _
  have hcv := fun q => key_conv (hk.below hb1) cap q
  have hhas : Maps.has D (.string k) = false := by rw [hag.has]; simpa using hm
  have hat : D.atKey (.string k) (.lit (.int .i64 0)) = .lit (.int .i64 0) := Maps.atKey_of_not_has hhas _
  have hlk := fun q => look_run (w := (w.alloc (.cells #[.slice none 0 0] 41)).drewN q) (by exact hD.alloc _) ⟨k.toArray⟩ hks hat
  simp only [hhas] at hlk
  clear hz hk hD hag
  go_enter Try.func49, Try.ntmps49
  go_wp2
  go_quiet (fail)
  go_wp2
  refine bodyPost_ret (v := .tuple #[.agg #[.slice none 0 0], .bool false]) (by simp [results, Try.results49, go_sem]) rfl ⟨rfl, ?_⟩
  exact (hb1.trans (below_drewN _ _ _)).setCell (Nat.le_refl _) _

set_option maxRecDepth 20000 in
set_option maxHeartbeats 1000000 in
theorem find_hit (zb mb B rb rc sb sc : Nat) (o : ByteArray) (N : List Nd) (g off cap : Nat) (k : List UInt8) (i : Nat) (p : Nd) (w : World) (hz : ZoneIs w zb mb B rb rc sb sc o N) (hk : KeyAt w g off k) (hkl : k.length ≤ 1000) (hN : N.length ≤ 100)
    (hi : N[i]? = some p) (hp : p.1 = k) (hp0 : 0 < p.2.length) :
    Calls Try.prog 49 #[.pointer (some ⟨zb, 0, none⟩), .slice (some ⟨g, off, none⟩) k.length cap] w fun e w' => e = .returned (.tuple #[.agg #[nodeSl rb N i], .bool true]) ∧ Below w.heap.size w w' := by
  obtain ⟨⟨D, hD, hag⟩, _, hrr, hss⟩ := hz.at_
  have c7 := hz.z.cell (i := 7) (by decide)
  simp only [zz] at c7
  have hzl := hz.z.lt
  have hks : (⟨k.toArray⟩ : ByteArray).size ≤ maxLen := by
    have : (⟨k.toArray⟩ : ByteArray).size = k.length := by simp [ByteArray.size]
    rw [this]; unfold maxLen; omega
  have hil : i < N.length := (List.getElem?_eq_some_iff.1 hi).1
  have hst : st N i < st N (i + 1) := by rw [st_succ N i p hi]; omega
  have hrc : (rs N).length ≤ rc := by
    rcases hrr.2 with ⟨h0, _⟩ | ⟨g', cap', cur, hv, _, _, hnc, _⟩
    · cases h0
    · cases hv
      exact hnc
  have hb1 : Below w.heap.size w (w.alloc (.cells #[.slice none 0 0] 41)) := (Below.refl _ _).alloc (Nat.le_refl _) _
  have hcv := fun q => key_conv (hk.below hb1) cap q
  have hki : (keys N)[i]? = some k := by simp [keys, hi, hp]
  have hhas : Maps.has D (.string k) = true := by rw [hag.has]; simpa using List.mem_of_getElem? hki
  have hat : D.atKey (.string k) (.lit (.int .i64 0)) = .lit (.int .i64 (i : Int)) := hag.at_ i k hki
  have hlk := fun q => look_run (w := (w.alloc (.cells #[.slice none 0 0] 41)).drewN q) (by exact hD.alloc _) ⟨k.toArray⟩ hks hat
  simp only [hhas] at hlk
  have HN : Hid (∀ q, Calls Try.prog 62 #[.pointer (some ⟨zb, 0, none⟩), .int .i64 (i : Int)] ((w.alloc (.cells #[.slice none 0 0] 41)).drewN q) fun e w' => e = .returned (.agg #[nodeSl rb N i]) ∧ Below ((w.alloc (.cells #[.slice none 0 0] 41)).drewN q).heap.size ((w.alloc (.cells #[.slice none 0 0] 41)).drewN q) w') := fun q =>
    node_any zb mb B rb (rs N).length rc sb sc o N i _ (hz.below (hb1.trans (below_drewN _ _ q))).z (hz.below (hb1.trans (below_drewN _ _ q))).at_.ss rfl hrc hN hil hst
  clear hz hk hD hag hrr hss hi hki hst hrc
  go_enter Try.func49, Try.ntmps49
  go_wp2
  go_quiet (fail)
  go_wp2_with fail
  refine (HN.out _).mono ?_
  rintro e w2 ⟨rfl, hb2⟩
  have hb2' : Below w.heap.size w w2 := (hb1.trans (below_drewN _ _ _)).trans (hb2.mono (by simp))
  have c0 : w2.cell? ⟨w.heap.size, 0, none⟩ = some (.slice none 0 0) := (hb2.cell (p := ⟨w.heap.size, 0, none⟩) (by simp)).trans (by simp [go_sem])
  have f0 : w2.frozen? ⟨w.heap.size, 0, none⟩ = false := (hb2.frozen (p := ⟨w.heap.size, 0, none⟩) (by simp)).trans (by simp [go_sem])
  unfold nodeSl
  go_wp2
  refine bodyPost_ret (v := .tuple #[.agg #[nodeSl rb N i], .bool true]) (by simp [results, Try.results49, go_sem, c0, nodeSl]) rfl ⟨by unfold nodeSl; rfl, ?_⟩
  exact hb2'.setCell (Nat.le_refl _) _
end Go.Proofs.Qxb6003450a
