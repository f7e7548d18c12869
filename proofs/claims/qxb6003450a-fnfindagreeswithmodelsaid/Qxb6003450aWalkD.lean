import Derived.Test.Qxb6003450aWalkA
namespace Go.Proofs.Qxb6003450a
open Go.RowKit

theorem Try.info9 : (Try.prog.info? 9).map (fun i => (i.zero, i.size, i.bytes)) = some (some (.string ⟨#[]⟩), 1, 16) := by kernel_rfl
theorem Try.info4 : (Try.prog.info? 4).map (fun i => (i.zero, i.size, i.bytes)) = some (some (.bool false), 1, 1) := by kernel_rfl

/-- what the walk is told of a slice of one-cell things -/
def ThingsAt (w : World) (a : Option Addr) (len : Nat) (S : Nat → Value) : Prop :=
  (a = none → len = 0) ∧ (len = 0 ∨ ∃ g off : Nat, a = some ⟨g, off, none⟩ ∧ g < w.heap.size ∧ ∀ i, i < len → w.cell? ⟨g, off + i, none⟩ = some (S i))
theorem ThingsAt.below {w w' : World} {a : Option Addr} {len : Nat} {S : Nat → Value} (h : ThingsAt w a len S) (hb : Below w.heap.size w w') : ThingsAt w' a len S := by
  refine ⟨h.1, ?_⟩
  rcases h.2 with h | ⟨g, off, h1, h2, h3⟩
  · exact .inl h
  · exact .inr ⟨g, off, h1, Nat.lt_of_lt_of_le h2 hb.size, fun i hi => (hb.cell (p := ⟨g, off + i, none⟩) h2).trans (h3 i hi)⟩

theorem make_strs (n : Nat) (hn : n ≤ 1073741824) (w : World) :
    (Instr.makeSlice 22 (.int .i64 (n : Int)) (.int .i64 (n : Int))).run Try.prog w = .ok (.slice (some ⟨w.heap.size, 0, none⟩) n n) (w.alloc (.cells (madeCells #[.string ⟨#[]⟩] n) 9)) :=
  run_make_row' (P := Try.prog) 22 9 (.string ⟨#[]⟩) 16 Try.underlying22 Try.info9 rfl .i64 .i64 n (by omega) (by omega) w
theorem make_bools (n : Nat) (hn : n ≤ 1073741824) (w : World) :
    (Instr.makeSlice 23 (.int .i64 (n : Int)) (.int .i64 (n : Int))).run Try.prog w = .ok (.slice (some ⟨w.heap.size, 0, none⟩) n n) (w.alloc (.cells (madeCells #[.bool false] n) 4)) :=
  run_make_row' (P := Try.prog) 23 4 (.bool false) 1 Try.underlying23 Try.info4 rfl .i64 .i64 n (by omega) (by omega) w

def cpy (S : Nat → Value) (z : Value) (k j : Nat) : Value := if j < k then S j else z
theorem cpy_step {S : Nat → Value} {z : Value} {wr : World} {g n k : Nat} {t : TypeId} (h : wr.rowIs g t n (cpy S z k)) : (wr.setCell ⟨g, k, none⟩ (S k)).rowIs g t n (cpy S z (k + 1)) := by
  refine (h.set k _).congr fun j _ => ?_
  unfold cpy
  by_cases e : j = k
  · subst e; simp
  · simp only [if_neg e]
    have : j < k + 1 ↔ j < k := by omega
    simp only [this]

set_option maxHeartbeats 400000 in
theorem cloneS_any (a : Option Addr) (len cap : Nat) (T : Nat → ByteArray) (w : World) (h : ThingsAt w a len (fun i => .string (T i))) (hl : len ≤ 8) :
    Calls Try.prog 11 #[.slice a len cap] w fun e w' => (∃ a' cap', e = .returned (.slice a' len cap') ∧ ThingsAt w' a' len (fun i => .string (T i))) ∧ Below w.heap.size w w' := by
  have heq := fun wx => Lib.run_eql_slice_nil (P := Try.prog) wx 22 9 a len cap 0 0 Try.underlying22
  obtain ⟨h0, h⟩ := h
  cases a with
  | none =>
    have hz := h0 rfl
    subst hz
    clear h h0 hl
    go_enter Try.func11, Try.ntmps11
    go_wp2
    go_ret
    exact ⟨⟨_, _, rfl, fun _ => rfl, .inl rfl⟩, Below.refl _ _⟩
  | some x =>
    have hmk := make_strs len (by omega)
    clear h0
    go_enter Try.func11, Try.ntmps11
    go_wp2
    go_loopw [4] (fun i wx => ∃ k : Nat, k ≤ len ∧ i = .int .i64 k ∧ wx.rowIs w.heap.size 9 len (cpy (fun i => .string (T i)) (.string ⟨#[]⟩) k) ∧ Below w.heap.size w wx) (fun i _ => len - (intOf i).toNat)
    case atStart => exact ⟨0, Nat.zero_le _, rfl, (World.rowIs_made w _ len 9).congr (fun i _ => by simp [cpy]), (Below.refl _ _).alloc (Nat.le_refl _) _⟩
    case round =>
      obtain ⟨k, hk, rfl, hrow, hbx⟩ := hrel
      by_cases hlt : k < len
      · have hlt' : (k : Int) < (len : Int) := by omega
        obtain ⟨g, off, hx, hbl, hcc⟩ : ∃ g off : Nat, some x = some ⟨g, off, none⟩ ∧ g < w.heap.size ∧ ∀ i, i < len → w.cell? ⟨g, off + i, none⟩ = some (.string (T i)) := by
          rcases h with h | h
          · omega
          · exact h
        cases hx
        have c0 := (hbx.cell (p := ⟨g, off + k, none⟩) hbl).trans (hcc k hlt)
        have c1 := hrow.cell (i := k) hlt
        have f1 := hrow.frozen k
        have hrow' := cpy_step hrow
        have hb' := hbx.setCell (p := ⟨w.heap.size, k, none⟩) (Nat.le_refl _) (.string (T k))
        clear h hcc
        go_wp2
        go_roundw
        case rel => exact ⟨k + 1, by omega, by go_num, hrow', hb'⟩
        case measure => simp [intOf]; omega
      · obtain rfl : k = len := by omega
        go_wp2
        go_ret
        exact ⟨⟨_, _, rfl, fun h => (by cases h), .inr ⟨w.heap.size, 0, rfl, hrow.lt, fun i hi => by rw [Nat.zero_add, hrow.cell hi]; simp [cpy, hi]⟩⟩, hbx⟩

set_option maxHeartbeats 400000 in
theorem cloneB_any (a : Option Addr) (len cap : Nat) (T : Nat → Bool) (w : World) (h : ThingsAt w a len (fun i => .bool (T i))) (hl : len ≤ 8) :
    Calls Try.prog 12 #[.slice a len cap] w fun e w' => (∃ a' cap', e = .returned (.slice a' len cap') ∧ ThingsAt w' a' len (fun i => .bool (T i))) ∧ Below w.heap.size w w' := by
  have heq := fun wx => Lib.run_eql_slice_nil (P := Try.prog) wx 23 4 a len cap 0 0 Try.underlying23
  obtain ⟨h0, h⟩ := h
  cases a with
  | none =>
    have hz := h0 rfl
    subst hz
    clear h h0 hl
    go_enter Try.func12, Try.ntmps12
    go_wp2
    go_ret
    exact ⟨⟨_, _, rfl, fun _ => rfl, .inl rfl⟩, Below.refl _ _⟩
  | some x =>
    have hmk := make_bools len (by omega)
    clear h0
    go_enter Try.func12, Try.ntmps12
    go_wp2
    go_loopw [4] (fun i wx => ∃ k : Nat, k ≤ len ∧ i = .int .i64 k ∧ wx.rowIs w.heap.size 4 len (cpy (fun i => .bool (T i)) (.bool false) k) ∧ Below w.heap.size w wx) (fun i _ => len - (intOf i).toNat)
    case atStart => exact ⟨0, Nat.zero_le _, rfl, (World.rowIs_made w _ len 4).congr (fun i _ => by simp [cpy]), (Below.refl _ _).alloc (Nat.le_refl _) _⟩
    case round =>
      obtain ⟨k, hk, rfl, hrow, hbx⟩ := hrel
      by_cases hlt : k < len
      · have hlt' : (k : Int) < (len : Int) := by omega
        obtain ⟨g, off, hx, hbl, hcc⟩ : ∃ g off : Nat, some x = some ⟨g, off, none⟩ ∧ g < w.heap.size ∧ ∀ i, i < len → w.cell? ⟨g, off + i, none⟩ = some (.bool (T i)) := by
          rcases h with h | h
          · omega
          · exact h
        cases hx
        have c0 := (hbx.cell (p := ⟨g, off + k, none⟩) hbl).trans (hcc k hlt)
        have c1 := hrow.cell (i := k) hlt
        have f1 := hrow.frozen k
        have hrow' := cpy_step hrow
        have hb' := hbx.setCell (p := ⟨w.heap.size, k, none⟩) (Nat.le_refl _) (.bool (T k))
        clear h hcc
        go_wp2
        go_roundw
        case rel => exact ⟨k + 1, by omega, by go_num, hrow', hb'⟩
        case measure => simp [intOf]; omega
      · obtain rfl : k = len := by omega
        go_wp2
        go_ret
        exact ⟨⟨_, _, rfl, fun h => (by cases h), .inr ⟨w.heap.size, 0, rfl, hrow.lt, fun i hi => by rw [Nat.zero_add, hrow.cell hi]; simp [cpy, hi]⟩⟩, hbx⟩
end Go.Proofs.Qxb6003450a
