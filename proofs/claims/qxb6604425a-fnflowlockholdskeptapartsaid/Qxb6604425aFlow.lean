import Derived.Test.Qxb6604425aRows
import Derived.Test.Qxb6604425aLocks
import Derived.Conc.MuLone
import Derived.WalkKit
import Derived.WalkSpells
import Derived.WalkLawsBesides
import Derived.Deep.OwnRows
import Derived.Lib.BufferWrite
namespace Go.Proofs.Qxb6604425a
open Go.RowKit Go.MuLone

/-- what a flow lock's block holds: two free mutexes, the depth, the count -/
def fl (depth holds : Int) : Nat → Value
  | 0 => .int .i32 0
  | 1 => .int .u32 0
  | 2 => .int .i32 0
  | 3 => .int .u32 0
  | 4 => .int .i64 depth
  | _ => .int .i64 holds

theorem grown_trans {a b c : World} {row : Option Nat} (h : a.grownBy b row) (k : b.grownBy c row) : a.grownBy c row :=
  ⟨k.os.trans h.os, k.tape.trans h.tape, k.output.trans h.output, Nat.le_trans h.size k.size, fun i hi hr => (k.block i (Nat.lt_of_lt_of_le hi h.size) hr).trans (h.block i hi hr)⟩

set_option maxHeartbeats 400000 in
theorem new_any (d h : Int) (w : World) :
    Calls Try.prog 19 #[.int .i64 d, .int .i64 h] w fun e w' => e = .returned (.pointer (some ⟨w.heap.size, 0, none⟩)) ∧ w' = w.alloc (.cells #[.int .i32 0, .int .u32 0, .int .i32 0, .int .u32 0, .int .i64 d, .int .i64 h] 59) := by
  go_enter Try.func19, Try.ntmps19
  go_wp2
  go_ret
  exact ⟨rfl, rfl⟩

theorem new_row (d h : Int) (w : World) : (w.alloc (.cells #[.int .i32 0, .int .u32 0, .int .i32 0, .int .u32 0, .int .i64 d, .int .i64 h] 59)).rowIs w.heap.size 59 6 (fl d h) :=
  ⟨_, Go.Deep.blk_alloc_new _ _, rfl, fun i hi => by
    match i, hi with
    | 0, _ => rfl
    | 1, _ => rfl
    | 2, _ => rfl
    | 3, _ => rfl
    | 4, _ => rfl
    | 5, _ => rfl⟩

set_option maxHeartbeats 400000 in
theorem hold_any (b : Nat) (d n : Int) (w : World) (hr : w.rowIs b 59 6 (fl d n)) :
    Calls Try.prog 29 #[.pointer (some ⟨b, 0, none⟩)] w fun e w' => e = .returned (.tuple #[]) ∧ w'.rowIs b 59 6 (fl d (wrap64 (n + 1))) ∧ w.grownBy w' (some b) := by
  have h0 : w.cell? ⟨b, 0, none⟩ = some (.int .i32 0) := hr.cell (i := 0) (by omega)
  have h5 : w.cell? ⟨b, 5, none⟩ = some (.int .i64 n) := hr.cell (i := 5) (by omega)
  have f0 := hr.frozen 0
  have f5 := hr.frozen 5
  have hr' := ((hr.set 0 (.int .i32 1)).set 5 (.int .i64 (wrap64 (n + 1)))).set 0 (.int .i32 0)
  have hg := grown_trans (grown_trans (Lib.grownBy_setCell w b 0 (.int .i32 1)) (Lib.grownBy_setCell _ b 5 (.int .i64 (wrap64 (n + 1))))) (Lib.grownBy_setCell _ b 0 (.int .i32 0))
  have hrow : (((w.setCell ⟨b, 0, none⟩ (.int .i32 1)).setCell ⟨b, 5, none⟩ (.int .i64 (wrap64 (n + 1)))).setCell ⟨b, 0, none⟩ (.int .i32 0)).rowIs b 59 6 (fl d (wrap64 (n + 1))) := hr'.congr fun i hi => by
    match i, hi with
    | 0, _ => rfl
    | 1, _ => rfl
    | 2, _ => rfl
    | 3, _ => rfl
    | 4, _ => rfl
    | 5, _ => rfl
  clear hr hr'
  go_enter_defers Try.func29, Try.ntmps29
  go_wp2_with (go_at_call 32; refine (lock_free Try.muLib ⟨b, 0, none⟩ _ h0 f0).mono ?_; rintro e w' ⟨rfl, rfl⟩)
  refine leaves_cons (f := 33) (args := #[.pointer (some ⟨b, 0, none⟩)]) (by simp) (by simp [go_sem]) ?_
  refine (unlock_deferred Try.muLib ⟨b, 0, none⟩ .returning _ ?_ ?_).mono ?_
  · exact (World.cell?_setCell_other _ ⟨b, 5, none⟩ ⟨b, 0, none⟩ _ (by simp)).trans (World.cell?_setCell_same w ⟨b, 0, none⟩ (.int .i32 1) h0)
  · simp [f0]
  rintro e u' w'' ⟨rfl, rfl, rfl⟩
  exact ⟨_, results_none rfl _ _ _, rfl, hrow, hg⟩

set_option maxHeartbeats 400000 in
theorem zzhold_any (b : Nat) (d n : Int) (w : World) (hr : w.rowIs b 59 6 (fl d n)) :
    Calls Try.prog 20 #[.pointer (some ⟨b, 0, none⟩)] w fun e w' => e = .returned (.tuple #[]) ∧ w'.rowIs b 59 6 (fl d (wrap64 (n + 1))) ∧ w.grownBy w' (some b) := by
  go_enter Try.func20, Try.ntmps20
  go_wp2_with fail
  refine (hold_any b d n _ hr).mono ?_
  rintro e w' ⟨rfl, h1, h2⟩
  go_wp2
  go_end0
  exact ⟨rfl, h1, h2⟩

set_option maxHeartbeats 400000 in
theorem holds_any (b : Nat) (d n : Int) (w : World) (hr : w.rowIs b 59 6 (fl d n)) :
    Calls Try.prog 21 #[.pointer (some ⟨b, 0, none⟩)] w fun e w' => e = .returned (.int .i64 n) ∧ w' = w := by
  have h5 : w.cell? ⟨b, 5, none⟩ = some (.int .i64 n) := hr.cell (i := 5) (by omega)
  clear hr
  go_enter Try.func21, Try.ntmps21
  go_wp2
  go_ret
  exact ⟨rfl, rfl⟩

set_option maxHeartbeats 400000 in
theorem depth_any (b : Nat) (d n : Int) (w : World) (hr : w.rowIs b 59 6 (fl d n)) :
    Calls Try.prog 22 #[.pointer (some ⟨b, 0, none⟩)] w fun e w' => e = .returned (.int .i64 d) ∧ w' = w := by
  have h4 : w.cell? ⟨b, 4, none⟩ = some (.int .i64 d) := hr.cell (i := 4) (by omega)
  clear hr
  go_enter Try.func22, Try.ntmps22
  go_wp2
  go_ret
  exact ⟨rfl, rfl⟩
end Go.Proofs.Qxb6604425a
