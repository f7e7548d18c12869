import Derived.Test.Qxb6003450aRows
import Derived.Test.Qxb6003450aKit
import Derived.Deep.QuietTactic
import Derived.BigQuiet
import Derived.Deep.RegionHeld3
import Derived.Deep.DrawnRows
import Derived.Deep.RegionWith
import Derived.Lib.BufferWrite
namespace Go.Proofs.Qxb6003450a
open Go.RowKit

theorem Try.info5 : (Try.prog.info? 5).map (fun i => (i.zero, i.size, i.bytes)) = some (some (.int .u8 0), 1, 1) := by kernel_rfl

theorem ret_bool {a b : Bool} (h : a = b) : Ending.returned (.bool a) = .returned (.bool b) := by rw [h]
theorem own_as {w : World} {B : Nat} {e : TypeId} {s : Nat} {v : Value} {n m : Nat} {xs ys : List Value} (h : w.ownsRow B e s v n xs) (hn : n = m) (he : xs = ys) : w.ownsRow B e s v m ys := by
  subst hn; subst he; exact h

/-- append at this dump's []byte onto an owned row, of at least one byte -/
theorem append_bytes (w : World) {ops : Array Oper} {rest : List Oper} {o : Oper} {a : Act} {Q : Exit → Act → World → Prop} (hgd : o.guard = none) (s x : Operand) (tx : TypeId)
    (ho : o.op = .call { callee := .builtin .append, args := #[s, x], argTypes := #[29, tx] })
    (B : Nat) (v : Value) (l : List UInt8) (hv : a.eval s = v) (hrow : w.ownsRow B 5 1 v l.length (bc l)) (xv : Value) (r : List UInt8) (hx : a.eval x = xv) (hs : Src Try.prog 1 tx xv r.length (bc r) w) (hm : 0 < r.length)
    (hb : l.length + r.length ≤ 140737488355328) (hBw : B ≤ w.heap.size)
    (h : ∀ v' w' l', Hid (l' = l ++ r) → w'.ownsRow B 5 1 v' l'.length (bc l') → w.grownBy w' v.ownBlock → Below B w w' → wpList Try.prog ops Q rest (a.put o.dst v') w') : wpList Try.prog ops Q (o :: rest) a w := by
  obtain ⟨i0, hi, hz0, hz1, hz2⟩ := info_parts Try.info5
  refine wpList_plain hgd fun K hK => ?_
  obtain ⟨v', w', hr, h2, h3, h4⟩ := run_append_any (P := Try.prog) w B 29 tx o.type 5 i0 (.int .u8 0) 1 1 Try.underlying29 hi hz0 hz1 hz2 rfl v l.length (bc l) hrow xv r.length (bc r) hs hm (by omega) (by omega) hBw
  unfold Oper.wp execOp
  simp only [ho, resolve, invoke, builtin, Sem.run_bind, Sem.run_pure, Result.andThen_ok, List.map_toArray, List.map_cons, List.map_nil, hv, hx, hr]
  exact hK _ _ (h v' w' _ rfl (own_as h2 (by simp) (bc_append l r).symm) h3 ((Below.refl _ _).grown h3 hBw (fun k hk => (hrow.lt k hk).1)))

theorem src_new_at (w : World) (H : Nat) (hH : w.heap.size = H) (l : List UInt8) : Src Try.prog 1 29 (.slice (some ⟨H, 0, none⟩) l.length l.length) l.length (bc l) (w.alloc (.cells (bc l).toArray 5)) := by
  subst hH
  refine Src.ofSlice _ Try.underlying29 _ _ _ _ (by simp [bc]) (fun j u hu => ?_) (bc_one l)
  rw [Addr.add_lit]
  simp [go_sem, hu]

theorem src_owned {w : World} {B : Nat} {v : Value} {l : List UInt8} (h : w.ownsRow B 5 1 v l.length (bc l)) : Src Try.prog 1 29 v l.length (bc l) w := by
  have hn := h.1
  rcases h.2 with ⟨rfl, h0⟩ | ⟨g, cap, cur, rfl, _, hg, _⟩
  · have : l = [] := List.eq_nil_of_length_eq_zero h0
    subst this
    exact Src.ofNil w Try.underlying29 0
  · exact Src.ofSlice w Try.underlying29 _ _ _ _ hn (h.cells (g := g) rfl) (bc_one l)

theorem src_string (w : World) (s : ByteArray) : Src Try.prog 1 9 (.string s) s.data.toList.length (bc s.data.toList) w := by
  have := Src.ofString w Try.underlying9 s
  have e : s.size = s.data.toList.length := by simp
  rw [e] at this
  exact this

/-- string(bytes), an owned row -/
theorem conv_own {w : World} {B : Nat} {v : Value} {l : List UInt8} (h : w.ownsRow B 5 1 v l.length (bc l)) (dst : TypeId) (hd : Try.prog.underlying dst = some .string) (q : Nat) :
    (convert 29 dst v).run Try.prog (w.drewN q) = .ok (.string ⟨l.toArray⟩) (w.drewN q) := by
  rcases h.2 with ⟨rfl, h0⟩ | ⟨g, cap, cur, rfl, _, hg, _⟩
  · have : l = [] := List.eq_nil_of_length_eq_zero h0
    subst this
    rw [run_convert_bytes_string _ 29 dst 5 none 0 0 Try.underlying29 Try.underlying5 hd]
    rfl
  · refine run_convert_bytes_back (P := Try.prog) _ 29 dst 5 ⟨g, 0, none⟩ cap l Try.underlying29 Try.underlying5 hd fun j hj => ?_
    rw [World.cell?_drewN]
    exact h.cells (g := g) rfl j _ (by simp [bc, hj])

set_option maxHeartbeats 400000 in
theorem low54 (b : UInt8) (w : World) : Calls Try.prog 54 #[.int .u8 (b.toNat : Int)] w fun e w' => e = .returned (.int .u8 ((low b).toNat : Int)) ∧ w' = w := by
  have hb : b.toNat < 256 := b.toNat_lt
  rw [low_val]
  obtain ⟨x, hx⟩ : ∃ x : Nat, b.toNat = x := ⟨_, rfl⟩
  rw [hx] at hb ⊢
  clear hx
  by_cases h1 : 65 ≤ (x : Int)
  · by_cases h2 : (x : Int) ≤ 90
    · have hq : IntKind.u8.wrap ((x : Int) + 32) = (x : Int) + 32 := by rw [IntKind.wrap_u8]; omega
      go_enter Try.func54, Try.ntmps54
      go_wp2
      go_ret
      simp_all
    · go_enter Try.func54, Try.ntmps54
      go_wp2
      go_ret
      simp_all
  · go_enter Try.func54, Try.ntmps54
    go_wp2
    go_ret
    simp_all

set_option maxHeartbeats 400000 in
theorem low61 (b : UInt8) (w : World) : Calls Try.prog 61 #[.int .u8 (b.toNat : Int)] w fun e w' => e = .returned (.int .u8 ((low b).toNat : Int)) ∧ w' = w := by
  have hb : b.toNat < 256 := b.toNat_lt
  rw [low_val]
  obtain ⟨x, hx⟩ : ∃ x : Nat, b.toNat = x := ⟨_, rfl⟩
  rw [hx] at hb ⊢
  clear hx
  by_cases h1 : 65 ≤ (x : Int)
  · by_cases h2 : (x : Int) ≤ 90
    · have hq : IntKind.u8.wrap ((x : Int) + 97) = (x : Int) + 97 := by rw [IntKind.wrap_u8]; omega
      have hr : IntKind.u8.wrap ((x : Int) + 97 - 65) = (x : Int) + 32 := by rw [IntKind.wrap_u8]; omega
      go_enter Try.func61, Try.ntmps61
      go_wp2
      go_ret
      simp_all
    · go_enter Try.func61, Try.ntmps61
      go_wp2
      go_ret
      simp_all
  · go_enter Try.func61, Try.ntmps61
    go_wp2
    go_ret
    simp_all

theorem make_bytes (n : Nat) (hn : n ≤ 1073741824) (w : World) :
    (Instr.makeSlice 29 (.int .i64 (n : Int)) (.int .i64 (n : Int))).run Try.prog w = .ok (.slice (some ⟨w.heap.size, 0, none⟩) n n) (w.alloc (.cells (madeCells #[.int .u8 0] n) 5)) :=
  run_make_row' (P := Try.prog) 29 5 (.int .u8 0) 1 Try.underlying29 Try.info5 rfl .i64 .i64 n (by omega) (by omega) w

/-- the first k bytes folded, the rest nought -/
def fv (l : List UInt8) (k j : Nat) : Value := if j < k then .int .u8 ((low (l.getD j 0)).toNat : Int) else .int .u8 0

theorem fv_step {l : List UInt8} {wr : World} {g n k : Nat} (h : wr.rowIs g 5 n (fv l k)) : (wr.setCell ⟨g, k, none⟩ (.int .u8 ((low (l.getD k 0)).toNat : Int))).rowIs g 5 n (fv l (k + 1)) := by
  refine (h.set k _).congr fun j _ => ?_
  unfold fv
  by_cases e : j = k
  · subst e; simp
  · simp only [if_neg e]
    have : j < k + 1 ↔ j < k := by omega
    simp only [this]

theorem fv_own {l : List UInt8} {w : World} {g n B : Nat} (h : w.rowIs g 5 n (fv l n)) (hn : n = l.length) (hB : B ≤ g) (hm : n ≤ maxLen) : w.ownsRow B 5 1 (.slice (some ⟨g, 0, none⟩) n n) (fold l).length (bc (fold l)) := by
  obtain ⟨c, hb, hc, hf⟩ := h
  refine own_as (n := n) (xs := (List.range n).map (fv l n)) ⟨by simp, .inr ⟨g, n, c, rfl, hB, hb, Nat.le_refl _, hm, by omega, ?_⟩⟩ (by simp [fold, hn]) ?_
  · apply List.ext_getElem?
    intro i
    by_cases hi : i < n
    · rw [List.getElem?_take_of_lt (by omega)]
      simp [hi, hf i hi]
    · rw [List.getElem?_eq_none (by simp; omega), List.getElem?_eq_none (by simp; omega)]
  · subst hn
    apply List.ext_getElem (by simp [bc, fold])
    intro i h1 h2
    have hi : i < l.length := by simpa using h1
    simp [fv, bc, fold, List.getD, hi]

theorem str_at (s : ByteArray) (k : Nat) (h : k < s.size) : s[k] = s.data.toList.getD k 0 := by
  have h2 : k < s.data.toList.length := by simpa using h
  rw [List.getD_eq_getElem?_getD, List.getElem?_eq_getElem h2]
  rfl

set_option maxHeartbeats 1000000 in
theorem fold_any (s : ByteArray) (w : World) (hm : s.size ≤ 1048576) :
    Calls Try.prog 29 #[.string s] w fun e w' => e = .returned (.string ⟨(fold s.data.toList).toArray⟩) ∧ Below w.heap.size w w' := by
  have hmk := make_bytes s.size (by omega)
  go_enter Try.func29, Try.ntmps29
  go_wp2
  go_loopw [4] (fun i wx => ∃ k : Nat, k ≤ s.size ∧ i = .int .i64 k ∧ wx.rowIs w.heap.size 5 s.size (fv s.data.toList k) ∧ Below w.heap.size w wx) (fun i _ => s.size - (intOf i).toNat)
  case atStart => exact ⟨0, Nat.zero_le _, rfl, (World.rowIs_made w _ s.size 5).congr (fun i _ => by simp [fv]), (Below.refl _ _).alloc (Nat.le_refl _) _⟩
  case round =>
    obtain ⟨k, hk, rfl, hrow, hbx⟩ := hrel
    by_cases hlt : k < s.size
    · have hlt' : (k : Int) < (s.size : Int) := by omega
      have c1 := hrow.cell (i := k) hlt
      have f1 := hrow.frozen k
      have hat := str_at s k hlt
      have hrow' := fv_step hrow
      have hb' := hbx.setCell (p := ⟨w.heap.size, k, none⟩) (Nat.le_refl _) (.int .u8 ((low (s.data.toList.getD k 0)).toNat : Int))
      obtain ⟨b, hb⟩ : ∃ b, s.data.toList.getD k 0 = b := ⟨_, rfl⟩
      rw [hb] at hat hrow' hb'
      clear hb
      go_wp2_with fail
      refine (low54 b _).mono ?_
      rintro e w1 ⟨rfl, rfl⟩
      go_wp2
      go_roundw
      case rel => exact ⟨k + 1, by omega, by go_num, hrow', hb'⟩
      case measure => simp [intOf]; omega
    · obtain rfl : k = s.size := by omega
      have hcv := conv_own (fv_own (B := 0) hrow (by simp) (Nat.zero_le _) (by unfold maxLen; omega)) 9 Try.underlying9 0
      simp only [World.drewN_zero] at hcv
      go_wp2
      go_ret
      exact ⟨rfl, hbx⟩
end Go.Proofs.Qxb6003450a
