import Derived.Test.Qxb6604425aLawA
import Derived.Deep.OwnRows
import Derived.Lib.BufferWrite
import Derived.Lib.SlBuf
import Derived.Laws.IdiomStrings
namespace Go.Proofs.Qxb6604425a
open Go.RowKit

theorem Try.info5 : (Try.prog.info? 5).map (fun i => (i.zero, i.size, i.bytes)) = some (some (.int .u8 0), 1, 1) := by kernel_rfl
theorem Try.size5 : (Try.prog.info? 5).map (·.size) = some 1 := by kernel_rfl

/-- s with one byte more -/
def snoc (s : ByteArray) (c : Nat) : ByteArray := ⟨(s.data.toList ++ [UInt8.ofNat c]).toArray⟩
theorem snoc_size (s : ByteArray) (c : Nat) : (snoc s c).size = s.size + 1 := by
  show (s.data.toList ++ [UInt8.ofNat c]).toArray.size = _
  simp
theorem by8_snoc (s : ByteArray) (c i : Nat) (h : i < s.size) : by8 (snoc s c) i = by8 s i := by
  unfold by8 snoc
  have h2 : i < s.data.toList.length := by simpa using h
  rw [List.getD_eq_getElem?_getD, List.getD_eq_getElem?_getD]
  simp only [List.getElem?_append_left h2]
theorem by8_snoc_last (s : ByteArray) (c : Nat) (hc : c < 256) : by8 (snoc s c) s.size = c := by
  unfold by8 snoc
  have h2 : s.data.toList.length = s.size := by simp
  rw [List.getD_eq_getElem?_getD]
  simp only [List.getElem?_append_right (show s.data.toList.length ≤ s.size by omega), h2, Nat.sub_self]
  simp [Nat.mod_eq_of_lt hc]

def cel (s : ByteArray) (j : Nat) : Value := if j < s.size then .int .u8 (by8 s j : Int) else .int .u8 0

theorem copied_row (s : ByteArray) : (madeCells #[Value.int .u8 0] (s.size + 1)).toList.take 0 ++ Lib.byteCells s.data.toList ++ (madeCells #[Value.int .u8 0] (s.size + 1)).toList.drop (0 + s.size) = Lib.byteCells s.data.toList ++ [.int .u8 0] := by
  rw [toList_madeCells_one, List.take_zero, List.nil_append, Nat.zero_add, List.drop_replicate]
  simp
theorem copied_at (s : ByteArray) (i : Nat) (hi : i < s.size + 1) : (Lib.byteCells s.data.toList ++ [Value.int .u8 0])[i]? = some (cel s i) := by
  have hl : (Lib.byteCells s.data.toList).length = s.size := by simp [Lib.byteCells]
  unfold cel
  by_cases h : i < s.size
  · rw [if_pos h, List.getElem?_append_left (by omega)]
    have h2 : i < s.data.toList.length := by simpa using h
    have e : s.data.toList.getD i 0 = s.data.toList[i] := by rw [List.getD_eq_getElem?_getD, List.getElem?_eq_getElem h2]; rfl
    unfold by8
    rw [e]
    simp only [Lib.byteCells, List.getElem?_map, List.getElem?_eq_getElem h2, Option.map_some]
  · rw [if_neg h, List.getElem?_append_right (by omega), hl]
    have : i - s.size = 0 := by omega
    rw [this]
    rfl

theorem copied (s : ByteArray) (w : World) :
    ∃ w1, (∀ ty, (Builtin.copy_ #[28, 9] ty #[.slice (some ⟨w.heap.size, 0, none⟩) (s.size + 1) (s.size + 1), .string s]).run Try.prog (w.alloc (.cells (madeCells #[.int .u8 0] (s.size + 1)) 5)) = .ok (goInt s.size) w1) ∧ w1.rowIs w.heap.size 5 (s.size + 1) (cel s) ∧ Below w.heap.size w w1 := by
  refine ⟨_, fun ty => Lib.run_copy_row_string (P := Try.prog) _ 28 9 ty 5 w.heap.size 0 (s.size + 1) (s.size + 1) s _ 5 Try.underlying28 Try.size5 (heap_alloc_new w _) (by omega) (by rw [size_madeCells]; omega), ?_, ?_⟩
  · rw [copied_row]
    exact ⟨_, setRow_heap _ _ _ _ _ _ (heap_alloc_new w _), by simp [Lib.byteCells], fun i hi => by rw [← copied_at s i hi]; simp⟩
  · exact ((Below.refl _ w).alloc (Nat.le_refl _) _).trans ⟨rfl, rfl, rfl, by simp, fun k hk => setRow_other _ _ k _ (by omega)⟩

theorem snoc_row {s : ByteArray} {c : Nat} {w : World} {g : Nat} (hc : c < 256) (h : w.rowIs g 5 (s.size + 1) (cel s)) :
    ∀ q, (convert 28 9 (.slice (some ⟨g, 0, none⟩) (s.size + 1) (s.size + 1))).run Try.prog ((w.setCell ⟨g, s.size, none⟩ (.int .u8 (c : Int))).drewN q) = .ok (.string (snoc s c)) ((w.setCell ⟨g, s.size, none⟩ (.int .u8 (c : Int))).drewN q) := by
  intro q
  have hl : (s.data.toList ++ [UInt8.ofNat c]).length = s.size + 1 := by simp
  have hr := h.set s.size (.int .u8 (c : Int))
  have := run_convert_bytes_back (P := Try.prog) ((w.setCell ⟨g, s.size, none⟩ (.int .u8 (c : Int))).drewN q) 28 9 5 ⟨g, 0, none⟩ (s.size + 1) (s.data.toList ++ [UInt8.ofNat c]) Try.underlying28 Try.underlying5 Try.underlying9 (fun j hj => by
    rw [Addr.add_lit, Nat.zero_add, World.cell?_drewN, hr.cell (by omega)]
    by_cases hjs : j = s.size
    · subst hjs
      have h3 : (s.data.toList ++ [UInt8.ofNat c])[s.size]'hj = UInt8.ofNat c := by
        rw [List.getElem_append_right (by simp)]
        simp
      rw [if_pos rfl, h3]
      simp [Nat.mod_eq_of_lt hc]
    · have h2 : j < s.data.toList.length := by simp; omega
      rw [if_neg hjs, List.getElem_append_left h2]
      unfold cel
      rw [if_pos (by omega)]
      unfold by8
      have e : s.data.toList.getD j 0 = s.data.toList[j] := by rw [List.getD_eq_getElem?_getD, List.getElem?_eq_getElem h2]; rfl
      rw [e])
  rw [hl] at this
  exact this

theorem head_short (s : ByteArray) (c : Nat) (hc : c < 256) (h : s.size < 8) : headN (snoc s c) = headN s + c * 256 ^ s.size := by
  unfold headN
  rw [snoc_size, show min 8 (s.size + 1) = s.size + 1 by omega, show min 8 s.size = s.size by omega, leN_snoc, Nat.zero_add, by8_snoc_last s c hc,
    leN_congr (snoc s c) s s.size 0 0 (fun m hm => by rw [Nat.zero_add]; exact by8_snoc s c m hm)]
theorem head_long (s : ByteArray) (c : Nat) (h : 8 ≤ s.size) : headN (snoc s c) = headN s := by
  unfold headN
  rw [snoc_size, show min 8 (s.size + 1) = 8 by omega, show min 8 s.size = 8 by omega]
  exact leN_congr (snoc s c) s 8 0 0 (fun m hm => by rw [Nat.zero_add]; exact by8_snoc s c m (by omega))
theorem tail_short (s : ByteArray) (h : s.size ≤ 8) : tailN s = 0 := by unfold tailN; rw [if_neg (by omega)]
theorem tail_snoc (s : ByteArray) (c : Nat) (hc : c < 256) (h : 8 ≤ s.size) : tailN (snoc s c) = leN s (s.size - 7) 7 + c * 256 ^ 7 := by
  unfold tailN
  rw [snoc_size, if_pos (by omega), show s.size + 1 - 8 = s.size - 7 by omega, leN_snoc, show s.size - 7 + 7 = s.size by omega, by8_snoc_last s c hc,
    leN_congr (snoc s c) s 7 (s.size - 7) (s.size - 7) (fun m hm => by8_snoc s c _ (by omega))]
theorem low7 (s : ByteArray) (i : Nat) : leN s i 8 / 256 = leN s (i + 1) 7 := by
  have h := by8_lt s i
  rw [leN]
  omega

end Go.Proofs.Qxb6604425a
