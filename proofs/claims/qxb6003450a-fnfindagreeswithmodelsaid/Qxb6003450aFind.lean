import Derived.Test.Qxb6003450aMatch
import Derived.Test.Qxb6003450aPlain
namespace Go.Proofs.Qxb6003450a
open Go.RowKit

set_option maxHeartbeats 400000 in
theorem makeZone_any (o : ByteArray) (mb : Nat) (ra sa : Option Addr) (rn rc sn sc : Nat) (w : World) :
    Calls Try.prog 14 #[.string o, .map (some mb), .slice ra rn rc, .slice sa sn sc] w fun e w' => e = .returned (.pointer (some ⟨w.heap.size, 0, none⟩)) ∧ w'.rowIs w.heap.size 90 10 (zz o mb (.slice ra rn rc) (.slice sa sn sc)) ∧ Below w.heap.size w w' := by
  go_enter Try.func14, Try.ntmps14
  go_wp2
  go_ret
  refine ⟨rfl, ⟨_, Go.Deep.blk_alloc_new _ _, rfl, fun i hi => ?_⟩, (Below.refl _ _).alloc (Nat.le_refl _) _⟩
  match i, hi with
  | 0, _ | 1, _ | 2, _ | 3, _ | 4, _ | 5, _ | 6, _ | 7, _ | 8, _ | 9, _ => rfl

/-- the offsets of the labels -/
def offs (ls : List (List UInt8)) (m : Nat) : Nat := ((ls.take m).flatMap lab).length
theorem offs_succ {ls : List (List UInt8)} {m : Nat} (h : m < ls.length) : offs ls (m + 1) = offs ls m + (ls.getD m []).length + 1 := by
  unfold offs
  rw [List.take_succ_eq_append_getElem h, List.flatMap_append, List.length_append]
  simp [lab, List.getD, h]
  omega
theorem nm_drop (ls : List (List UInt8)) (W : List UInt8) (m : Nat) : (nm ls W).drop (offs ls m) = nm (ls.drop m) W := by
  unfold nm offs
  have e : ls.flatMap lab = (ls.take m).flatMap lab ++ (ls.drop m).flatMap lab := by rw [← List.flatMap_append, List.take_append_drop]
  rw [e, List.append_assoc]
  exact List.drop_left
theorem nm_len (ls : List (List UInt8)) (W : List UInt8) (m : Nat) (_ : m ≤ ls.length) : (nm ls W).length = offs ls m + (nm (ls.drop m) W).length := by
  rw [← nm_drop ls W m, List.length_drop]
  have : offs ls m ≤ (nm ls W).length := by
    unfold nm offs
    have e : ls.flatMap lab = (ls.take m).flatMap lab ++ (ls.drop m).flatMap lab := by rw [← List.flatMap_append, List.take_append_drop]
    rw [e]
    simp
  omega
theorem nm_byte (ls : List (List UInt8)) (W : List UInt8) (m : Nat) (h : m < ls.length) : (nm ls W).getD (offs ls m) 0 = UInt8.ofNat (ls.getD m []).length := by
  have e := nm_drop ls W m
  have h2 : ls.drop m = ls.getD m [] :: ls.drop (m + 1) := by
    rw [List.drop_eq_getElem_cons h]
    simp [List.getD, h]
  rw [h2] at e
  have e2 : ((nm ls W).drop (offs ls m))[0]? = some (UInt8.ofNat (ls.getD m []).length) := by
    rw [e]
    simp [nm, lab]
  rw [List.getElem?_drop, Nat.add_zero] at e2
  rw [List.getD_eq_getElem?_getD, e2]
  rfl

/-- what Find comes to -/
structure FM where
  cut : Value
  cutn : Value
  node : Value
  ex : Bool
  wd : Bool
def FM.val (m : FM) : Value := .agg #[m.cut, m.cutn, m.node, .bool m.ex, .bool m.wd]

/-- where a name stands -/
structure Look (N : List Nd) (W : List UInt8) (lk : List (List UInt8) → Option Nat) (ts : Nat → List Nat) (x : List (List UInt8)) : Prop where
  hit : ∀ i, lk x = some i → N[i]? = some (nm x W, ts i) ∧ (ts i = [2, 43] ∨ ∃ t, ts i = [t] ∧ t ≠ 2)
  miss : lk x = none → nm x W ∉ keys N

def nilV : Value := .slice none 0 0
def cutSl (rb : Nat) (N : List Nd) (i : Nat) : Value := .slice (some ⟨rb, st N i * 5, none⟩) 1 1
def wildF (rb : Nat) (N : List Nd) : Option Nat → FM
  | none => ⟨.slice none 0 0, .slice none 0 0, .slice none 0 0, false, false⟩
  | some i => ⟨.slice none 0 0, .slice none 0 0, nodeSl rb N i, false, true⟩
def resF (rb : Nat) (N : List Nd) (lk : List (List UInt8) → Option Nat) (ts : Nat → List Nat) (ls : List (List UInt8)) : Nat → FM
  | 0 => match lk ls with
    | none => wildF rb N (lk ([42] :: ls.drop 1))
    | some i => if ts i = [2, 43] then ⟨cutSl rb N i, nodeSl rb N i, nodeSl rb N i, true, false⟩ else ⟨.slice none 0 0, .slice none 0 0, nodeSl rb N i, true, false⟩
  | m + 1 => match lk (ls.drop (m + 1)) with
    | none => wildF rb N (lk ([42] :: ls.drop (m + 2)))
    | some i => if ts i = [2, 43] then ⟨cutSl rb N i, nodeSl rb N i, .slice none 0 0, false, false⟩ else resF rb N lk ts ls m

def origF (rb : Nat) (N : List Nd) : Option Nat → FM
  | none => ⟨.slice none 0 0, .slice none 0 0, .slice none 0 0, true, false⟩
  | some i => ⟨.slice none 0 0, .slice none 0 0, nodeSl rb N i, true, false⟩
def ansF (rb : Nat) (N : List Nd) (lk : List (List UInt8) → Option Nat) (ts : Nat → List Nat) (ls : List (List UInt8)) : FM :=
  match ls.length with
  | 0 => origF rb N (lk [])
  | d + 1 => resF rb N lk ts ls d
theorem ansF_succ {rb : Nat} {N : List Nd} {lk : List (List UInt8) → Option Nat} {ts : Nat → List Nat} {ls : List (List UInt8)} {d : Nat} (h : ls.length = d + 1) : ansF rb N lk ts ls = resF rb N lk ts ls d := by
  unfold ansF
  rw [h]

/-- Find's own memory -/
structure FS (w wr : World) (bb : Nat) (ls : List (List UInt8)) (W : List UInt8) (m : Nat) : Prop where
  res : wr.rowIs w.heap.size 43 5 (fun j => if j < 3 then .slice none 0 0 else .bool false)
  room : roomIs wr (w.heap.size + 1) 91 257 (nm ls W)
  star : roomIs wr (w.heap.size + 1 + 1) 91 257 []
  bel : wr.rowIs bb 93 127 (fun j => if j < m then .int .u8 (offs ls j : Int) else .int .u8 0)
  bB : w.heap.size + 3 ≤ bb
  bl : Below w.heap.size w wr
theorem FS.below {w wr w' : World} {bb : Nat} {ls : List (List UInt8)} {W : List UInt8} {m : Nat} (h : FS w wr bb ls W m) (hb : Below wr.heap.size wr w') : FS w w' bb ls W m :=
  ⟨h.res.of_block (hb.block _ h.res.lt), h.room.kept (hb.block _ h.room.lt), h.star.kept (hb.block _ h.star.lt), h.bel.of_block (hb.block _ h.bel.lt), h.bB, h.bl.trans (hb.mono h.bl.size)⟩
theorem FS.step {w wr : World} {bb : Nat} {ls : List (List UInt8)} {W : List UInt8} {m x : Nat} (h : FS w wr bb ls W m) (hx : x = offs ls m) : FS w (wr.setCell ⟨bb, m, none⟩ (.int .u8 (x : Int))) bb ls W (m + 1) := by
  have hB := h.bB
  refine ⟨h.res.setOther (a := ⟨bb, m, none⟩) (by show w.heap.size ≠ bb; omega) _, h.room.kept (Below.heap_setCell _ _ _ _ (by show w.heap.size + 1 ≠ bb; omega)), h.star.kept (Below.heap_setCell _ _ _ _ (by show w.heap.size + 1 + 1 ≠ bb; omega)), ?_, hB, h.bl.setCell (p := ⟨bb, m, none⟩) (by show w.heap.size ≤ bb; omega) _⟩
  refine (h.bel.set m _).congr fun j _ => ?_
  by_cases e : j = m
  · subst e; simp [hx]
  · simp only [if_neg e]
    have : j < m + 1 ↔ j < m := by omega
    simp only [this]

theorem FS.key {w wr : World} {bb : Nat} {ls : List (List UInt8)} {W : List UInt8} {k : Nat} (h : FS w wr bb ls W k) (m : Nat) (hm : m ≤ ls.length) : KeyAt wr (w.heap.size + 1) (offs ls m) (nm (ls.drop m) W) := by
  intro j hj
  have hl := nm_len ls W m hm
  rw [h.room.cell (offs ls m + j) (by omega), ← nm_drop ls W m]
  congr 4
  rw [List.getD_eq_getElem?_getD, List.getD_eq_getElem?_getD, List.getElem?_drop]
theorem nodeSl_len {N : List Nd} {i : Nat} {p : Nd} (rb : Nat) (h : N[i]? = some p) : nodeSl rb N i = .slice (some ⟨rb, st N i * 5, none⟩) p.2.length p.2.length := by
  unfold nodeSl
  rw [st_succ N i p h, Nat.add_sub_cancel_left]

theorem src_key {w : World} {g off : Nat} {k : List UInt8} (h : KeyAt w g off k) (cap : Nat) : Src Try.prog 1 29 (.slice (some ⟨g, off, none⟩) k.length cap) k.length (bc k) w := by
  refine Src.ofSlice _ Try.underlying29 _ _ _ _ (by simp [bc]) (fun j u hu => ?_) (bc_one k)
  have hj : j < k.length := by
    have := (List.getElem?_eq_some_iff.1 hu).1
    simpa [bc] using this
  rw [Addr.add_lit, h j hj]
  simp only [bc, List.getElem?_map, List.getElem?_eq_getElem hj, Option.map_some, Option.some.injEq] at hu
  rw [← hu]
  simp [List.getD, hj]
theorem room_key {w : World} {g : Nat} {d : TypeId} {cap : Nat} {l : List UInt8} (h : roomIs w g d cap l) : KeyAt w g 0 l := fun j hj => by rw [Nat.zero_add]; exact h.cell j hj

theorem below_set' {B : Nat} {a w : World} {b o : Nat} {u : Value} (h : Below B a w) (hp : B ≤ b) : Below B a (w.setCell ⟨b, o, none⟩ u) := h.setCell (p := ⟨b, o, none⟩) hp u
/-- a block that no step between has turned -/
theorem two_grown {w3 w4 w5 : World} {o : Obj} {r b : Nat} (hg4 : (w3.alloc o).grownBy w4 (some r)) (hg5 : w4.grownBy w5 (some r)) (hb : b < w3.heap.size) (hne : b ≠ r) : w5.heap[b]? = w3.heap[b]? := by
  have h4 := hg4.block b (by simp; omega) (fun e => hne (Option.some.inj e))
  have hs : b < w4.heap.size := Nat.lt_of_lt_of_le (by simp; omega) hg4.size
  rw [hg5.block b hs (fun e => hne (Option.some.inj e)), h4, Below.heap_alloc _ _ _ hb]
theorem resF_wild {rb : Nat} {N : List Nd} {lk : List (List UInt8) → Option Nat} {ts : Nat → List Nat} {ls : List (List UInt8)} {m : Nat} (h : lk (ls.drop m) = none) : resF rb N lk ts ls m = wildF rb N (lk ([42] :: ls.drop (m + 1))) := by
  cases m with
  | zero =>
    rw [List.drop_zero] at h
    rw [resF, h]
  | succ m => rw [resF, h]

theorem offs_zero (ls : List (List UInt8)) : offs ls 0 = 0 := by simp [offs]
theorem resF_cut0 {rb : Nat} {N : List Nd} {lk : List (List UInt8) → Option Nat} {ts : Nat → List Nat} {ls : List (List UInt8)} {i : Nat} (h : lk (ls.drop 0) = some i) (ht : ts i = [2, 43]) : resF rb N lk ts ls 0 = ⟨cutSl rb N i, nodeSl rb N i, nodeSl rb N i, true, false⟩ := by
  rw [List.drop_zero] at h
  rw [resF, h]
  simp only [ht, if_true]
theorem resF_cut {rb : Nat} {N : List Nd} {lk : List (List UInt8) → Option Nat} {ts : Nat → List Nat} {ls : List (List UInt8)} {i m : Nat} (h : lk (ls.drop (m + 1)) = some i) (ht : ts i = [2, 43]) : resF rb N lk ts ls (m + 1) = ⟨cutSl rb N i, nodeSl rb N i, .slice none 0 0, false, false⟩ := by
  rw [resF, h]
  simp only [ht, if_true]
theorem resF_one0 {rb : Nat} {N : List Nd} {lk : List (List UInt8) → Option Nat} {ts : Nat → List Nat} {ls : List (List UInt8)} {i t : Nat} (h : lk (ls.drop 0) = some i) (ht : ts i = [t]) : resF rb N lk ts ls 0 = ⟨.slice none 0 0, .slice none 0 0, nodeSl rb N i, true, false⟩ := by
  rw [List.drop_zero] at h
  rw [resF, h]
  simp only [ht]
  rw [if_neg (by simp)]
theorem resF_one {rb : Nat} {N : List Nd} {lk : List (List UInt8) → Option Nat} {ts : Nat → List Nat} {ls : List (List UInt8)} {i t m : Nat} (h : lk (ls.drop (m + 1)) = some i) (ht : ts i = [t]) : resF rb N lk ts ls (m + 1) = resF rb N lk ts ls m := by
  rw [resF, h]
  simp only [ht]
  rw [if_neg (by simp)]

theorem zero91 : Try.zeroCells91.size = 257 := by kernel_rfl
theorem zero93 : Try.zeroCells93 = Array.replicate 127 (Value.int .u8 0) := by kernel_rfl

set_option maxRecDepth 20000 in
set_option maxHeartbeats 4000000 in
theorem find_any (zb mb B rb rc sb sc : Nat) (W : List UInt8) (N : List Nd) (lk : List (List UInt8) → Option Nat) (ts : Nat → List Nat) (ls : List (List UInt8)) (s : ByteArray) (w : World) (hz : ZoneIs w zb mb B rb rc sb sc ⟨W.toArray⟩ N) (hN : N.length ≤ 100)
    (hs : fold s.data.toList = nm ls W) (hd : ls.length ≤ 2) (hll : ∀ m, m < ls.length → 1 ≤ (ls.getD m []).length ∧ (ls.getD m []).length ≤ 20) (hW : W.length ≤ 22) (hlk : ∀ m, m ≤ ls.length → Look N W lk ts (ls.drop m) ∧ Look N W lk ts ([42] :: ls.drop m)) :
    Calls Try.prog 15 #[.pointer (some ⟨zb, 0, none⟩), .string s] w fun e w' => e = .returned (FM.val (ansF rb N lk ts ls)) ∧ Below w.heap.size w w' := by
  have hsl : s.size = (nm ls W).length := by rw [← hs, fold_length]; simp
  have hnl : (nm ls W).length = offs ls ls.length + W.length := by rw [nm_len ls W ls.length (Nat.le_refl _), List.drop_length]; simp [nm]
  have hoff : offs ls ls.length ≤ 42 := by
    match ls, hd, hll with
    | [], _, _ => simp [offs]
    | [a], _, h =>
      have := (h 0 (by simp)).2
      simp at this
      simp [offs, lab]; omega
    | [a, b], _, h =>
      have h1 := (h 0 (by simp)).2
      have h2 := (h 1 (by simp)).2
      simp at h1 h2
      simp [offs, lab]; omega
  have hr : roomIs (((w.alloc (.cells #[.slice none 0 0, .slice none 0 0, .slice none 0 0, .bool false, .bool false] 43)).alloc (.cells Try.zeroCells91 91)).alloc (.cells Try.zeroCells91 91)) (w.heap.size + 1) 91 257 [] := by
    refine ⟨Try.zeroCells91, ?_, zero91, by simp [bc]⟩
    rw [Below.heap_alloc _ _ _ (by simp)]
    have := heap_alloc_new (w.alloc (.cells #[.slice none 0 0, .slice none 0 0, .slice none 0 0, .bool false, .bool false] 43)) (.cells Try.zeroCells91 91)
    simpa using this
  go_enter Try.func15, Try.ntmps15
  go_wp2_with fail
  refine (appendFold_any s (w.heap.size + 1) 91 257 _ hr (by omega) (by decide)).mono ?_
  rintro e w1 ⟨rfl, hr1, hg1⟩
  have hsz : (((w.alloc (.cells #[.slice none 0 0, .slice none 0 0, .slice none 0 0, .bool false, .bool false] 43)).alloc (.cells Try.zeroCells91 91)).alloc (.cells Try.zeroCells91 91)).heap.size = w.heap.size + 3 := by simp
  have hb0 : Below w.heap.size w (((w.alloc (.cells #[.slice none 0 0, .slice none 0 0, .slice none 0 0, .bool false, .bool false] 43)).alloc (.cells Try.zeroCells91 91)).alloc (.cells Try.zeroCells91 91)) := (((Below.refl _ _).alloc (Nat.le_refl _) _).alloc (by simp) _).alloc (by simp; omega) _
  have hb1 : Below w.heap.size w w1 := hb0.grown hg1 (by rw [hsz]; omega) (fun k hk => by have := Option.some.inj hk; omega)
  have hsz1 : w.heap.size + 3 ≤ w1.heap.size := by have := hg1.size; omega
  rw [hs] at hr1
  have hfs : FS w (w1.alloc (.cells Try.zeroCells93 93)) w1.heap.size ls W 0 := by
    refine ⟨?_, hr1.kept (Below.heap_alloc _ _ _ hr1.lt), ?_, ?_, hsz1, hb1.alloc (by omega) _⟩
    · refine World.rowIs.alloc ⟨#[.slice none 0 0, .slice none 0 0, .slice none 0 0, .bool false, .bool false], ?_, rfl, fun i hi => ?_⟩ _
      · rw [hg1.block w.heap.size (by omega) (fun e => by have := Option.some.inj e; omega), Below.heap_alloc _ _ _ (by simp; omega), Below.heap_alloc _ _ _ (by simp)]
        exact heap_alloc_new w _
      · match i, hi with
        | 0, _ | 1, _ | 2, _ | 3, _ | 4, _ => rfl
    · refine ⟨Try.zeroCells91, ?_, zero91, by simp [bc]⟩
      rw [Below.heap_alloc _ _ _ (by omega), hg1.block (w.heap.size + 1 + 1) (by omega) (fun e => by have := Option.some.inj e; omega)]
      have := heap_alloc_new ((w.alloc (.cells #[.slice none 0 0, .slice none 0 0, .slice none 0 0, .bool false, .bool false] 43)).alloc (.cells Try.zeroCells91 91)) (.cells Try.zeroCells91 91)
      simpa using this
    · refine ⟨Try.zeroCells93, heap_alloc_new _ _, by rw [zero93]; simp, fun i hi => ?_⟩
      rw [zero93]
      simp [hi]
  have HS : Hid (s.size = offs ls ls.length + W.length) := by show s.size = _; omega
  have hz1 : ZoneIs w1 zb mb B rb rc sb sc ⟨W.toArray⟩ N := hz.below hb1
  have HZ : Hid (∀ w', Below w.heap.size w w' → ZoneIs w' zb mb B rb rc sb sc ⟨W.toArray⟩ N) := fun w' hb => hz.below hb
  have hzl := hz.z.lt
  obtain ⟨n, hn⟩ : ∃ n, n = s.size := ⟨_, rfl⟩
  rw [← hn] at HS ⊢
  have HLK : Hid (∀ m, m ≤ ls.length → Look N W lk ts (ls.drop m) ∧ Look N W lk ts ([42] :: ls.drop m)) := hlk
  have HLL : Hid (∀ m, m < ls.length → 1 ≤ (ls.getD m []).length ∧ (ls.getD m []).length ≤ 20) := hll
  clear hsz hb0 hb1 hr1 hr hz hz1 hs hsl hnl hn hlk hll hg1
  go_wp2
  have hWs : (⟨W.toArray⟩ : ByteArray).size = W.length := by simp [ByteArray.size]
  have hn64 : n ≤ 64 := by have := HS.out; omega
  go_loopw [9, 10] (fun kv iv wx => ∃ m : Nat, m ≤ ls.length ∧ kv = .int .i64 (m : Int) ∧ iv = .int .i64 (offs ls m : Int) ∧ FS w wx w1.heap.size ls W m) (fun kv _ _ => ls.length - (intOf kv).toNat)
  case atStart => exact ⟨0, Nat.zero_le _, rfl, by simp [offs], hfs⟩
  case round =>
    clear hfs
    obtain ⟨m, hm, rfl, rfl, hf⟩ := hrel
    have c0 : wr.cell? ⟨zb, 0, none⟩ = some (.string ⟨W.toArray⟩) := (HZ.out wr hf.bl).z.cell (i := 0) (by decide)
    by_cases hlt : m < ls.length
    · obtain ⟨hl0, hl1⟩ := HLL.out m hlt
      have hos := offs_succ hlt
      have hol : offs ls (m + 1) ≤ offs ls ls.length := by
        have h1 := nm_len ls W (m + 1) (by omega)
        have h2 := nm_len ls W ls.length (Nat.le_refl _)
        have h3 : (nm (ls.drop ls.length) W).length = W.length := by rw [List.drop_length]; simp [nm]
        have h4 : W.length ≤ (nm (ls.drop (m + 1)) W).length := by unfold nm; rw [List.length_append]; omega
        omega
      have by0 := hf.room.cell (offs ls m) (by
        have h2 := nm_len ls W ls.length (Nat.le_refl _)
        omega)
      rw [nm_byte ls W m hlt] at by0
      obtain ⟨x, hx⟩ : ∃ x, x = offs ls m := ⟨_, rfl⟩
      obtain ⟨y, hy⟩ : ∃ y, y = (ls.getD m []).length := ⟨_, rfl⟩
      have hby : ((UInt8.ofNat y).toNat : Int) = (y : Int) := by
        have : (UInt8.ofNat y).toNat = y := by simp; omega
        rw [this]
      rw [← hy] at by0 hos hl0 hl1
      rw [hby] at by0
      rw [← hx] at by0 hos
      have g1 : (W.length : Int) < (n : Int) - (x : Int) := by have := HS.out; omega
      have g2 : (x : Int) < (n : Int) := by omega
      have q1 : IntKind.u8.wrap (x : Int) = (x : Int) := by rw [IntKind.wrap_u8]; omega
      have p0 := hf.bel.cell (i := m) (by omega)
      have p1 := hf.bel.frozen m
      have i0 : (m : Int) < 127 := by omega
      have HX : Hid (x = offs ls m ∧ offs ls (m + 1) = x + y + 1) := ⟨hx, hos⟩
      have a1 : ¬ w.heap.size + 1 = w1.heap.size := by omega
      have a2 : ¬ w1.heap.size = w.heap.size + 1 := by omega
      have a3 : ¬ zb = w1.heap.size := by omega
      have a4 : ¬ w1.heap.size = zb := by omega
      rw [← hx]
      clear hx hy hby hos hol
      have x42 : x ≤ 64 := by omega
      go_wp2
      exact ⟨⟨m + 1, by omega, by go_num, by rw [HX.out.2]; congr 1; omega, hf.step HX.out.1⟩, by simp [intOf]; omega⟩
    · obtain rfl : m = ls.length := by omega
      clear hlt hm
      have hnn : n = (nm ls W).length := by rw [HS.out, nm_len ls W ls.length (Nat.le_refl _), List.drop_length]; simp [nm]
      have g1 : ¬ (W.length : Int) < (n : Int) - (offs ls ls.length : Int) := by have := HS.out; omega
      have hoff64 : offs ls ls.length ≤ 64 := by omega
      obtain ⟨x, hx⟩ : ∃ x, x = offs ls ls.length := ⟨_, rfl⟩
      rw [← hx] at g1 hoff64 ⊢
      clear hx
      rcases Nat.eq_zero_or_pos ls.length with h0 | hpos
      · have hE : ls = [] := List.eq_nil_of_length_eq_zero h0
        have HE : Hid (ls = []) := hE
        have hkey := hf.key 0 (Nat.zero_le _)
        have hz := HZ.out wr hf.bl
        have hl0 := (HLK.out 0 (Nat.zero_le _)).1
        rw [List.drop_zero, offs_zero] at hkey
        rw [List.drop_zero] at hl0
        have h0' : (ls.length : Int) = 0 := by omega
        have hnW : (nm ls W).length ≤ 1000 := by omega
        cases hlk : lk ls with
        | none =>
          have HFM : Hid (Calls Try.prog 49 #[.pointer (some ⟨zb, 0, none⟩), .slice (some ⟨w.heap.size + 1, 0, none⟩) (nm ls W).length 257] wr fun e w' => e = .returned (.tuple #[.agg #[.slice none 0 0], .bool false]) ∧ Below wr.heap.size wr w') := find_miss zb mb B rb rc sb sc ⟨W.toArray⟩ N (w.heap.size + 1) 0 257 (nm ls W) wr hz hkey hnW (hl0.miss hlk)
          have HA : Hid (ansF rb N lk ts ls = ⟨.slice none 0 0, .slice none 0 0, .slice none 0 0, true, false⟩) := by show _ = _; rw [hE] at hlk ⊢; show origF rb N (lk []) = _; rw [hlk]; rfl
          clear hz hkey hl0 hlk hE
          go_wp2_with fail
          refine HFM.out.mono ?_
          rintro e w2 ⟨rfl, hb2⟩
          have hf2 := hf.below hb2
          have hb2w := hf2.bl
          have r0 : w2.cell? ⟨w.heap.size, 0, none⟩ = some (.slice none 0 0) := hf2.res.cell (i := 0) (by decide)
          have r1 : w2.cell? ⟨w.heap.size, 1, none⟩ = some (.slice none 0 0) := hf2.res.cell (i := 1) (by decide)
          have r2 : w2.cell? ⟨w.heap.size, 2, none⟩ = some (.slice none 0 0) := hf2.res.cell (i := 2) (by decide)
          have r3 : w2.cell? ⟨w.heap.size, 3, none⟩ = some (.bool false) := hf2.res.cell (i := 3) (by decide)
          have r4 : w2.cell? ⟨w.heap.size, 4, none⟩ = some (.bool false) := hf2.res.cell (i := 4) (by decide)
          have f2 := fun j => hf2.res.frozen j
          have hw2s : w.heap.size < w2.heap.size := hf2.res.lt
          clear hf hf2 HFM
          go_wp2
          refine bodyPost_ret (v := FM.val ⟨.slice none 0 0, .slice none 0 0, .slice none 0 0, true, false⟩) (by simp [results, Try.results15, go_sem, *, FM.val]) rfl ⟨congrArg (fun e => Ending.returned (FM.val e)) HA.out.symm, ?_⟩
          refine Below.alloc (below_set' (below_set' (below_set' (below_set' (below_set' hb2w (Nat.le_refl _)) (Nat.le_refl _)) (Nat.le_refl _)) (Nat.le_refl _)) (Nat.le_refl _)) ?_ _
          simp only [World.setCell, Array.size_modify]
          exact Nat.le_of_lt hw2s
        | some i =>
          obtain ⟨hi, hts⟩ := hl0.hit i hlk
          have hp0 : 0 < (ts i).length := by rcases hts with h | ⟨t, h, _⟩ <;> rw [h] <;> simp
          obtain ⟨qa, ql, qc, hq⟩ : ∃ a l c, nodeSl rb N i = .slice a l c := ⟨_, _, _, rfl⟩
          have hfh := find_hit zb mb B rb rc sb sc ⟨W.toArray⟩ N (w.heap.size + 1) 0 257 (nm ls W) i (nm ls W, ts i) wr hz hkey hnW hN hi rfl hp0
          rw [hq] at hfh
          have HFM : Hid (Calls Try.prog 49 #[.pointer (some ⟨zb, 0, none⟩), .slice (some ⟨w.heap.size + 1, 0, none⟩) (nm ls W).length 257] wr fun e w' => e = .returned (.tuple #[.agg #[.slice qa ql qc], .bool true]) ∧ Below wr.heap.size wr w') := hfh
          have HA : Hid (ansF rb N lk ts ls = ⟨.slice none 0 0, .slice none 0 0, .slice qa ql qc, true, false⟩) := by show _ = _; rw [hE] at hlk ⊢; show origF rb N (lk []) = _; rw [hlk, ← hq]; rfl
          clear hz hkey hl0 hlk hfh hi hts hp0 hq hE
          go_wp2_with fail
          refine HFM.out.mono ?_
          rintro e w2 ⟨rfl, hb2⟩
          have hf2 := hf.below hb2
          have hb2w := hf2.bl
          have r0 : w2.cell? ⟨w.heap.size, 0, none⟩ = some (.slice none 0 0) := hf2.res.cell (i := 0) (by decide)
          have r1 : w2.cell? ⟨w.heap.size, 1, none⟩ = some (.slice none 0 0) := hf2.res.cell (i := 1) (by decide)
          have r2 : w2.cell? ⟨w.heap.size, 2, none⟩ = some (.slice none 0 0) := hf2.res.cell (i := 2) (by decide)
          have r3 : w2.cell? ⟨w.heap.size, 3, none⟩ = some (.bool false) := hf2.res.cell (i := 3) (by decide)
          have r4 : w2.cell? ⟨w.heap.size, 4, none⟩ = some (.bool false) := hf2.res.cell (i := 4) (by decide)
          have f2 := fun j => hf2.res.frozen j
          have hw2s : w.heap.size < w2.heap.size := hf2.res.lt
          clear hf hf2 HFM
          go_wp2
          refine bodyPost_ret (v := FM.val ⟨.slice none 0 0, .slice none 0 0, .slice qa ql qc, true, false⟩) (by simp [results, Try.results15, go_sem, *, FM.val]) rfl ⟨congrArg (fun e => Ending.returned (FM.val e)) HA.out.symm, ?_⟩
          refine Below.alloc (below_set' (below_set' (below_set' (below_set' (below_set' hb2w (Nat.le_refl _)) (Nat.le_refl _)) (Nat.le_refl _)) (Nat.le_refl _)) (Nat.le_refl _)) ?_ _
          simp only [World.setCell, Array.size_modify]
          exact Nat.le_of_lt hw2s
      · have hd0 : ¬ (ls.length : Int) = 0 := by omega
        obtain ⟨d, hdd⟩ : ∃ d, ls.length = d + 1 := ⟨ls.length - 1, by omega⟩
        rw [hdd]
        rw [hdd] at hd0 hf
        have hd1 : d ≤ 1 := by omega
        have HD : Hid (ls.length = d + 1) := hdd
        clear hdd
        go_wp2
        go_loopw [13] (fun jv wx => ∃ m : Nat, m ≤ d ∧ jv = .int .i64 (m : Int) ∧ FS w wx w1.heap.size ls W (d + 1) ∧ Hid (resF rb N lk ts ls m = resF rb N lk ts ls d)) (fun jv _ => (intOf jv).toNat)
        case atStart => exact ⟨d, Nat.le_refl _, rfl, hf, rfl⟩
        case round =>
          clear hf c0
          obtain ⟨m, hm, rfl, hf, HR⟩ := hrel
          have p0 : wr.cell? ⟨w1.heap.size, m, none⟩ = some (.int .u8 (offs ls m : Int)) := (hf.bel.cell (i := m) (by omega)).trans (by rw [if_pos (by omega)])
          have i0 : (m : Int) < 127 := by omega
          have hml : m ≤ ls.length := by have := HD.out; omega
          have hkey := hf.key m hml
          have hnl := nm_len ls W m hml
          have hlm := (HLK.out m hml).1
          have hls := (HLK.out (m + 1) (by have := HD.out; omega)).2
          obtain ⟨X, hX⟩ : ∃ X, X = nm (ls.drop m) W := ⟨_, rfl⟩
          obtain ⟨x, hx⟩ : ∃ x, x = offs ls m := ⟨_, rfl⟩
          rw [← hX, ← hx] at hkey
          rw [← hX, ← hx] at hnl
          rw [← hx] at p0
          have hx64 : (nm ls W).length ≤ 64 := by omega
          have q1 : IntKind.i64.wrap (x : Int) = (x : Int) := by rw [IntKind.wrap_i64]; omega
          have b1 : (x : Int) ≤ ((nm ls W).length : Int) := by omega
          have b2 : (x : Int) ≤ 257 := by omega
          have b3 : ¬ 257 = x := by omega
          have b4 : ¬ x = 257 := by omega
          have hsub : (nm ls W).length - x = X.length := by omega
          have HXX : Hid (X = nm (ls.drop m) W ∧ x = offs ls m ∧ (nm ls W).length = x + X.length) := ⟨hX, hx, hnl⟩
          have hz := HZ.out wr hf.bl
          clear hX hx hnl
          cases hlk : lk (ls.drop m) with
          | none =>
            have hnk := hlm.miss hlk
            rw [← HXX.out.1] at hnk
            have hfm := find_miss zb mb B rb rc sb sc ⟨W.toArray⟩ N (w.heap.size + 1) x (257 - x) X wr hz hkey (by omega) hnk
            have HFM : Hid (Calls Try.prog 49 #[.pointer (some ⟨zb, 0, none⟩), .slice (some ⟨w.heap.size + 1, x, none⟩) X.length (257 - x)] wr fun e w' => e = .returned (.tuple #[.agg #[.slice none 0 0], .bool false]) ∧ Below wr.heap.size wr w') := hfm
            clear hfm hz hnk hkey hlm
            go_wp2_with fail
            refine HFM.out.mono ?_
            rintro e w2 ⟨rfl, hb2⟩
            have hf2 := hf.below hb2
            have hb2w : Below w.heap.size w w2 := hf2.bl
            have hbb2 : w1.heap.size < w2.heap.size := hf2.bel.lt
            clear HFM p0
            go_wp2_with fail
            refine (rrset_nil _).mono ?_
            rintro e w3 ⟨rfl, hb3⟩
            have hb23 : Below w2.heap.size w2 w3 := ((Below.refl _ _).alloc (Nat.le_refl _) _).trans (hb3.mono (by simp))
            have hf3 := hf2.below hb23
            have n3 : w3.cell? ⟨w2.heap.size, 0, none⟩ = some (.slice none 0 0) := (hb3.cell (p := ⟨w2.heap.size, 0, none⟩) (by simp)).trans (by simp [go_sem])
            have n3f : w3.frozen? ⟨w2.heap.size, 0, none⟩ = false := (hb3.frozen (p := ⟨w2.heap.size, 0, none⟩) (by simp)).trans (by simp [go_sem])
            have hmlt : m < ls.length := by have := HD.out; omega
            obtain ⟨hl0, hl1⟩ := HLL.out m hmlt
            have hos := offs_succ hmlt
            have by0 := hf3.room.cell (offs ls m) (by have := HXX.out; have h1 := nm_len ls W (m + 1) (by have := HD.out; omega); omega)
            rw [nm_byte ls W m hmlt] at by0
            have hkey3 := hf3.key (m + 1) (by have := HD.out; omega)
            have hnl3 := nm_len ls W (m + 1) (by have := HD.out; omega)
            obtain ⟨y, hy⟩ : ∃ y, y = (ls.getD m []).length := ⟨_, rfl⟩
            have hby : ((UInt8.ofNat y).toNat : Int) = (y : Int) := by
              have : (UInt8.ofNat y).toNat = y := by simp; omega
              rw [this]
            rw [← hy] at by0 hos hl0 hl1
            rw [hby] at by0
            rw [← HXX.out.2.1] at by0 hos
            obtain ⟨Y, hY⟩ : ∃ Y, Y = nm (ls.drop (m + 1)) W := ⟨_, rfl⟩
            rw [← hY] at hkey3 hnl3
            obtain ⟨z, hz'⟩ : ∃ z, z = offs ls (m + 1) := ⟨_, rfl⟩
            rw [← hz'] at hkey3 hnl3 hos
            have c1 : (x : Int) < ((nm ls W).length : Int) := by omega
            have q2 : IntKind.i64.wrap ((x : Int) + 1) = (x : Int) + 1 := by rw [IntKind.wrap_i64]; omega
            have q3 : IntKind.i64.wrap (y : Int) = (y : Int) := by rw [IntKind.wrap_i64]; omega
            have q4 : IntKind.i64.wrap ((x : Int) + 1 + (y : Int)) = (z : Int) := by rw [IntKind.wrap_i64]; omega
            have q5 : (x : Int) + 1 + (y : Int) = (z : Int) := by omega
            have d1 : (z : Int) ≤ ((nm ls W).length : Int) := by omega
            have d2 : (z : Int) ≤ 257 := by omega
            have d3 : ¬ 257 = z := by omega
            have d4 : ¬ z = 257 := by omega
            have hsub3 : (nm ls W).length - z = Y.length := by omega
            have HYY : Hid (Y = nm (ls.drop (m + 1)) W) := hY
            clear hY hz' hy hby hos hnl3 hf hf2
            have hstar3 := hf3.star.kept (w' := w3.alloc (.cells #[.int .u8 1, .int .u8 42] 5)) (Below.heap_alloc _ _ _ hf3.star.lt)
            have hsrc := src_new_at w3 _ rfl [1, 42]
            have hk3' := hkey3.below (w' := w3.alloc (.cells #[.int .u8 1, .int .u8 42] 5)) ((Below.refl _ _).alloc (Nat.le_refl _) _)
            go_wp2_with (at_builtin; refine append_room _ rfl (.tmp 89) (.tmp 90) 29 rfl (w.heap.size + 1 + 1) 91 257 0 [] rfl rfl hstar3 _ [1, 42] rfl hsrc (by decide) ?_)
            intro w4 l4 Hl4 hr4 hg4
            have hw2s : w.heap.size ≤ w2.heap.size := hb2w.size
            have hw2l : w.heap.size + 3 ≤ w2.heap.size := by have := hf3.bB; have := hbb2; omega
            have hb3w := hf3.bl
            have hsz34 : w3.heap.size + 1 ≤ w4.heap.size := by have := hg4.size; simpa using this
            have hkey4 : KeyAt w4 (w.heap.size + 1) z Y := fun j hj => by
              have h3 := hk3' j hj
              exact (World.cell?_of_block (w := w3.alloc (.cells #[.int .u8 1, .int .u8 42] 5)) (hg4.block (w.heap.size + 1) (World.block_lt_of_cell? _ _ h3) (fun e => by have := Option.some.inj e; omega))).trans h3
            have hsrc4 := src_key hkey4 (257 - z)
            have hroom4 : l4.length + Y.length ≤ 257 := by rw [Hl4.out]; simp; omega
            go_wp2_with (at_builtin; refine append_room _ rfl (.tmp 91) (.tmp 92) 29 rfl (w.heap.size + 1 + 1) 91 257 l4.length l4 rfl rfl hr4 _ Y rfl hsrc4 hroom4 ?_)
            intro w5 l5 Hl5 hr5 hg5
            have hs3w := hb3w.size
            have hb5w : Below w.heap.size w w5 := (((hb3w.alloc (by omega) _).grown hg4 (by simp; omega) (fun q hq => by have := Option.some.inj hq; omega))).grown hg5 (by omega) (fun q hq => by have := Option.some.inj hq; omega)
            have hw23 : w2.heap.size < w3.heap.size := World.block_lt_of_cell? w3 _ n3
            have hw35 : w3.heap.size + 1 ≤ w5.heap.size := Nat.le_trans hsz34 hg5.size
            have k0 : w5.heap[w.heap.size]? = w3.heap[w.heap.size]? := two_grown hg4 hg5 (by omega) (by omega)
            have k2 : w5.heap[w2.heap.size]? = w3.heap[w2.heap.size]? := two_grown hg4 hg5 hw23 (by omega)
            have r5 : ∀ j, j < 5 → w5.cell? ⟨w.heap.size, j, none⟩ = some (if j < 3 then .slice none 0 0 else .bool false) := fun j hj => (World.cell?_of_block (a := ⟨w.heap.size, j, none⟩) k0).trans (hf3.res.cell hj)
            have f5 : ∀ j, w5.frozen? ⟨w.heap.size, j, none⟩ = false := fun j => (World.frozen?_of_block (a := ⟨w.heap.size, j, none⟩) k0).trans (hf3.res.frozen j)
            have n5 : w5.cell? ⟨w2.heap.size, 0, none⟩ = some (.slice none 0 0) := (World.cell?_of_block (a := ⟨w2.heap.size, 0, none⟩) k2).trans n3
            have n5f : w5.frozen? ⟨w2.heap.size, 0, none⟩ = false := (World.frozen?_of_block (a := ⟨w2.heap.size, 0, none⟩) k2).trans n3f
            have hz5 := HZ.out w5 hb5w
            have hkey5 := room_key hr5
            have Hl5n : Hid (l5 = nm ([42] :: ls.drop (m + 1)) W) := by
              show l5 = _
              rw [Hl5.out, Hl4.out, HYY.out]
              simp [nm, lab]
            have hl5l : l5.length ≤ 257 := by rw [Hl5.out, List.length_append]; exact hroom4
            have hres := resF_wild (rb := rb) (N := N) (ts := ts) hlk
            clear hr5 hr4 hsrc4 hsrc hstar3 hk3' hkey3 hkey4 hg4 hg5 hf3 n3 n3f k0 k2 hb3 hb23 by0
            cases hlw : lk ([42] :: ls.drop (m + 1)) with
            | none =>
              have hnk := hls.miss hlw
              rw [← Hl5n.out] at hnk
              have HFM : Hid (Calls Try.prog 49 #[.pointer (some ⟨zb, 0, none⟩), .slice (some ⟨w.heap.size + 1 + 1, 0, none⟩) l5.length 257] w5 fun e w' => e = .returned (.tuple #[.agg #[.slice none 0 0], .bool false]) ∧ Below w5.heap.size w5 w') := find_miss zb mb B rb rc sb sc ⟨W.toArray⟩ N (w.heap.size + 1 + 1) 0 257 l5 w5 hz5 hkey5 (by omega) hnk
              clear hnk hz5 hkey5
              go_wp2_with fail
              refine HFM.out.mono ?_
              rintro e w6 ⟨rfl, hb6'⟩
              have hb6 : Below w.heap.size w w6 := hb5w.trans (hb6'.mono hb5w.size)
              have r6 : ∀ j, j < 5 → w6.cell? ⟨w.heap.size, j, none⟩ = some (if j < 3 then .slice none 0 0 else .bool false) := fun j hj => (hb6'.cell (p := ⟨w.heap.size, j, none⟩) (by show w.heap.size < _; omega)).trans (r5 j hj)
              have r60 := r6 0 (by decide)
              have r61 := r6 1 (by decide)
              have r62 := r6 2 (by decide)
              have r63 := r6 3 (by decide)
              have r64 := r6 4 (by decide)
              simp at r60 r61 r62 r63 r64
              have f6 : ∀ j, w6.frozen? ⟨w.heap.size, j, none⟩ = false := fun j => (hb6'.frozen (p := ⟨w.heap.size, j, none⟩) (by show w.heap.size < _; omega)).trans (f5 j)
              have n6 : w6.cell? ⟨w2.heap.size, 0, none⟩ = some (.slice none 0 0) := (hb6'.cell (p := ⟨w2.heap.size, 0, none⟩) (by show w2.heap.size < _; omega)).trans n5
              have n6f : w6.frozen? ⟨w2.heap.size, 0, none⟩ = false := (hb6'.frozen (p := ⟨w2.heap.size, 0, none⟩) (by show w2.heap.size < _; omega)).trans n5f
              have e1 : ¬ w.heap.size = w2.heap.size := by omega
              have e2 : ¬ w2.heap.size = w.heap.size := by omega
              have HRES : Hid (resF rb N lk ts ls d = wildF rb N none) := by show _ = _; rw [← HR.out, hres, hlw]
              clear HFM r5 f5 n5 n5f r6 hres hlw
              go_wp2
              refine bodyPost_ret (v := FM.val ⟨.slice none 0 0, .slice none 0 0, .slice none 0 0, false, false⟩) (by simp [results, Try.results15, go_sem, *, FM.val]) rfl ⟨by rw [ansF_succ HD.out]; exact congrArg (fun e => Ending.returned (FM.val e)) HRES.out.symm, ?_⟩
              repeat' first
                | with_reducible exact hb6
                | with_reducible refine below_set' ?_ ?_
                | exact Nat.le_refl _
                | exact hw2s
            | some i =>
              obtain ⟨hi, hts⟩ := hls.hit i hlw
              have hp0 : 0 < (ts i).length := by rcases hts with h | ⟨t, h, _⟩ <;> rw [h] <;> simp
              obtain ⟨qa, ql, qc, hq⟩ : ∃ a l c, nodeSl rb N i = .slice a l c := ⟨_, _, _, rfl⟩
              have hfh := find_hit zb mb B rb rc sb sc ⟨W.toArray⟩ N (w.heap.size + 1 + 1) 0 257 l5 i (nm ([42] :: ls.drop (m + 1)) W, ts i) w5 hz5 hkey5 (by omega) hN hi Hl5n.out.symm hp0
              rw [hq] at hfh
              have HFM : Hid (Calls Try.prog 49 #[.pointer (some ⟨zb, 0, none⟩), .slice (some ⟨w.heap.size + 1 + 1, 0, none⟩) l5.length 257] w5 fun e w' => e = .returned (.tuple #[.agg #[.slice qa ql qc], .bool true]) ∧ Below w5.heap.size w5 w') := hfh
              clear hfh hz5 hkey5 hi hts hp0
              go_wp2_with fail
              refine HFM.out.mono ?_
              rintro e w6 ⟨rfl, hb6'⟩
              have hb6 : Below w.heap.size w w6 := hb5w.trans (hb6'.mono hb5w.size)
              have r6 : ∀ j, j < 5 → w6.cell? ⟨w.heap.size, j, none⟩ = some (if j < 3 then .slice none 0 0 else .bool false) := fun j hj => (hb6'.cell (p := ⟨w.heap.size, j, none⟩) (by show w.heap.size < _; omega)).trans (r5 j hj)
              have r60 := r6 0 (by decide)
              have r61 := r6 1 (by decide)
              have r62 := r6 2 (by decide)
              have r63 := r6 3 (by decide)
              have r64 := r6 4 (by decide)
              simp at r60 r61 r62 r63 r64
              have f6 : ∀ j, w6.frozen? ⟨w.heap.size, j, none⟩ = false := fun j => (hb6'.frozen (p := ⟨w.heap.size, j, none⟩) (by show w.heap.size < _; omega)).trans (f5 j)
              have n6 : w6.cell? ⟨w2.heap.size, 0, none⟩ = some (.slice none 0 0) := (hb6'.cell (p := ⟨w2.heap.size, 0, none⟩) (by show w2.heap.size < _; omega)).trans n5
              have n6f : w6.frozen? ⟨w2.heap.size, 0, none⟩ = false := (hb6'.frozen (p := ⟨w2.heap.size, 0, none⟩) (by show w2.heap.size < _; omega)).trans n5f
              have e1 : ¬ w.heap.size = w2.heap.size := by omega
              have e2 : ¬ w2.heap.size = w.heap.size := by omega
              have HRES : Hid (resF rb N lk ts ls d = ⟨.slice none 0 0, .slice none 0 0, .slice qa ql qc, false, true⟩) := by show _ = _; rw [← HR.out, hres, hlw, wildF, hq]
              clear HFM r5 f5 n5 n5f r6 hres hlw hq
              go_wp2
              refine bodyPost_ret (v := FM.val ⟨.slice none 0 0, .slice none 0 0, .slice qa ql qc, false, true⟩) (by simp [results, Try.results15, go_sem, *, FM.val]) rfl ⟨by rw [ansF_succ HD.out]; exact congrArg (fun e => Ending.returned (FM.val e)) HRES.out.symm, ?_⟩
              repeat' first
                | with_reducible exact hb6
                | with_reducible refine below_set' ?_ ?_
                | exact Nat.le_refl _
                | exact hw2s
          | some i =>
            obtain ⟨hi, hts⟩ := hlm.hit i hlk
            obtain ⟨q, hq0'⟩ : ∃ q, q = st N i * 5 := ⟨_, rfl⟩
            have HQ0 : Hid (q = st N i * 5) := hq0'
            clear hq0'
            rcases hts with hts | ⟨t, hts, ht2⟩
            · skip
              have hq : nodeSl rb N i = .slice (some ⟨rb, q, none⟩) 2 2 := by rw [nodeSl_len rb hi, HQ0.out]; simp [hts]
              have hfh := find_hit zb mb B rb rc sb sc ⟨W.toArray⟩ N (w.heap.size + 1) x (257 - x) X i (nm (ls.drop m) W, ts i) wr hz hkey (by omega) hN hi HXX.out.1.symm (by rw [hts]; simp)
              rw [hq] at hfh
              have HFM : Hid (Calls Try.prog 49 #[.pointer (some ⟨zb, 0, none⟩), .slice (some ⟨w.heap.size + 1, x, none⟩) X.length (257 - x)] wr fun e w' => e = .returned (.tuple #[.agg #[.slice (some ⟨rb, q, none⟩) 2 2], .bool true]) ∧ Below wr.heap.size wr w') := hfh
              have HTS : Hid (ts i = _) := hts
              have HI : Hid (N[i]? = some (nm (ls.drop m) W, ts i)) := hi
              have HQ : Hid (nodeSl rb N i = _) := hq
              clear hfh hz hkey hlm hts hi hq
              go_wp2_with fail
              refine HFM.out.mono ?_
              rintro e w2 ⟨rfl, hb2⟩
              have hf2 := hf.below hb2
              have hb2w : Below w.heap.size w w2 := hf2.bl
              have hbb2 : w1.heap.size < w2.heap.size := hf2.bel.lt
              have hw2s : w.heap.size ≤ w2.heap.size := hb2w.size
              have hw2l : w.heap.size + 3 ≤ w2.heap.size := by have := hf2.bB; omega
              have hrs : RRsAt (w2.alloc (.cells #[.slice (some ⟨rb, q, none⟩) 2 2] 41)) rb q [2, 43] (st N i) := by
                have h1 := (HZ.out _ (hb2w.alloc hw2s (.cells #[.slice (some ⟨rb, q, none⟩) 2 2] 41))).at_.rrs HI.out
                rw [← HQ0.out] at h1
                simp only [HTS.out] at h1
                exact h1
              have HRR : Hid (Calls Try.prog 50 #[.agg #[.slice (some ⟨rb, q, none⟩) 2 2], .int .u16 2] (w2.alloc (.cells #[.slice (some ⟨rb, q, none⟩) 2 2] 41)) fun e w' => e = .returned (.slice (some ⟨rb, q, none⟩) 1 1) ∧ Below (w2.alloc (.cells #[.slice (some ⟨rb, q, none⟩) 2 2] 41)).heap.size (w2.alloc (.cells #[.slice (some ⟨rb, q, none⟩) 2 2] 41)) w') := rrset_ns rb q 2 (st N i) _ hrs (Nat.le_refl _)
              clear HFM hrs
              go_wp2_with fail
              refine HRR.out.mono ?_
              rintro e w3 ⟨rfl, hb3⟩
              have hb23 : Below w2.heap.size w2 w3 := ((Below.refl _ _).alloc (Nat.le_refl _) _).trans (hb3.mono (by simp))
              have hf3 := hf2.below hb23
              have hb3w := hf3.bl
              have n3 : w3.cell? ⟨w2.heap.size, 0, none⟩ = some (.slice (some ⟨rb, q, none⟩) 2 2) := (hb3.cell (p := ⟨w2.heap.size, 0, none⟩) (by simp)).trans (by simp [go_sem])
              have r30 : w3.cell? ⟨w.heap.size, 0, none⟩ = some (.slice none 0 0) := hf3.res.cell (i := 0) (by decide)
              have r31 : w3.cell? ⟨w.heap.size, 1, none⟩ = some (.slice none 0 0) := hf3.res.cell (i := 1) (by decide)
              have r32 : w3.cell? ⟨w.heap.size, 2, none⟩ = some (.slice none 0 0) := hf3.res.cell (i := 2) (by decide)
              have r33 : w3.cell? ⟨w.heap.size, 3, none⟩ = some (.bool false) := hf3.res.cell (i := 3) (by decide)
              have r34 : w3.cell? ⟨w.heap.size, 4, none⟩ = some (.bool false) := hf3.res.cell (i := 4) (by decide)
              have f3 := fun j => hf3.res.frozen j
              have e1 : ¬ w.heap.size = w2.heap.size := by omega
              have e2 : ¬ w2.heap.size = w.heap.size := by omega
              have HXQ : Hid (st N i * 5 = q) := HQ0.out.symm
              clear HRR hf hf2 hb2 hb3 hb23
              cases m with
              | zero =>
                have hx0 : x = 0 := by rw [HXX.out.2.1]; exact offs_zero ls
                subst hx0
                have HRES : Hid (resF rb N lk ts ls d = ⟨.slice (some ⟨rb, q, none⟩) 1 1, .slice (some ⟨rb, q, none⟩) 2 2, .slice (some ⟨rb, q, none⟩) 2 2, true, false⟩) := by show _ = _; rw [← HR.out, resF_cut0 hlk HTS.out, HQ.out]; try rw [cutSl, HXQ.out]
                clear hlk
                go_wp2
                refine bodyPost_ret (v := FM.val ⟨.slice (some ⟨rb, q, none⟩) 1 1, .slice (some ⟨rb, q, none⟩) 2 2, .slice (some ⟨rb, q, none⟩) 2 2, true, false⟩) (by simp [results, Try.results15, go_sem, *, FM.val]) rfl ⟨by rw [ansF_succ HD.out]; exact congrArg (fun e => Ending.returned (FM.val e)) HRES.out.symm, ?_⟩
                repeat' first
                  | with_reducible exact hb3w
                  | with_reducible refine below_set' ?_ ?_
                  | exact Nat.le_refl _
                  | exact hw2s
              | succ m =>
                have hxp : (0 : Int) < (x : Int) := by
                  have := offs_succ (ls := ls) (m := m) (by have := HD.out; omega)
                  have := HXX.out.2.1
                  omega
                have HRES : Hid (resF rb N lk ts ls d = ⟨.slice (some ⟨rb, q, none⟩) 1 1, .slice (some ⟨rb, q, none⟩) 2 2, .slice none 0 0, false, false⟩) := by show _ = _; rw [← HR.out, resF_cut hlk HTS.out, HQ.out]; try rw [cutSl, HXQ.out]
                clear hlk
                go_wp2
                refine bodyPost_ret (v := FM.val ⟨.slice (some ⟨rb, q, none⟩) 1 1, .slice (some ⟨rb, q, none⟩) 2 2, .slice none 0 0, false, false⟩) (by simp [results, Try.results15, go_sem, *, FM.val]) rfl ⟨by rw [ansF_succ HD.out]; exact congrArg (fun e => Ending.returned (FM.val e)) HRES.out.symm, ?_⟩
                repeat' first
                  | with_reducible exact hb3w
                  | with_reducible refine below_set' ?_ ?_
                  | exact Nat.le_refl _
                  | exact hw2s
            · skip
              have hq : nodeSl rb N i = .slice (some ⟨rb, q, none⟩) 1 1 := by rw [nodeSl_len rb hi, HQ0.out]; simp [hts]
              have hfh := find_hit zb mb B rb rc sb sc ⟨W.toArray⟩ N (w.heap.size + 1) x (257 - x) X i (nm (ls.drop m) W, ts i) wr hz hkey (by omega) hN hi HXX.out.1.symm (by rw [hts]; simp)
              rw [hq] at hfh
              have HFM : Hid (Calls Try.prog 49 #[.pointer (some ⟨zb, 0, none⟩), .slice (some ⟨w.heap.size + 1, x, none⟩) X.length (257 - x)] wr fun e w' => e = .returned (.tuple #[.agg #[.slice (some ⟨rb, q, none⟩) 1 1], .bool true]) ∧ Below wr.heap.size wr w') := hfh
              have HTS : Hid (ts i = _) := hts
              have HI : Hid (N[i]? = some (nm (ls.drop m) W, ts i)) := hi
              have HQ : Hid (nodeSl rb N i = _) := hq
              clear hfh hz hkey hlm hts hi hq
              go_wp2_with fail
              refine HFM.out.mono ?_
              rintro e w2 ⟨rfl, hb2⟩
              have hf2 := hf.below hb2
              have hb2w : Below w.heap.size w w2 := hf2.bl
              have hbb2 : w1.heap.size < w2.heap.size := hf2.bel.lt
              have hw2s : w.heap.size ≤ w2.heap.size := hb2w.size
              have hw2l : w.heap.size + 3 ≤ w2.heap.size := by have := hf2.bB; omega
              have hrs : RRsAt (w2.alloc (.cells #[.slice (some ⟨rb, q, none⟩) 1 1] 41)) rb q [t] (st N i) := by
                have h1 := (HZ.out _ (hb2w.alloc hw2s (.cells #[.slice (some ⟨rb, q, none⟩) 1 1] 41))).at_.rrs HI.out
                rw [← HQ0.out] at h1
                simp only [HTS.out] at h1
                exact h1
              have HRR : Hid (Calls Try.prog 50 #[.agg #[.slice (some ⟨rb, q, none⟩) 1 1], .int .u16 2] (w2.alloc (.cells #[.slice (some ⟨rb, q, none⟩) 1 1] 41)) fun e w' => e = .returned (.slice none 0 0) ∧ Below (w2.alloc (.cells #[.slice (some ⟨rb, q, none⟩) 1 1] 41)).heap.size (w2.alloc (.cells #[.slice (some ⟨rb, q, none⟩) 1 1] 41)) w') := rrset_one rb q 1 (st N i) t _ hrs ht2
              clear HFM hrs
              go_wp2_with fail
              refine HRR.out.mono ?_
              rintro e w3 ⟨rfl, hb3⟩
              have hb23 : Below w2.heap.size w2 w3 := ((Below.refl _ _).alloc (Nat.le_refl _) _).trans (hb3.mono (by simp))
              have hf3 := hf2.below hb23
              have hb3w := hf3.bl
              have n3 : w3.cell? ⟨w2.heap.size, 0, none⟩ = some (.slice (some ⟨rb, q, none⟩) 1 1) := (hb3.cell (p := ⟨w2.heap.size, 0, none⟩) (by simp)).trans (by simp [go_sem])
              have r30 : w3.cell? ⟨w.heap.size, 0, none⟩ = some (.slice none 0 0) := hf3.res.cell (i := 0) (by decide)
              have r31 : w3.cell? ⟨w.heap.size, 1, none⟩ = some (.slice none 0 0) := hf3.res.cell (i := 1) (by decide)
              have r32 : w3.cell? ⟨w.heap.size, 2, none⟩ = some (.slice none 0 0) := hf3.res.cell (i := 2) (by decide)
              have r33 : w3.cell? ⟨w.heap.size, 3, none⟩ = some (.bool false) := hf3.res.cell (i := 3) (by decide)
              have r34 : w3.cell? ⟨w.heap.size, 4, none⟩ = some (.bool false) := hf3.res.cell (i := 4) (by decide)
              have f3 := fun j => hf3.res.frozen j
              have e1 : ¬ w.heap.size = w2.heap.size := by omega
              have e2 : ¬ w2.heap.size = w.heap.size := by omega
              have HXQ : Hid (st N i * 5 = q) := HQ0.out.symm
              clear HRR hf hf2 hb2 hb3 hb23
              cases m with
              | zero =>
                have hx0 : x = 0 := by rw [HXX.out.2.1]; exact offs_zero ls
                subst hx0
                have HRES : Hid (resF rb N lk ts ls d = ⟨.slice none 0 0, .slice none 0 0, .slice (some ⟨rb, q, none⟩) 1 1, true, false⟩) := by show _ = _; rw [← HR.out, resF_one0 hlk HTS.out, HQ.out]; try rw [cutSl, HXQ.out]
                clear hlk
                go_wp2
                refine bodyPost_ret (v := FM.val ⟨.slice none 0 0, .slice none 0 0, .slice (some ⟨rb, q, none⟩) 1 1, true, false⟩) (by simp [results, Try.results15, go_sem, *, FM.val]) rfl ⟨by rw [ansF_succ HD.out]; exact congrArg (fun e => Ending.returned (FM.val e)) HRES.out.symm, ?_⟩
                repeat' first
                  | with_reducible exact hb3w
                  | with_reducible refine below_set' ?_ ?_
                  | exact Nat.le_refl _
                  | exact hw2s
              | succ m =>
                have hxp : (0 : Int) < (x : Int) := by
                  have := offs_succ (ls := ls) (m := m) (by have := HD.out; omega)
                  have := HXX.out.2.1
                  omega
                have hxn : ¬ (x : Int) = 0 := by omega
                have HRR : Hid (resF rb N lk ts ls m = resF rb N lk ts ls d) := by show _ = _; rw [← HR.out, resF_one hlk HTS.out]
                clear hlk
                go_wp2
                go_roundw
                case rel => exact ⟨m, by omega, by go_num, hf3, HRR.out⟩
                case measure => simp [intOf]
end Go.Proofs.Qxb6003450a
