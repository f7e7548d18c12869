import Derived.Test.Qxb6603811aDoorRows
import Derived.Test.Qxb6603811aDoorPlain
import Derived.Test.Qxb6603811aDoorShelf
import Derived.Test.Qxb6603811aDoorKit
import Derived.Deep.QuietTactic
import Derived.BigQuiet
import Derived.Deep.OwnRows
import Derived.Lib.ItoaLen
namespace Go.Proofs.Qxb6603811aDoor
open Go.RowKit

theorem Tryd.info5 : (Tryd.prog.info? 5).map (fun i => (i.zero, i.size, i.bytes)) = some (some (.int .u8 0), 1, 1) := by kernel_rfl

/-- a slice whose capacity is its length, nil among them, and its cells -/
def fullRow (w : World) (v : Value) (xs : List Value) : Prop :=
  ∃ a : Option Addr, v = .slice a xs.length xs.length ∧ (a = none → xs = []) ∧ ∀ x, a = some x → ∀ j u, xs[j]? = some u → w.cell? (x.add j) = some u

theorem fullRow.row {w : World} {v : Value} {xs : List Value} (h : fullRow w v xs) {w' : World} (hb : Below w.heap.size w w') (B : Nat) (e : TypeId) : rowOf w' B e v xs := by
  obtain ⟨a, h1, h2, h3⟩ := h
  refine Or.inr ⟨a, h1, h2, fun x hx j u hu => ?_⟩
  have := h3 x hx j u hu
  exact (hb.cell (World.block_lt_of_cell? w _ this)).trans this

/-- append, at this dump's []byte: onto a row (owned from B on, or full), of at least one byte -/
theorem append_bytes (w : World) {ops : Array Oper} {rest : List Oper} {o : Oper} {a : Act} {Q : Exit → Act → World → Prop} (hgd : o.guard = none) (s x : Operand) (tx : TypeId)
    (ho : o.op = .call { callee := .builtin .append, args := #[s, x], argTypes := #[22, tx] })
    (B : Nat) (v : Value) (xs : List Value) (hv : a.eval s = v) (hrow : rowOf w B 5 v xs) (xv : Value) (m : Nat) (news : List Value) (hx : a.eval x = xv) (hs : Src Tryd.prog 1 tx xv m news w) (hm : 0 < m)
    (hb : xs.length + m ≤ 140737488355328) (hBw : B ≤ w.heap.size)
    (h : ∀ v' w', w'.ownsRow B 5 1 v' (xs ++ news).length (xs ++ news) → Below B w w' → (∀ k, k < w.heap.size → v.ownBlock ≠ some k → w'.heap[k]? = w.heap[k]?) → wpList Tryd.prog ops Q rest (a.put o.dst v') w') : wpList Tryd.prog ops Q (o :: rest) a w := by
  obtain ⟨i0, hi, hz0, hz1, hz2⟩ := info_parts Tryd.info5
  refine wpList_append_row w hgd s x 22 tx ho B 5 i0 (.int .u8 0) 1 Tryd.underlying22 hi hz0 hz1 hz2 rfl v xs hv hrow xv m news hx hs hm (by omega) (by omega) hBw fun v' w' h1 h2 h3 => h v' w' ?_ h2 h3
  have hl : news.length = m := by simpa using hs.newsLen
  rw [List.length_append, hl]
  exact h1

theorem src_new (w : World) (cs : List Value) (h1 : ∀ u ∈ cs, u.oneCell' = true) : Src Tryd.prog 1 22 (.slice (some ⟨w.heap.size, 0, none⟩) cs.length cs.length) cs.length cs (w.alloc (.cells cs.toArray 5)) := by
  refine Src.ofSlice _ Tryd.underlying22 _ _ _ _ (by simp) (fun j u hu => ?_) h1
  rw [Addr.add_lit]
  simp [go_sem, hu]

def gval (gs : List Nat) (k j : Nat) : Value := if j < k then .int .u64 (gs.getD j 0 : Nat) else .int .u64 0

theorem groups_new (w : World) (gs : List Nat) : (w.alloc (.cells #[.int .u64 0, .int .u64 0, .int .u64 0, .int .u64 0, .int .u64 0, .int .u64 0, .int .u64 0] 32)).rowIs w.heap.size 32 7 (gval gs 0) :=
  ⟨_, Go.Deep.blk_alloc_new _ _, rfl, fun i hi => by
    unfold gval
    match i, hi with
    | 0, _ => rfl
    | 1, _ => rfl
    | 2, _ => rfl
    | 3, _ => rfl
    | 4, _ => rfl
    | 5, _ => rfl
    | 6, _ => rfl⟩

theorem grp_round {gs : List Nat} {k m : Nat} (hk : k < 7) (hm : m < 1000 ^ (7 - k)) (hd : gs.drop k = grp (7 - k) m) :
    gs.getD k 0 = m % 1000 ∧ k < gs.length ∧ (m / 1000 = 0 → gs.length = k + 1) ∧ (m / 1000 ≠ 0 → k + 1 < 7 ∧ m / 1000 < 1000 ^ (7 - (k + 1)) ∧ gs.drop (k + 1) = grp (7 - (k + 1)) (m / 1000)) := by
  obtain ⟨f, hf⟩ : ∃ f, 7 - k = f + 1 := ⟨6 - k, by omega⟩
  have hf' : 7 - (k + 1) = f := by omega
  rw [hf] at hm hd
  rw [hf']
  rw [grp] at hd
  have hkl : k < gs.length := by
    rcases Nat.lt_or_ge k gs.length with h | h
    · exact h
    · rw [List.drop_eq_nil_of_le h] at hd; cases hd
  rw [List.drop_eq_getElem_cons hkl] at hd
  obtain ⟨h1, h2⟩ := List.cons.inj hd
  refine ⟨by simp [List.getD, hkl, h1], hkl, fun hz => ?_, fun hz => ?_⟩
  · rw [if_pos hz] at h2
    have := congrArg List.length h2
    simp at this
    omega
  · rw [if_neg hz] at h2
    rw [Nat.pow_succ] at hm
    refine ⟨?_, by omega, h2⟩
    rcases Nat.eq_zero_or_pos f with h0 | h0
    · subst h0; simp at hm; omega
    · omega

theorem groups_step {gs : List Nat} {wr : World} {g k m : Nat} (h : wr.rowIs g 32 7 (gval gs k)) (hk : gs.getD k 0 = m % 1000) :
    (wr.setCell ⟨g, k, none⟩ (.int .u64 ((m : Int) % 1000))).rowIs g 32 7 (gval gs (k + 1)) := by
  refine (h.set k _).congr fun j _ => ?_
  by_cases e : j = k
  · subst e
    simp only [if_true, gval, Nat.lt_succ_self, hk]
    congr 1
  · simp only [if_neg e]
    unfold gval
    have : j < k + 1 ↔ j < k := by omega
    simp only [this]

/-- what has been written when the groups from 'j' on are -/
def wrt (gs : List Nat) (j : Nat) : List UInt8 := if j = 0 then nm gs else nmX (gs.drop j)
theorem wrt_all (gs : List Nat) (h : 0 < gs.length) : wrt gs gs.length = [] := by
  unfold wrt
  rw [if_neg (by omega)]
  simp [nmX]
theorem wrt_step (gs : List Nat) (j : Nat) (h : j < gs.length) : wrt gs j = wrt gs (j + 1) ++ (47 :: ((if j = 0 then [] else [120]) ++ d3 (gs.getD j 0))) := by
  have e : gs.getD j 0 = gs[j] := by simp [List.getD, h]
  by_cases h0 : j = 0
  · subst h0
    unfold wrt
    rw [if_pos rfl, if_neg (by omega), if_pos rfl, e]
    match gs, h with
    | g :: r, _ => simp [nm]
  · unfold wrt
    rw [if_neg h0, if_neg (by omega), if_neg h0, e, List.drop_eq_getElem_cons h, nmX]
    simp

theorem ownsRow_mono {w : World} {B B' : Nat} {e : TypeId} {v : Value} {n : Nat} {xs : List Value} (h : w.ownsRow B e 1 v n xs) (hB : B' ≤ B) : w.ownsRow B' e 1 v n xs := by
  refine ⟨h.1, ?_⟩
  rcases h.2 with h2 | ⟨g, cap, cur, hv, hb, r⟩
  · exact Or.inl h2
  · exact Or.inr ⟨g, cap, cur, hv, Nat.le_trans hB hb, r⟩

theorem bc_length (l : List UInt8) : (Lib.byteCells l).length = l.length := by simp [Lib.byteCells]
theorem bc_append (l r : List UInt8) : Lib.byteCells (l ++ r) = Lib.byteCells l ++ Lib.byteCells r := by simp [Lib.byteCells]
theorem bc_digit (n : Nat) (h : n < 256) : Lib.byteCells [UInt8.ofNat n] = [.int .u8 (n : Int)] := by
  simp [Lib.byteCells, Nat.mod_eq_of_lt h]

theorem nmX_length (gs : List Nat) : (nmX gs).length = 5 * gs.length := by
  induction gs with
  | nil => rfl
  | cons g r ih => simp [nmX, ih, d3]; omega
theorem wrt_length (gs : List Nat) (j : Nat) : (wrt gs j).length ≤ 5 * gs.length := by
  unfold wrt
  split
  · cases gs with
    | nil => simp [nm]
    | cons g r => simp [nm, nmX_length, d3]; omega
  · rw [nmX_length, List.length_drop]; omega

theorem bc_d3 (g : Nat) (h : g < 1000) : Lib.byteCells (d3 g) = [.int .u8 (48 + (g : Int) / 100), .int .u8 (48 + (g : Int) / 10 % 10), .int .u8 (48 + (g : Int) % 10)] := by
  unfold d3
  have h1 := bc_digit (48 + g / 100) (by omega)
  have h2 := bc_digit (48 + g / 10 % 10) (by omega)
  have h3 := bc_digit (48 + g % 10) (by omega)
  have e : ∀ a b c : UInt8, Lib.byteCells [a, b, c] = Lib.byteCells [a] ++ Lib.byteCells [b] ++ Lib.byteCells [c] := by intro a b c; simp [Lib.byteCells]
  rw [e, h1, h2, h3]
  simp

theorem bc_first (g : Nat) (h : g < 1000) : Lib.byteCells (47 :: d3 g) = [.int .u8 47, .int .u8 (48 + (g : Int) / 100), .int .u8 (48 + (g : Int) / 10 % 10), .int .u8 (48 + (g : Int) % 10)] := by
  rw [show (47 :: d3 g : List UInt8) = [47] ++ d3 g from rfl, bc_append, bc_d3 g h]; rfl
theorem bc_other (g : Nat) (h : g < 1000) : Lib.byteCells (47 :: 120 :: d3 g) = [.int .u8 47, .int .u8 120, .int .u8 (48 + (g : Int) / 100), .int .u8 (48 + (g : Int) / 10 % 10), .int .u8 (48 + (g : Int) % 10)] := by
  rw [show (47 :: 120 :: d3 g : List UInt8) = [47, 120] ++ d3 g from rfl, bc_append, bc_d3 g h]; rfl

theorem own_as {w : World} {B : Nat} {e : TypeId} {v : Value} {n : Nat} {xs ys : List Value} (h : w.ownsRow B e 1 v n xs) (he : xs = ys) : w.ownsRow B e 1 v ys.length ys := by
  subst he
  have hn : xs.length = n := by simpa using h.1
  rw [hn]
  exact h

theorem getD_lt {gs : List Nat} {f n : Nat} (h : gs = grp f n) (j : Nat) : gs.getD j 0 < 1000 := by
  rw [List.getD_eq_getElem?_getD]
  by_cases hj : j < gs.length
  · rw [List.getElem?_eq_getElem hj]
    have hm : gs[j] ∈ grp f n := by rw [← h]; exact List.getElem_mem hj
    exact grp_lt f n _ hm
  · rw [List.getElem?_eq_none (by omega)]
    simp

theorem rowIs_below {w w' : World} {g B : Nat} {t : TypeId} {n : Nat} {f : Nat → Value} (h : w.rowIs g t n f) (hb : Below B w w') (hg : g < B) : w'.rowIs g t n f := h.of_block (hb.block g hg)

set_option maxHeartbeats 1000000 in
theorem atn_any (idx : Nat) (width : Int) (v : Value) (xs : List Value) (w : World) (hidx : idx < 18446744073709551616) (hw0 : -9223372036854775808 ≤ width) (hw1 : width ≤ 9223372036854775807)
    (hfull : fullRow w v xs) (hlen : xs.length ≤ 1073741824) (htab : Lib.TabIs Tryd.prog w "internal/strconv.uint64pow10" .u64 Lib.pow10Tab) :
    Calls Tryd.prog 12 #[v, .int .u64 idx, .int .i64 width] w fun e w' => ∃ v', e = .returned v' ∧ w'.ownsRow w.heap.size 5 1 v' (xs.length + (tile idx width).length) (xs ++ Lib.byteCells (tile idx width)) ∧ Below w.heap.size w w' := by
  obtain ⟨gs, hgs⟩ : ∃ gs, gs = grp 7 idx := ⟨_, rfl⟩
  have HG : Hid (gs = grp 7 idx) := hgs
  clear hgs
  go_enter Tryd.func12, Tryd.ntmps12
  go_wp2
  go_loopw [1, 8] (fun ix n wr => ∃ k m : Nat, k < 7 ∧ ix = .int .u64 m ∧ n = .int .i64 k ∧ m < 18446744073709551616 ∧ Hid (m < 1000 ^ (7 - k) ∧ gs.drop k = grp (7 - k) m) ∧ wr.rowIs w.heap.size 32 7 (gval gs k) ∧ Below w.heap.size w wr) (fun _ n _ => 7 - (intOf n).toNat)
  case atStart => exact ⟨0, idx, by omega, rfl, rfl, hidx, ⟨by omega, by rw [HG.out]; rfl⟩, groups_new w gs, (Below.refl _ _).alloc (Nat.le_refl _) _⟩
  case round =>
    obtain ⟨k, m, hk, rfl, rfl, hm, hd, hrow, hb⟩ := hrel
    have c0 := hrow.cell (i := k) hk
    have f0 := hrow.frozen k
    have i0 : (k : Int) < 7 := by omega
    have hq : IntKind.u64.wrap ((m : Int) / 1000) = (m : Int) / 1000 := by rw [IntKind.wrap_u64]; omega
    by_cases hz : m / 1000 = 0
    · have hz' : ((m : Int) / 1000 == 0) = true := by rw [beq_iff_eq]; omega
      obtain ⟨r1, r2, r3, r4⟩ := grp_round hk hd.out.1 hd.out.2
      have hL := r3 hz
      have hrow' := groups_step (m := m) hrow r1
      have hb' := hb.setCell (p := ⟨w.heap.size, k, none⟩) (Nat.le_refl _) (.int .u64 ((m : Int) % 1000))
      have HL : Hid (gs.length = k + 1) := hL
      clear r1 r2 r3 r4 hL hd
      go_wp2
      clear hrow hb c0 f0 hq hz' hz
      go_loopw [0, 9] (fun v' i wr => ∃ j : Nat, j ≤ k + 1 ∧ i = .int .i64 ((j : Int) - 1) ∧ rowOf wr (w.heap.size + 1) 5 v' (xs ++ Lib.byteCells (wrt gs j)) ∧ (j < k + 1 → wr.ownsRow (w.heap.size + 1) 5 1 v' (xs ++ Lib.byteCells (wrt gs j)).length (xs ++ Lib.byteCells (wrt gs j))) ∧ wr.rowIs w.heap.size 32 7 (gval gs (k + 1)) ∧ Below w.heap.size w wr) (fun _ i _ => (intOf i + 1).toNat)
      case atStart =>
        refine ⟨k + 1, Nat.le_refl _, by go_num, ?_, fun h => absurd h (by omega), hrow', hb'⟩
        rw [← HL.out, wrt_all gs (by have := HL.out; omega)]
        simpa [Lib.byteCells] using hfull.row hb' (w.heap.size + 1) 5
      case round =>
        clear hrow' hb'
        obtain ⟨j, hj, rfl, hro, hown, hrw, hbw⟩ := hrel
        match j, hj, hro, hown with
        | 0, _, hro, hown =>
          have hz : ¬ (0 : Int) ≤ ((0 : Nat) : Int) - 1 := by omega
          have hwr : wrt gs 0 = nm (grp 7 idx) := by unfold wrt; rw [if_pos rfl, HG.out]
          have hwl := wrt_length gs 0
          rw [HL.out, hwr] at hwl
          have hown0 := hown (by omega)
          rw [hwr] at hown0
          have hs0 := hrw.lt
          have hx1 : (xs ++ Lib.byteCells (nm (grp 7 idx))).length ≤ 1073741824 + 35 := by rw [List.length_append, bc_length]; omega
          obtain ⟨ys, hys⟩ : ∃ ys, ys = xs ++ Lib.byteCells (nm (grp 7 idx)) := ⟨_, rfl⟩
          rw [← hys] at hx1 hown0
          have HY : Hid (ys = xs ++ Lib.byteCells (nm (grp 7 idx))) := hys
          have hT : Lib.TabBelow Tryd.prog (w.heap.size + 1) wr "internal/strconv.uint64pow10" .u64 Lib.pow10Tab := fun w' h => ((Lib.tabBelow_of_tabIs htab).on hbw) w' (h.mono (by omega))
          clear hys hwl hro hown hrw hwr
          by_cases hwd : width < 256
          · go_wp2_with (at_builtin; refine append_bytes _ rfl (.tmp 56) (.const (.string ⟨#[46, 112, 47]⟩)) 9 rfl (w.heap.size + 1) _ _ rfl (rowOf.owned hown0) _ 3 _ rfl (Src.ofString _ Tryd.underlying9 ⟨#[46, 112, 47]⟩) (by decide) (by omega) (by omega) ?_)
            intro v1 w1 hown1 hb1 _
            have hT1 := hT.on hb1
            have hb1' : Below w.heap.size w w1 := hbw.trans (hb1.mono (by omega))
            have hown1' := own_as hown1 (ys := ys ++ Lib.byteCells [46, 112, 47]) rfl
            have hl1 : (ys ++ Lib.byteCells [46, 112, 47]).length + 21 ≤ 140737488355328 := by rw [List.length_append, bc_length]; simp; omega
            have hs1 : w.heap.size + 1 ≤ w1.heap.size := Nat.le_trans hs0 hb1.size
            clear hown1 hown0 hT
            go_wp2_with (go_at_call 13; refine (Tryd.strconv_AppendInt_10 (w.heap.size + 1) _ width hw0 hw1 v1 _ w1 hown1' hs1 hl1 hT1).mono ?_; rintro e w2 ⟨v2, rfl, hown2, hb2, -⟩; refine Hid.out ?_)
            refine Lib.hid ?_
            go_wp2
            go_ret
            refine ⟨v2, rfl, ?_, hb1'.trans (hb2.mono (by omega))⟩
            have e : ys ++ Lib.byteCells [46, 112, 47] ++ Lib.byteCells (Lib.itoa width) = xs ++ Lib.byteCells (tile idx width) := by
              rw [HY.out]
              unfold tile part
              rw [if_pos hwd]
              simp [Lib.byteCells]
            have h3 := ownsRow_mono (own_as hown2 e) (B' := w.heap.size) (by omega)
            rw [List.length_append, bc_length] at h3
            exact h3
          · go_wp2
            go_ret
            refine ⟨_, rfl, ?_, hbw⟩
            have e : ys = xs ++ Lib.byteCells (tile idx width) := by
              rw [HY.out]
              unfold tile part
              rw [if_neg (by omega), List.append_nil]
            have h3 := ownsRow_mono (own_as hown0 e) (B' := w.heap.size) (by omega)
            rw [List.length_append, bc_length] at h3
            exact h3
        | j + 1, hj, hro, hown =>
          have ej : (((j + 1 : Nat) : Int) - 1) = (j : Int) := by omega
          rw [ej]
          clear ej hown
          have hsz := hrw.lt
          have hwl := wrt_length gs (j + 1)
          rw [HL.out] at hwl
          have hx1 : (xs ++ Lib.byteCells (wrt gs (j + 1))).length ≤ 1073741824 + 35 := by rw [List.length_append, bc_length]; omega
          have hcg := hrw.cell (i := j) (by omega)
          obtain ⟨ys, hys⟩ : ∃ ys, ys = xs ++ Lib.byteCells (wrt gs (j + 1)) := ⟨_, rfl⟩
          rw [← hys] at hx1 hro
          obtain ⟨g, hg, hglt⟩ : ∃ g : Nat, gs.getD j 0 = g ∧ g < 1000 := ⟨_, rfl, getD_lt HG.out j⟩
          have hgv : gval gs (k + 1) j = .int .u64 g := by unfold gval; rw [if_pos (by omega), hg]
          rw [hgv] at hcg
          have HY : Hid (ys = xs ++ Lib.byteCells (wrt gs (j + 1)) ∧ gs.getD j 0 = g) := ⟨hys, hg⟩
          have HV : Hid (gval gs (k + 1) j = .int .u64 g) := hgv
          clear hys hwl hg hgv
          by_cases hj0 : j = 0
          · subst hj0
            go_wp2_with (at_builtin; refine append_bytes _ rfl (.tmp 27) (.tmp 28) 22 rfl (w.heap.size + 1) _ _ rfl (hro.alloc _) _ 1 _ rfl (src_new wr [.int .u8 47] (by simp [Value.oneCell'])) (by decide) (by omega) (by simp; omega) ?_)
            intro v1 w1 hown1 hb1 _
            have hb1' : Below w.heap.size w w1 := (hbw.alloc (by omega) _).trans (hb1.mono (by omega))
            have hrw1 := rowIs_below (hrw.alloc _) hb1 (by omega)
            have hcg1 := hrw1.cell (i := 0) (by omega)
            rw [HV.out] at hcg1
            have hs1 := hrw1.lt
            clear hro hrw hbw hcg
            go_wp2_with (at_builtin; refine append_bytes _ rfl (.tmp 38) (.tmp 52) 22 rfl (w.heap.size + 1) _ _ rfl (rowOf.owned (hown1.alloc _)) _ 3 _ rfl (src_new w1 [.int .u8 (48 + (g : Int) / 100), .int .u8 (48 + (g : Int) / 10 % 10), .int .u8 (48 + (g : Int) % 10)] (by simp [Value.oneCell'])) (by decide) (by simp; omega) (by simp; omega) ?_)
            intro v2 w2 hown2 hb2 _
            have hb2' : Below w.heap.size w w2 := (hb1'.alloc (by omega) _).trans (hb2.mono (by omega))
            have hrw2 := rowIs_below (hrw1.alloc _) hb2 (by omega)
            have hown2' := own_as hown2 (ys := xs ++ Lib.byteCells (wrt gs 0)) (by rw [wrt_step gs 0 (by have := HL.out; omega), HY.out.1, HY.out.2, bc_append]; simp [bc_first g hglt])
            clear hown2 hown1 hrw1 hb1 hb2 hb1'
            go_wp2
            go_roundw
            case rel => exact ⟨0, by omega, by go_num, rowOf.owned hown2', fun _ => hown2', hrw2, hb2'⟩
            case measure => simp [intOf]
          · have hj1 : (0 : Int) < (j : Int) := by omega
            go_wp2_with (at_builtin; refine append_bytes _ rfl (.tmp 27) (.tmp 28) 22 rfl (w.heap.size + 1) _ _ rfl (hro.alloc _) _ 1 _ rfl (src_new wr [.int .u8 47] (by simp [Value.oneCell'])) (by decide) (by omega) (by simp; omega) ?_)
            intro v1 w1 hown1 hb1 _
            have hb1' : Below w.heap.size w w1 := (hbw.alloc (by omega) _).trans (hb1.mono (by omega))
            have hrw1 := rowIs_below (hrw.alloc _) hb1 (by omega)
            have hs1 := hrw1.lt
            clear hro hrw hbw hcg
            go_wp2_with (at_builtin; refine append_bytes _ rfl (.tmp 32) (.tmp 33) 22 rfl (w.heap.size + 1) _ _ rfl (rowOf.owned (hown1.alloc _)) _ 1 _ rfl (src_new w1 [.int .u8 120] (by simp [Value.oneCell'])) (by decide) (by simp; omega) (by simp; omega) ?_)
            intro v2 w2 hown2 hb2 _
            have hb2' : Below w.heap.size w w2 := (hb1'.alloc (by omega) _).trans (hb2.mono (by omega))
            have hrw2 := rowIs_below (hrw1.alloc _) hb2 (by omega)
            have hs2 := hrw2.lt
            have hcg2 := hrw2.cell (i := j) (by omega)
            rw [HV.out] at hcg2
            clear hown1 hrw1 hb1 hb1' hb2
            go_wp2_with (at_builtin; refine append_bytes _ rfl (.tmp 38) (.tmp 52) 22 rfl (w.heap.size + 1) _ _ rfl (rowOf.owned (hown2.alloc _)) _ 3 _ rfl (src_new w2 [.int .u8 (48 + (g : Int) / 100), .int .u8 (48 + (g : Int) / 10 % 10), .int .u8 (48 + (g : Int) % 10)] (by simp [Value.oneCell'])) (by decide) (by simp; omega) (by simp; omega) ?_)
            intro v3 w3 hown3 hb3 _
            have hb3' : Below w.heap.size w w3 := (hb2'.alloc (by omega) _).trans (hb3.mono (by omega))
            have hrw3 := rowIs_below (hrw2.alloc _) hb3 (by omega)
            have hown3' := own_as hown3 (ys := xs ++ Lib.byteCells (wrt gs j)) (by rw [wrt_step gs j (by have := HL.out; omega), HY.out.1, HY.out.2, bc_append, if_neg hj0]; simp [bc_other g hglt])
            clear hown3 hown2 hrw2 hb2' hb3
            go_wp2
            go_roundw
            case rel => exact ⟨j, by omega, by go_num, rowOf.owned hown3', fun _ => hown3', hrw3, hb3'⟩
            case measure => simp [intOf]
    · have hz' : ((m : Int) / 1000 == 0) = false := by rw [beq_eq_false_iff_ne]; omega
      obtain ⟨r1, r2, r3, r4⟩ := grp_round hk hd.out.1 hd.out.2
      have R := r4 hz
      have hrow' := groups_step (m := m) hrow r1
      have HR : Hid (k + 1 < 7 ∧ m / 1000 < 1000 ^ (7 - (k + 1)) ∧ gs.drop (k + 1) = grp (7 - (k + 1)) (m / 1000)) := R
      clear r1 r2 r3 r4 R
      go_wp2
      go_roundw
      case rel => exact ⟨k + 1, m / 1000, HR.out.1, by go_num, by go_num, by omega, HR.out.2, hrow', hb.setCell (Nat.le_refl _) _⟩
      case measure => simp [intOf]; omega
end Go.Proofs.Qxb6603811aDoor
