import Derived.WalkKit
import Derived.WalkSpells
import Derived.WalkLawsBesides
import Derived.Deep.AppendSrc
namespace Go.Proofs.Qxb6603811aDoor
open Go.RowKit Go

/-! ### ROWS OF ONE-CELL ELEMENTS: owned from B on, or full (the length is the capacity: an append makes a new row) -/
def rowOf (w : World) (B : Nat) (e : TypeId) (v : Value) (xs : List Value) : Prop :=
  w.ownsRow B e 1 v xs.length xs ∨
  ∃ a : Option Addr, v = .slice a xs.length xs.length ∧ (a = none → xs = []) ∧ ∀ x, a = some x → ∀ j u, xs[j]? = some u → w.cell? (x.add j) = some u

variable {P : Program}

theorem run_append_room_at (w : World) (t tx ty e : TypeId) (i : TypeInfo) (ht : P.underlying t = some (.slice e)) (hi : P.info? e = some i)
    (g sLen sCap : Nat) (cur : Array Value) (hg : w.heap[g]? = some (.cells cur e (0, 0)))
    (x : Value) (m : Nat) (news : List Value) (hs : Src P i.size tx x m news w)
    (hroom : sLen + m ≤ sCap) (hfit : sLen * i.size + news.length ≤ cur.size) :
    (Builtin.append_ #[t, tx] ty #[.slice (some ⟨g, 0, none⟩) sLen sCap, x]).run P w =
      .ok (.slice (some ⟨g, 0, none⟩) (sLen + m) sCap) (w.setRow g (cur.toList.take (sLen * i.size) ++ news ++ cur.toList.drop (sLen * i.size + news.length)).toArray) := by
  have hst := run_storeCells_at P g (sLen * i.size) e news 0 cur w hg (by simpa using hfit) hs.one
  simp only [Nat.add_zero] at hst
  rcases hs.kind with ⟨e', hk⟩ | hk <;> simp [Builtin.append_, run_underlying ht, run_underlying hk, sizeOf, typeInfo, hi, hs.len, hroom, hs.cells, Addr.add_lit, hst]

theorem below_setRow (B : Nat) (w : World) (g : Nat) (c : Array Value) (hg : B ≤ g) : Below B w (w.setRow g c) :=
  ⟨rfl, rfl, rfl, by simp, fun k hk => setRow_other w g k c (by omega)⟩

/-- append of at least one element onto such a row: what comes back is owned; nothing below B has turned; no block but the row's own has turned. -/
theorem run_append_row (w : World) (B : Nat) (t tx ty e : TypeId) (i : TypeInfo) (z : Value) (bytes : Nat) (ht : P.underlying t = some (.slice e)) (hi : P.info? e = some i) (hz : i.zero = some z) (hsize : i.size = 1) (hby : i.bytes = bytes) (hzs : z.cells.size = 1)
    (v : Value) (xs : List Value) (hrow : rowOf w B e v xs) (x : Value) (m : Nat) (news : List Value) (hs : Src P 1 tx x m news w) (hm : 0 < m)
    (hb : (xs.length + m) * bytes ≤ 140737488355328) (h63 : xs.length + m ≤ 9223372036854775807) (hBw : B ≤ w.heap.size) :
    ∃ v' w', (Builtin.append_ #[t, tx] ty #[v, x]).run P w = .ok v' w' ∧ w'.ownsRow B e 1 v' (xs.length + m) (xs ++ news) ∧ Below B w w' ∧ (∀ k, k < w.heap.size → v.ownBlock ≠ some k → w'.heap[k]? = w.heap[k]?) := by
  have hl : news.length = m := by simpa using hs.newsLen
  have hlen : (xs ++ news).length = (xs.length + m) * 1 := by rw [List.length_append, hl, Nat.mul_one]
  have hs' : Src P i.size tx x m news w := by rw [hsize]; exact hs
  -- the arm that grows
  have grow : ∀ (base : Option Addr) (cap : Nat), v = .slice base xs.length cap → cap < xs.length + m →
      (Builtin.firstCells i.size xs.length (.slice base xs.length cap)).run P w.drew = .ok xs.toArray w.drew →
      ∃ v' w', (Builtin.append_ #[t, tx] ty #[v, x]).run P w = .ok v' w' ∧ w'.ownsRow B e 1 v' (xs.length + m) (xs ++ news) ∧ Below B w w' ∧ (∀ k, k < w.heap.size → v.ownBlock ≠ some k → w'.heap[k]? = w.heap[k]?) := by
    intro base cap hv hg hold
    subst hv
    have hge := grownCap_ge w (xs.length + m) cap e
    have hcm : grownCap w (xs.length + m) cap e ≤ maxLen := grownCap_le_maxLen w _ cap e (by unfold maxLen; omega)
    have hr := run_append_grow_src (P := P) w t tx ty e i z ht hi hz base xs.length cap xs hold x m news hs' hg (by omega) (growslice_fits hg (by rw [hby]; exact hb))
    refine ⟨_, _, hr, ⟨hlen, .inr ⟨w.heap.size, _, _, rfl, hBw, heap_alloc_new w.drew _, hge, hcm, ?_, ?_⟩⟩, ?_, ?_⟩
    · simp only [Array.size_append, List.size_toArray, size_zeroCells, hzs, hlen]
      omega
    · rw [← hlen]
      simp only [Array.toList_append]
      exact List.take_left
    · exact (Below.refl B w).drew.alloc hBw _
    · intro k hk _
      exact Below.heap_alloc w.drew _ k hk
  rcases hrow with hown | ⟨a, rfl, hnone, hcell⟩
  · rcases hown.2 with ⟨rfl, hn⟩ | ⟨g, cap, cur, rfl, hbg, hg, hnc, hcm, hcs, htake⟩
    · have hx : xs = [] := List.eq_nil_of_length_eq_zero hn
      subst hx
      exact grow none 0 rfl (by simp; omega) (by simpa using run_firstCells_none (P := P) w.drew i.size 0 0 0)
    · by_cases hroom : xs.length + m ≤ cap
      · have hfit : xs.length * i.size + news.length ≤ cur.size := by rw [hsize]; omega
        have hr := run_append_room_at w t tx ty e i ht hi g xs.length cap cur hg x m news hs' hroom hfit
        rw [hsize] at hr
        refine ⟨_, _, hr, ⟨hlen, .inr ⟨g, cap, _, rfl, hbg, setRow_heap w g cur _ e _ hg, hroom, hcm, ?_, ?_⟩⟩, below_setRow B w g _ hbg, fun k _ hk => setRow_other w g k _ (fun e => hk (by simp [Value.ownBlock, e]))⟩
        · simp only [List.size_toArray, List.length_append, List.length_take, List.length_drop, Array.length_toList]
          omega
        · rw [htake, ← hlen]
          exact List.take_left
      · refine grow (some ⟨g, 0, none⟩) cap rfl (by omega) ?_
        exact run_firstCells_some (P := P) w.drew i.size xs.length ⟨g, 0, none⟩ xs.length cap xs (by rw [hsize, Nat.mul_one]) (by simpa using hown.cells (g := g) rfl)
  · refine grow a xs.length rfl (by omega) ?_
    cases a with
    | none =>
      have hx := hnone rfl
      subst hx
      simpa using run_firstCells_none (P := P) w.drew i.size 0 0 0
    | some b => exact run_firstCells_some (P := P) w.drew i.size xs.length b xs.length xs.length xs (by rw [hsize, Nat.mul_one]) (by simpa using hcell b rfl)

theorem wpList_append_row (w : World) {ops : Array Oper} {rest : List Oper} {o : Oper} {a : Act} {Q : Exit → Act → World → Prop} (hgd : o.guard = none) (s x : Operand) (t tx : TypeId)
    (ho : o.op = .call { callee := .builtin .append, args := #[s, x], argTypes := #[t, tx] })
    (B : Nat) (e : TypeId) (i : TypeInfo) (z : Value) (bytes : Nat) (ht : P.underlying t = some (.slice e)) (hi : P.info? e = some i) (hz : i.zero = some z) (hsize : i.size = 1) (hby : i.bytes = bytes) (hzs : z.cells.size = 1)
    (v : Value) (xs : List Value) (hv : a.eval s = v) (hrow : rowOf w B e v xs) (xv : Value) (m : Nat) (news : List Value) (hx : a.eval x = xv) (hs : Src P 1 tx xv m news w) (hm : 0 < m)
    (hb : (xs.length + m) * bytes ≤ 140737488355328) (h63 : xs.length + m ≤ 9223372036854775807) (hBw : B ≤ w.heap.size)
    (h : ∀ v' w', w'.ownsRow B e 1 v' (xs.length + m) (xs ++ news) → Below B w w' → (∀ k, k < w.heap.size → v.ownBlock ≠ some k → w'.heap[k]? = w.heap[k]?) → wpList P ops Q rest (a.put o.dst v') w') : wpList P ops Q (o :: rest) a w := by
  refine wpList_plain hgd fun K hK => ?_
  obtain ⟨v', w', hr, h2, h3, h4⟩ := run_append_row (P := P) w B t tx o.type e i z bytes ht hi hz hsize hby hzs v xs hrow xv m news hs hm hb h63 hBw
  unfold Oper.wp execOp
  simp only [ho, resolve, invoke, builtin, Sem.run_bind, Sem.run_pure, Result.andThen_ok, List.map_toArray, List.map_cons, List.map_nil, hv, hx, hr]
  exact hK _ _ (h v' w' h2 h3 h4)

theorem rowOf.owned {w : World} {B : Nat} {e : TypeId} {v : Value} {n : Nat} {xs : List Value} (h : w.ownsRow B e 1 v n xs) : rowOf w B e v xs := by
  have hn : xs.length = n := by simpa using h.1
  exact Or.inl (by rw [hn]; exact h)

theorem rowOf.nil (w : World) (B : Nat) (e : TypeId) : rowOf w B e (.slice none 0 0) [] := Or.inl (World.ownsRow_nil w B e 1)

theorem rowOf.alloc {w : World} {B : Nat} {e : TypeId} {v : Value} {xs : List Value} (h : rowOf w B e v xs) (o : Obj) : rowOf (w.alloc o) B e v xs := by
  rcases h with h | ⟨a, h1, h2, h3⟩
  · exact Or.inl (h.alloc o)
  · refine Or.inr ⟨a, h1, h2, fun x hx j u hu => ?_⟩
    have := h3 x hx j u hu
    exact (World.cell?_of_block (Below.heap_alloc w o _ (World.block_lt_of_cell? w _ this))).trans this

theorem rowOf.drew {w : World} {B : Nat} {e : TypeId} {v : Value} {xs : List Value} (h : rowOf w B e v xs) : rowOf w.drew B e v xs := h

/-- a row one of whose elements, of a world: an element's cell -/
theorem owned_cell {w : World} {B : Nat} {e : TypeId} {v : Value} {n : Nat} {xs : List Value} (h : w.ownsRow B e 1 v n xs) (hn : 0 < n) :
    ∃ g cap, v = .slice (some ⟨g, 0, none⟩) n cap ∧ B ≤ g ∧ g < w.heap.size ∧ n ≤ cap ∧ cap ≤ maxLen ∧ (∀ j, j < n → w.cell? ⟨g, j, none⟩ = xs[j]?) ∧ (∀ j, w.frozen? ⟨g, j, none⟩ = false) := by
  rcases h.2 with ⟨_, h0⟩ | ⟨g, cap, cur, rfl, hb, hg, hnc, hcm, hcs, htake⟩
  · omega
  · exact ⟨g, cap, rfl, hb, (Array.getElem?_eq_some_iff.1 hg).1, hnc, hcm, fun j hj => h.cellAt j (by omega), fun j => h.frozenAt j⟩

/-- an owned row stays where no block but others turn -/
theorem owned_kept {w w' : World} {B : Nat} {e : TypeId} {v : Value} {n : Nat} {xs : List Value} (h : w.ownsRow B e 1 v n xs) (hk : ∀ k, v.ownBlock = some k → w'.heap[k]? = w.heap[k]?) : w'.ownsRow B e 1 v n xs := by
  refine ⟨h.1, ?_⟩
  rcases h.2 with h2 | ⟨g, cap, cur, rfl, hb, hg, r⟩
  · exact Or.inl h2
  · exact Or.inr ⟨g, cap, cur, rfl, hb, (hk g rfl).trans hg, r⟩

end Go.Proofs.Qxb6603811aDoor
