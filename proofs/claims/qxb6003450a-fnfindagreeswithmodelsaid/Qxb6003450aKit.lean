import Derived.WalkKit
import Derived.WalkSpells
import Derived.WalkLawsBesides
import Derived.Deep.AppendSrc
import Derived.Deep.OwnRows
import Derived.Maps.OwnSet
import Derived.Laws.IdiomStrings
namespace Go.Proofs.Qxb6003450a
open Go.RowKit Go

variable {P : Program}

theorem run_append_room_tag (w : World) (t tx ty e d : TypeId) (i : TypeInfo) (ht : P.underlying t = some (.slice e)) (hi : P.info? e = some i)
    (g sLen sCap : Nat) (cur : Array Value) (hg : w.heap[g]? = some (.cells cur d (0, 0)))
    (x : Value) (m : Nat) (news : List Value) (hs : Src P i.size tx x m news w)
    (hroom : sLen + m ≤ sCap) (hfit : sLen * i.size + news.length ≤ cur.size) :
    (Builtin.append_ #[t, tx] ty #[.slice (some ⟨g, 0, none⟩) sLen sCap, x]).run P w =
      .ok (.slice (some ⟨g, 0, none⟩) (sLen + m) sCap) (w.setRow g (cur.toList.take (sLen * i.size) ++ news ++ cur.toList.drop (sLen * i.size + news.length)).toArray) := by
  have hst := run_storeCells_at P g (sLen * i.size) d news 0 cur w hg (by simpa using hfit) hs.one
  simp only [Nat.add_zero] at hst
  rcases hs.kind with ⟨e', hk⟩ | hk <;> simp [Builtin.append_, run_underlying ht, run_underlying hk, sizeOf, typeInfo, hi, hs.len, hroom, hs.cells, Addr.add_lit, hst]

theorem below_setRow (B : Nat) (w : World) (g : Nat) (c : Array Value) (hg : B ≤ g) : Below B w (w.setRow g c) :=
  ⟨rfl, rfl, rfl, by simp, fun k hk => setRow_other w g k c (by omega)⟩

/-- append of at least one element onto an owned row, elements of 'size' cells -/
theorem run_append_any (w : World) (B : Nat) (t tx ty e : TypeId) (i : TypeInfo) (z : Value) (size bytes : Nat) (ht : P.underlying t = some (.slice e)) (hi : P.info? e = some i) (hz : i.zero = some z) (hsize : i.size = size) (hby : i.bytes = bytes) (hzs : z.cells.size = size)
    (v : Value) (n : Nat) (xs : List Value) (hown : w.ownsRow B e size v n xs) (x : Value) (m : Nat) (news : List Value) (hs : Src P size tx x m news w) (hm : 0 < m)
    (hb : (n + m) * bytes ≤ 140737488355328) (h63 : n + m ≤ 9223372036854775807) (hBw : B ≤ w.heap.size) :
    ∃ v' w', (Builtin.append_ #[t, tx] ty #[v, x]).run P w = .ok v' w' ∧ w'.ownsRow B e size v' (n + m) (xs ++ news) ∧ w.grownBy w' v.ownBlock ∧ (v'.ownBlock = v.ownBlock ∨ ∃ k, v'.ownBlock = some k ∧ w.heap.size ≤ k) := by
  have hl : news.length = m * size := hs.newsLen
  have hx : xs.length = n * size := hown.1
  have hlen : (xs ++ news).length = (n + m) * size := by rw [List.length_append, hl, hx, Nat.add_mul]
  have hs' : Src P i.size tx x m news w := by rw [hsize]; exact hs
  have grow : ∀ (base : Option Addr) (cap : Nat), v = .slice base n cap → cap < n + m →
      (Builtin.firstCells i.size n (.slice base n cap)).run P w.drew = .ok xs.toArray w.drew →
      ∃ v' w', (Builtin.append_ #[t, tx] ty #[v, x]).run P w = .ok v' w' ∧ w'.ownsRow B e size v' (n + m) (xs ++ news) ∧ w.grownBy w' v.ownBlock ∧ (v'.ownBlock = v.ownBlock ∨ ∃ k, v'.ownBlock = some k ∧ w.heap.size ≤ k) := by
    intro base cap hv hg hold
    subst hv
    have hge := grownCap_ge w (n + m) cap e
    have hcm : grownCap w (n + m) cap e ≤ maxLen := grownCap_le_maxLen w _ cap e (by unfold maxLen; omega)
    have hr := run_append_grow_src (P := P) w t tx ty e i z ht hi hz base n cap xs hold x m news hs' hg (by omega) (growslice_fits hg (by rw [hby]; exact hb))
    refine ⟨_, _, hr, ⟨hlen, .inr ⟨w.heap.size, _, _, rfl, hBw, heap_alloc_new w.drew _, hge, hcm, ?_, ?_⟩⟩, ⟨rfl, rfl, rfl, ?_, fun k hk _ => Below.heap_alloc w.drew _ k hk⟩, .inr ⟨_, rfl, Nat.le_refl _⟩⟩
    · simp only [Array.size_append, List.size_toArray, size_zeroCells, hzs, hlen]
      rw [← Nat.add_mul]
      congr 1
      omega
    · rw [← hlen]
      simp only [Array.toList_append]
      exact List.take_left
    · simp [World.alloc]
  rcases hown.2 with ⟨rfl, hn⟩ | ⟨g, cap, cur, rfl, hbg, hg, hnc, hcm, hcs, htake⟩
  · subst hn
    have hx0 : xs = [] := List.eq_nil_of_length_eq_zero (by rw [hx, Nat.zero_mul])
    subst hx0
    exact grow none 0 rfl (by omega) (by simpa using run_firstCells_none (P := P) w.drew i.size 0 0 0)
  · by_cases hroom : n + m ≤ cap
    · have hfit : n * i.size + news.length ≤ cur.size := by
        rw [hsize, hl, hcs, ← Nat.add_mul]
        exact Nat.mul_le_mul_right _ hroom
      have hr := run_append_room_tag w t tx ty e e i ht hi g n cap cur hg x m news hs' hroom hfit
      rw [hsize] at hr hfit
      refine ⟨_, _, hr, ⟨hlen, .inr ⟨g, cap, _, rfl, hbg, setRow_heap w g cur _ e _ hg, hroom, hcm, ?_, ?_⟩⟩, ⟨rfl, rfl, rfl, by simp, fun k _ hk => setRow_other w g k _ (fun e => hk (by simp [Value.ownBlock, e]))⟩, .inl rfl⟩
      · simp only [List.size_toArray, List.length_append, List.length_take, List.length_drop, Array.length_toList]
        omega
      · rw [htake, ← hlen]
        exact List.take_left
    · refine grow (some ⟨g, 0, none⟩) cap rfl (by omega) ?_
      exact run_firstCells_some (P := P) w.drew i.size n ⟨g, 0, none⟩ n cap xs (by rw [hsize, hx]) (by simpa using hown.cells (g := g) rfl)

theorem ownsRow_mono {w : World} {B B' : Nat} {e : TypeId} {s : Nat} {v : Value} {n : Nat} {xs : List Value} (h : w.ownsRow B e s v n xs) (hB : B' ≤ B) : w.ownsRow B' e s v n xs := by
  refine ⟨h.1, ?_⟩
  rcases h.2 with h2 | ⟨g, cap, cur, hv, hb, r⟩
  · exact Or.inl h2
  · exact Or.inr ⟨g, cap, cur, hv, Nat.le_trans hB hb, r⟩

/-- an owned row stays where its own block does -/
theorem owned_kept {w w' : World} {B : Nat} {e : TypeId} {s : Nat} {v : Value} {n : Nat} {xs : List Value} (h : w.ownsRow B e s v n xs) (hk : ∀ k, v.ownBlock = some k → k < w.heap.size → w'.heap[k]? = w.heap[k]?) : w'.ownsRow B e s v n xs := by
  refine ⟨h.1, ?_⟩
  rcases h.2 with h2 | ⟨g, cap, cur, rfl, hb, hg, r⟩
  · exact Or.inl h2
  · exact Or.inr ⟨g, cap, cur, rfl, hb, (hk g rfl (Array.getElem?_eq_some_iff.1 hg).1).trans hg, r⟩

/-- bytes as cells -/
def bc (l : List UInt8) : List Value := l.map fun b => Value.int .u8 (b.toNat : Int)
theorem bc_length (l : List UInt8) : (bc l).length = l.length := by simp [bc]
theorem bc_append (l r : List UInt8) : bc (l ++ r) = bc l ++ bc r := by simp [bc]
theorem bc_one (l : List UInt8) : ∀ u ∈ bc l, u.oneCell' = true := by
  intro u hu
  simp only [bc, List.mem_map] at hu
  obtain ⟨b, _, rfl⟩ := hu
  rfl

/-- lower-case, a byte; the label with its length -/
def low (b : UInt8) : UInt8 := if 65 ≤ b.toNat ∧ b.toNat ≤ 90 then UInt8.ofNat (b.toNat + 32) else b
def fold (l : List UInt8) : List UInt8 := l.map low
def lab (l : List UInt8) : List UInt8 := UInt8.ofNat l.length :: l
def wire (l : List UInt8) : List UInt8 := if l = [] then [0] else lab l ++ [0]
theorem fold_length (l : List UInt8) : (fold l).length = l.length := by simp [fold]
theorem low_val (b : UInt8) : ((low b).toNat : Int) = if 65 ≤ (b.toNat : Int) ∧ (b.toNat : Int) ≤ 90 then (b.toNat : Int) + 32 else (b.toNat : Int) := by
  unfold low
  by_cases h : 65 ≤ b.toNat ∧ b.toNat ≤ 90
  · rw [if_pos h, if_pos (by omega)]
    have : (UInt8.ofNat (b.toNat + 32)).toNat = b.toNat + 32 := by
      simp
      omega
    rw [this]
    omega
  · rw [if_neg h, if_neg (by omega)]

/-- what is kept by a call that writes the zone's struct, its map, its records and its starts alone -/
structure Still (B : Nat) (w w' : World) : Prop where
  below : Below B w w'
  row : ∀ (k : Nat) (c : Array Value) (t : TypeId), t ≠ 35 → t ≠ 88 → t ≠ 81 → w.heap[k]? = some (Obj.cells c t (0, 0)) → w'.heap[k]? = w.heap[k]?

theorem Still.refl (B : Nat) (w : World) : Still B w w := ⟨Below.refl _ _, fun _ _ _ _ _ _ _ => rfl⟩
theorem Still.trans {B : Nat} {a b c : World} (h : Still B a b) (k : Still B b c) : Still B a c :=
  ⟨h.below.trans k.below, fun i x t h1 h2 h3 h4 => (k.row i x t h1 h2 h3 ((h.row i x t h1 h2 h3 h4).trans h4)).trans (h.row i x t h1 h2 h3 h4)⟩
theorem Still.of_below {B : Nat} {w w' : World} (h : Below w.heap.size w w') (hB : B ≤ w.heap.size) : Still B w w' :=
  ⟨h.mono hB, fun k _ _ _ _ _ h4 => h.block k (Array.getElem?_eq_some_iff.1 h4).1⟩
theorem Still.mono {B B' : Nat} {w w' : World} (h : Still B w w') (hB : B' ≤ B) : Still B' w w' := ⟨h.below.mono hB, h.row⟩
theorem Still.rowIs {B : Nat} {w w' : World} {g : Nat} {t : TypeId} {n : Nat} {f : Nat → Value} (hs : Still B w w') (h : w.rowIs g t n f) (h1 : t ≠ 35 := by decide) (h2 : t ≠ 88 := by decide) (h3 : t ≠ 81 := by decide) : w'.rowIs g t n f := by
  obtain ⟨c, hb, r⟩ := h
  exact ⟨c, (hs.row g c t h1 h2 h3 hb).trans hb, r⟩
theorem Still.owns {B B' : Nat} {w w' : World} {e : TypeId} {s : Nat} {v : Value} {n : Nat} {xs : List Value} (hs : Still B w w') (h : w.ownsRow B' e s v n xs) (h1 : e ≠ 35 := by decide) (h2 : e ≠ 88 := by decide) (h3 : e ≠ 81 := by decide) : w'.ownsRow B' e s v n xs := by
  refine ⟨h.1, ?_⟩
  rcases h.2 with h4 | ⟨g, cap, cur, rfl, hb, hg, r⟩
  · exact Or.inl h4
  · exact Or.inr ⟨g, cap, cur, rfl, hb, (hs.row g _ _ h1 h2 h3 hg).trans hg, r⟩

end Go.Proofs.Qxb6003450a
