import Derived.Test.Qxb6003450aZone
import Derived.Deep.RegionLaw
import Derived.Deep.CutRange
namespace Go.Proofs.Qxb6003450a
open Go.RowKit

theorem put_run {w : World} {mb n : Nat} {D : DataW Unit} (hown : w.ownsMap Try.prog 39 (plainElem Try.prog 3) mb n D) (hn : n < maxLen) (s : ByteArray) (c : Nat) (hs : s.size ≤ maxLen) (hc : c ≤ 1000) :
    ∃ w', (Instr.mapUpdate 30 (.map (some mb)) (.string s) (.int .i64 (c : Int))).run Try.prog w = .ok () w' ∧ w'.ownsMap Try.prog 39 (plainElem Try.prog 3) mb (n + 1) (D.put (.string s.data.toList) (.lit (.int .i64 (c : Int)))) ∧ w.grownBy w' (some mb) :=
  hown.update law39 Try.underlying30 hn (WideMaps.keyOf_string_mk Try.underlying39 hs) (plainElem_int Try.underlying3 (q := .i64) (a := (c : Int)) (by exact WalkArith.wf_i64 (by omega)))

/-- append as one step of a region that draws its order -/
theorem step_append {w : World} {ops : Array Oper} {o : Oper} {a : Act} {K : Act → World → Prop} {Q : Exit → Act → World → Prop} {E : Prop} (hgd : o.guard = none) (s x : Operand) (t tx : TypeId)
    (ho : o.op = .call { callee := .builtin .append, args := #[s, x], argTypes := #[t, tx] })
    (B : Nat) (e : TypeId) (z : Value) (size bytes : Nat) (ht : Try.prog.underlying t = some (.slice e)) (hinfo : (Try.prog.info? e).map (fun i => (i.zero, i.size, i.bytes)) = some (some z, size, bytes)) (hzs : z.cells.size = size)
    (v : Value) (n : Nat) (xs : List Value) (hv : a.eval s = v) (hown : w.ownsRow B e size v n xs) (xv : Value) (m : Nat) (news : List Value) (hx : a.eval x = xv) (hs : Src Try.prog size tx xv m news w) (hm : 0 < m)
    (hb : (n + m) * bytes ≤ 140737488355328) (h63 : n + m ≤ 9223372036854775807) (hBw : B ≤ w.heap.size)
    (h : ∀ v' w', w'.ownsRow B e size v' (n + m) (xs ++ news) → w.grownBy w' v.ownBlock → (v'.ownBlock = v.ownBlock ∨ ∃ k, v'.ownBlock = some k ∧ w.heap.size ≤ k) → K (a.put o.dst v') w') :
    if Region.wanted o (yielded ops a.tmps) = true then Oper.wp Try.prog o a w K Q else E := by
  obtain ⟨i0, hi, hz0, hz1, hz2⟩ := info_parts hinfo
  have hw : Region.wanted o (yielded ops a.tmps) = true := by simp [Region.wanted, hgd]
  rw [if_pos hw]
  obtain ⟨v', w', hr, h2, h3, h4⟩ := run_append_any (P := Try.prog) w B t tx o.type e i0 z size bytes ht hi hz0 hz1 hz2 hzs v n xs hown xv m news hs hm hb h63 hBw
  unfold Oper.wp execOp
  simp only [ho, resolve, invoke, builtin, Sem.run_bind, Sem.run_pure, Result.andThen_ok, List.map_toArray, List.map_cons, List.map_nil, hv, hx, hr]
  exact h v' w' h2 h3 h4

theorem own_shape {w : World} {B : Nat} {e : TypeId} {s : Nat} {v : Value} {n : Nat} {xs : List Value} (h : w.ownsRow B e s v n xs) : ∃ a cap, v = .slice a n cap := by
  rcases h.2 with ⟨rfl, rfl⟩ | ⟨g, cap, cur, rfl, _⟩
  · exact ⟨_, _, rfl⟩
  · exact ⟨_, _, rfl⟩

theorem conv_at {w : World} {B : Nat} {v : Value} {l : List UInt8} (h : w.ownsRow B 5 1 v l.length (bc l)) : (convert 29 39 v).run Try.prog w = .ok (.string ⟨l.toArray⟩) w := by
  have := conv_own h 39 Try.underlying39 0
  simpa only [World.drewN_zero] using this

theorem map_ne {w : World} {mb n : Nat} {D : DataW Unit} (h : w.ownsMap Try.prog 39 (plainElem Try.prog 3) mb n D) {b : Nat} {c : Array Value} {t : TypeId} {o : Nat × Nat} (hb : w.heap[b]? = some (.cells c t o)) : b ≠ mb := by
  obtain ⟨es, clock, h1, _⟩ := h
  intro e
  subst e
  rw [hb] at h1
  cases h1
theorem row_map {w w' : World} {mb n m : Nat} {D : DataW Unit} {b : Nat} {t : TypeId} {f : Nat → Value} (h : w.rowIs b t m f) (hD : w.ownsMap Try.prog 39 (plainElem Try.prog 3) mb n D) (hg : w.grownBy w' (some mb)) : w'.rowIs b t m f := by
  have hl := h.lt
  obtain ⟨c, hb, r⟩ := h
  exact ⟨c, (hg.block b hl (fun e => map_ne hD hb (by cases e; rfl))).trans hb, r⟩
theorem own_map {w w' : World} {mb n m : Nat} {D : DataW Unit} {B : Nat} {e : TypeId} {s : Nat} {v : Value} {xs : List Value} (h : w.ownsRow B e s v m xs) (hD : w.ownsMap Try.prog 39 (plainElem Try.prog 3) mb n D) (hg : w.grownBy w' (some mb)) : w'.ownsRow B e s v m xs := by
  refine ⟨h.1, ?_⟩
  rcases h.2 with h2 | ⟨g, cap, cur, rfl, hb, hgg, r⟩
  · exact Or.inl h2
  · exact Or.inr ⟨g, cap, cur, rfl, hb, (hg.block g (Array.getElem?_eq_some_iff.1 hgg).1 (fun e => map_ne hD hgg (by cases e; rfl))).trans hgg, r⟩
/-- a row whose tag is another's than the row that was written -/
theorem row_tag {w w' : World} {b m B e s n : Nat} {t : TypeId} {f : Nat → Value} {v : Value} {xs : List Value} (h : w.rowIs b t m f) (ho : w.ownsRow B e s v n xs) (hne : t ≠ e) (hg : w.grownBy w' v.ownBlock) : w'.rowIs b t m f := by
  have hl := h.lt
  obtain ⟨c, hb, r⟩ := h
  refine ⟨c, (hg.block b hl (fun e1 => ?_)).trans hb, r⟩
  rcases ho.2 with ⟨rfl, _⟩ | ⟨g, cap, cur, rfl, _, hgg, _⟩
  · cases e1
  · cases e1
    rw [hb] at hgg
    cases hgg
    exact hne rfl
theorem own_tag {w w' : World} {B' e' s' n' B e s n : Nat} {v v' : Value} {xs xs' : List Value} (h : w.ownsRow B' e' s' v' n' xs') (ho : w.ownsRow B e s v n xs) (hne : e' ≠ e) (hg : w.grownBy w' v.ownBlock) : w'.ownsRow B' e' s' v' n' xs' := by
  refine ⟨h.1, ?_⟩
  rcases h.2 with h2 | ⟨g', cap', cur', rfl, hb', hg', r'⟩
  · exact Or.inl h2
  · refine Or.inr ⟨g', cap', cur', rfl, hb', (hg.block g' (Array.getElem?_eq_some_iff.1 hg').1 (fun e1 => ?_)).trans hg', r'⟩
    rcases ho.2 with ⟨rfl, _⟩ | ⟨g, cap, cur, rfl, _, hgg, _⟩
    · cases e1
    · cases e1
      rw [hg'] at hgg
      cases hgg
      exact hne rfl
theorem map_tag {w w' : World} {mb m B e s n : Nat} {D : DataW Unit} {v : Value} {xs : List Value} (h : w.ownsMap Try.prog 39 (plainElem Try.prog 3) mb m D) (ho : w.ownsRow B e s v n xs) (hg : w.grownBy w' v.ownBlock) : w'.ownsMap Try.prog 39 (plainElem Try.prog 3) mb m D := by
  refine h.kept hg (fun e1 => ?_)
  rcases ho.2 with ⟨rfl, _⟩ | ⟨g, cap, cur, rfl, _, hgg, _⟩
  · cases e1
  · cases e1
    exact map_ne h hgg rfl
theorem still_map {w w' : World} {mb n B : Nat} {D : DataW Unit} (hD : w.ownsMap Try.prog 39 (plainElem Try.prog 3) mb n D) (hg : w.grownBy w' (some mb)) (hB : B ≤ mb) (hBw : B ≤ w.heap.size) : Still B w w' :=
  ⟨(Below.refl _ _).grown hg hBw (fun k hk => by cases hk; exact hB), fun k c t _ _ _ hb => hg.block k (Array.getElem?_eq_some_iff.1 hb).1 (fun e => map_ne hD hb (by cases e; rfl))⟩
theorem still_own {w w' : World} {B e s n : Nat} {v : Value} {xs : List Value} (ho : w.ownsRow B e s v n xs) (he : e = 88 ∨ e = 81) (hg : w.grownBy w' v.ownBlock) (hBw : B ≤ w.heap.size) : Still B w w' := by
  refine ⟨(Below.refl _ _).grown hg hBw (fun k hk => (ho.lt k hk).1), fun k c t _ h2 h3 hb => hg.block k (Array.getElem?_eq_some_iff.1 hb).1 (fun e1 => ?_)⟩
  rcases ho.2 with ⟨rfl, _⟩ | ⟨g, cap, cur, rfl, _, hgg, _⟩
  · cases e1
  · cases e1
    rw [hb] at hgg
    cases hgg
    rcases he with rfl | rfl
    · exact h2 rfl
    · exact h3 rfl
theorem still_set {w : World} {fb B n : Nat} {f : Nat → Value} (h : w.rowIs fb 35 n f) (hB : B ≤ fb) (i : Nat) (u : Value) : Still B w (w.setCell ⟨fb, i, none⟩ u) := by
  refine ⟨(Below.refl _ _).setCell hB _, fun k c t h1 _ _ hb => Below.heap_setCell _ _ _ _ (fun e => ?_)⟩
  obtain ⟨c', hb', _⟩ := h
  have e' : k = fb := e
  subst e'
  rw [hb] at hb'
  cases hb'
  exact h1 rfl

theorem still_drew (B : Nat) (w : World) : Still B w w.drew := ⟨(Below.refl _ _).drew, fun _ _ _ _ _ _ _ => rfl⟩
theorem still_alloc {B : Nat} {w : World} (hB : B ≤ w.heap.size) (o : Obj) : Still B w (w.alloc o) := ⟨(Below.refl _ _).alloc hB _, fun _ _ _ _ _ _ h => Below.heap_alloc _ _ _ (Array.getElem?_eq_some_iff.1 h).1⟩
theorem src_rr (w : World) (k : List UInt8) (t n : Nat) : Src Try.prog 5 31 (.slice (some ⟨w.heap.size, 0, none⟩) 1 1) 1 (rrc n (k, t)) (w.alloc (.cells #[.string ⟨k.toArray⟩, .int .u16 (t : Int), .int .u16 0, .int .u32 (n : Int), .slice none 0 0] 88)).drew := by
  refine Src.ofSlice _ Try.underlying31 _ _ _ _ rfl (fun j u hu => ?_) (fun u hu => ?_)
  · rw [Addr.add_lit]
    simp only [rrc] at hu
    simp [go_sem, hu]
  · simp only [rrc, List.mem_cons, List.not_mem_nil, or_false] at hu
    rcases hu with rfl | rfl | rfl | rfl | rfl <;> rfl

/-- in the midst of 'add' -/
structure Mid (w wx : World) (B Bk fb mb : Nat) (ov rv sv e f g h : Value) (sn : Int) (kv : Value) (k : List UInt8) (R : List (List UInt8 × Nat)) (n : Nat) (D : DataW Unit) (N : List Nd) : Prop where
  fr : wx.rowIs fb 35 9 (zf ov (.map (some mb)) rv sv e f g h sn)
  mp : wx.ownsMap Try.prog 39 (plainElem Try.prog 3) mb n D
  rr : wx.ownsRow B 88 5 rv R.length (rrC 0 R)
  ss : wx.ownsRow B 81 1 sv (N.length + 1) (stC N)
  kk : wx.ownsRow Bk 5 1 kv k.length (bc k)
  st : Still B w wx

theorem zf_set2 {a b c d e f g h c' : Value} {s : Int} : (fun j => if j = 2 then c' else zf a b c d e f g h s j) = zf a b c' d e f g h s := by
  funext j
  match j with
  | 0 | 1 | 2 | 3 | 4 | 5 | 6 | 7 | 8 => simp [zf]
  | j + 9 => simp [zf]
theorem zf_set3 {a b c d e f g h c' : Value} {s : Int} : (fun j => if j = 3 then c' else zf a b c d e f g h s j) = zf a b c c' e f g h s := by
  funext j
  match j with
  | 0 | 1 | 2 | 3 | 4 | 5 | 6 | 7 | 8 => simp [zf]
  | j + 9 => simp [zf]
theorem map_set {w : World} {mb n fb i m : Nat} {t : TypeId} {F : Nat → Value} {D : DataW Unit} (h : w.ownsMap Try.prog 39 (plainElem Try.prog 3) mb n D) (hf : w.rowIs fb t m F) (u : Value) : (w.setCell ⟨fb, i, none⟩ u).ownsMap Try.prog 39 (plainElem Try.prog 3) mb n D := by
  obtain ⟨c, hb, _⟩ := hf
  exact h.setCell (a := ⟨fb, i, none⟩) (fun e => map_ne h hb e.symm) u
theorem own_set_other {w : World} {fb i m B e s n : Nat} {t : TypeId} {F : Nat → Value} {v : Value} {xs : List Value} (h : w.ownsRow B e s v n xs) (hf : w.rowIs fb t m F) (hne : e ≠ t) (u : Value) : (w.setCell ⟨fb, i, none⟩ u).ownsRow B e s v n xs := by
  refine ⟨h.1, ?_⟩
  rcases h.2 with h2 | ⟨g, cap, cur, rfl, hb, hg, r⟩
  · exact Or.inl h2
  · refine Or.inr ⟨g, cap, cur, rfl, hb, (Below.heap_setCell _ _ _ _ (fun e1 => ?_)).trans hg, r⟩
    obtain ⟨c, hb', _⟩ := hf
    have e2 : g = fb := e1
    subst e2
    rw [hg] at hb'
    cases hb'
    exact hne rfl

/-- the records grown by one, stored back -/
theorem Mid.record {w w1 w3 : World} {B Bk fb mb : Nat} {ov rv sv e f g h : Value} {sn : Int} {kv : Value} {k : List UInt8} {R : List (List UInt8 × Nat)} {n : Nat} {D : DataW Unit} {N : List Nd} {o : Obj} {v3 : Value} {t : Nat}
    (M : Mid w w1 B Bk fb mb ov rv sv e f g h sn kv k R n D N) (hB : B ≤ fb) (hrr : w3.ownsRow B 88 5 v3 (R.length + 1) (rrC 0 R ++ rrc R.length (k, t))) (hg : (w1.alloc o).drew.grownBy w3 rv.ownBlock) :
    Mid w (w3.setCell ⟨fb, 2, none⟩ v3) B Bk fb mb ov v3 sv e f g h sn kv k (R ++ [(k, t)]) n D N := by
  have hBw : B ≤ w1.heap.size := Nat.le_trans hB (Nat.le_of_lt M.fr.lt)
  have hr0 : (w1.alloc o).drew.ownsRow B 88 5 rv R.length (rrC 0 R) := M.rr.alloc o
  have hf3 := row_tag (w := (w1.alloc o).drew) (M.fr.alloc o) hr0 (by decide) hg
  have hst : Still B w w3 := ((M.st.trans (still_alloc hBw o)).trans (still_drew _ _)).trans (still_own hr0 (.inl rfl) hg (by simp; omega))
  refine ⟨?_, map_set (map_tag (w := (w1.alloc o).drew) (M.mp.alloc o) hr0 hg) hf3 _, ?_, own_set_other (own_tag (w := (w1.alloc o).drew) (M.ss.alloc o) hr0 (by decide) hg) hf3 (by decide) _, own_set_other (own_tag (w := (w1.alloc o).drew) (M.kk.alloc o) hr0 (by decide) hg) hf3 (by decide) _, hst.trans (still_set hf3 hB 2 v3)⟩
  · have := hf3.set 2 v3
    rwa [zf_set2] at this
  · refine own_as (own_set_other hrr hf3 (by decide) _) (by simp) ?_
    rw [rrC_append]
    simp [rrC]

/-- the starts grown by one, stored back -/
theorem Mid.start {w w1 w3 : World} {B Bk fb mb : Nat} {ov rv sv e f g h : Value} {sn : Int} {kv : Value} {k : List UInt8} {R : List (List UInt8 × Nat)} {D : DataW Unit} {N : List Nd} {o : Obj} {v3 : Value} {ts : List Nat}
    (M : Mid w w1 B Bk fb mb ov rv sv e f g h sn kv k R (N.length + 1) D N) (hB : B ≤ fb) (hmB : B ≤ mb) (hR : R = rs (N ++ [(k, ts)])) (hag : Agree D (keys N ++ [k])) (hss : w3.ownsRow B 81 1 v3 (N.length + 1 + 1) (stC N ++ [.int .u32 (R.length : Int)])) (hg : (w1.alloc o).drew.grownBy w3 sv.ownBlock) :
    (w3.setCell ⟨fb, 3, none⟩ v3).rowIs fb 35 9 (zf ov (.map (some mb)) rv v3 e f g h sn) ∧ ZAt (w3.setCell ⟨fb, 3, none⟩ v3) B mb rv v3 (N ++ [(k, ts)]) ∧ Still B w (w3.setCell ⟨fb, 3, none⟩ v3) := by
  have hBw : B ≤ w1.heap.size := Nat.le_trans hB (Nat.le_of_lt M.fr.lt)
  have hr0 : (w1.alloc o).drew.ownsRow B 81 1 sv (N.length + 1) (stC N) := M.ss.alloc o
  have hf3 := row_tag (w := (w1.alloc o).drew) (M.fr.alloc o) hr0 (by decide) hg
  have hst : Still B w w3 := ((M.st.trans (still_alloc hBw o)).trans (still_drew _ _)).trans (still_own hr0 (.inr rfl) hg (by simp; omega))
  refine ⟨?_, ⟨⟨D, ?_, by rw [keys_append]; exact hag⟩, hmB, ?_, ?_⟩, hst.trans (still_set hf3 hB 3 v3)⟩
  · have := hf3.set 3 v3
    rwa [zf_set3] at this
  · rw [List.length_append, List.length_singleton]
    exact map_set (map_tag (w := (w1.alloc o).drew) (M.mp.alloc o) hr0 hg) hf3 _
  · rw [← hR]
    exact own_set_other (own_tag (w := (w1.alloc o).drew) (M.rr.alloc o) hr0 (by decide) hg) hf3 (by decide) _
  · refine own_as (own_set_other hss hf3 (by decide) _) (by simp) ?_
    rw [stC_snoc, hR]

theorem src_st (w : World) (n : Nat) : Src Try.prog 1 32 (.slice (some ⟨w.heap.size, 0, none⟩) 1 1) 1 [.int .u32 (n : Int)] (w.alloc (.cells #[.int .u32 (n : Int)] 81)).drew := by
  refine Src.ofSlice _ Try.underlying32 _ _ _ _ rfl (fun j u hu => ?_) (fun u hu => ?_)
  · rw [Addr.add_lit]
    simp [go_sem, hu]
  · simp only [List.mem_cons, List.not_mem_nil, or_false] at hu
    subst hu
    rfl

/-- what 'add' answers and leaves -/
def AddPost (w : World) (B fb mb : Nat) (ov e f g h : Value) (sn : Int) (N : List Nd) (p : Nd) (w' : World) : Prop :=
  ∃ rv' sv', w'.rowIs fb 35 9 (zf ov (.map (some mb)) rv' sv' e f g h sn) ∧ ZAt w' B mb rv' sv' (N ++ [p]) ∧ Still B w w'
def MidPost (w : World) (B Bk fb mb : Nat) (ov sv e f g h : Value) (sn : Int) (kv : Value) (k : List UInt8) (R : List (List UInt8 × Nat)) (n : Nat) (D : DataW Unit) (N : List Nd) (wx : World) : Prop :=
  ∃ ra rc, Mid w wx B Bk fb mb ov (.slice ra R.length rc) sv e f g h sn kv k R n D N

theorem MidPost.mk {w wx : World} {B Bk fb mb : Nat} {ov sv e f g h : Value} {sn : Int} {kv : Value} {k : List UInt8} {R : List (List UInt8 × Nat)} {n : Nat} {D : DataW Unit} {N : List Nd} {ra : Option Addr} {m rc : Nat}
    (M : Mid w wx B Bk fb mb ov (.slice ra m rc) sv e f g h sn kv k R n D N) (hm : m = R.length) : MidPost w B Bk fb mb ov sv e f g h sn kv k R n D N wx := by
  subst hm
  exact ⟨ra, rc, M⟩
theorem AddPost.mk {w w' : World} {B fb mb : Nat} {ov rv sv e f g h : Value} {sn : Int} {N : List Nd} {p p' : Nd} (hp : p' = p)
    (h3 : w'.rowIs fb 35 9 (zf ov (.map (some mb)) rv sv e f g h sn) ∧ ZAt w' B mb rv sv (N ++ [p]) ∧ Still B w w') : AddPost w B fb mb ov e f g h sn N p' w' := by
  subst hp
  exact ⟨rv, sv, h3⟩

set_option maxRecDepth 20000 in
set_option maxHeartbeats 2000000 in
theorem add_any (fb mb B Bk : Nat) (ov rv sv e f g h : Value) (sn : Int) (N : List Nd) (kv : Value) (k : List UInt8) (t1 t2 : Nat) (w : World)
    (hf : w.rowIs fb 35 9 (zf ov (.map (some mb)) rv sv e f g h sn)) (hz : ZAt w B mb rv sv N) (hk : w.ownsRow Bk 5 1 kv k.length (bc k)) (hnew : k ∉ keys N) (hB : B ≤ fb)
    (hN : N.length ≤ 100) (hR : (rs N).length ≤ 200) (hkl : k.length ≤ 100) (ht2 : t2 < 65536) :
    Calls Try.prog 46 #[.pointer (some ⟨fb, 0, none⟩), kv, .int .u16 (t1 : Int), .int .u16 (t2 : Int)] w fun r w' => r = .returned (.int .i64 (N.length : Int)) ∧ AddPost w B fb mb ov e f g h sn N (k, if t2 = 0 then [t1] else [t1, t2]) w' := by
  obtain ⟨⟨D, hD, hag⟩, hmB, hrr, hss⟩ := hz
  obtain ⟨ra, rc, rfl⟩ := own_shape hrr
  obtain ⟨sa, sc, rfl⟩ := own_shape hss
  have c1 := hf.cell (i := 1) (by decide)
  have c3 := hf.cell (i := 3) (by decide)
  simp only [zf] at c1 c3
  have hNm : N.length < maxLen := by unfold maxLen; omega
  have hN1 : N.length ≤ 1000 := by omega
  have hks : (⟨k.toArray⟩ : ByteArray).size ≤ maxLen := by
    have : (⟨k.toArray⟩ : ByteArray).size = k.length := by simp [ByteArray.size]
    rw [this]; unfold maxLen; omega
  have hDd := hD.drew
  have hcv0 := conv_at hk
  have hcv1 := conv_at (w := w.drew) hk
  obtain ⟨w1, hrun, hD1, hg1⟩ := put_run hDd hNm ⟨k.toArray⟩ N.length hks hN1
  have hBw : B ≤ w.heap.size := Nat.le_trans hB (Nat.le_of_lt hf.lt)
  have hag1 := agree_put hag hD.isMap hnew
  have hkl1 : (keys N).length = N.length := by simp [keys]
  rw [hkl1] at hag1
  have M1 : Mid w w1 B Bk fb mb ov (.slice ra (rs N).length rc) (.slice sa (N.length + 1) sc) e f g h sn kv k (rs N) (N.length + 1) (D.put (.string k) (.lit (.int .i64 (N.length : Int)))) N :=
    ⟨row_map (w := w.drew) hf hDd hg1, hD1, own_map (w := w.drew) hrr hDd hg1, own_map (w := w.drew) hss hDd hg1, own_map (w := w.drew) hk hDd hg1, (still_drew B w).trans (still_map (w := w.drew) hDd hg1 hmB hBw)⟩
  obtain ⟨D', hD'⟩ : ∃ D', D' = D.put (.string k) (.lit (.int .i64 (N.length : Int))) := ⟨_, rfl⟩
  rw [← hD'] at M1 hag1
  have HAG : Hid (Agree D' (keys N ++ [k])) := hag1
  have hcw1 := conv_at M1.kk
  have d1 := M1.fr.cell (i := 1) (by decide)
  have d2 := M1.fr.cell (i := 2) (by decide)
  have d3 := M1.fr.cell (i := 3) (by decide)
  simp only [zf] at d1 d2 d3
  clear hf hk hrr hss hD hDd hg1 hag hag1 hkl1 hD1 hD'
  have hqr : IntKind.u32.wrap (((rs N).length : Nat) : Int) = ((rs N).length : Int) := by rw [IntKind.wrap_u32]; omega
  go_enter Try.func46, Try.ntmps46
  go_wp2
  go_region_held3 (fun w' => w'.cell? ⟨fb, 1, none⟩ = some (.map (some mb)) ∧ (convert 29 39 kv).run Try.prog w' = .ok (.string ⟨k.toArray⟩) w') (simp [go_sem, *]) (fail)
  clear hcv0 hcv1 c1 c3 hrun
  have hcw2 := conv_at (w := w1.drew) M1.kk
  have hfl := M1.fr.lt
  have hrrd : ((w1.alloc (.cells #[.string ⟨k.toArray⟩, .int .u16 (t1 : Int), .int .u16 0, .int .u32 ((rs N).length : Int), .slice none 0 0] 88)).drew).ownsRow B 88 5 (.slice ra (rs N).length rc) (rs N).length (rrC 0 (rs N)) := M1.rr.alloc _
  have hsr := src_rr w1 k t1 (rs N).length
  have hBw1 : B ≤ w1.heap.size := Nat.le_trans hBw M1.st.below.size
  have n35 : (35 : Nat) ≠ 88 := by decide
  go_upto_region 4 with fail
  go_cut [] from 30 to 43 (fun wx => MidPost w B Bk fb mb ov (.slice sa (N.length + 1) sc) e f g h sn kv k (rs N ++ [(k, t1)]) (N.length + 1) D' N wx)
  case first =>
    go_region_law (refine step_append (by rfl) (.tmp 34) (.tmp 40) 31 31 (by rfl) B 88 _ 5 48 Try.underlying31 Try.info88 (by rfl) (.slice ra (rs N).length rc) (rs N).length (rrC 0 (rs N)) (by rfl) (by exact hrrd) (.slice (some ⟨w1.heap.size, 0, none⟩) 1 1) 1 (rrc (rs N).length (k, t1)) (by rfl) (by exact hsr) (by decide) (by omega) (by omega) (by simp; omega) ?_; intro v3 w3 hrr3 hg3 _; obtain ⟨va, vc, rfl⟩ := own_shape hrr3; have hf3 := row_tag (w := (w1.alloc (.cells #[.string ⟨k.toArray⟩, .int .u16 (t1 : Int), .int .u16 0, .int .u32 ((rs N).length : Int), .slice none 0 0] 88)).drew) (M1.fr.alloc _) hrrd n35 hg3; have c32 : w3.cell? ⟨fb, 2, none⟩ = some (.slice ra (rs N).length rc) := hf3.cell (i := 2) (by decide); have f32 := hf3.frozen 2)
    all_goals (go_wp2_with fail; go_meet; exact MidPost.mk (M1.record hB hrr3 hg3) (by simp))
  case rest =>
    obtain ⟨R2, hR2⟩ : ∃ R2, R2 = rs N ++ [(k, t1)] := ⟨_, rfl⟩
    rw [← hR2] at hcut
    obtain ⟨ra2, rc2, M2⟩ := hcut
    have hL2 : R2.length = (rs N).length + 1 := by rw [hR2]; simp
    have HR2 : Hid (R2 = rs N ++ [(k, t1)]) := hR2
    have HL2 : Hid (R2.length = (rs N).length + 1) := hL2
    have n31 : (35 : Nat) ≠ 81 := by decide
    have hBc : B ≤ wc.heap.size := Nat.le_trans hBw M2.st.below.size
    have hflc := M2.fr.lt
    have e2 := M2.fr.cell (i := 2) (by decide)
    have e3 := M2.fr.cell (i := 3) (by decide)
    simp only [zf] at e2 e3
    clear hcw1 hcw2 d1 d2 d3 hrrd hsr hfl hR2 M1
    by_cases h2 : t2 = 0
    · subst h2
      have hq2 : IntKind.u32.wrap ((R2.length : Nat) : Int) = (R2.length : Int) := by rw [IntKind.wrap_u32]; omega
      have hssd : ((wc.alloc (.cells #[.int .u32 (R2.length : Int)] 81)).drew).ownsRow B 81 1 (.slice sa (N.length + 1) sc) (N.length + 1) (stC N) := M2.ss.alloc _
      have hsst := src_st wc R2.length
      clear hL2
      go_wp2
      go_region_law (refine step_append (by rfl) (.tmp 65) (.tmp 72) 32 32 (by rfl) B 81 _ 1 4 Try.underlying32 Try.info81 (by rfl) (.slice sa (N.length + 1) sc) (N.length + 1) (stC N) (by rfl) (by exact hssd) (.slice (some ⟨wc.heap.size, 0, none⟩) 1 1) 1 [.int .u32 (R2.length : Int)] (by rfl) (by exact hsst) (by decide) (by omega) (by omega) (by simp; omega) ?_; intro v4 w4 hss4 hg4 _; obtain ⟨va, vc, rfl⟩ := own_shape hss4; have hf4 := row_tag (w := (wc.alloc (.cells #[.int .u32 (R2.length : Int)] 81)).drew) (M2.fr.alloc _) hssd n31 hg4; have c43 : w4.cell? ⟨fb, 3, none⟩ = some (.slice sa (N.length + 1) sc) := hf4.cell (i := 3) (by decide); have f43 := hf4.frozen 3)
      all_goals
        go_wp2
        go_ret
        exact ⟨rfl, AddPost.mk (p := (k, [t1])) (by simp) (M2.start (ts := [t1]) hB hmB (by rw [HR2.out, rs_append]; rfl) HAG.out hss4 hg4)⟩
    · have hq2 : IntKind.u32.wrap (((rs N).length : Int) + 1) = (R2.length : Int) := by rw [IntKind.wrap_u32]; omega
      have h2' : ¬ (t2 : Int) = 0 := by omega
      have hcw2 := conv_at M2.kk
      have hcw3 := conv_at (w := wc.drew) M2.kk
      have hrrd : ((wc.alloc (.cells #[.string ⟨k.toArray⟩, .int .u16 (t2 : Int), .int .u16 0, .int .u32 (R2.length : Int), .slice none 0 0] 88)).drew).ownsRow B 88 5 (.slice ra2 R2.length rc2) R2.length (rrC 0 R2) := M2.rr.alloc _
      have hsr := src_rr wc k t2 R2.length
      clear hL2
      obtain ⟨wd, rfl⟩ : ∃ wd, wd = wc := ⟨_, rfl⟩
      go_upto_region 6 with fail
      go_cut [] from 44 to 60 (fun wx => MidPost w B Bk fb mb ov (.slice sa (N.length + 1) sc) e f g h sn kv k (R2 ++ [(k, t2)]) (N.length + 1) D' N wx)
      case first =>
        go_region_law (refine step_append (by rfl) (.tmp 50) (.tmp 57) 31 31 (by rfl) B 88 _ 5 48 Try.underlying31 Try.info88 (by rfl) (.slice ra2 R2.length rc2) R2.length (rrC 0 R2) (by rfl) (by exact hrrd) (.slice (some ⟨wd.heap.size, 0, none⟩) 1 1) 1 (rrc R2.length (k, t2)) (by rfl) (by exact hsr) (by decide) (by have := HL2.out; omega) (by have := HL2.out; omega) (by simp; omega) ?_; intro v3 w3 hrr3 hg3 _; obtain ⟨va, vc, rfl⟩ := own_shape hrr3; have hf3 := row_tag (w := (wd.alloc (.cells #[.string ⟨k.toArray⟩, .int .u16 (t2 : Int), .int .u16 0, .int .u32 (R2.length : Int), .slice none 0 0] 88)).drew) (M2.fr.alloc _) hrrd n35 hg3; have c32 : w3.cell? ⟨fb, 2, none⟩ = some (.slice ra2 R2.length rc2) := hf3.cell (i := 2) (by decide); have f32 := hf3.frozen 2)
        all_goals (go_wp2_with fail; go_meet; exact MidPost.mk (M2.record hB hrr3 hg3) (by simp))
      case rest =>
        obtain ⟨R3, hR3⟩ : ∃ R3, R3 = R2 ++ [(k, t2)] := ⟨_, rfl⟩
        rw [← hR3] at hcut
        obtain ⟨ra3, rc3, M3⟩ := hcut
        have hL3 : R3.length = (rs N).length + 2 := by rw [hR3, List.length_append, HL2.out]; rfl
        have HR3 : Hid (R3 = R2 ++ [(k, t2)]) := hR3
        obtain ⟨we, rfl⟩ : ∃ we, we = wc := ⟨_, rfl⟩
        have hBe : B ≤ we.heap.size := Nat.le_trans hBw M3.st.below.size
        have hfle := M3.fr.lt
        have g2 := M3.fr.cell (i := 2) (by decide)
        have g3 := M3.fr.cell (i := 3) (by decide)
        simp only [zf] at g2 g3
        have hq3 : IntKind.u32.wrap ((R3.length : Nat) : Int) = (R3.length : Int) := by rw [IntKind.wrap_u32]; omega
        have hssd : ((we.alloc (.cells #[.int .u32 (R3.length : Int)] 81)).drew).ownsRow B 81 1 (.slice sa (N.length + 1) sc) (N.length + 1) (stC N) := M3.ss.alloc _
        have hsst := src_st we R3.length
        clear hL3 hR3 hcw2 hcw3 hrrd hsr e2 e3 hflc M2 hq2
        go_wp2
        go_region_law (refine step_append (by rfl) (.tmp 65) (.tmp 72) 32 32 (by rfl) B 81 _ 1 4 Try.underlying32 Try.info81 (by rfl) (.slice sa (N.length + 1) sc) (N.length + 1) (stC N) (by rfl) (by exact hssd) (.slice (some ⟨we.heap.size, 0, none⟩) 1 1) 1 [.int .u32 (R3.length : Int)] (by rfl) (by exact hsst) (by decide) (by omega) (by omega) (by simp; omega) ?_; intro v4 w4 hss4 hg4 _; obtain ⟨va, vc, rfl⟩ := own_shape hss4; have hf4 := row_tag (w := (we.alloc (.cells #[.int .u32 (R3.length : Int)] 81)).drew) (M3.fr.alloc _) hssd n31 hg4; have c43 : w4.cell? ⟨fb, 3, none⟩ = some (.slice sa (N.length + 1) sc) := hf4.cell (i := 3) (by decide); have f43 := hf4.frozen 3)
        all_goals
          go_wp2
          go_ret
          exact ⟨rfl, AddPost.mk (p := (k, [t1, t2])) (by simp) (M3.start (ts := [t1, t2]) hB hmB (by rw [HR3.out, HR2.out, rs_append]; simp [rs]) HAG.out hss4 hg4)⟩
end Go.Proofs.Qxb6003450a
