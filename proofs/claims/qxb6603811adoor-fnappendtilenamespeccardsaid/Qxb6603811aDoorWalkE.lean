import Derived.Test.Qxb6603811aDoorWalkD
namespace Go.Proofs.Qxb6603811aDoor
open Go.RowKit
open Go.Lib (decDigits itoa)

set_option maxHeartbeats 1000000 in
theorem sdig_any (v : Int) (w : World) (h0 : -9223372036854775808 ≤ v) (h1 : v ≤ 9223372036854775807) :
    Calls Tryd.prog 11 #[.int .i64 v] w fun e w' => ∃ v', e = .returned v' ∧ w'.ownsRow w.heap.size 5 1 v' (itoa v).length (Lib.byteCells (itoa v)) ∧ Below w.heap.size w w' := by
  by_cases hneg : v < 0
  · obtain ⟨u, rfl⟩ : ∃ u : Nat, v = -(u : Int) := ⟨v.natAbs, by omega⟩
    have hwr : IntKind.u64.wrap (-IntKind.u64.wrap (-(u : Int))) = (u : Int) := by rw [IntKind.wrap_u64, IntKind.wrap_u64]; omega
    have hg : ¬ (0 : Int) ≤ -(u : Int) := by omega
    have hdl := dec_len u (by omega)
    have hdp := Lib.nDigits_pos u
    rw [← Lib.decDigits_length] at hdp
    rw [Lib.itoa_neg u (by omega)]
    go_enter Tryd.func11, Tryd.ntmps11
    go_wp2_with fail
    refine (dig_any u _ (by omega)).mono ?_
    rintro e w1 ⟨v1, rfl, ho, hb⟩
    obtain ⟨l, hl⟩ : ∃ l, l = decDigits u := ⟨_, rfl⟩
    rw [← hl] at ho hdl hdp
    have HL : Hid (l = decDigits u) := hl
    clear hl
    obtain ⟨g, cap, hv, hBg, hglt, _⟩ := owned_cell ho hdp
    obtain ⟨n, hn⟩ : ∃ n, n = l.length := ⟨_, rfl⟩
    rw [← hn] at ho hdl hdp hv
    have HN : Hid (n = l.length) := hn
    clear hn
    subst hv
    have hmk := make_room ((n : Int) + 1) (n + 1) (by omega) (by omega)
    have hsz := hb.size
    have hro := owns_room w1 (n + 1) (by omega)
    have hb1 : Below w1.heap.size w1 (w1.alloc (.cells (madeCells #[.int .u8 0] (n + 1)) 5)) := (Below.refl _ _).alloc (Nat.le_refl _) _
    go_wp2_with (at_builtin; refine append_bytes _ rfl (.tmp 18) (.tmp 19) 22 rfl w1.heap.size _ _ rfl (rowOf.owned (hro.alloc _)) _ 1 _ rfl (src_new_at (w1.alloc (.cells (madeCells #[.int .u8 0] (n + 1)) 5)) (w1.heap.size + 1) (by simp) [.int .u8 45] (by simp [Value.oneCell'])) (by decide) (by simp) (by simp; omega) ?_)
    intro v2 w2 hown2 hb2 _
    have hb2' : Below w1.heap.size w1 w2 := ((hb1.alloc (by simp) _)).trans hb2
    have ho2 := owned_kept ho (w' := w2) (fun k hk => hb2'.block k (by cases hk; exact hglt))
    have hs2 := hb2'.size
    clear hro hmk hb1 hb2
    go_wp2_with (at_builtin; refine append_bytes _ rfl (.tmp 21) (.tmp 22) 22 rfl w1.heap.size _ _ rfl (rowOf.owned hown2) _ n _ rfl (src_owned ho2) hdp (by simp; omega) (by omega) ?_)
    intro v3 w3 hown3 hb3 _
    clear ho2 hown2
    go_wp2
    go_ret
    refine ⟨v3, rfl, ?_, hb.trans ((hb2'.trans hb3).mono hsz)⟩
    have h3 := ownsRow_mono (own_as hown3 (ys := Lib.byteCells (45 :: decDigits u)) (by rw [← HL.out]; rfl)) hsz
    rw [bc_length] at h3
    exact h3
  · obtain ⟨u, rfl⟩ : ∃ u : Nat, v = u := ⟨v.toNat, by omega⟩
    have hwr : IntKind.u64.wrap (u : Int) = (u : Int) := by rw [IntKind.wrap_u64]; omega
    rw [Lib.itoa_nonneg]
    go_enter Tryd.func11, Tryd.ntmps11
    go_wp2_with fail
    refine (dig_any u _ (by omega)).mono ?_
    rintro e w' ⟨v', rfl, ho, hb⟩
    go_wp2
    go_ret
    exact ⟨v', rfl, ho, hb⟩

end Go.Proofs.Qxb6603811aDoor
