import Derived.Test.Qxb6603811aWalkC
import Derived.ProofKit
import Derived.OpenShut
import Derived.ShutString
import Derived.ChangeOld
import Derived.Below
import Derived.Deep.SlicePairs
namespace Go.Proofs.Qxb6603811a
open Go.ChangeShapes Go.WideShapes Go.ChangeAt Go.RowKit Go.Deep
open Go.ChangeMaps (open_string shut_string)

theorem own : ownKnob Try.prog.godebug = none := by kernel_rfl
theorem laidOut : laidOutB Try.prog = true := by kernel_rfl
theorem Try.cells31 : Try.prog.cellsOf 31 = 2 := by kernel_rfl
theorem Try.cells9 : Try.prog.cellsOf 9 = 1 := by kernel_rfl

theorem lt_of_cell {w : World} {a : Addr} {v : Value} (h : w.cell? a = some v) : a.block < w.heap.size := by
  rcases Nat.lt_or_ge a.block w.heap.size with h' | h'
  · exact h'
  · simp [World.cell?, h'] at h

set_option maxRecDepth 100000 in
theorem lifted (os : Os) (started : os.Started) (H : Type) (enc : TypeId × Value → H) :
    ReturnsInHanded {} Try.checked os 3 .any (Rows.fnIndexFieldSpecSpec.pre6 enc Try.prog Try.f3 Rows.fnIndexFieldSpecRow.domain false) (Rows.fnIndexFieldSpecSpec.post enc Try.prog Try.f3 false true false false) := by
  refine returnsInHanded_of_change (C := Try.checked) own started (by kernel_rfl) Try.func3
    (ChangeSpec.witness6 (enc := enc) (C := Try.checked) false ⟨#[], #[.slice none 0 0, .string ByteArray.empty], []⟩ 8 (by kernel_rfl) (by kernel_rfl) (by kernel_rfl) (by kernel_rfl)) ?_
  intro W base args ds gs before hval0 hW hcnd _
  have hval : ∀ (j : Nat) t v, Try.f3.params[j]? = some t → args[j]? = some v → Value.okWide Try.prog W .any base t v := hval0
  have hW' := hW
  obtain ⟨p, q, hA0, hV, rfl, hfz, hnd⟩ := hW
  have hA : DataW.TrodAll enc Try.prog W 0 (fun _ => true) true Try.f3.params.toList args.toList ds p := hA0
  rw [Try.params3] at hA hval
  obtain ⟨v0, vs0, d0, ds0, p0, q0, hargs, rfl, rfl, h0, r0⟩ := trodAll_cons hA
  obtain ⟨v1, vs1, d1, ds1, p1, q1, rfl, rfl, rfl, h1, r1⟩ := trodAll_cons r0
  obtain ⟨rfl, rfl, rfl⟩ := trodAll_nil r1
  obtain rfl : args = #[v0, v1] := by cases args; simp_all
  obtain ⟨rfl, rfl⟩ := trodVars_none hV
  obtain ⟨a0, len0, cap0, rfl⟩ := okWide_slice Try.underlying22 (hval 0 22 v0 rfl rfl)
  have k0 := h0
  have lt0 : ∀ x ∈ p0, x.block < W.heap.size := by obtain ⟨m, hm⟩ := k0; exact DataW.trod_lt m _ _ _ hm
  obtain ⟨N, C, hlen, hN, hC, w0⟩ : ∃ N C : Nat → ByteArray, len0 ≤ 9223372036854775807 ∧ (∀ i, i < len0 → (N i).size ≤ 9223372036854775807) ∧ (∀ i, i < len0 → (C i).size ≤ 9223372036854775807) ∧ Pairs W a0 len0 N C := by
    obtain ⟨fuel, hf⟩ := h0
    rcases open_slice_pairs Try.underlying22 Try.underlying31 Try.cells31 rfl rfl Try.cells9 Try.cells9 hf with ⟨hcs, _⟩ | ⟨x, l, c, m, n, V0, V1, D0, D1, P0, P1, hcs, _, hl, hm, hmm, hx, hcell⟩
    · simp [Value.cells] at hcs
      obtain ⟨rfl, rfl, rfl⟩ := hcs
      exact ⟨fun _ => ByteArray.empty, fun _ => ByteArray.empty, by omega, fun i h => by omega, fun i h => by omega, .inl rfl⟩
    · simp [Value.cells] at hcs
      obtain ⟨rfl, rfl, rfl⟩ := hcs
      unfold maxLen at hm
      have hml : m = cap0 := by simpa using hmm
      subst hml
      obtain ⟨N, hN⟩ := choose_lt (α := ByteArray) (n := m) (p := fun i s => V0 i = .string s ∧ s.size ≤ 9223372036854775807) (fun i hi => by
        obtain ⟨s, h1, _, h3⟩ := DataW.trod_string Try.underlying9 (hcell i hi).2.2.1
        exact ⟨s, by simpa using h1, by simpa [maxLen] using h3⟩)
      obtain ⟨C, hC⟩ := choose_lt (α := ByteArray) (n := m) (p := fun i s => V1 i = .string s ∧ s.size ≤ 9223372036854775807) (fun i hi => by
        obtain ⟨s, h1, _, h3⟩ := DataW.trod_string Try.underlying9 (hcell i hi).2.2.2
        exact ⟨s, by simpa using h1, by simpa [maxLen] using h3⟩)
      refine ⟨N, C, by omega, fun i h => (hN i (by omega)).2, fun i h => (hC i (by omega)).2, ?_⟩
      by_cases hz : len0 = 0
      · exact .inl hz
      · obtain ⟨b, off, spot⟩ := x
        have hc := (hcell 0 (by omega)).1
        have hspot : spot = none := by simpa [Addr.add] using World.cell?_spot hc
        subst hspot
        refine .inr ⟨b, off, rfl, ?_, fun i h => ?_, fun i h => ?_⟩
        · exact lt_of_cell (a := ⟨b, off, none⟩) (by simpa [Addr.add] using hc)
        · have := (hcell i (by omega)).1
          rw [add_plain, (hN i (by omega)).1] at this
          exact this
        · have := (hcell i (by omega)).2.1
          rw [add_plain, (hC i (by omega)).1] at this
          exact this
  obtain ⟨a1, rfl, rfl, rfl, w1⟩ := open_string Try.underlying9 (hval 1 9 v1 rfl rfl) h1
  clear hA0 hval0
  refine (law_any a0 len0 cap0 N C a1 W hlen hN hC w1 w0).mono fun e W' ⟨he, bel⟩ => ?_
  subst he
  exact ⟨_, rfl, _, _, _, [], _, [], hW', trodAll_mk1 (shut_bool Try.underlying4 _), (trodAll_cons_mk (Below.trod laidOut (by kernel_rfl) (of_decide_eq_true (by kernel_rfl)) k0 bel lt0) (trodAll_cons_mk (shut_string Try.underlying9 w1) trodAll_mk0)), rfl, bel.frame _, fun h => by cases h⟩

theorem over : Rows.fnIndexFieldSpecRow.holds Try.pinned (OpenSpec.ofChange Rows.fnIndexFieldSpecSpec) :=
  OpenClaim.holds_of_wide 3 Try.f3 rfl rfl rfl rfl rfl rfl rfl ⟨rfl, rfl, rfl, rfl, rfl⟩ rfl rfl rfl rfl rfl (by kernel_rfl) Try.func3 (by kernel_rfl)
    (of_decide_eq_true (by kernel_rfl)) (by unfold Func.isWrapper; first | (rw [if_pos (by decide +kernel)]; kernel_rfl) | (rw [if_neg (by decide +kernel)]; exact ⟨rfl, rfl⟩))
    (fun os started H enc _ => lifted os started H enc)

theorem fnIndexFieldSpec_proved : Rows.FnIndexFieldSpecSaid := over
end Go.Proofs.Qxb6603811a
