import Derived.Test.Qxb6003450aLaw3
import Derived.Test.Qxb6003450aProg
import Derived.Test.Qxb6003450aChecked
import Derived.Test.Qxb6003450aRows
import Derived.Deep.Slices
import Derived.ProofKit
import Derived.OpenShut
import Derived.ChangeOld
import Derived.Below
namespace Go.Proofs.Qxb6003450a
open Go.ChangeShapes Go.WideShapes Go.ChangeAt Go.RowKit Go.Deep

theorem own : ownKnob Try.prog.godebug = none := by kernel_rfl
theorem laidOut : laidOutB Try.prog = true := by kernel_rfl
theorem Try.cells4 : Try.prog.cellsOf 4 = 1 := by kernel_rfl
theorem Try.cells9 : Try.prog.cellsOf 9 = 1 := by kernel_rfl

/-- a slice of strings opened -/
theorem open_texts {H : Type} {enc : TypeId × Value → H} {W : World} {base : Nat} {a : Option Addr} {len cap : Nat} {dd : DataW H} {p : List MemPlace} (h : DataW.Trod enc Try.prog W base (fun _ => true) true 22 (.slice a len cap) dd p) :
    ∃ T : Nat → ByteArray, ThingsAt W a len (fun i => .string (T i)) ∧ len ≤ 9223372036854775807 ∧ ∀ i, i < len → (T i).size ≤ 9223372036854775807 := by
  obtain ⟨fuel, hf⟩ := h
  rcases open_slice1 Try.underlying22 Try.cells9 hf with ⟨hcs, _⟩ | ⟨x, l, c, m, n, V, D, Pl, hcs, _, hl, hm, hmm, _, hcell⟩
  · simp [Value.cells] at hcs
    obtain ⟨rfl, rfl, rfl⟩ := hcs
    exact ⟨fun _ => ⟨#[]⟩, ⟨fun _ => rfl, .inl rfl⟩, by omega, fun i hi => by omega⟩
  · simp [Value.cells] at hcs
    obtain ⟨rfl, rfl, rfl⟩ := hcs
    have hml : m = cap := by simpa using hmm
    obtain ⟨T, hT⟩ := choose_lt (α := ByteArray) (n := m) (p := fun i b => V i = .string b ∧ b.size ≤ maxLen) (fun i hi => by
      obtain ⟨b, h1, _, h3⟩ := DataW.trod_string Try.underlying9 (hcell i hi).2
      exact ⟨b, by simpa using h1, h3⟩)
    unfold maxLen at hm hT
    refine ⟨T, ⟨(fun h => by cases h), ?_⟩, by omega, fun i hi => by have := (hT i (by omega)).2; omega⟩
    by_cases hz : len = 0
    · exact .inl hz
    · obtain ⟨b, off, spot⟩ := x
      have hc := (hcell 0 (by omega)).1
      have hspot : spot = none := by simpa [Addr.add] using World.cell?_spot hc
      subst hspot
      have hblt := World.block_lt_of_cell? W _ hc
      refine .inr ⟨b, off, rfl, by simpa [Addr.add] using hblt, fun i h => ?_⟩
      have := (hcell i (by omega)).1
      rw [add_plain, (hT i (by omega)).1] at this
      exact this
/-- a slice of bools opened -/
theorem open_flags {H : Type} {enc : TypeId × Value → H} {W : World} {base : Nat} {a : Option Addr} {len cap : Nat} {dd : DataW H} {p : List MemPlace} (h : DataW.Trod enc Try.prog W base (fun _ => true) true 23 (.slice a len cap) dd p) :
    ∃ T : Nat → Bool, ThingsAt W a len (fun i => .bool (T i)) ∧ len ≤ 9223372036854775807 := by
  obtain ⟨fuel, hf⟩ := h
  rcases open_slice1 Try.underlying23 Try.cells4 hf with ⟨hcs, _⟩ | ⟨x, l, c, m, n, V, D, Pl, hcs, _, hl, hm, hmm, _, hcell⟩
  · simp [Value.cells] at hcs
    obtain ⟨rfl, rfl, rfl⟩ := hcs
    exact ⟨fun _ => false, ⟨fun _ => rfl, .inl rfl⟩, by omega⟩
  · simp [Value.cells] at hcs
    obtain ⟨rfl, rfl, rfl⟩ := hcs
    unfold maxLen at hm
    have hml : m = cap := by simpa using hmm
    obtain ⟨T, hT⟩ := choose_lt (α := Bool) (n := m) (p := fun i b => V i = .bool b) (fun i hi => by
      obtain ⟨b, h1, _⟩ := DataW.trod_bool Try.underlying4 (hcell i hi).2
      exact ⟨b, by simpa using h1⟩)
    refine ⟨T, ⟨(fun h => by cases h), ?_⟩, by omega⟩
    by_cases hz : len = 0
    · exact .inl hz
    · obtain ⟨b, off, spot⟩ := x
      have hc := (hcell 0 (by omega)).1
      have hspot : spot = none := by simpa [Addr.add] using World.cell?_spot hc
      subst hspot
      have hblt := World.block_lt_of_cell? W _ hc
      refine .inr ⟨b, off, rfl, by simpa [Addr.add] using hblt, fun i h => ?_⟩
      have := (hcell i (by omega)).1
      rw [add_plain, hT i (by omega)] at this
      exact this

set_option maxRecDepth 100000 in
theorem lifted3 (os : Os) (started : os.Started) (H : Type) (enc : TypeId × Value → H) :
    ReturnsInHanded {} Try.checked os 3 .any (Rows.fnFindAgreesWithModelSpec.pre6 enc Try.prog Try.f3 Rows.fnFindAgreesWithModelRow.domain false) (Rows.fnFindAgreesWithModelSpec.post enc Try.prog Try.f3 false true false false) := by
  refine returnsInHanded_of_change (C := Try.checked) own started (by kernel_rfl) Try.func3
    (ChangeSpec.witness6 (enc := enc) (C := Try.checked) false ⟨#[], #[.string ⟨#[]⟩, .slice none 0 0, .slice none 0 0, .slice none 0 0, .bool false, .string ⟨#[]⟩, .string ⟨#[]⟩, .int .u8 0, .int .u64 0], []⟩ 8 (by kernel_rfl) (by kernel_rfl) (by kernel_rfl) (by kernel_rfl)) ?_
  intro W base args ds gs before hval0 hW hcnd _
  have hval : ∀ (j : Nat) t v, Try.f3.params[j]? = some t → args[j]? = some v → Value.okWide Try.prog W .any base t v := hval0
  have hW' := hW
  obtain ⟨p, q, hA0, hV, rfl, hfz, hnd⟩ := hW
  have hA : DataW.TrodAll enc Try.prog W 0 (fun _ => true) true Try.f3.params.toList args.toList ds p := hA0
  rw [Try.params3] at hA hval
  obtain ⟨v0, vs0, d0, ds0, p0, q0, hargs, rfl, rfl, h0, r0⟩ := trodAll_cons hA
  obtain ⟨v1, vs1, d1, ds1, p1, q1, rfl, rfl, rfl, h1, r1⟩ := trodAll_cons r0
  obtain ⟨v2, vs2, d2, ds2, p2, q2, rfl, rfl, rfl, h2, r2⟩ := trodAll_cons r1
  obtain ⟨v3, vs3, d3, ds3, p3, q3, rfl, rfl, rfl, h3, r3⟩ := trodAll_cons r2
  obtain ⟨v4, vs4, d4, ds4, p4, q4, rfl, rfl, rfl, h4, r4⟩ := trodAll_cons r3
  obtain ⟨v5, vs5, d5, ds5, p5, q5, rfl, rfl, rfl, h5, r5⟩ := trodAll_cons r4
  obtain ⟨v6, vs6, d6, ds6, p6, q6, rfl, rfl, rfl, h6, r6⟩ := trodAll_cons r5
  obtain ⟨v7, vs7, d7, ds7, p7, q7, rfl, rfl, rfl, h7, r7⟩ := trodAll_cons r6
  obtain ⟨v8, vs8, d8, ds8, p8, q8, rfl, rfl, rfl, h8, r8⟩ := trodAll_cons r7
  obtain ⟨rfl, rfl, rfl⟩ := trodAll_nil r8
  obtain rfl : args = #[v0, v1, v2, v3, v4, v5, v6, v7, v8] := by cases args; simp_all
  obtain ⟨rfl, rfl⟩ := trodVars_none hV
  obtain ⟨o, rfl, rfl, rfl, z0⟩ := ChangeMaps.open_string Try.underlying9 (hval 0 9 v0 rfl rfl) h0
  obtain ⟨a1, len1, cap1, rfl⟩ := okWide_slice Try.underlying22 (hval 1 22 v1 rfl rfl)
  obtain ⟨a2, len2, cap2, rfl⟩ := okWide_slice Try.underlying23 (hval 2 23 v2 rfl rfl)
  obtain ⟨a3, len3, cap3, rfl⟩ := okWide_slice Try.underlying22 (hval 3 22 v3 rfl rfl)
  obtain ⟨star, rfl, rfl, rfl⟩ := open_bool Try.underlying4 (hval 4 4 v4 rfl rfl) h4
  obtain ⟨s1, rfl, rfl, rfl, z5⟩ := ChangeMaps.open_string Try.underlying9 (hval 5 9 v5 rfl rfl) h5
  obtain ⟨s2, rfl, rfl, rfl, z6⟩ := ChangeMaps.open_string Try.underlying9 (hval 6 9 v6 rfl rfl) h6
  obtain ⟨n7, rfl, rfl, rfl, z7⟩ := open_int Try.underlying5 (hval 7 5 v7 rfl rfl) h7
  obtain ⟨n8, rfl, rfl, rfl, z8⟩ := open_int Try.underlying24 (hval 8 24 v8 rfl rfl) h8
  have k1 := h1
  have lt1 : ∀ x ∈ p1, x.block < W.heap.size := by obtain ⟨m, hm⟩ := k1; exact DataW.trod_lt m _ _ _ hm
  have k2 := h2
  have lt2 : ∀ x ∈ p2, x.block < W.heap.size := by obtain ⟨m, hm⟩ := k2; exact DataW.trod_lt m _ _ _ hm
  have k3 := h3
  have lt3 : ∀ x ∈ p3, x.block < W.heap.size := by obtain ⟨m, hm⟩ := k3; exact DataW.trod_lt m _ _ _ hm
  obtain ⟨T, hT, hTl, hTs⟩ := open_texts h1
  obtain ⟨S, hS, hSl⟩ := open_flags h2
  obtain ⟨G, hG, hGl, hGs⟩ := open_texts h3
  have b7 := bounds_u8 z7
  have b8 := bounds_u64 z8
  obtain ⟨d, rfl⟩ : ∃ d : Nat, n7 = (d : Int) := ⟨n7.toNat, by omega⟩
  obtain ⟨f, rfl⟩ : ∃ f : Nat, n8 = (f : Int) := ⟨n8.toNat, by omega⟩
  have y0 : o.size ≤ 9223372036854775807 := by unfold maxLen at z0; omega
  have y5 : s1.size ≤ 9223372036854775807 := by unfold maxLen at z5; omega
  have y6 : s2.size ≤ 9223372036854775807 := by unfold maxLen at z6; omega
  clear hA0 hval0
  refine (law_any o s1 s2 a1 a2 a3 len1 cap1 len2 cap2 len3 cap3 T G S star d f W hT hS hG y0 y5 y6 hTl hSl hGl hTs hGs (by omega)).mono fun e W' ⟨he, bel⟩ => ?_
  subst he
  exact ⟨_, rfl, _, _, _, [], _, [], hW', trodAll_mk1 (shut_bool Try.underlying4 _), (trodAll_cons_mk (ChangeMaps.shut_string Try.underlying9 z0) (trodAll_cons_mk (Below.trod laidOut (by kernel_rfl) (of_decide_eq_true (by kernel_rfl)) k1 bel lt1) (trodAll_cons_mk (Below.trod laidOut (by kernel_rfl) (of_decide_eq_true (by kernel_rfl)) k2 bel lt2) (trodAll_cons_mk (Below.trod laidOut (by kernel_rfl) (of_decide_eq_true (by kernel_rfl)) k3 bel lt3) (trodAll_cons_mk (shut_bool Try.underlying4 _) (trodAll_cons_mk (ChangeMaps.shut_string Try.underlying9 z5) (trodAll_cons_mk (ChangeMaps.shut_string Try.underlying9 z6) (trodAll_cons_mk (shut_int Try.underlying5 z7) (trodAll_cons_mk (shut_int Try.underlying24 z8) trodAll_mk0))))))))), rfl, bel.frame _, fun h => by cases h⟩

theorem over3 : Rows.fnFindAgreesWithModelRow.holds Try.pinned (OpenSpec.ofChange Rows.fnFindAgreesWithModelSpec) :=
  OpenClaim.holds_of_wide 3 Try.f3 rfl rfl rfl rfl rfl rfl rfl ⟨rfl, rfl, rfl, rfl, rfl⟩ rfl rfl rfl rfl rfl (by kernel_rfl) Try.func3 (by kernel_rfl)
    (of_decide_eq_true (by kernel_rfl)) (by unfold Func.isWrapper; first | (rw [if_pos (by decide +kernel)]; kernel_rfl) | (rw [if_neg (by decide +kernel)]; exact ⟨rfl, rfl⟩))
    (fun os started H enc _ => lifted3 os started H enc)

theorem findAgrees_proved : Rows.FnFindAgreesWithModelSaid := over3
end Go.Proofs.Qxb6003450a
