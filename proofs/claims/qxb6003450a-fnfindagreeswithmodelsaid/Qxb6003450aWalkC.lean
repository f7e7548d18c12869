import Derived.Test.Qxb6003450aWalkB
namespace Go.Proofs.Qxb6003450a
open Go.RowKit

theorem own_slice {w : World} {B : Nat} {v : Value} {l : List UInt8} (h : w.ownsRow B 5 1 v l.length (bc l)) (hl : 0 < l.length) : ∃ g cap, v = .slice (some ⟨g, 0, none⟩) l.length cap ∧ B ≤ g := by
  rcases h.2 with ⟨rfl, h0⟩ | ⟨g, cap, cur, rfl, hb, _⟩
  · omega
  · exact ⟨g, cap, rfl, hb⟩

theorem own_cell {w : World} {B g cap n : Nat} {l : List UInt8} (h : w.ownsRow B 5 1 (.slice (some ⟨g, 0, none⟩) n cap) n (bc l)) (j : Nat) (hj : j < l.length) : w.cell? ⟨g, j, none⟩ = some (.int .u8 ((l.getD j 0).toNat : Int)) := by
  have := h.cells (g := g) rfl j (.int .u8 ((l.getD j 0).toNat : Int)) (by simp [bc, hj, List.getD])
  rwa [Addr.add_lit, Nat.zero_add] at this

theorem own_frozen {w : World} {B g cap n : Nat} {l : List UInt8} (h : w.ownsRow B 5 1 (.slice (some ⟨g, 0, none⟩) n cap) n (bc l)) (j : Nat) : w.frozen? ⟨g, j, none⟩ = false := h.frozenAt j

theorem own_set {w : World} {B g cap n : Nat} {l : List UInt8} (h : w.ownsRow B 5 1 (.slice (some ⟨g, 0, none⟩) n cap) n (bc l)) (j : Nat) (b : UInt8) : (w.setCell ⟨g, j, none⟩ (.int .u8 (b.toNat : Int))).ownsRow B 5 1 (.slice (some ⟨g, 0, none⟩) n cap) n (bc (l.set j b)) := by
  have hl := h.1
  rcases h.2 with ⟨h0, _⟩ | ⟨g', cap', cur, hv, hb, hg, hnc, hcm, hcs, ht⟩
  · cases h0
  · simp only [Value.slice.injEq, Option.some.injEq, Addr.mk.injEq, and_true, true_and] at hv
    obtain ⟨rfl, rfl⟩ := hv
    refine ⟨by rw [bc_length, List.length_set, ← bc_length]; exact hl, .inr ⟨g, cap, cur.setIfInBounds j (.int .u8 (b.toNat : Int)), rfl, hb, ?_, hnc, hcm, by simpa using hcs, ?_⟩⟩
    · simp [World.setCell, Array.getElem?_modify, hg]
    · have : bc (l.set j b) = (bc l).set j (.int .u8 (b.toNat : Int)) := by simp [bc, List.map_set]
      rw [this, ← ht]
      simp [List.take_set]

theorem flip_fin : ∀ n : Fin 256, (bits BinOp.xor IntKind.u8 (n.val : Int) 32 == ((UInt8.ofNat n.val ^^^ 32).toNat : Int)) = true ∧ ((65 ≤ n.val ∧ n.val ≤ 90) ∨ (97 ≤ n.val ∧ n.val ≤ 122) → low (UInt8.ofNat n.val ^^^ 32) = low (UInt8.ofNat n.val)) := of_decide_eq_true (by kernel_rfl)
theorem flip_xor (b : UInt8) : bits BinOp.xor IntKind.u8 (b.toNat : Int) 32 = ((b ^^^ 32).toNat : Int) := by
  have := (flip_fin ⟨b.toNat, b.toNat_lt⟩).1
  simpa using this
theorem flip_low (b : UInt8) (h : (65 ≤ b.toNat ∧ b.toNat ≤ 90) ∨ (97 ≤ b.toNat ∧ b.toNat ≤ 122)) : low (b ^^^ 32) = low b := by
  have := (flip_fin ⟨b.toNat, b.toNat_lt⟩).2 h
  simpa using this

theorem fold_set (l : List UInt8) (k : Nat) (b c : UInt8) (hb : l.getD k 0 = b) (hk : k < l.length) (h : low c = low b) : fold (l.set k c) = fold l := by
  have e : b = l[k] := by rw [← hb, List.getD_eq_getElem?_getD, List.getElem?_eq_getElem hk]; rfl
  apply List.ext_getElem (by simp [fold])
  intro i h1 h2
  simp only [fold, List.getElem_map, List.getElem_set]
  split
  · rename_i hi
    subst hi
    rw [h, e]
  · rfl

/-- what the loop over the letters keeps -/
def QK (B : Nat) (w : World) (g cap n : Nat) (F : List UInt8) (wx : World) : Prop :=
  (∃ l, (fold l = F ∧ l.length = n) ∧ wx.ownsRow B 5 1 (.slice (some ⟨g, 0, none⟩) n cap) n (bc l)) ∧ Below B w wx
theorem QK.set {B : Nat} {w : World} {g cap n : Nat} {F : List UInt8} {wx : World} {l : List UInt8} {k : Nat} {b : UInt8} (Hl : fold l = F ∧ l.length = n) (hrow : wx.ownsRow B 5 1 (.slice (some ⟨g, 0, none⟩) n cap) n (bc l)) (hbx : Below B w wx) (hb : l.getD k 0 = b) (hlt : k < n) (hg : B ≤ g)
    (hlet : (65 ≤ b.toNat ∧ b.toNat ≤ 90) ∨ (97 ≤ b.toNat ∧ b.toNat ≤ 122)) : QK B w g cap n F (wx.setCell ⟨g, k, none⟩ (.int .u8 (bits BinOp.xor IntKind.u8 (b.toNat : Int) 32))) := by
  rw [flip_xor]
  exact ⟨⟨l.set k (b ^^^ 32), ⟨by rw [fold_set l k b _ hb (by omega) (flip_low b hlet)]; exact Hl.1, by rw [List.length_set]; exact Hl.2⟩, own_set hrow k _⟩, hbx.setCell hg _⟩

set_option maxHeartbeats 1000000 in
theorem query0 (o q1 q2 : ByteArray) (d f : Nat) (w : World) (hd : d < 256) (ho : o.size ≤ 20) (h : d % 3 = 0) :
    Calls Try.prog 16 #[.string o, .string q1, .string q2, .int .u8 (d : Int), .int .u64 (f : Int)] w fun e w' => ∃ v' l, e = .returned v' ∧ w'.ownsRow w.heap.size 5 1 v' l.length (bc l) ∧ fold l = fold (wire o.data.toList) ∧ Below w.heap.size w w' := by
  have hd0 : (d : Int) % 3 = 0 := by omega
  obtain ⟨r, hr⟩ : ∃ r, r = wire o.data.toList := ⟨_, rfl⟩
  have hr0 : 0 < r.length := by rw [hr]; unfold wire; split <;> simp
  have hr1 : r.length ≤ 22 := by rw [hr]; unfold wire lab; split <;> simp; omega
  have hw := wire_any o w ho
  rw [← hr] at hw ⊢
  clear hr
  go_enter Try.func16, Try.ntmps16
  go_wp2_with fail
  refine hw.mono ?_
  rintro e w1 ⟨v1, rfl, ho1, hb1⟩
  have hs1 := hb1.size
  have hrl : 0 + r.length ≤ 140737488355328 := by omega
  go_wp2_with (at_builtin; refine append_bytes _ rfl (.tmp 30) (.tmp 32) 29 rfl w.heap.size (.slice none 0 0) [] rfl (World.ownsRow_nil _ _ _ _) v1 r rfl (src_owned ho1) hr0 hrl hs1 ?_)
  intro v2 w2 l2 HL2 hown2 hg2 hb2
  have hl20 : 0 < l2.length := by rw [HL2.out]; omega
  obtain ⟨g, cap, rfl, hgB⟩ := own_slice hown2 hl20
  have hbb : Below w.heap.size w w2 := hb1.trans hb2
  have hl21 : l2.length ≤ 100 := by rw [HL2.out]; omega
  obtain ⟨n, hn⟩ : ∃ n, n = l2.length := ⟨_, rfl⟩
  rw [← hn] at hown2 hl20 hl21 ⊢
  obtain ⟨F, hF⟩ : ∃ F, F = fold l2 := ⟨_, rfl⟩
  have hq : QK w.heap.size w g cap n F w2 := ⟨⟨l2, ⟨hF.symm, hn.symm⟩, hown2⟩, hbb⟩
  have HF : Hid (F = fold l2) := hF
  clear hn hF ho1 hb1 hb2 hg2 hown2 hbb
  go_wp2
  go_loopw [12] (fun i wx => ∃ k : Nat, k ≤ n ∧ i = .int .i64 k ∧ QK w.heap.size w g cap n F wx) (fun i _ => n - (intOf i).toNat)
  case atStart => exact ⟨0, Nat.zero_le _, rfl, hq⟩
  case round =>
    clear hq
    obtain ⟨k, hk, rfl, hq⟩ := hrel
    obtain ⟨⟨l, Hl0, hrow⟩, hbx⟩ := hq
    have Hl : Hid (fold l = F ∧ l.length = n) := Hl0
    clear Hl0
    by_cases hlt : k < n
    · have hlt' : (k : Int) < (n : Int) := by omega
      have c0 := own_cell hrow k (by rw [Hl.out.2]; exact hlt)
      have f0 := own_frozen hrow k
      obtain ⟨b, hb⟩ : ∃ b, l.getD k 0 = b := ⟨_, rfl⟩
      rw [hb] at c0
      have Hb : Hid (l.getD k 0 = b) := hb
      clear hb
      have hbl : b.toNat < 256 := b.toNat_lt
      go_wp2
      all_goals first
        | exact ⟨⟨k + 1, by omega, by go_num, ⟨l, Hl.out, hrow⟩, hbx⟩, by simp [intOf]; omega⟩
        | exact ⟨⟨k + 1, by omega, by go_num, QK.set Hl.out hrow hbx Hb.out hlt hgB (by omega)⟩, by simp [intOf]; omega⟩
    · obtain rfl : k = n := by omega
      go_wp2
      go_ret
      refine ⟨_, l, rfl, ?_, ?_, hbx⟩
      · rw [Hl.out.2]; exact hrow
      · rw [Hl.out.1, HF.out, HL2.out]

set_option maxHeartbeats 1000000 in
theorem query1 (o q1 q2 : ByteArray) (d f : Nat) (w : World) (hd : d < 256) (ho : o.size ≤ 20) (h10 : 1 ≤ q1.size) (h11 : q1.size ≤ 20) (h : d % 3 = 1) :
    Calls Try.prog 16 #[.string o, .string q1, .string q2, .int .u8 (d : Int), .int .u64 (f : Int)] w fun e w' => ∃ v' l, e = .returned v' ∧ w'.ownsRow w.heap.size 5 1 v' l.length (bc l) ∧ fold l = fold (lab q1.data.toList ++ wire o.data.toList) ∧ Below w.heap.size w w' := by
  have hd0 : (d : Int) % 3 = 1 := by omega
  obtain ⟨r, hr⟩ : ∃ r, r = wire o.data.toList := ⟨_, rfl⟩
  have hr0 : 0 < r.length := by rw [hr]; unfold wire; split <;> simp
  have hr1 : r.length ≤ 22 := by rw [hr]; unfold wire lab; split <;> simp; omega
  rw [← hr]
  have hlb := label_any (.slice none 0 0) [] q1 w.heap.size w (World.ownsRow_nil _ _ _ _) (Nat.le_refl _) (by simp) h10 h11
  rw [List.nil_append] at hlb
  obtain ⟨p, hp⟩ : ∃ p, p = lab q1.data.toList := ⟨_, rfl⟩
  have hp1 : p.length ≤ 21 := by rw [hp]; simp [lab]; omega
  rw [← hp] at hlb ⊢
  clear hp
  go_enter Try.func16, Try.ntmps16
  go_wp2_with fail
  refine hlb.mono ?_
  rintro e w0 ⟨v0, rfl, ho0, hb0⟩
  have hw := wire_any o w0 ho
  rw [← hr] at hw
  have HR : Hid (r = wire o.data.toList) := hr
  clear hr
  go_wp2_with fail
  refine hw.mono ?_
  rintro e w1 ⟨v1, rfl, ho1, hb01⟩
  have ho0' := owned_kept ho0 (fun k hk hkl => hb01.block k hkl)
  have hb1 : Below w.heap.size w w1 := hb0.trans (hb01.mono hb0.size)
  have hs1 := hb1.size
  have hrl : p.length + r.length ≤ 140737488355328 := by omega
  go_wp2_with (at_builtin; refine append_bytes _ rfl (.tmp 30) (.tmp 32) 29 rfl w.heap.size v0 p rfl ho0' v1 r rfl (src_owned ho1) hr0 hrl hs1 ?_)
  intro v2 w2 l2 HL2 hown2 hg2 hb2
  have hl20 : 0 < l2.length := by rw [HL2.out, List.length_append]; omega
  obtain ⟨g, cap, rfl, hgB⟩ := own_slice hown2 hl20
  have hbb : Below w.heap.size w w2 := hb1.trans hb2
  have hl21 : l2.length ≤ 100 := by rw [HL2.out, List.length_append]; omega
  obtain ⟨n, hn⟩ : ∃ n, n = l2.length := ⟨_, rfl⟩
  rw [← hn] at hown2 hl20 hl21 ⊢
  obtain ⟨F, hF⟩ : ∃ F, F = fold l2 := ⟨_, rfl⟩
  have hq : QK w.heap.size w g cap n F w2 := ⟨⟨l2, ⟨hF.symm, hn.symm⟩, hown2⟩, hbb⟩
  have HF : Hid (F = fold l2) := hF
  clear hn hF ho1 hb1 hb2 hg2 hown2 hbb
  go_wp2
  go_loopw [12] (fun i wx => ∃ k : Nat, k ≤ n ∧ i = .int .i64 k ∧ QK w.heap.size w g cap n F wx) (fun i _ => n - (intOf i).toNat)
  case atStart => exact ⟨0, Nat.zero_le _, rfl, hq⟩
  case round =>
    clear hq
    obtain ⟨k, hk, rfl, hq⟩ := hrel
    obtain ⟨⟨l, Hl0, hrow⟩, hbx⟩ := hq
    have Hl : Hid (fold l = F ∧ l.length = n) := Hl0
    clear Hl0
    by_cases hlt : k < n
    · have hlt' : (k : Int) < (n : Int) := by omega
      have c0 := own_cell hrow k (by rw [Hl.out.2]; exact hlt)
      have f0 := own_frozen hrow k
      obtain ⟨b, hb⟩ : ∃ b, l.getD k 0 = b := ⟨_, rfl⟩
      rw [hb] at c0
      have Hb : Hid (l.getD k 0 = b) := hb
      clear hb
      have hbl : b.toNat < 256 := b.toNat_lt
      go_wp2
      all_goals first
        | exact ⟨⟨k + 1, by omega, by go_num, ⟨l, Hl.out, hrow⟩, hbx⟩, by simp [intOf]; omega⟩
        | exact ⟨⟨k + 1, by omega, by go_num, QK.set Hl.out hrow hbx Hb.out hlt hgB (by omega)⟩, by simp [intOf]; omega⟩
    · obtain rfl : k = n := by omega
      go_wp2
      go_ret
      refine ⟨_, l, rfl, ?_, ?_, hbx⟩
      · rw [Hl.out.2]; exact hrow
      · rw [Hl.out.1, HF.out, HL2.out]

set_option maxHeartbeats 1000000 in
theorem query2 (o q1 q2 : ByteArray) (d f : Nat) (w : World) (hd : d < 256) (ho : o.size ≤ 20) (h10 : 1 ≤ q1.size) (h11 : q1.size ≤ 20) (h20 : 1 ≤ q2.size) (h21 : q2.size ≤ 20) (h : d % 3 = 2) :
    Calls Try.prog 16 #[.string o, .string q1, .string q2, .int .u8 (d : Int), .int .u64 (f : Int)] w fun e w' => ∃ v' l, e = .returned v' ∧ w'.ownsRow w.heap.size 5 1 v' l.length (bc l) ∧ fold l = fold (lab q2.data.toList ++ lab q1.data.toList ++ wire o.data.toList) ∧ Below w.heap.size w w' := by
  have hd0 : (d : Int) % 3 = 2 := by omega
  obtain ⟨r, hr⟩ : ∃ r, r = wire o.data.toList := ⟨_, rfl⟩
  have hr0 : 0 < r.length := by rw [hr]; unfold wire; split <;> simp
  have hr1 : r.length ≤ 22 := by rw [hr]; unfold wire lab; split <;> simp; omega
  rw [← hr]
  have hlb := label_any (.slice none 0 0) [] q2 w.heap.size w (World.ownsRow_nil _ _ _ _) (Nat.le_refl _) (by simp) h20 h21
  rw [List.nil_append] at hlb
  obtain ⟨p, hp⟩ : ∃ p, p = lab q2.data.toList := ⟨_, rfl⟩
  have hp1 : p.length ≤ 21 := by rw [hp]; simp [lab]; omega
  rw [← hp] at hlb ⊢
  clear hp
  go_enter Try.func16, Try.ntmps16
  go_wp2_with fail
  refine hlb.mono ?_
  rintro e w0 ⟨v0, rfl, ho0, hb0⟩
  have hla := label_any v0 p q1 w.heap.size w0 ho0 hb0.size (by omega) h10 h11
  obtain ⟨p2, hp2⟩ : ∃ p2, p2 = p ++ lab q1.data.toList := ⟨_, rfl⟩
  have hp21 : p2.length ≤ 42 := by rw [hp2, List.length_append]; simp [lab]; omega
  rw [← hp2] at hla
  have HP2 : Hid (p2 = p ++ lab q1.data.toList) := hp2
  clear hp2
  go_wp2_with fail
  refine hla.mono ?_
  rintro e w3 ⟨v3, rfl, ho3, hb3⟩
  have hw := wire_any o w3 ho
  rw [← hr] at hw
  have HR : Hid (r = wire o.data.toList) := hr
  clear hr
  go_wp2_with fail
  refine hw.mono ?_
  rintro e w1 ⟨v1, rfl, ho1, hb01⟩
  have ho0' := owned_kept ho3 (fun k hk hkl => hb01.block k hkl)
  have hb1 : Below w.heap.size w w1 := (hb0.trans hb3).trans (hb01.mono (hb0.trans hb3).size)
  have hs1 := hb1.size
  have hrl : p2.length + r.length ≤ 140737488355328 := by omega
  clear ho0 hb0 ho3 hb3 hb01
  go_wp2_with (at_builtin; refine append_bytes _ rfl (.tmp 30) (.tmp 32) 29 rfl w.heap.size v3 p2 rfl ho0' v1 r rfl (src_owned ho1) hr0 hrl hs1 ?_)
  intro v2 w2 l2 HL2 hown2 hg2 hb2
  have hl20 : 0 < l2.length := by rw [HL2.out, List.length_append]; omega
  obtain ⟨g, cap, rfl, hgB⟩ := own_slice hown2 hl20
  have hbb : Below w.heap.size w w2 := hb1.trans hb2
  have hl21 : l2.length ≤ 100 := by rw [HL2.out, List.length_append]; omega
  obtain ⟨n, hn⟩ : ∃ n, n = l2.length := ⟨_, rfl⟩
  rw [← hn] at hown2 hl20 hl21 ⊢
  obtain ⟨F, hF⟩ : ∃ F, F = fold l2 := ⟨_, rfl⟩
  have hq : QK w.heap.size w g cap n F w2 := ⟨⟨l2, ⟨hF.symm, hn.symm⟩, hown2⟩, hbb⟩
  have HF : Hid (F = fold l2) := hF
  clear hn hF ho1 hb1 hb2 hg2 hown2 hbb
  go_wp2
  go_loopw [12] (fun i wx => ∃ k : Nat, k ≤ n ∧ i = .int .i64 k ∧ QK w.heap.size w g cap n F wx) (fun i _ => n - (intOf i).toNat)
  case atStart => exact ⟨0, Nat.zero_le _, rfl, hq⟩
  case round =>
    clear hq
    obtain ⟨k, hk, rfl, hq⟩ := hrel
    obtain ⟨⟨l, Hl0, hrow⟩, hbx⟩ := hq
    have Hl : Hid (fold l = F ∧ l.length = n) := Hl0
    clear Hl0
    by_cases hlt : k < n
    · have hlt' : (k : Int) < (n : Int) := by omega
      have c0 := own_cell hrow k (by rw [Hl.out.2]; exact hlt)
      have f0 := own_frozen hrow k
      obtain ⟨b, hb⟩ : ∃ b, l.getD k 0 = b := ⟨_, rfl⟩
      rw [hb] at c0
      have Hb : Hid (l.getD k 0 = b) := hb
      clear hb
      have hbl : b.toNat < 256 := b.toNat_lt
      go_wp2
      all_goals first
        | exact ⟨⟨k + 1, by omega, by go_num, ⟨l, Hl.out, hrow⟩, hbx⟩, by simp [intOf]; omega⟩
        | exact ⟨⟨k + 1, by omega, by go_num, QK.set Hl.out hrow hbx Hb.out hlt hgB (by omega)⟩, by simp [intOf]; omega⟩
    · obtain rfl : k = n := by omega
      go_wp2
      go_ret
      refine ⟨_, l, rfl, ?_, ?_, hbx⟩
      · rw [Hl.out.2]; exact hrow
      · rw [Hl.out.1, HF.out, HL2.out, HP2.out]

end Go.Proofs.Qxb6003450a
