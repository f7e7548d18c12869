import Derived.Test.Qxb6003450aLaw
namespace Go.Proofs.Qxb6003450a
open Go.RowKit

set_option maxRecDepth 20000 in
set_option maxHeartbeats 2000000 in
theorem law_any (o q1 q2 : ByteArray) (a b c : Option Addr) (nc cc nn cn ng cg : Nat) (T G : Nat → ByteArray) (ns : Nat → Bool) (star : Bool) (d f : Nat) (w : World)
    (hT : ThingsAt w a nc (fun i => .string (T i))) (hS : ThingsAt w b nn (fun i => .bool (ns i))) (hG : ThingsAt w c ng (fun i => .string (G i)))
    (ho : o.size ≤ 9223372036854775807) (h1 : q1.size ≤ 9223372036854775807) (h2 : q2.size ≤ 9223372036854775807) (hc : nc ≤ 9223372036854775807) (hn : nn ≤ 9223372036854775807) (hg : ng ≤ 9223372036854775807)
    (hTs : ∀ i, i < nc → (T i).size ≤ 9223372036854775807) (hGs : ∀ i, i < ng → (G i).size ≤ 9223372036854775807) (hd : d < 256) :
    Calls Try.prog 3 #[.string o, .slice a nc cc, .slice b nn cn, .slice c ng cg, .bool star, .string q1, .string q2, .int .u8 (d : Int), .int .u64 (f : Int)] w fun e w' => e = .returned (.bool true) ∧ Below w.heap.size w w' := by
  have HB : Hid (Calls Try.prog 9 #[.string o, .slice a nc cc, .slice b nn cn, .slice c ng cg, .bool star, .string q1, .string q2, .int .u8 (d : Int), .int .u64 (f : Int)] w fun e w' => AnyBool e ∧ w' = w) := bytes_any o q1 q2 a b c nc cc nn cn ng cg T G _ _ _ w hT hG ho h1 h2 hc hn hg hTs hGs
  have HF : Hid (Calls Try.prog 10 #[.string o, .slice a nc cc, .slice b nn cn, .slice c ng cg, .string q1, .string q2] w fun e w' => FitsAns o q1 q2 nc nn ng T G e ∧ Below w.heap.size w w') := fits_any o q1 q2 a b c nc cc nn cn ng cg T G w hT hG ho h1 h2 hc hn hg hTs hGs
  clear hTs hGs ho h1 h2 hc hn hg
  go_enter Try.func3, Try.ntmps3
  go_wp2_with fail
  refine HB.out.mono ?_
  rintro e w1 ⟨⟨r, rfl⟩, rfl⟩
  clear HB
  cases r with
  | false =>
    go_wp2
    go_ret
    exact ⟨rfl, Below.refl _ _⟩
  | true =>
    go_wp2_with fail
    refine HF.out.mono ?_
    rintro e w2 ⟨⟨r, rfl, hfit⟩, hb2⟩
    clear HF
    cases r with
    | false =>
      go_wp2
      go_ret
      exact ⟨rfl, hb2⟩
    | true =>
      obtain ⟨ho1, hc1, hn1, hg1, hq10, hq11, hq20, hq21, hall⟩ := hfit rfl
      clear hfit
      subst hn1 hg1
      have HALL : Hid (∀ i, i < ng → Good T G i) := hall
      clear hall
      obtain ⟨n, hn⟩ : ∃ n, n = ng := ⟨_, rfl⟩
      subst hn
      have HS2 := hS.below hb2
      have HG2 := hG.below hb2
      have HT2 := hT.below hb2
      have HCS : Hid (Calls Try.prog 11 #[.slice a n cc] w2 fun e w' => (∃ a' cap', e = .returned (.slice a' n cap') ∧ ThingsAt w' a' n (fun i => .string (T i))) ∧ Below w2.heap.size w2 w') := cloneS_any a n cc T w2 HT2 hc1
      clear hT hS hG HT2
      go_wp2_with fail
      refine HCS.out.mono ?_
      rintro e w3 ⟨⟨a3, c3, rfl, hT3⟩, hb3⟩
      clear HCS
      have HS3 := HS2.below hb3
      have HG3 := HG2.below hb3
      have hb3w : Below w1.heap.size w1 w3 := hb2.trans (hb3.mono hb2.size)
      have HCB : Hid (Calls Try.prog 12 #[.slice b n cn] w3 fun e w' => (∃ a' cap', e = .returned (.slice a' n cap') ∧ ThingsAt w' a' n (fun i => .bool (ns i))) ∧ Below w3.heap.size w3 w') := cloneB_any b n cn ns w3 HS3 hc1
      clear HS2 HG2 HS3 hb2 hb3
      go_wp2_with fail
      refine HCB.out.mono ?_
      rintro e w4 ⟨⟨a4, c4, rfl, hS4⟩, hb4⟩
      clear HCB
      have hT4 := hT3.below hb4
      have HG4 := HG3.below hb4
      have hb4w : Below w1.heap.size w1 w4 := hb3w.trans (hb4.mono hb3w.size)
      have HCG : Hid (Calls Try.prog 11 #[.slice c n cg] w4 fun e w' => (∃ a' cap', e = .returned (.slice a' n cap') ∧ ThingsAt w' a' n (fun i => .string (G i))) ∧ Below w4.heap.size w4 w') := cloneS_any c n cg G w4 HG4 hc1
      clear hT3 HG3 HG4 hb3w hb4
      go_wp2_with fail
      refine HCG.out.mono ?_
      rintro e w5 ⟨⟨a5, c5, rfl, hG5⟩, hb5⟩
      clear HCG
      have HT5 : Hid (ThingsAt w5 a3 n (fun i => .string (T i))) := hT4.below hb5
      have HS5 : Hid (ThingsAt w5 a4 n (fun i => .bool (ns i))) := hS4.below hb5
      have HG5 : Hid (ThingsAt w5 a5 n (fun i => .string (G i))) := hG5
      have hb5w : Below w1.heap.size w1 w5 := hb4w.trans (hb5.mono hb4w.size)
      clear hT4 hS4 hG5 hb4w hb5
      go_wp2_with fail
      refine (build_any w5.heap.size o a3 a4 a5 n c3 c4 c5 T G ns star w5 _ ?_ ?_ rfl HT5.out HS5.out HG5.out ho1 hc1 HALL.out).mono ?_
      · refine ⟨_, heap_alloc_new _ _, rfl, fun i hi => ?_⟩
        match i, hi with
        | 0, _ | 1, _ | 2, _ | 3, _ | 4, _ | 5, _ | 6, _ | 7, _ | 8, _ => rfl
      · exact (Below.refl _ _).alloc (Nat.le_refl _) _
      rintro e w6 ⟨rfl, hbp⟩
      obtain ⟨mb, rb, rc, sb, sc, ov, kc, kg, kn, kh, hbt, hb6'⟩ := hbp.built
      clear hbp
      have hb6 : Below w5.heap.size w5 w6 := ((Below.refl _ _).alloc (Nat.le_refl _) _).trans hb6'
      have hb6w : Below w1.heap.size w1 w6 := hb5w.trans (hb6.mono hb5w.size)
      have HS6 : Hid (ThingsAt w6 a4 n (fun i => .bool (ns i))) := HS5.out.below hb6
      clear HT5 HG5 HS5 hb6' hb6 hb5w
      obtain ⟨fb, hfb⟩ : ∃ fb, fb = w5.heap.size := ⟨_, rfl⟩
      simp only [← hfb] at hbt ⊢
      clear hfb
      obtain ⟨W, hW⟩ : ∃ W, W = wire (fold o.data.toList) := ⟨_, rfl⟩
      rw [← hW] at hbt
      have HW : Hid (W = wire (fold o.data.toList)) := hW
      clear hW
      have v0 := hbt.rws.fr.cell (i := 0) (by decide)
      have v1 := hbt.rws.fr.cell (i := 1) (by decide)
      have v2 := hbt.rws.fr.cell (i := 2) (by decide)
      have v3 := hbt.rws.fr.cell (i := 3) (by decide)
      simp only [zf] at v0 v1 v2 v3
      have hcv := conv_own hbt.oo 39 Try.underlying39 0
      simp only [World.drewN_zero] at hcv
      have HBT : Hid (Built w6 fb mb rb rc sb sc ov W kc kg kn kh n T G ns star) := hbt
      clear hbt
      go_wp2_with fail
      refine (makeZone_any ⟨W.toArray⟩ mb _ _ _ _ _ _ w6).mono ?_
      rintro e w7 ⟨rfl, hz7, hb7⟩
      clear v0 v1 v2 v3 hcv
      obtain ⟨zb, hzb⟩ : ∃ zb, zb = w6.heap.size := ⟨_, rfl⟩
      rw [← hzb] at hz7
      simp only [← hzb]
      have HBT7 : Hid (Built w7 fb mb rb rc sb sc ov W kc kg kn kh n T G ns star) := HBT.out.below hb7
      have HZ7 : Hid (w7.rowIs zb 90 10 (zz ⟨W.toArray⟩ mb (.slice (some ⟨rb, 0, none⟩) (rs (toN W (L2 (fo T) (fo G) ns star n n))).length rc) (.slice (some ⟨sb, 0, none⟩) ((toN W (L2 (fo T) (fo G) ns star n n)).length + 1) sc))) := hz7
      have HS7 : Hid (ThingsAt w7 a4 n (fun i => .bool (ns i))) := HS6.out.below hb7
      have hb7w : Below w1.heap.size w1 w7 := hb6w.trans (hb7.mono hb6w.size)
      clear HBT HS6 hb7 hb6w hz7 hzb
      go_wp2_with fail
      refine (query_all o q1 q2 d f w7 hd ho1 hq10 hq11 hq20 hq21).mono ?_
      rintro e w8 ⟨v8, l, rfl, hv8, hl8, hb8⟩
      have hcv8 := conv_own hv8 39 Try.underlying39 0
      simp only [World.drewN_zero] at hcv8
      rw [← HW.out] at hl8
      have HL8 : Hid (fold l = nm (lsF d (fold q1.data.toList) (fold q2.data.toList)) W) := hl8
      have HBT8 : Hid (Built w8 fb mb rb rc sb sc ov W kc kg kn kh n T G ns star) := HBT7.out.below hb8
      have HZ8 : Hid (w8.rowIs zb 90 10 (zz ⟨W.toArray⟩ mb (.slice (some ⟨rb, 0, none⟩) (rs (toN W (L2 (fo T) (fo G) ns star n n))).length rc) (.slice (some ⟨sb, 0, none⟩) ((toN W (L2 (fo T) (fo G) ns star n n)).length + 1) sc))) := HZ7.out.of_block (hb8.block _ HZ7.out.lt)
      have HS8 : Hid (ThingsAt w8 a4 n (fun i => .bool (ns i))) := HS7.out.below hb8
      have hb8w : Below w1.heap.size w1 w8 := hb7w.trans (hb8.mono hb7w.size)
      obtain ⟨va, vc, rfl⟩ := own_shape hv8
      clear HBT7 HZ7 HS7 hb7w hb8 hl8 hv8
      have hAg := agree_all (C := fo T) (G := fo G) (ns := ns) (star := star) (n := n) rb W (fun i hi => (HALL.out i hi).ns) d (fold q1.data.toList) (fold q2.data.toList)
      have hFi := find_all (C := fo T) (G := fo G) (ns := ns) (star := star) (n := n) zb mb fb rb rc sb sc W d (fold q1.data.toList) (fold q2.data.toList) ⟨l.toArray⟩ w8
        (fun i hi => by have := (HALL.out i hi).t1; unfold fo; rw [fold_length]; simp; omega) (fun i hi => by have := (HALL.out i hi).g1; unfold fo; rw [fold_length]; simp; omega)
        (fun i j hij hj => (HALL.out j hj).ap i hij) hc1 (by rw [fold_length]; simp; omega) (by rw [fold_length]; simp; omega) (by rw [HW.out]; exact wire_le (by rw [fold_length]; simpa using ho1)) ⟨HZ8.out, HBT8.out.z⟩ HL8.out
      obtain ⟨m, hm⟩ : ∃ m, m = ansF rb (toN W (L2 (fo T) (fo G) ns star n n)) (lkF (fo T) (fo G) ns star n) (tsF (fo T) (fo G) ns star n) (lsF d (fold q1.data.toList) (fold q2.data.toList)) := ⟨_, rfl⟩
      rw [← hm] at hAg hFi
      clear hm
      obtain ⟨E, hE⟩ : ∃ E, E = expF star (fo T) (fo G) ns n d (fold q1.data.toList) (fold q2.data.toList) := ⟨_, rfl⟩
      rw [← hE] at hAg
      have HEX : Hid (∀ w', Rws w' fb ov (.map (some mb)) (.slice (some ⟨rb, 0, none⟩) (rs (toN W (L2 (fo T) (fo G) ns star n n))).length rc) (.slice (some ⟨sb, 0, none⟩) ((toN W (L2 (fo T) (fo G) ns star n n)).length + 1) sc) kc kg kn kh n (fo T) (fo G) (fun i => (i : Int) + 1) (gnF (fo T) (fo G) ns star n) (if star then (n : Int) + 1 else -1) → ThingsAt w' a4 n (fun i => .bool (ns i)) →
          Calls Try.prog 18 #[.pointer (some ⟨fb, 0, none⟩), .bool star, .slice a4 n c4, .string q1, .string q2, .int .u8 (d : Int)] w' fun r w'' => r = .returned (Exp.val E) ∧ Below w'.heap.size w' w'') := by
        intro w' hr hs
        rw [hE]
        exact expect_all fb _ _ _ _ kc kg kn kh n (fo T) (fo G) star a4 c4 ns q1 q2 d w' hr hs hc1 hq11 hq21
      clear hE
      obtain ⟨cut, cutn, node, ex, wd⟩ := m
      obtain ⟨ex', wd', en, ec⟩ := E
      obtain ⟨g1, g2, g3, g4⟩ := hAg
      simp only at g1 g2 g3 g4
      subst g1 g2
      obtain ⟨na, nl, nk, rfl⟩ := g3.shape
      obtain ⟨ca, cl, ck, rfl⟩ := g4.node.shape
      obtain ⟨ua, ul, uk, rfl⟩ : ∃ a l c, cut = .slice a l c := by
        rcases g4 with ⟨_, rfl, _⟩ | ⟨_, _, _, _, rfl, _⟩
        · exact ⟨_, _, _, rfl⟩
        · exact ⟨_, _, _, rfl⟩
      have HFI : Hid (Calls Try.prog 15 #[.pointer (some ⟨zb, 0, none⟩), .string ⟨l.toArray⟩] w8 fun e w' => e = .returned (.agg #[.slice ua ul uk, .slice ca cl ck, .slice na nl nk, .bool ex, .bool wd]) ∧ Below w8.heap.size w8 w') := hFi
      have HNO : Hid (NodeOK rb (toN W (L2 (fo T) (fo G) ns star n n)) (.slice na nl nk) en) := g3
      have HCO : Hid (CutOK rb (toN W (L2 (fo T) (fo G) ns star n n)) (.slice ca cl ck) (.slice ua ul uk) ec) := g4
      clear hFi g3 g4 HALL HL8 HW HZ8
      go_wp2_with fail
      refine HFI.out.mono ?_
      rintro e w9 ⟨rfl, hb9⟩
      have HBT9 : Hid (Built w9 fb mb rb rc sb sc ov W kc kg kn kh n T G ns star) := HBT8.out.below hb9
      have HS9 : Hid (ThingsAt w9 a4 n (fun i => .bool (ns i))) := HS8.out.below hb9
      have hb9w : Below w1.heap.size w1 w9 := hb8w.trans (hb9.mono hb8w.size)
      clear HFI HBT8 HS8 hb8w hb9 hcv8
      go_wp2
      obtain ⟨wa, hwa⟩ : ∃ wa, wa = w9.alloc (.cells #[.slice ua ul uk, .slice ca cl ck, .slice na nl nk, .bool ex, .bool wd] 43) := ⟨_, rfl⟩
      have hba : Below w9.heap.size w9 wa := by rw [hwa]; exact (Below.refl _ _).alloc (Nat.le_refl _) _
      have hsz : wa.heap.size = w9.heap.size + 1 := by rw [hwa]; simp
      have m0 : wa.cell? ⟨w9.heap.size, 0, none⟩ = some (.slice ua ul uk) := by rw [hwa]; simp [go_sem]
      have m1 : wa.cell? ⟨w9.heap.size, 1, none⟩ = some (.slice ca cl ck) := by rw [hwa]; simp [go_sem]
      have m2 : wa.cell? ⟨w9.heap.size, 2, none⟩ = some (.slice na nl nk) := by rw [hwa]; simp [go_sem]
      have m3 : wa.cell? ⟨w9.heap.size, 3, none⟩ = some (.bool ex) := by rw [hwa]; simp [go_sem]
      have m4 : wa.cell? ⟨w9.heap.size, 4, none⟩ = some (.bool wd) := by rw [hwa]; simp [go_sem]
      rw [← hwa]
      clear hwa
      have HBA : Hid (Built wa fb mb rb rc sb sc ov W kc kg kn kh n T G ns star) := HBT9.out.below hba
      have HSA : Hid (ThingsAt wa a4 n (fun i => .bool (ns i))) := HS9.out.below hba
      have hbaw : Below w1.heap.size w1 wa := hb9w.trans (hba.mono hb9w.size)
      have HRL : Hid ((rs (toN W (L2 (fo T) (fo G) ns star n n))).length ≤ 300 ∧ (toN W (L2 (fo T) (fo G) ns star n n)).length ≤ 100) := by
        have h1 := rs_le _ (L2_two (C := fo T) (G := fo G) (ns := ns) (star := star) W n n)
        have h2 := toN_length W (L2 (fo T) (fo G) ns star n n)
        have h3 := L2_length (C := fo T) (G := fo G) (ns := ns) (star := star) n n
        exact ⟨by omega, by omega⟩
      have HMT : Hid (∀ w', Built w' fb mb rb rc sb sc ov W kc kg kn kh n T G ns star → Calls Try.prog 17 #[.pointer (some ⟨fb, 0, none⟩), .agg #[.slice ua ul uk, .slice ca cl ck, .slice na nl nk, .bool ex, .bool wd], .agg #[.bool ex, .bool wd, .int .i64 en, .int .i64 ec]] w' fun r w'' => r = .returned (.bool true) ∧ Below w'.heap.size w' w'') := fun w' hb => matches_any fb mb fb rb rc sb sc _ _ _ _ _ _ _ _ _ _ _ _ _ _ w' hb.rws.fr hb.z HRL.out.1 HRL.out.2 HNO.out HCO.out
      have HE2 : Hid (∀ w', Built w' fb mb rb rc sb sc ov W kc kg kn kh n T G ns star → ThingsAt w' a4 n (fun i => .bool (ns i)) → Calls Try.prog 18 #[.pointer (some ⟨fb, 0, none⟩), .bool star, .slice a4 n c4, .string q1, .string q2, .int .u8 (d : Int)] w' fun r w'' => r = .returned (.agg #[.bool ex, .bool wd, .int .i64 en, .int .i64 ec]) ∧ Below w'.heap.size w' w'') := fun w' hb hs => HEX.out w' hb.rws hs
      clear HEX HBT9 HS9 hb9w HNO HCO HRL
      go_region_held3 (fun w' => w'.cell? ⟨w9.heap.size, 0, none⟩ = some (.slice ua ul uk) ∧ w'.cell? ⟨w9.heap.size, 1, none⟩ = some (.slice ca cl ck) ∧ w'.cell? ⟨w9.heap.size, 2, none⟩ = some (.slice na nl nk) ∧ w'.cell? ⟨w9.heap.size, 3, none⟩ = some (.bool ex) ∧ w'.cell? ⟨w9.heap.size, 4, none⟩ = some (.bool wd)) (simp [go_sem, *])
        (first
          | (go_at_call 18; refine (HE2.out _ (HBA.out.below (Below.refl _ _).drew) (HSA.out.below (Below.refl _ _).drew)).mono ?_; rintro r w10 ⟨rfl, hb10⟩; have x0 := (hb10.cell (p := ⟨w9.heap.size, 0, none⟩) (by simp [hsz])).trans m0; have x1 := (hb10.cell (p := ⟨w9.heap.size, 1, none⟩) (by simp [hsz])).trans m1; have x2 := (hb10.cell (p := ⟨w9.heap.size, 2, none⟩) (by simp [hsz])).trans m2; have x3 := (hb10.cell (p := ⟨w9.heap.size, 3, none⟩) (by simp [hsz])).trans m3; have x4 := (hb10.cell (p := ⟨w9.heap.size, 4, none⟩) (by simp [hsz])).trans m4; have hb10' : Below wa.heap.size wa w10 := (Below.refl _ _).drew.trans (hb10.mono (Nat.le_refl _)); have HB10 : Hid (Built w10 fb mb rb rc sb sc ov W kc kg kn kh n T G ns star) := HBA.out.below hb10'; have hb10w : Below w1.heap.size w1 w10 := hbaw.trans (hb10'.mono hbaw.size))
          | (go_at_call 17; refine (HMT.out _ HB10.out).mono ?_; rintro r w11 ⟨rfl, hb11⟩; have y0 := (hb11.cell (p := ⟨w9.heap.size, 0, none⟩) (Nat.lt_of_lt_of_le (by simp [hsz]) hb10'.size)).trans x0; have y1 := (hb11.cell (p := ⟨w9.heap.size, 1, none⟩) (Nat.lt_of_lt_of_le (by simp [hsz]) hb10'.size)).trans x1; have y2 := (hb11.cell (p := ⟨w9.heap.size, 2, none⟩) (Nat.lt_of_lt_of_le (by simp [hsz]) hb10'.size)).trans x2; have y3 := (hb11.cell (p := ⟨w9.heap.size, 3, none⟩) (Nat.lt_of_lt_of_le (by simp [hsz]) hb10'.size)).trans x3; have y4 := (hb11.cell (p := ⟨w9.heap.size, 4, none⟩) (Nat.lt_of_lt_of_le (by simp [hsz]) hb10'.size)).trans x4; have hb11w : Below w1.heap.size w1 w11 := hb10w.trans (hb11.mono hb10w.size)))
      go_wp2
      go_ret
      exact ⟨rfl, hb11w⟩
end Go.Proofs.Qxb6003450a
