import Derived.Test.Qxb6003450aAdd
import Derived.Test.Qxb6003450aPlain
import Derived.Test.Qxb6003450aWalkB
import Derived.Test.Qxb6003450aWalkF
namespace Go.Proofs.Qxb6003450a
open Go.RowKit

theorem make_ints (n : Nat) (hn : n ≤ 1073741824) (w : World) :
    (Instr.makeSlice 33 (.int .i64 (n : Int)) (.int .i64 (n : Int))).run Try.prog w = .ok (.slice (some ⟨w.heap.size, 0, none⟩) n n) (w.alloc (.cells (madeCells #[.int .i64 0] n) 3)) :=
  run_make_row' (P := Try.prog) 33 3 (.int .i64 0) 8 Try.underlying33 Try.info3 rfl .i64 .i64 n (by omega) (by omega) w

def nilS : Value := .slice none 0 0
/-- the struct as 'var' lays it -/
def zf0 : Nat → Value := zf (.slice none 0 0) (.map none) (.slice none 0 0) (.slice none 0 0) (.slice none 0 0) (.slice none 0 0) (.slice none 0 0) (.slice none 0 0) 0

structure BS (w wx : World) (fb mb : Nat) (ov rv sv : Value) (o : List UInt8) (cv gv nv hv : Value) (sn : Int) (N : List Nd) : Prop where
  fr : wx.rowIs fb 35 9 (zf ov (.map (some mb)) rv sv cv gv nv hv sn)
  z : ZAt wx fb mb rv sv N
  oo : wx.ownsRow fb 5 1 ov o.length (bc o)
  bl : Below fb w wx

theorem zf_set0 {a b c d e f g h c' : Value} {s : Int} : (fun j => if j = 0 then c' else zf a b c d e f g h s j) = zf c' b c d e f g h s := by
  funext j
  match j with
  | 0 | 1 | 2 | 3 | 4 | 5 | 6 | 7 | 8 => simp [zf]
  | j + 9 => simp [zf]
theorem zf_set1 {a b c d e f g h c' : Value} {s : Int} : (fun j => if j = 1 then c' else zf a b c d e f g h s j) = zf a c' c d e f g h s := by
  funext j
  match j with
  | 0 | 1 | 2 | 3 | 4 | 5 | 6 | 7 | 8 => simp [zf]
  | j + 9 => simp [zf]
theorem zf_set4 {a b c d e f g h c' : Value} {s : Int} : (fun j => if j = 4 then c' else zf a b c d e f g h s j) = zf a b c d c' f g h s := by
  funext j
  match j with
  | 0 | 1 | 2 | 3 | 4 | 5 | 6 | 7 | 8 => simp [zf]
  | j + 9 => simp [zf]
theorem zf_set5 {a b c d e f g h c' : Value} {s : Int} : (fun j => if j = 5 then c' else zf a b c d e f g h s j) = zf a b c d e c' g h s := by
  funext j
  match j with
  | 0 | 1 | 2 | 3 | 4 | 5 | 6 | 7 | 8 => simp [zf]
  | j + 9 => simp [zf]
theorem zf_set6 {a b c d e f g h c' : Value} {s : Int} : (fun j => if j = 6 then c' else zf a b c d e f g h s j) = zf a b c d e f c' h s := by
  funext j
  match j with
  | 0 | 1 | 2 | 3 | 4 | 5 | 6 | 7 | 8 => simp [zf]
  | j + 9 => simp [zf]
theorem zf_set7 {a b c d e f g h c' : Value} {s : Int} : (fun j => if j = 7 then c' else zf a b c d e f g h s j) = zf a b c d e f g c' s := by
  funext j
  match j with
  | 0 | 1 | 2 | 3 | 4 | 5 | 6 | 7 | 8 => simp [zf]
  | j + 9 => simp [zf]
theorem zf_set8 {a b c d e f g h : Value} {s s' : Int} : (fun j => if j = 8 then .int .i64 s' else zf a b c d e f g h s j) = zf a b c d e f g h s' := by
  funext j
  match j with
  | 0 | 1 | 2 | 3 | 4 | 5 | 6 | 7 | 8 => simp [zf]
  | j + 9 => simp [zf]

theorem ZAt.set {w : World} {B mb fb i m : Nat} {t : TypeId} {F : Nat → Value} {rv sv : Value} {N : List Nd} (h : ZAt w B mb rv sv N) (hf : w.rowIs fb t m F) (h1 : t ≠ 88) (h2 : t ≠ 81) (u : Value) : ZAt (w.setCell ⟨fb, i, none⟩ u) B mb rv sv N := by
  obtain ⟨⟨D, hD, hag⟩, h3, h4, h5⟩ := h
  exact ⟨⟨D, map_set hD hf u, hag⟩, h3, own_set_other h4 hf (fun e => h1 e.symm) u, own_set_other h5 hf (fun e => h2 e.symm) u⟩
theorem ZAt.alloc {w : World} {B mb : Nat} {rv sv : Value} {N : List Nd} (h : ZAt w B mb rv sv N) (o : Obj) : ZAt (w.alloc o) B mb rv sv N := by
  obtain ⟨⟨D, hD, hag⟩, h3, h4, h5⟩ := h
  exact ⟨⟨D, hD.alloc o, hag⟩, h3, h4.alloc o, h5.alloc o⟩

/-- the first node's world -/
theorem start_bs {w w2 : World} {fb : Nat} {ov : Value} {o : List UInt8} (hf : w2.rowIs fb 35 9 zf0) (hov : w2.ownsRow fb 5 1 ov o.length (bc o)) (hb : Below fb w w2) :
    BS w ((((w2.setCell ⟨fb, 0, none⟩ ov).setCell ⟨fb, 1, none⟩ (.map (some w2.heap.size))).setCell ⟨fb, 3, none⟩ (.slice (some ⟨w2.heap.size + 1, 0, none⟩) 1 1)).alloc (.map #[] 0) |>.alloc (.cells #[.int .u32 0] 81)) fb w2.heap.size ov (.slice none 0 0) (.slice (some ⟨w2.heap.size + 1, 0, none⟩) 1 1) o (.slice none 0 0) (.slice none 0 0) (.slice none 0 0) (.slice none 0 0) 0 [] := by
  have hfl := hf.lt
  have h0 := hf.set 0 ov
  unfold zf0 at h0
  rw [zf_set0] at h0
  have h1 := h0.set 1 (.map (some w2.heap.size))
  rw [zf_set1] at h1
  have h3 := h1.set 3 (.slice (some ⟨w2.heap.size + 1, 0, none⟩) 1 1)
  rw [zf_set3] at h3
  have o0 := own_set_other (i := 0) hov hf (by decide) ov
  have o1 := own_set_other (i := 1) o0 h0 (by decide) (.map (some w2.heap.size))
  have o3 := own_set_other (i := 3) o1 h1 (by decide) (.slice (some ⟨w2.heap.size + 1, 0, none⟩) 1 1)
  have b3 : Below fb w (((w2.setCell ⟨fb, 0, none⟩ ov).setCell ⟨fb, 1, none⟩ (.map (some w2.heap.size))).setCell ⟨fb, 3, none⟩ (.slice (some ⟨w2.heap.size + 1, 0, none⟩) 1 1)) := ((hb.setCell (p := ⟨fb, 0, none⟩) (Nat.le_refl _) _).setCell (p := ⟨fb, 1, none⟩) (Nat.le_refl _) _).setCell (p := ⟨fb, 3, none⟩) (Nat.le_refl _) _
  obtain ⟨ws, hws⟩ : ∃ ws, ws = (((w2.setCell ⟨fb, 0, none⟩ ov).setCell ⟨fb, 1, none⟩ (.map (some w2.heap.size))).setCell ⟨fb, 3, none⟩ (.slice (some ⟨w2.heap.size + 1, 0, none⟩) 1 1)) := ⟨_, rfl⟩
  have hsz : ws.heap.size = w2.heap.size := by rw [hws]; simp [World.setCell]
  rw [← hws] at h3 o3 b3 ⊢
  clear hws
  rw [← hsz] at h3 ⊢
  refine ⟨(h3.alloc _).alloc _, ⟨⟨.map [], ?_, agree_nil⟩, by omega, World.ownsRow_nil _ _ _ _, ?_⟩, (o3.alloc _).alloc _, (b3.alloc (by omega) _).alloc (by simp; omega) _⟩
  · exact (World.ownsMap_made ws Try.prog 39 (plainElem Try.prog 3)).alloc _
  · refine ⟨by simp [stC], .inr ⟨ws.heap.size + 1, 1, #[.int .u32 0], rfl, by omega, ?_, Nat.le_refl _, by decide, rfl, rfl⟩⟩
    have := heap_alloc_new (ws.alloc (.map #[] 0)) (.cells #[.int .u32 0] 81)
    simpa using this

def sl (b n : Nat) : Value := .slice (some ⟨b, 0, none⟩) n n
def sv8 (l : List UInt8) : Value := .string ⟨l.toArray⟩

/-- the state of the loops -/
structure LPs (w wx : World) (fb mb : Nat) (ov rv sv : Value) (o : List UInt8) (cb gb nb hb n : Nat) (Cv Gv Nv Hv : Nat → Value) (sn : Int) (N : List Nd) : Prop where
  bs : BS w wx fb mb ov rv sv o (.slice (some ⟨cb, 0, none⟩) n n) (.slice (some ⟨gb, 0, none⟩) n n) (.slice (some ⟨nb, 0, none⟩) n n) (.slice (some ⟨hb, 0, none⟩) n n) sn N
  c : wx.rowIs cb 9 n Cv
  g : wx.rowIs gb 9 n Gv
  nn : wx.rowIs nb 3 n Nv
  hh : wx.rowIs hb 3 n Hv

theorem BS.below {w wx w' : World} {fb mb : Nat} {ov rv sv : Value} {o : List UInt8} {cv gv nv hv : Value} {sn : Int} {N : List Nd} (h : BS w wx fb mb ov rv sv o cv gv nv hv sn N) (hb : Below wx.heap.size wx w') : BS w w' fb mb ov rv sv o cv gv nv hv sn N := by
  refine ⟨h.fr.of_block (hb.block fb h.fr.lt), ?_, owned_kept h.oo (fun k _ hk => hb.block k hk), h.bl.trans (hb.mono (Nat.le_of_lt h.fr.lt))⟩
  obtain ⟨⟨D, hD, hag⟩, h2, h3, h4⟩ := h.z
  refine ⟨⟨D, ?_, hag⟩, h2, owned_kept h3 (fun k _ hk => hb.block k hk), owned_kept h4 (fun k _ hk => hb.block k hk)⟩
  have hl := hD.lt
  obtain ⟨es, clock, h1, r⟩ := hD
  exact ⟨es, clock, (hb.block mb hl).trans h1, r⟩
theorem BS.set {w wx : World} {fb mb i b m : Nat} {t : TypeId} {F : Nat → Value} {ov rv sv : Value} {o : List UInt8} {cv gv nv hv : Value} {sn : Int} {N : List Nd} (h : BS w wx fb mb ov rv sv o cv gv nv hv sn N) (hr : wx.rowIs b t m F) (h1 : t ≠ 35) (h2 : t ≠ 88) (h3 : t ≠ 81) (h4 : t ≠ 5) (hb : fb ≤ b) (u : Value) : BS w (wx.setCell ⟨b, i, none⟩ u) fb mb ov rv sv o cv gv nv hv sn N := by
  refine ⟨h.fr.setOther (a := ⟨b, i, none⟩) (fun e => ?_) u, h.z.set hr h2 h3 u, own_set_other h.oo hr (fun e => h4 e.symm) u, h.bl.setCell (p := ⟨b, i, none⟩) hb u⟩
  have e' : fb = b := e
  subst e'
  obtain ⟨c1, hb1, _⟩ := h.fr
  obtain ⟨c2, hb2, _⟩ := hr
  rw [hb1] at hb2
  cases hb2
  exact h1 rfl
theorem row_ne {w : World} {b b' m m' : Nat} {t t' : TypeId} {F F' : Nat → Value} (h : w.rowIs b t m F) (h' : w.rowIs b' t' m' F') (hne : t ≠ t') : b ≠ b' := by
  intro e
  subst e
  obtain ⟨c1, hb1, _⟩ := h
  obtain ⟨c2, hb2, _⟩ := h'
  rw [hb1] at hb2
  cases hb2
  exact hne rfl

section
variable {w wx w' : World} {fb mb : Nat} {ov rv sv : Value} {o : List UInt8} {cb gb nb hb n : Nat} {Cv Gv Nv Hv : Nat → Value} {sn : Int} {N : List Nd}
theorem LPs.below (h : LPs w wx fb mb ov rv sv o cb gb nb hb n Cv Gv Nv Hv sn N) (b : Below wx.heap.size wx w') : LPs w w' fb mb ov rv sv o cb gb nb hb n Cv Gv Nv Hv sn N :=
  ⟨h.bs.below b, h.c.of_block (b.block _ h.c.lt), h.g.of_block (b.block _ h.g.lt), h.nn.of_block (b.block _ h.nn.lt), h.hh.of_block (b.block _ h.hh.lt)⟩
theorem LPs.setC (h : LPs w wx fb mb ov rv sv o cb gb nb hb n Cv Gv Nv Hv sn N) (hne : cb ≠ gb) (hb' : fb ≤ cb) (k : Nat) (v : Value) : LPs w (wx.setCell ⟨cb, k, none⟩ v) fb mb ov rv sv o cb gb nb hb n (fun j => if j = k then v else Cv j) Gv Nv Hv sn N :=
  ⟨h.bs.set h.c (by decide) (by decide) (by decide) (by decide) hb' v, h.c.set k v, h.g.setOther (a := ⟨cb, k, none⟩) (fun e => hne e.symm) v, h.nn.setOther (a := ⟨cb, k, none⟩) (row_ne h.nn h.c (by decide)) v, h.hh.setOther (a := ⟨cb, k, none⟩) (row_ne h.hh h.c (by decide)) v⟩
theorem LPs.setG (h : LPs w wx fb mb ov rv sv o cb gb nb hb n Cv Gv Nv Hv sn N) (hne : cb ≠ gb) (hb' : fb ≤ gb) (k : Nat) (v : Value) : LPs w (wx.setCell ⟨gb, k, none⟩ v) fb mb ov rv sv o cb gb nb hb n Cv (fun j => if j = k then v else Gv j) Nv Hv sn N :=
  ⟨h.bs.set h.g (by decide) (by decide) (by decide) (by decide) hb' v, h.c.setOther (a := ⟨gb, k, none⟩) hne v, h.g.set k v, h.nn.setOther (a := ⟨gb, k, none⟩) (row_ne h.nn h.g (by decide)) v, h.hh.setOther (a := ⟨gb, k, none⟩) (row_ne h.hh h.g (by decide)) v⟩
theorem LPs.setN (h : LPs w wx fb mb ov rv sv o cb gb nb hb n Cv Gv Nv Hv sn N) (hne : nb ≠ hb) (hb' : fb ≤ nb) (k : Nat) (v : Value) : LPs w (wx.setCell ⟨nb, k, none⟩ v) fb mb ov rv sv o cb gb nb hb n Cv Gv (fun j => if j = k then v else Nv j) Hv sn N :=
  ⟨h.bs.set h.nn (by decide) (by decide) (by decide) (by decide) hb' v, h.c.setOther (a := ⟨nb, k, none⟩) (row_ne h.c h.nn (by decide)) v, h.g.setOther (a := ⟨nb, k, none⟩) (row_ne h.g h.nn (by decide)) v, h.nn.set k v, h.hh.setOther (a := ⟨nb, k, none⟩) (fun e => hne e.symm) v⟩
theorem LPs.setH (h : LPs w wx fb mb ov rv sv o cb gb nb hb n Cv Gv Nv Hv sn N) (hne : nb ≠ hb) (hb' : fb ≤ hb) (k : Nat) (v : Value) : LPs w (wx.setCell ⟨hb, k, none⟩ v) fb mb ov rv sv o cb gb nb hb n Cv Gv Nv (fun j => if j = k then v else Hv j) sn N :=
  ⟨h.bs.set h.hh (by decide) (by decide) (by decide) (by decide) hb' v, h.c.setOther (a := ⟨hb, k, none⟩) (row_ne h.c h.hh (by decide)) v, h.g.setOther (a := ⟨hb, k, none⟩) (row_ne h.g h.hh (by decide)) v, h.nn.setOther (a := ⟨hb, k, none⟩) hne v, h.hh.set k v⟩
/-- behind 'add' -/
theorem LPs.added (h : LPs w wx fb mb ov rv sv o cb gb nb hb n Cv Gv Nv Hv sn N) {p : Nd} (ha : AddPost wx fb fb mb ov (.slice (some ⟨cb, 0, none⟩) n n) (.slice (some ⟨gb, 0, none⟩) n n) (.slice (some ⟨nb, 0, none⟩) n n) (.slice (some ⟨hb, 0, none⟩) n n) sn N p w') :
    ∃ rv' sv', LPs w w' fb mb ov rv' sv' o cb gb nb hb n Cv Gv Nv Hv sn (N ++ [p]) := by
  obtain ⟨rv', sv', h1, h2, h3⟩ := ha
  exact ⟨rv', sv', ⟨h1, h2, h3.owns h.bs.oo, h.bs.bl.trans h3.below⟩, h3.rowIs h.c, h3.rowIs h.g, h3.rowIs h.nn, h3.rowIs h.hh⟩
theorem LPs.drew (h : LPs w wx fb mb ov rv sv o cb gb nb hb n Cv Gv Nv Hv sn N) : LPs w wx.drew fb mb ov rv sv o cb gb nb hb n Cv Gv Nv Hv sn N := h.below (Below.refl _ _).drew
theorem LPs.congr {Cv' Gv' Nv' Hv' : Nat → Value} (h : LPs w wx fb mb ov rv sv o cb gb nb hb n Cv Gv Nv Hv sn N) (h1 : ∀ i, i < n → Cv i = Cv' i) (h2 : ∀ i, i < n → Gv i = Gv' i) (h3 : ∀ i, i < n → Nv i = Nv' i) (h4 : ∀ i, i < n → Hv i = Hv' i) : LPs w wx fb mb ov rv sv o cb gb nb hb n Cv' Gv' Nv' Hv' sn N :=
  ⟨h.bs, h.c.congr h1, h.g.congr h2, h.nn.congr h3, h.hh.congr h4⟩
end

/-- the rows made -/
theorem made_lp {w w3 : World} {fb mb : Nat} {ov rv sv : Value} {o : List UInt8} {n : Nat} {N : List Nd} (h : BS w w3 fb mb ov rv sv o (.slice none 0 0) (.slice none 0 0) (.slice none 0 0) (.slice none 0 0) 0 N) :
    LPs w ((((((((w3.setCell ⟨fb, 4, none⟩ (.slice (some ⟨w3.heap.size, 0, none⟩) n n)).setCell ⟨fb, 5, none⟩ (.slice (some ⟨w3.heap.size + 1, 0, none⟩) n n)).setCell ⟨fb, 6, none⟩ (.slice (some ⟨w3.heap.size + 1 + 1, 0, none⟩) n n)).setCell ⟨fb, 7, none⟩ (.slice (some ⟨w3.heap.size + 1 + 1 + 1, 0, none⟩) n n)).alloc
      (.cells (madeCells #[.string ⟨#[]⟩] n) 9)).alloc (.cells (madeCells #[.string ⟨#[]⟩] n) 9)).alloc (.cells (madeCells #[.int .i64 0] n) 3)).alloc (.cells (madeCells #[.int .i64 0] n) 3)) fb mb ov rv sv o w3.heap.size (w3.heap.size + 1) (w3.heap.size + 1 + 1) (w3.heap.size + 1 + 1 + 1) n (fun _ => .string ⟨#[]⟩) (fun _ => .string ⟨#[]⟩) (fun _ => .int .i64 0) (fun _ => .int .i64 0) 0 N := by
  have hfl := h.fr.lt
  have h4 := h.fr.set 4 (.slice (some ⟨w3.heap.size, 0, none⟩) n n)
  rw [zf_set4] at h4
  have h5 := h4.set 5 (.slice (some ⟨w3.heap.size + 1, 0, none⟩) n n)
  rw [zf_set5] at h5
  have h6 := h5.set 6 (.slice (some ⟨w3.heap.size + 1 + 1, 0, none⟩) n n)
  rw [zf_set6] at h6
  have h7 := h6.set 7 (.slice (some ⟨w3.heap.size + 1 + 1 + 1, 0, none⟩) n n)
  rw [zf_set7] at h7
  have z4 := h.z.set (i := 4) h.fr (by decide) (by decide) (.slice (some ⟨w3.heap.size, 0, none⟩) n n)
  have z5 := z4.set (i := 5) h4 (by decide) (by decide) (.slice (some ⟨w3.heap.size + 1, 0, none⟩) n n)
  have z6 := z5.set (i := 6) h5 (by decide) (by decide) (.slice (some ⟨w3.heap.size + 1 + 1, 0, none⟩) n n)
  have z7 := z6.set (i := 7) h6 (by decide) (by decide) (.slice (some ⟨w3.heap.size + 1 + 1 + 1, 0, none⟩) n n)
  have o4 := own_set_other (i := 4) h.oo h.fr (by decide) (.slice (some ⟨w3.heap.size, 0, none⟩) n n)
  have o5 := own_set_other (i := 5) o4 h4 (by decide) (.slice (some ⟨w3.heap.size + 1, 0, none⟩) n n)
  have o6 := own_set_other (i := 6) o5 h5 (by decide) (.slice (some ⟨w3.heap.size + 1 + 1, 0, none⟩) n n)
  have o7 := own_set_other (i := 7) o6 h6 (by decide) (.slice (some ⟨w3.heap.size + 1 + 1 + 1, 0, none⟩) n n)
  have b7 := (((h.bl.setCell (p := ⟨fb, 4, none⟩) (Nat.le_refl _) (.slice (some ⟨w3.heap.size, 0, none⟩) n n)).setCell (p := ⟨fb, 5, none⟩) (Nat.le_refl _) (.slice (some ⟨w3.heap.size + 1, 0, none⟩) n n)).setCell (p := ⟨fb, 6, none⟩) (Nat.le_refl _) (.slice (some ⟨w3.heap.size + 1 + 1, 0, none⟩) n n)).setCell (p := ⟨fb, 7, none⟩) (Nat.le_refl _) (.slice (some ⟨w3.heap.size + 1 + 1 + 1, 0, none⟩) n n)
  obtain ⟨ws, hws⟩ : ∃ ws, ws = (((w3.setCell ⟨fb, 4, none⟩ (.slice (some ⟨w3.heap.size, 0, none⟩) n n)).setCell ⟨fb, 5, none⟩ (.slice (some ⟨w3.heap.size + 1, 0, none⟩) n n)).setCell ⟨fb, 6, none⟩ (.slice (some ⟨w3.heap.size + 1 + 1, 0, none⟩) n n)).setCell ⟨fb, 7, none⟩ (.slice (some ⟨w3.heap.size + 1 + 1 + 1, 0, none⟩) n n) := ⟨_, rfl⟩
  have hsz : ws.heap.size = w3.heap.size := by rw [hws]; simp [World.setCell]
  rw [← hws] at h7 z7 o7 b7 ⊢
  clear hws
  rw [← hsz] at h7 ⊢
  have s1 : (ws.alloc (.cells (madeCells #[.string ⟨#[]⟩] n) 9)).heap.size = ws.heap.size + 1 := by simp
  have s2 : ((ws.alloc (.cells (madeCells #[.string ⟨#[]⟩] n) 9)).alloc (.cells (madeCells #[.string ⟨#[]⟩] n) 9)).heap.size = ws.heap.size + 1 + 1 := by simp
  have s3 : (((ws.alloc (.cells (madeCells #[.string ⟨#[]⟩] n) 9)).alloc (.cells (madeCells #[.string ⟨#[]⟩] n) 9)).alloc (.cells (madeCells #[.int .i64 0] n) 3)).heap.size = ws.heap.size + 1 + 1 + 1 := by simp
  have r1 := World.rowIs_made ws (.string ⟨#[]⟩) n 9
  have r2 := World.rowIs_made (ws.alloc (.cells (madeCells #[.string ⟨#[]⟩] n) 9)) (.string ⟨#[]⟩) n 9
  have r3 := World.rowIs_made ((ws.alloc (.cells (madeCells #[.string ⟨#[]⟩] n) 9)).alloc (.cells (madeCells #[.string ⟨#[]⟩] n) 9)) (.int .i64 0) n 3
  have r4 := World.rowIs_made (((ws.alloc (.cells (madeCells #[.string ⟨#[]⟩] n) 9)).alloc (.cells (madeCells #[.string ⟨#[]⟩] n) 9)).alloc (.cells (madeCells #[.int .i64 0] n) 3)) (.int .i64 0) n 3
  rw [s1] at r2
  rw [s2] at r3
  rw [s3] at r4
  refine ⟨⟨(((h7.alloc _).alloc _).alloc _).alloc _, (((z7.alloc _).alloc _).alloc _).alloc _, (((o7.alloc _).alloc _).alloc _).alloc _, (((b7.alloc (by omega) _).alloc (by omega) _).alloc (by omega) _).alloc (by omega) _⟩, ((r1.alloc _).alloc _).alloc _, (r2.alloc _).alloc _, r3.alloc _, r4⟩

end Go.Proofs.Qxb6003450a
