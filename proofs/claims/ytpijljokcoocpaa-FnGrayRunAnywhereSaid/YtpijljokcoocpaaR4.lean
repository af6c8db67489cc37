/-
  Contract: a script on a gray image, by the program. No condition.
-/
import Derived.Test.YtpijljokcoocpaaR3
namespace Go.Proofs.Ytpijljokcoocpaa
open Go.ChangeShapes Go.WideShapes Go.ChangeAt Go.RowKit
set_option linter.unusedVariables false
set_option linter.unusedSimpArgs false

theorem ta_img (g : Nat) (W : World) : (Instr.typeAssert (.iface 66 (.pointer (some ⟨g, 0, none⟩))) 91 66 false).run Try.prog W = .ok (.pointer (some ⟨g, 0, none⟩)) W := by kernel_rfl
theorem whole_view {X : World} {gp gb N : Nat} {R : Q4} (h : Img X gp gb 0 N (R.c - R.a) R.a R.b R.c R.d) : MView X gp gb N R (some R) :=
  .inr ⟨R, 0, rfl, by rw [Int.sub_self, Int.zero_mul, Int.sub_self]; rfl, Nat.zero_le _, h⟩

/-- What a script hands back. -/
def RunOut (a b c d : Int) (N : Nat) (g : GS) (w : World) (e : Ending) (w' : World) : Prop :=
  ∃ A1 c1 A2 c2 A3 c3 os, e = .returned (.tuple #[.slice A1 g.cs.length c1, .slice A2 (os : List Int).length c2, .agg #[.int .i64 a, .int .i64 b, .int .i64 c, .int .i64 d, .int .i64 (c - a), .slice A3 N c3]]) ∧
    Rd w' w'.heap.size A1 g.cs.length g.cs ∧ Rd w' w'.heap.size A2 os.length os ∧ os.length = g.os.length ∧ (g.ins → os = g.os) ∧ Rd w' w'.heap.size A3 N g.bs ∧
    (∀ b o, A1 = some ⟨b, o, none⟩ → w.heap.size ≤ b) ∧ (∀ b o, A2 = some ⟨b, o, none⟩ → w.heap.size ≤ b) ∧ (∀ b o, A3 = some ⟨b, o, none⟩ → w.heap.size ≤ b) ∧ Below w.heap.size w w'

theorem own_set6 {X : World} {base e size n g : Nat} {v : Value} {xs : List Value} {u0 u1 u2 u3 u4 u5 : Value} (h : X.ownsRow base e size v n xs) (hg : g < base) :
    ((((((X.setCell ⟨g, 0, none⟩ u0).setCell ⟨g, 1, none⟩ u1).setCell ⟨g, 2, none⟩ u2).setCell ⟨g, 3, none⟩ u3).setCell ⟨g, 4, none⟩ u4).setCell ⟨g, 5, none⟩ u5).ownsRow base e size v n xs :=
  ownsRow_setCell_below (ownsRow_setCell_below (ownsRow_setCell_below (ownsRow_setCell_below (ownsRow_setCell_below (ownsRow_setCell_below h (a := ⟨g, 0, none⟩) hg u0) (a := ⟨g, 1, none⟩) hg u1) (a := ⟨g, 2, none⟩) hg u2) (a := ⟨g, 3, none⟩) hg u3) (a := ⟨g, 4, none⟩) hg u4) (a := ⟨g, 5, none⟩) hg u5

set_option maxRecDepth 100000 in
set_option maxHeartbeats 4000000 in
theorem grayRun_any (a b c d : Int) (N : Nat) (h3 : 0 ≤ c - a) (h4 : c - a ≤ 1000) (h5 : 0 ≤ d - b) (h6 : d - b ≤ 1000) (hN : (c - a) * (d - b) = N) (n cp : Nat) (Z : Option Addr) (zs : List Int) (m cs : Nat) (S : Option Addr) (ss : List Stp) (w : World) (hr : Rd w w.heap.size Z n zs) (hs : RdSteps w w.heap.size S m ss) :
    Calls Try.prog 44 #[.agg #[.int .i64 a, .int .i64 b, .int .i64 c, .int .i64 d], .slice Z n cp, .slice S m cs] w (RunOut a b c d N (grun ⟨a, b, c, d⟩ (gini ⟨a, b, c, d⟩ (byt N zs)) ss) w) := by
  have kN := area_le h3 h4 h5 h6 hN
  have HN := Lib.hid hN
  have HR := Lib.hid hr
  have HS := Lib.hid hs
  have hm88 : m * 88 ≤ 140737488355328 := hs.2.1
  clear hN hr hs
  obtain ⟨i0, hi, hz0, hz1, hz2⟩ := info_parts (show (Try.prog.info? 3).map (fun i => (i.zero, i.size, i.bytes)) = some (some (.int .i64 0), 1, 8) from by kernel_rfl)
  have b0 : Below w.heap.size w ((w.alloc (.cells #[.int .i64 a, .int .i64 b, .int .i64 c, .int .i64 d] 26)).alloc (.cells #[.int .i64 0, .int .i64 0, .int .i64 0, .int .i64 0, .int .i64 0, .slice none 0 0] 29)) := bsa (bsa (Below.refl _ _))
  go_enter Try.func44, Try.ntmps44
  go_wp2_with fail
  refine (inewGray_any a b c d N n cp 0 Z zs h3 h4 h5 h6 HN.out _ ((HR.out.below b0).more b0.size)).mono ?_
  rintro e w2 ⟨gp, gb, rfl, hgp, hgb, himg, hpix, b2⟩
  have inv0 : GInv w w2.heap.size gp gb gp N ⟨a, b, c, d⟩ (gini ⟨a, b, c, d⟩ (byt N zs)) (.slice none 0 0) (.slice none 0 0) [] w2 :=
    ⟨bst b2 b0, bk b2 (heap_new2 w _ _), himg, hpix, whole_view himg, World.ownsRow_nil _ _ _ _, World.ownsRow_nil _ _ _ _, fun j hj => by simp [Value.ownBlock] at hj, Nat.le_refl _, hpix.lt, by simpa using hgb, rfl, fun _ => rfl, fun u hu => by cases hu⟩
  have INV0 := Lib.hid inv0
  clear inv0 himg hpix b2 b0 hgp hgb
  go_wp2_with fail
  go_loopw [21, 14, 10, 11, 12] (fun i _ mm vc vo wr => ∃ (k gm : Nat) (os : List Int), k ≤ m ∧ i = .int .i64 k ∧ mm = .pointer (some ⟨gm, 0, none⟩) ∧ Hid (GInv w w2.heap.size gp gb gm N ⟨a, b, c, d⟩ (grun ⟨a, b, c, d⟩ (gini ⟨a, b, c, d⟩ (byt N zs)) (ss.take k)) vc vo os wr)) (fun i _ _ _ _ _ => m - (intOf i).toNat)
  case atStart => exact ⟨0, gp, [], by omega, rfl, rfl, INV0⟩
  case round =>
    obtain ⟨k, gm, os, hk, rfl, rfl, HI⟩ := hrel
    have hlen := grun_len ⟨a, b, c, d⟩ (gini ⟨a, b, c, d⟩ (byt N zs)) (ss.take k)
    have GK := Lib.hid ((gini_ok ⟨a, b, c, d⟩ N zs).run (ss.take k))
    have hcl : (ss.take k).length ≤ k := List.length_take_le _ _
    by_cases hlt : k < m
    · obtain ⟨bl, off, rfl, hbw, _⟩ := HS.out.2.2.2 (by omega)
      have hx := (HS.out.below HI.out.bel).at hlt
      have ET := Lib.hid (grun_take ⟨a, b, c, d⟩ (gini ⟨a, b, c, d⟩ (byt N zs)) ss k (by rw [HS.out.1]; exact hlt))
      generalize ss.getD k default = s at hx ET
      obtain ⟨kk, x, y, ⟨c1, c2, c3, c4⟩, ⟨p, q, r, t⟩⟩ := s
      have x0 : wr.cell? ⟨bl, off + k * 11, none⟩ = some (.int .i64 kk) := hx 0 _ rfl
      have x1 : wr.cell? ⟨bl, off + k * 11 + 1, none⟩ = some (.int .i64 x) := hx 1 _ rfl
      have x2 : wr.cell? ⟨bl, off + k * 11 + 2, none⟩ = some (.int .i64 y) := hx 2 _ rfl
      have x3 : wr.cell? ⟨bl, off + k * 11 + 3, none⟩ = some (.int .i64 c1) := hx 3 _ rfl
      have x4 : wr.cell? ⟨bl, off + k * 11 + 4, none⟩ = some (.int .i64 c2) := hx 4 _ rfl
      have x5 : wr.cell? ⟨bl, off + k * 11 + 5, none⟩ = some (.int .i64 c3) := hx 5 _ rfl
      have x6 : wr.cell? ⟨bl, off + k * 11 + 6, none⟩ = some (.int .i64 c4) := hx 6 _ rfl
      have x7 : wr.cell? ⟨bl, off + k * 11 + 7, none⟩ = some (.int .i64 p) := hx 7 _ rfl
      have x8 : wr.cell? ⟨bl, off + k * 11 + 8, none⟩ = some (.int .i64 q) := hx 8 _ rfl
      have x9 : wr.cell? ⟨bl, off + k * 11 + 9, none⟩ = some (.int .i64 r) := hx 9 _ rfl
      have x10 : wr.cell? ⟨bl, off + k * 11 + 10, none⟩ = some (.int .i64 t) := hx 10 _ rfl
      generalize hgg : grun ⟨a, b, c, d⟩ (gini ⟨a, b, c, d⟩ (byt N zs)) (ss.take k) = g at HI GK ET hlen
      have hcs : g.cs.length ≤ k := by have := hlen.1; simp only [gini, List.length_nil] at this; omega
      have hos : os.length ≤ k := by have := hlen.2; have := HI.out.olen; simp only [gini, List.length_nil] at hlen; omega
      clear hx hgg hlen hcl
      obtain ⟨Vc, cc, rfl⟩ := own_slice HI.out.col
      obtain ⟨Vo, co, rfl⟩ := own_slice HI.out.off
      go_upto_region 8 with fail
      obtain ⟨W, gs, hW, hgs⟩ : ∃ W g, W = wr.alloc (.cells #[.int .i64 kk, .int .i64 x, .int .i64 y, .int .i64 c1, .int .i64 c2, .int .i64 c3, .int .i64 c4, .int .i64 p, .int .i64 q, .int .i64 r, .int .i64 t] 62) ∧ g = wr.heap.size := ⟨_, _, rfl, rfl⟩
      have inv1 : GInv w w2.heap.size gp gb gm N ⟨a, b, c, d⟩ g (.slice Vc g.cs.length cc) (.slice Vo os.length co) os W := by rw [hW]; exact HI.out.below ((Below.refl _ _).alloc (Nat.le_refl _) _)
      have k_s : W.heap[gs]? = some (.cells #[.int .i64 kk, .int .i64 x, .int .i64 y, .int .i64 c1, .int .i64 c2, .int .i64 c3, .int .i64 c4, .int .i64 p, .int .i64 q, .int .i64 r, .int .i64 t] 62 (0, 0)) := by rw [hW, hgs]; exact heap_alloc_new wr _
      rw [← hW, ← hgs]
      have q_s := (q11c k_s).1
      clear hW hgs x0 x1 x2 x3 x4 x5 x6 x7 x8 x9 x10 HI k_s
      by_cases e1 : kk = 1
      · subst e1
        go_wp2_with fail
        refine (viewSet (R := ⟨a, b, c, d⟩) h3 h4 h5 h6 HN.out GK.out.view inv1.view inv1.pix GK.out.len x y c1).mono ?_
        rintro e Y ⟨rfl, hp', hg'⟩
        have inv2 := Lib.hid ((inv1.set hg' hp').weak (ins := g.ins ∧ InsS g.v ⟨1, x, y, ⟨c1, c2, c3, c4⟩, ⟨p, q, r, t⟩⟩) (fun h => h.1))
        have ES := Lib.hid (ET.out.trans (gstep1 ⟨a, b, c, d⟩ g _ rfl))
        clear hp' hg' ET inv1
        go_wp2
        go_roundw
        case rel => exact ⟨k + 1, gm, os, by omega, by go_num, rfl, by rw [ES.out]; exact inv2⟩
        case measure => simp [intOf]; omega
      by_cases e2 : kk = 2
      · subst e2
        go_wp2_with fail
        refine (viewAt (R := ⟨a, b, c, d⟩) h3 h4 h5 h6 HN.out GK.out.view inv1.view inv1.pix GK.out.len x y).mono ?_
        rintro e Y ⟨rfl, bc⟩
        have inv2 := inv1.below bc
        have hzz : 0 ≤ seen ⟨a, b, c, d⟩ g.v g.bs x y ∧ seen ⟨a, b, c, d⟩ g.v g.bs x y ≤ 255 := seen_byte GK.out.byte
        have ES := Lib.hid (ET.out.trans (gstep2 ⟨a, b, c, d⟩ g _ rfl))
        generalize seen ⟨a, b, c, d⟩ g.v g.bs x y = z at hzz ES
        obtain ⟨z1, z2⟩ := hzz
        have hfld := fun W : World => fld_any z W
        have hownc := inv2.col
        have INV2 := Lib.hid inv2
        clear ET inv1 bc
        go_wp2_with (first
          | (at_builtin; refine wpList_append_lies _ rfl _ _ 27 rfl w2.heap.size 3 i0 (.int .i64 0) 1 8 Try.underlying27 hi hz0 hz1 hz2 rfl (by decide) (.slice Vc g.cs.length cc) (g.cs.length) (ints g.cs) rfl (hownc.alloc _) ⟨Y.heap.size, 0, none⟩ 1 1 [.int .i64 z] rfl rfl ?c1 ?c2 (by decide) ?c3 ?c4 ?c5 _ rfl ?_))
        case c1 => exact World.news_of_block (cs := #[.int .i64 z]) (t := 3) (fr := (0, 0)) (heap_alloc_new Y _)
        case c2 => intro u hu; simp at hu; subst hu; rfl
        case c3 => unfold maxLen; omega
        case c4 => omega
        case c5 => have := inv2.lb; simp; omega
        intro gg cap Z hown' hgrow hat hlt'
        have inv3 := Lib.hid (((INV2.out.below ((Below.refl _ _).alloc (Nat.le_refl _) _)).addc hgrow hown' (by simpa using hat)).weak (ins := g.ins ∧ InsS g.v ⟨2, x, y, ⟨c1, c2, c3, c4⟩, ⟨p, q, r, t⟩⟩) (fun h => h.1))
        clear hown' hgrow hat hlt' inv2 hownc INV2
        go_wp2
        go_roundw
        case rel => exact ⟨k + 1, gm, os, by omega, by go_num, rfl, by rw [ES.out]; exact inv3⟩
        case measure => simp [intOf]; omega
      by_cases e3 : kk = 3
      · subst e3
        go_wp2_with fail
        refine (viewOff (R := ⟨a, b, c, d⟩) h3 h4 h5 h6 HN.out GK.out.view inv1.view ⟨3, x, y, ⟨c1, c2, c3, c4⟩, ⟨p, q, r, t⟩⟩).mono ?_
        rintro e Y ⟨z, rfl, hzI, hzv, bc⟩
        have inv2 := inv1.below bc
        have ES := Lib.hid (ET.out.trans (gstep3 ⟨a, b, c, d⟩ g _ rfl))
        have HZ := Lib.hid (show _ from And.intro hzI hzv)
        have hownc := inv2.off
        have INV2 := Lib.hid inv2
        obtain ⟨z1, z2⟩ := hzI
        clear ET inv1 bc hzv
        go_wp2_with (first
          | (at_builtin; refine wpList_append_lies _ rfl _ _ 27 rfl w2.heap.size 3 i0 (.int .i64 0) 1 8 Try.underlying27 hi hz0 hz1 hz2 rfl (by decide) (.slice Vo os.length co) (os.length) (ints os) rfl (hownc.alloc _) ⟨Y.heap.size, 0, none⟩ 1 1 [.int .i64 z] rfl rfl ?c1 ?c2 (by decide) ?c3 ?c4 ?c5 _ rfl ?_))
        case c1 => exact World.news_of_block (cs := #[.int .i64 z]) (t := 3) (fr := (0, 0)) (heap_alloc_new Y _)
        case c2 => intro u hu; simp at hu; subst hu; rfl
        case c3 => unfold maxLen; omega
        case c4 => omega
        case c5 => have := inv2.lb; simp; omega
        intro gg cap Z hown' hgrow hat hlt'
        have inv3 := Lib.hid ((INV2.out.below ((Below.refl _ _).alloc (Nat.le_refl _) _)).addo (ins := g.ins ∧ InsS g.v ⟨3, x, y, ⟨c1, c2, c3, c4⟩, ⟨p, q, r, t⟩⟩) hgrow hown' (by simpa using hat) HZ.out.1 (fun h => ⟨h.1, HZ.out.2 (h.2 (Or.inr (Or.inr rfl)))⟩))
        clear hown' hgrow hat hlt' inv2 hownc INV2
        go_wp2
        go_roundw
        case rel => exact ⟨k + 1, gm, os ++ [z], by omega, by go_num, rfl, by rw [ES.out]; exact inv3⟩
        case measure => simp [intOf]; omega
      by_cases e4 : kk = 4
      · subst e4
        go_wp2_with fail
        refine (rectangle4 p q r t _).mono ?_
        rintro e Y1 ⟨rfl, bc⟩
        have inv2 := inv1.below bc
        clear bc inv1
        go_wp2_with fail
        refine (viewSub (R := ⟨a, b, c, d⟩) h3 h4 h5 h6 HN.out GK.out.view inv2.view ⟨p, q, r, t⟩).mono ?_
        rintro e Y2 ⟨gm', rfl, hm', bc⟩
        have hta := fun W : World => ta_img gm' W
        have ES := Lib.hid (ET.out.trans (gstep4 ⟨a, b, c, d⟩ g _ rfl))
        have inv3 := Lib.hid (((inv2.below bc).look hm').weak (ins := g.ins ∧ InsS g.v ⟨4, x, y, ⟨c1, c2, c3, c4⟩, ⟨p, q, r, t⟩⟩) (fun h => h.1))
        clear hm' bc inv2 ET
        go_wp2
        go_roundw
        case rel => exact ⟨k + 1, gm', os, by omega, by go_num, rfl, by rw [ES.out]; exact inv3⟩
        case measure => simp [intOf]; omega
      by_cases e5 : kk = 5
      · subst e5
        have ES := Lib.hid (ET.out.trans (gstep5 ⟨a, b, c, d⟩ g _ rfl))
        have inv3 := Lib.hid ((inv1.look (gm' := gp) (v := some ⟨a, b, c, d⟩) (whole_view inv1.img)).weak (ins := g.ins ∧ InsS g.v ⟨5, x, y, ⟨c1, c2, c3, c4⟩, ⟨p, q, r, t⟩⟩) (fun h => h.1))
        clear inv1 ET
        go_wp2
        go_roundw
        case rel => exact ⟨k + 1, gp, os, by omega, by go_num, rfl, by rw [ES.out]; exact inv3⟩
        case measure => simp [intOf]; omega
      have t1 : (kk == 1) = false := by simpa using e1
      have t2 : (kk == 2) = false := by simpa using e2
      have t3 : (kk == 3) = false := by simpa using e3
      have t4 : (kk == 4) = false := by simpa using e4
      have t5 : (kk == 5) = false := by simpa using e5
      have ES := Lib.hid (ET.out.trans (gstep0 ⟨a, b, c, d⟩ g _ e1 e2 e3 e4 e5))
      have inv3 := Lib.hid (inv1.weak (ins := g.ins ∧ InsS g.v ⟨kk, x, y, ⟨c1, c2, c3, c4⟩, ⟨p, q, r, t⟩⟩) (fun h => h.1))
      clear inv1 ET
      go_wp2
      go_roundw
      case rel => exact ⟨k + 1, gm, os, by omega, by go_num, rfl, by rw [ES.out]; exact inv3⟩
      case measure => simp [intOf]; omega
    · obtain rfl : k = m := by omega
      have hts : ss.take k = ss := List.take_of_length_le (by rw [HS.out.1]; exact Nat.le_refl _)
      rw [hts] at HI GK hlen
      generalize hgE : grun ⟨a, b, c, d⟩ (gini ⟨a, b, c, d⟩ (byt N zs)) ss = g at HI GK hlen
      have HG := Lib.hid hgE
      clear hgE
      have hcs : g.cs.length ≤ k := by have := hlen.1; have := HS.out.1; simp only [gini, List.length_nil] at *; omega
      have hos : os.length ≤ k := by have := hlen.2; have := HI.out.olen; have := HS.out.1; simp only [gini, List.length_nil] at *; omega
      obtain ⟨Vc, cc, rfl⟩ := own_slice HI.out.col
      obtain ⟨Vo, co, rfl⟩ := own_slice HI.out.off
      clear hlen hcl hts
      have k_img : wr.heap[gp]? = some (.cells #[.slice (some ⟨gb, 0, none⟩) N N, .int .i64 (c - a), .int .i64 a, .int .i64 b, .int .i64 c, .int .i64 d] 76 (0, 0)) := HI.out.img
      have k_res := HI.out.res
      have ne_img_res : ¬ gp = w.heap.size + 1 := by
        intro e
        rw [e, k_res] at k_img
        injection k_img with k_img
        injection k_img with _ h2 _
        exact absurd h2 (by decide)
      have lo_res : w.heap.size ≤ w.heap.size + 1 := Nat.le_succ _
      have bw := HI.out.bel
      have inv := HI.out
      have lbx := HI.out.lb
      have hlw := HI.out.lw
      have hlg := HI.out.lg
      clear HI
      go_upto_region 20 with fail
      refine wp_region_held_drew (S := fun w' => w'.cell? ⟨gp, 0, none⟩ = some (.slice (some ⟨gb, 0, none⟩) N N) ∧ w'.cell? ⟨gp, 1, none⟩ = some (.int .i64 (c - a)) ∧ w'.cell? ⟨gp, 2, none⟩ = some (.int .i64 a) ∧ w'.cell? ⟨gp, 3, none⟩ = some (.int .i64 b) ∧ w'.cell? ⟨gp, 4, none⟩ = some (.int .i64 c) ∧ w'.cell? ⟨gp, 5, none⟩ = some (.int .i64 d)) (by kernel_rfl) ⟨(q6c k_img).1.1, (q6c k_img).1.2.1, (q6c k_img).1.2.2.1, (q6c k_img).1.2.2.2.1, (q6c k_img).1.2.2.2.2.1, (q6c k_img).1.2.2.2.2.2⟩ ?_
      intro hHeld
      obtain ⟨X1, eX, bc⟩ : ∃ X, X = wr.drew ∧ Below wr.heap.size wr X := ⟨_, rfl, (Below.refl _ _).drew⟩
      rw [← eX] at hHeld ⊢
      replace k_img := bk bc k_img
      replace k_res := bk bc k_res
      replace bw := bst bc bw
      (try replace inv := inv.below bc)
      (try replace lbx := Nat.le_trans lbx bc.size)
      clear eX bc
      refine takx (i := 0) (D := 76) (v := .slice Vc g.cs.length cc) rfl rfl (by kernel_rfl) (by kernel_rfl) (by kernel_rfl) (fun _ _ _ h => h) (Or.inl ⟨by rfl, fun W hSw => by (try dsimp only at hSw); go_simp⟩) (by assumption) ?_
      (try simp only [List.setIfInBounds_toArray, List.set_cons_zero, List.set_cons_succ])
      refine takx (i := 1) (D := 77) (v := .slice Vo os.length co) rfl rfl (by kernel_rfl) (by kernel_rfl) (by kernel_rfl) (fun _ _ _ h => h) (Or.inl ⟨by rfl, fun W hSw => by (try dsimp only at hSw); go_simp⟩) (by assumption) ?_
      (try simp only [List.setIfInBounds_toArray, List.set_cons_zero, List.set_cons_succ])
      refine takx (i := 2) (D := 78) (v := .pointer (some ⟨gp, 0, none⟩)) rfl rfl (by kernel_rfl) (by kernel_rfl) (by kernel_rfl) (fun _ _ _ h => h) (Or.inl ⟨by rfl, fun W hSw => by (try dsimp only at hSw); go_simp⟩) (by assumption) ?_
      (try simp only [List.setIfInBounds_toArray, List.set_cons_zero, List.set_cons_succ])
      refine takx (i := 3) (D := 79) (v := .pointer (some ⟨gp, 0, none⟩)) rfl rfl (by kernel_rfl) (by kernel_rfl) (by kernel_rfl) (fun _ _ _ h => h) (Or.inl ⟨by rfl, fun W hSw => by (try dsimp only at hSw); go_simp⟩) (by assumption) ?_
      (try simp only [List.setIfInBounds_toArray, List.set_cons_zero, List.set_cons_succ])
      refine takx (i := 4) (D := 80) (v := .pointer (some ⟨gp, 2, none⟩)) rfl rfl (by kernel_rfl) (by kernel_rfl) (by kernel_rfl) (fun _ _ _ h => h) (Or.inl ⟨by rfl, fun W hSw => by (try dsimp only at hSw); go_simp⟩) (by assumption) ?_
      (try simp only [List.setIfInBounds_toArray, List.set_cons_zero, List.set_cons_succ])
      refine takx (i := 5) (D := 81) (v := .agg #[.int .i64 a, .int .i64 b, .int .i64 c, .int .i64 d]) rfl rfl (by kernel_rfl) (by kernel_rfl) (by kernel_rfl) (fun _ _ _ h => h) (Or.inl ⟨by rfl, fun W hSw => by (try dsimp only at hSw); go_simp⟩) (by assumption) ?_
      (try simp only [List.setIfInBounds_toArray, List.set_cons_zero, List.set_cons_succ])
      refine takx (i := 6) (D := 82) (v := .pointer (some ⟨gp, 0, none⟩)) rfl rfl (by kernel_rfl) (by kernel_rfl) (by kernel_rfl) (fun _ _ _ h => h) (Or.inl ⟨by rfl, fun W hSw => by (try dsimp only at hSw); go_simp⟩) (by assumption) ?_
      (try simp only [List.setIfInBounds_toArray, List.set_cons_zero, List.set_cons_succ])
      refine takx (i := 7) (D := 83) (v := .pointer (some ⟨gp, 0, none⟩)) rfl rfl (by kernel_rfl) (by kernel_rfl) (by kernel_rfl) (fun _ _ _ h => h) (Or.inl ⟨by rfl, fun W hSw => by (try dsimp only at hSw); go_simp⟩) (by assumption) ?_
      (try simp only [List.setIfInBounds_toArray, List.set_cons_zero, List.set_cons_succ])
      refine takx (i := 8) (D := 84) (v := .pointer (some ⟨gp, 1, none⟩)) rfl rfl (by kernel_rfl) (by kernel_rfl) (by kernel_rfl) (fun _ _ _ h => h) (Or.inl ⟨by rfl, fun W hSw => by (try dsimp only at hSw); go_simp⟩) (by assumption) ?_
      (try simp only [List.setIfInBounds_toArray, List.set_cons_zero, List.set_cons_succ])
      refine takx (i := 9) (D := 85) (v := .int .i64 (c - a)) rfl rfl (by kernel_rfl) (by kernel_rfl) (by kernel_rfl) (fun _ _ _ h => h) (Or.inl ⟨by rfl, fun W hSw => by (try dsimp only at hSw); go_simp⟩) (by assumption) ?_
      (try simp only [List.setIfInBounds_toArray, List.set_cons_zero, List.set_cons_succ])
      refine takx (i := 10) (D := 86) (v := .pointer (some ⟨gp, 0, none⟩)) rfl rfl (by kernel_rfl) (by kernel_rfl) (by kernel_rfl) (fun _ _ _ h => h) (Or.inl ⟨by rfl, fun W hSw => by (try dsimp only at hSw); go_simp⟩) (by assumption) ?_
      (try simp only [List.setIfInBounds_toArray, List.set_cons_zero, List.set_cons_succ])
      refine takx (i := 11) (D := 87) (v := .pointer (some ⟨gp, 0, none⟩)) rfl rfl (by kernel_rfl) (by kernel_rfl) (by kernel_rfl) (fun _ _ _ h => h) (Or.inl ⟨by rfl, fun W hSw => by (try dsimp only at hSw); go_simp⟩) (by assumption) ?_
      (try simp only [List.setIfInBounds_toArray, List.set_cons_zero, List.set_cons_succ])
      refine takx (i := 12) (D := 88) (v := .pointer (some ⟨gp, 0, none⟩)) rfl rfl (by kernel_rfl) (by kernel_rfl) (by kernel_rfl) (fun _ _ _ h => h) (Or.inl ⟨by rfl, fun W hSw => by (try dsimp only at hSw); go_simp⟩) (by assumption) ?_
      (try simp only [List.setIfInBounds_toArray, List.set_cons_zero, List.set_cons_succ])
      refine takx (i := 13) (D := 89) (v := .slice (some ⟨gb, 0, none⟩) N N) rfl rfl (by kernel_rfl) (by kernel_rfl) (by kernel_rfl) (fun _ _ _ h => h) (Or.inl ⟨by rfl, fun W hSw => by (try dsimp only at hSw); go_simp⟩) (by assumption) ?_
      (try simp only [List.setIfInBounds_toArray, List.set_cons_zero, List.set_cons_succ])
      refine wpAnyH_ready (rs := [14]) (by kernel_rfl) (by simp) ?_
      refine (AllReadyH.cons rfl (fun K hK => ?_) AllReadyH.nil)
      go_simp
      refine (picture_any a b c d (c - a) N N (some ⟨gb, 0, none⟩) g.bs _ (by have := inv.pix.rd (off := 0) (n := N) (by rw [GK.out.len]; omega) (by omega); rw [List.drop_zero] at this; exact this)).mono ?_
      rintro e X2 ⟨A3, c3, rfl, hrd, hlo, bc⟩
      refine hK.out _ _ ⟨ck bc hHeld.1, ck bc hHeld.2.1, ck bc hHeld.2.2.1, ck bc hHeld.2.2.2.1, ck bc hHeld.2.2.2.2.1, ck bc hHeld.2.2.2.2.2⟩ (fun hHeld => ?_)
      clear hK K
      (try simp only [List.setIfInBounds_toArray, List.set_cons_zero, List.set_cons_succ])
      have RD := Lib.hid (show _ ∧ ∀ b o, A3 = some ⟨b, o, none⟩ → w2.heap.size ≤ b from And.intro hrd fun b o h => Nat.le_trans lbx (hlo b o h))
      clear hrd hlo
      replace k_img := bk bc k_img
      replace k_res := bk bc k_res
      replace bw := bst bc bw
      (try replace inv := inv.below bc)
      (try replace lbx := Nat.le_trans lbx bc.size)
      clear bc
      refine takx (i := 15) (D := 6) (v := .slice Vc g.cs.length cc) rfl rfl (by kernel_rfl) (by kernel_rfl) (by kernel_rfl) (fun _ _ _ h => h) (Or.inl ⟨by rfl, fun W hSw => by (try dsimp only at hSw); go_simp⟩) (by assumption) ?_
      (try simp only [List.setIfInBounds_toArray, List.set_cons_zero, List.set_cons_succ])
      refine takx (i := 16) (D := 7) (v := .slice Vo os.length co) rfl rfl (by kernel_rfl) (by kernel_rfl) (by kernel_rfl) (fun _ _ _ h => h) (Or.inl ⟨by rfl, fun W hSw => by (try dsimp only at hSw); go_simp⟩) (by assumption) ?_
      (try simp only [List.setIfInBounds_toArray, List.set_cons_zero, List.set_cons_succ])
      refine wpAnyH_ready (rs := [17]) (by kernel_rfl) (by simp) ?_
      refine (AllReadyH.cons rfl (fun K hK => ?_) AllReadyH.nil)
      have qq := q6c k_res
      go_simp
      clear qq
      refine hK.out _ _ ⟨(cks ne_img_res (cks ne_img_res (cks ne_img_res (cks ne_img_res (cks ne_img_res (cks ne_img_res hHeld.1)))))), (cks ne_img_res (cks ne_img_res (cks ne_img_res (cks ne_img_res (cks ne_img_res (cks ne_img_res hHeld.2.1)))))), (cks ne_img_res (cks ne_img_res (cks ne_img_res (cks ne_img_res (cks ne_img_res (cks ne_img_res hHeld.2.2.1)))))), (cks ne_img_res (cks ne_img_res (cks ne_img_res (cks ne_img_res (cks ne_img_res (cks ne_img_res hHeld.2.2.2.1)))))), (cks ne_img_res (cks ne_img_res (cks ne_img_res (cks ne_img_res (cks ne_img_res (cks ne_img_res hHeld.2.2.2.2.1)))))), (cks ne_img_res (cks ne_img_res (cks ne_img_res (cks ne_img_res (cks ne_img_res (cks ne_img_res hHeld.2.2.2.2.2))))))⟩ (fun hHeld => ?_)
      clear hK K
      (try simp only [List.setIfInBounds_toArray, List.set_cons_zero, List.set_cons_succ])
      obtain ⟨X3, eY⟩ : ∃ Y, Y = ((((((X2.setCell ⟨w.heap.size + 1, 0, none⟩ (.int .i64 a)).setCell ⟨w.heap.size + 1, 1, none⟩ (.int .i64 b)).setCell ⟨w.heap.size + 1, 2, none⟩ (.int .i64 c)).setCell ⟨w.heap.size + 1, 3, none⟩ (.int .i64 d)).setCell ⟨w.heap.size + 1, 4, none⟩ (.int .i64 (c - a))).setCell ⟨w.heap.size + 1, 5, none⟩ (.slice A3 N c3)) := ⟨_, rfl⟩
      rw [← eY] at hHeld ⊢
      replace k_img : X3.heap[gp]? = some (.cells #[.slice (some ⟨gb, 0, none⟩) N N, .int .i64 (c - a), .int .i64 a, .int .i64 b, .int .i64 c, .int .i64 d] 76 (0, 0)) := by rw [eY]; exact (bks ne_img_res (bks ne_img_res (bks ne_img_res (bks ne_img_res (bks ne_img_res (bks ne_img_res k_img))))))
      replace bw : Below w.heap.size w X3 := by rw [eY]; exact (bss lo_res (bss lo_res (bss lo_res (bss lo_res (bss lo_res (bss lo_res bw))))))
      replace k_res : X3.heap[w.heap.size + 1]? = some (.cells #[.int .i64 a, .int .i64 b, .int .i64 c, .int .i64 d, .int .i64 (c - a), .slice A3 N c3] 29 (0, 0)) := by rw [eY]; exact q6s k_res
      clear hHeld
      refine wpAnyH_done (by kernel_rfl) ?_ _
      obtain ⟨⟨s0, s1, s2, s3, s4, s5⟩, _⟩ := q6c k_res
      have INV := Lib.hid inv
      clear inv bw k_img k_res
      go_wp2_with fail
      refine bodyPost_ret (v := .tuple #[.slice Vc g.cs.length cc, .slice Vo os.length co, .agg #[.int .i64 a, .int .i64 b, .int .i64 c, .int .i64 d, .int .i64 (c - a), .slice A3 N c3]]) (by simp [results, Try.results44, go_sem, s0, s1, s2, s3, s4, s5]) rfl ?_
      rw [HG.out]
      clear s0 s1 s2 s3 s4 s5
      subst eY
      have lz : w.heap.size + 1 < w2.heap.size := by omega
      have hbl := INV.out.bel.size
      obtain ⟨A1', c1', e1, rd1, lo1⟩ := Rd.of_own (own_set6 (u0 := .int .i64 a) (u1 := .int .i64 b) (u2 := .int .i64 c) (u3 := .int .i64 d) (u4 := .int .i64 (c - a)) (u5 := .slice A3 N c3) INV.out.col lz) (by omega) (fun z hz => by have := GK.out.cols z hz; unfold I64; omega)
      obtain ⟨A2', c2', e2, rd2, lo2⟩ := Rd.of_own (own_set6 (u0 := .int .i64 a) (u1 := .int .i64 b) (u2 := .int .i64 c) (u3 := .int .i64 d) (u4 := .int .i64 (c - a)) (u5 := .slice A3 N c3) INV.out.off lz) (by omega) (fun z hz => INV.out.oI z hz)
      simp only [Value.slice.injEq, true_and] at e1 e2
      obtain ⟨rfl, rfl⟩ := e1
      obtain ⟨rfl, rfl⟩ := e2
      refine ⟨Vc, cc, Vo, co, A3, c3, os, rfl, rd1, rd2, INV.out.olen, INV.out.oin, ?_, fun b o h => by have := lo1 b o h; omega, fun b o h => by have := lo2 b o h; omega, fun b o h => by have := RD.out.2 b o h; omega, bss (by omega) (bss (by omega) (bss (by omega) (bss (by omega) (bss (by omega) (bss (by omega) INV.out.bel)))))⟩
      have na : 0 < N → ∀ b o, A3 = some ⟨b, o, none⟩ → ¬ b = w.heap.size + 1 := fun _ b o h => by have := RD.out.2 b o h; omega
      exact Rd.sized (Rd.sset na (Rd.sset na (Rd.sset na (Rd.sset na (Rd.sset na (Rd.sset na RD.out.1)))))) rfl

end Go.Proofs.Ytpijljokcoocpaa
