/-
  Contract: the steps of a script as the program has them. No condition.
-/
import Derived.Test.YtpijljokcoocpaaR0
import Derived.Test.YtpijljokcoocpaaGH
import Derived.Deep.AppendLies
namespace Go.Proofs.Ytpijljokcoocpaa
open Go.ChangeShapes Go.WideShapes Go.ChangeAt Go.RowKit
set_option linter.unusedVariables false
set_option linter.unusedSimpArgs false

section
variable {X Y : World} {row : Option Nat} {g b base e size n : Nat} {o : Obj} {p : Addr} {v u : Value} {xs : List Value} {cs : Array Value} {t : TypeId} {fr : Nat × Nat}
theorem bkg (hg : X.grownBy Y row) (hne : some g ≠ row) (h : X.heap[g]? = some o) : Y.heap[g]? = some o := (hg.block g (lt_of_block h) hne).trans h
theorem ckg (hg : X.grownBy Y row) (hne : some p.block ≠ row) (h : X.cell? p = some v) : Y.cell? p = some v := (hg.cell_far p (World.block_lt_of_cell? _ _ h) hne).trans h
theorem ne_own (h : X.ownsRow base e size v n xs) (k : X.heap[b]? = some (.cells cs t fr)) (ht : t ≠ e) : some b ≠ v.ownBlock := by
  rcases h.2 with ⟨rfl, _⟩ | ⟨g, cap, cur, rfl, hb, hg, _⟩
  · intro h; cases h
  · intro h
    have h1 : b = g := by simpa [Value.ownBlock] using h
    subst h1
    rw [k] at hg
    injection hg with hg
    injection hg with _ h2 _
    exact ht h2
theorem own_below {X Y : World} (h : X.ownsRow base e size v n xs) (hb : Below X.heap.size X Y) : Y.ownsRow base e size v n xs := by
  refine ⟨h.1, ?_⟩
  rcases h.2 with h | ⟨g, cap, cur, hv, hbg, hg, h4⟩
  · exact Or.inl h
  · exact Or.inr ⟨g, cap, cur, hv, hbg, (hb.block g (Array.getElem?_eq_some_iff.1 hg).1).trans hg, h4⟩
theorem toColor_any (q : Q4) (w : World) :
    Calls Try.prog 61 #[q.val] w fun e w' => e = .returned q.val ∧ Below w.heap.size w w' := by
  obtain ⟨a, b, c, d⟩ := q
  show Calls Try.prog 61 #[.agg #[.int .i64 a, .int .i64 b, .int .i64 c, .int .i64 d]] w _
  go_enter Try.func61, Try.ntmps61
  go_wp2
  exact bodyPost_ret (v := .agg #[.int .i64 a, .int .i64 b, .int .i64 c, .int .i64 d]) (by simp [results, Try.results61, go_sem]) rfl ⟨rfl, ((Below.refl _ _).alloc (Nat.le_refl _) _).alloc (by simp) _⟩

theorem toColor4 (a b c d : Int) (w : World) :
    Calls Try.prog 61 #[.agg #[.int .i64 a, .int .i64 b, .int .i64 c, .int .i64 d]] w fun e w' => e = .returned (.agg #[.int .i64 a, .int .i64 b, .int .i64 c, .int .i64 d]) ∧ Below w.heap.size w w' := toColor_any ⟨a, b, c, d⟩ w
end
theorem q11c {X : World} {g : Nat} {t : TypeId} {a0 a1 a2 a3 a4 a5 a6 a7 a8 a9 a10 : Value} (h : X.heap[g]? = some (.cells #[a0, a1, a2, a3, a4, a5, a6, a7, a8, a9, a10] t (0, 0))) :
    (X.cell? ⟨g, 0, none⟩ = some a0 ∧ X.cell? ⟨g, 1, none⟩ = some a1 ∧ X.cell? ⟨g, 2, none⟩ = some a2 ∧ X.cell? ⟨g, 3, none⟩ = some a3 ∧ X.cell? ⟨g, 4, none⟩ = some a4 ∧ X.cell? ⟨g, 5, none⟩ = some a5 ∧ X.cell? ⟨g, 6, none⟩ = some a6 ∧ X.cell? ⟨g, 7, none⟩ = some a7 ∧ X.cell? ⟨g, 8, none⟩ = some a8 ∧ X.cell? ⟨g, 9, none⟩ = some a9 ∧ X.cell? ⟨g, 10, none⟩ = some a10) ∧ True := by
  have := fun i => cell_of_row X g i _ _ (0, 0) h
  exact ⟨⟨this 0, this 1, this 2, this 3, this 4, this 5, this 6, this 7, this 8, this 9, this 10⟩, trivial⟩

/-- The eleven cells of a step that is read. -/
theorem RdSteps.at {w : World} {B b off n : Nat} {ss : List Stp} (h : RdSteps w B (some ⟨b, off, none⟩) n ss) {i : Nat} (hi : i < n) :
    ∀ j v, (ss.getD i default).cells[j]? = some v → w.cell? ⟨b, off + i * 11 + j, none⟩ = some v := by
  obtain ⟨b', off', e, _, hc⟩ := h.2.2.2 (by omega)
  injection e with e
  injection e with e1 e2
  subst e1 e2
  exact hc i hi
theorem takes_snoc (ss : List Stp) (k : Nat) (h : k < ss.length) : ss.take (k + 1) = ss.take k ++ [ss.getD k default] := by
  rw [List.take_succ_eq_append_getElem h]; simp [List.getD, h]
theorem getS_mem (ss : List Stp) (i : Nat) (h : i < ss.length) : ss.getD i default ∈ ss := by simp [List.getD, h]

def StepsOut (n : Nat) (ss : List Stp) (w : World) (e : Ending) (w' : World) : Prop :=
  ∃ A c, e = .returned (.slice A n c) ∧ RdSteps w' w'.heap.size A n ss ∧ (∀ b o, A = some ⟨b, o, none⟩ → w.heap.size ≤ b) ∧ Below w.heap.size w w'

set_option maxRecDepth 100000 in
set_option maxHeartbeats 4000000 in
theorem toSteps_any (n cp : Nat) (A : Option Addr) (ss : List Stp) (w : World) (hr : RdSteps w w.heap.size A n ss) :
    Calls Try.prog 42 #[.slice A n cp] w (StepsOut n ss w) := by
  have HR := Lib.hid hr
  have hn : n * 88 ≤ 140737488355328 := hr.2.1
  clear hr
  obtain ⟨i0, hi, hz0, hz1, hz2⟩ := info_parts (show (Try.prog.info? 62).map (fun i => (i.zero, i.size, i.bytes)) = some (some (.agg #[.int .i64 0, .int .i64 0, .int .i64 0, .int .i64 0, .int .i64 0, .int .i64 0, .int .i64 0, .int .i64 0, .int .i64 0, .int .i64 0, .int .i64 0]), 11, 88) from by kernel_rfl)
  go_enter Try.func42, Try.ntmps42
  go_wp2_with fail
  go_loopw [8, 5, 3] (fun i _ v wr => ∃ (k : Nat), k ≤ n ∧ i = .int .i64 k ∧ Hid (wr.ownsRow w.heap.size 62 11 v k (flat11 (ss.take k))) ∧ Hid (Below w.heap.size w wr)) (fun i _ _ _ => n - (intOf i).toNat)
  case atStart => exact ⟨0, by omega, rfl, World.ownsRow_nil _ _ _ _, Below.refl _ _⟩
  case round =>
    obtain ⟨k, hk, rfl, HO, HB⟩ := hrel
    by_cases hlt : k < n
    · obtain ⟨b, off, rfl, hbw, _⟩ := HR.out.2.2.2 (by omega)
      have hx := (HR.out.below HB.out).at hlt
      have HT := Lib.hid (takes_snoc ss k (by rw [HR.out.1]; exact hlt))
      generalize ss.getD k default = s at hx HT
      have x0 : wr.cell? ⟨b, off + k * 11, none⟩ = some (.int .i64 s.k) := hx 0 _ rfl
      have x1 : wr.cell? ⟨b, off + k * 11 + 1, none⟩ = some (.int .i64 s.x) := hx 1 _ rfl
      have x2 : wr.cell? ⟨b, off + k * 11 + 2, none⟩ = some (.int .i64 s.y) := hx 2 _ rfl
      have x3 : wr.cell? ⟨b, off + k * 11 + 3, none⟩ = some (.int .i64 s.c.a) := hx 3 _ rfl
      have x4 : wr.cell? ⟨b, off + k * 11 + 4, none⟩ = some (.int .i64 s.c.b) := hx 4 _ rfl
      have x5 : wr.cell? ⟨b, off + k * 11 + 5, none⟩ = some (.int .i64 s.c.c) := hx 5 _ rfl
      have x6 : wr.cell? ⟨b, off + k * 11 + 6, none⟩ = some (.int .i64 s.c.d) := hx 6 _ rfl
      have x7 : wr.cell? ⟨b, off + k * 11 + 7, none⟩ = some (.int .i64 s.r.a) := hx 7 _ rfl
      have x8 : wr.cell? ⟨b, off + k * 11 + 8, none⟩ = some (.int .i64 s.r.b) := hx 8 _ rfl
      have x9 : wr.cell? ⟨b, off + k * 11 + 9, none⟩ = some (.int .i64 s.r.c) := hx 9 _ rfl
      have x10 : wr.cell? ⟨b, off + k * 11 + 10, none⟩ = some (.int .i64 s.r.d) := hx 10 _ rfl
      clear hx
      obtain ⟨V, cv, rfl⟩ := own_slice HO.out
      go_upto_region 5 with fail
      obtain ⟨W, gs, hW, hgs⟩ : ∃ W g, W = wr.alloc (.cells #[.int .i64 s.k, .int .i64 s.x, .int .i64 s.y, .int .i64 s.c.a, .int .i64 s.c.b, .int .i64 s.c.c, .int .i64 s.c.d, .int .i64 s.r.a, .int .i64 s.r.b, .int .i64 s.r.c, .int .i64 s.r.d] 95) ∧ g = wr.heap.size := ⟨_, _, rfl, rfl⟩
      have bw : Below w.heap.size w W := by rw [hW]; exact bsa HB.out
      have k_s : W.heap[gs]? = some (.cells #[.int .i64 s.k, .int .i64 s.x, .int .i64 s.y, .int .i64 s.c.a, .int .i64 s.c.b, .int .i64 s.c.c, .int .i64 s.c.d, .int .i64 s.r.a, .int .i64 s.r.b, .int .i64 s.r.c, .int .i64 s.r.d] 95 (0, 0)) := by rw [hW, hgs]; exact heap_alloc_new wr _
      have hown : W.ownsRow w.heap.size 62 11 (.slice V k cv) k (flat11 (ss.take k)) := by rw [hW]; exact HO.out.alloc _
      rw [← hW, ← hgs]
      clear hW hgs x0 x1 x2 x3 x4 x5 x6 x7 x8 x9 x10 HO
      refine wp_region_held_drew (S := fun w' => w'.cell? ⟨gs, 0, none⟩ = some (.int .i64 s.k) ∧ w'.cell? ⟨gs, 1, none⟩ = some (.int .i64 s.x) ∧ w'.cell? ⟨gs, 2, none⟩ = some (.int .i64 s.y) ∧ w'.cell? ⟨gs, 3, none⟩ = some (.int .i64 s.c.a) ∧ w'.cell? ⟨gs, 4, none⟩ = some (.int .i64 s.c.b) ∧ w'.cell? ⟨gs, 5, none⟩ = some (.int .i64 s.c.c) ∧ w'.cell? ⟨gs, 6, none⟩ = some (.int .i64 s.c.d) ∧ w'.cell? ⟨gs, 7, none⟩ = some (.int .i64 s.r.a) ∧ w'.cell? ⟨gs, 8, none⟩ = some (.int .i64 s.r.b) ∧ w'.cell? ⟨gs, 9, none⟩ = some (.int .i64 s.r.c) ∧ w'.cell? ⟨gs, 10, none⟩ = some (.int .i64 s.r.d)) (by kernel_rfl) ⟨(q11c k_s).1.1, (q11c k_s).1.2.1, (q11c k_s).1.2.2.1, (q11c k_s).1.2.2.2.1, (q11c k_s).1.2.2.2.2.1, (q11c k_s).1.2.2.2.2.2.1, (q11c k_s).1.2.2.2.2.2.2.1, (q11c k_s).1.2.2.2.2.2.2.2.1, (q11c k_s).1.2.2.2.2.2.2.2.2.1, (q11c k_s).1.2.2.2.2.2.2.2.2.2.1, (q11c k_s).1.2.2.2.2.2.2.2.2.2.2⟩ ?_
      intro hHeld
      obtain ⟨X1, eX, bc⟩ : ∃ X, X = W.drew ∧ Below W.heap.size W X := ⟨_, rfl, (Below.refl _ _).drew⟩
      rw [← eX] at hHeld ⊢
      replace k_s := bk bc k_s
      replace bw := bst bc bw
      (try replace hown := own_below hown bc)
      clear eX bc
      refine takx (i := 0) (D := 12) (v := .slice V k cv) rfl rfl (by kernel_rfl) (by kernel_rfl) (by kernel_rfl) (fun _ _ _ h => h) (Or.inl ⟨by rfl, fun W hSw => by (try dsimp only at hSw); go_simp⟩) (by assumption) ?_
      (try simp only [List.setIfInBounds_toArray, List.set_cons_zero, List.set_cons_succ])
      refine takx (i := 1) (D := 13) (v := .pointer (some ⟨gs, 0, none⟩)) rfl rfl (by kernel_rfl) (by kernel_rfl) (by kernel_rfl) (fun _ _ _ h => h) (Or.inl ⟨by rfl, fun W hSw => by (try dsimp only at hSw); go_simp⟩) (by assumption) ?_
      (try simp only [List.setIfInBounds_toArray, List.set_cons_zero, List.set_cons_succ])
      refine takx (i := 2) (D := 14) (v := .int .i64 s.k) rfl rfl (by kernel_rfl) (by kernel_rfl) (by kernel_rfl) (fun _ _ _ h => h) (Or.inl ⟨by rfl, fun W hSw => by (try dsimp only at hSw); go_simp⟩) (by assumption) ?_
      (try simp only [List.setIfInBounds_toArray, List.set_cons_zero, List.set_cons_succ])
      refine takx (i := 3) (D := 15) (v := .pointer (some ⟨gs, 1, none⟩)) rfl rfl (by kernel_rfl) (by kernel_rfl) (by kernel_rfl) (fun _ _ _ h => h) (Or.inl ⟨by rfl, fun W hSw => by (try dsimp only at hSw); go_simp⟩) (by assumption) ?_
      (try simp only [List.setIfInBounds_toArray, List.set_cons_zero, List.set_cons_succ])
      refine takx (i := 4) (D := 16) (v := .int .i64 s.x) rfl rfl (by kernel_rfl) (by kernel_rfl) (by kernel_rfl) (fun _ _ _ h => h) (Or.inl ⟨by rfl, fun W hSw => by (try dsimp only at hSw); go_simp⟩) (by assumption) ?_
      (try simp only [List.setIfInBounds_toArray, List.set_cons_zero, List.set_cons_succ])
      refine takx (i := 5) (D := 17) (v := .pointer (some ⟨gs, 2, none⟩)) rfl rfl (by kernel_rfl) (by kernel_rfl) (by kernel_rfl) (fun _ _ _ h => h) (Or.inl ⟨by rfl, fun W hSw => by (try dsimp only at hSw); go_simp⟩) (by assumption) ?_
      (try simp only [List.setIfInBounds_toArray, List.set_cons_zero, List.set_cons_succ])
      refine takx (i := 6) (D := 18) (v := .int .i64 s.y) rfl rfl (by kernel_rfl) (by kernel_rfl) (by kernel_rfl) (fun _ _ _ h => h) (Or.inl ⟨by rfl, fun W hSw => by (try dsimp only at hSw); go_simp⟩) (by assumption) ?_
      (try simp only [List.setIfInBounds_toArray, List.set_cons_zero, List.set_cons_succ])
      refine takx (i := 7) (D := 19) (v := .pointer (some ⟨gs, 3, none⟩)) rfl rfl (by kernel_rfl) (by kernel_rfl) (by kernel_rfl) (fun _ _ _ h => h) (Or.inl ⟨by rfl, fun W hSw => by (try dsimp only at hSw); go_simp⟩) (by assumption) ?_
      (try simp only [List.setIfInBounds_toArray, List.set_cons_zero, List.set_cons_succ])
      refine takx (i := 8) (D := 20) (v := .agg #[.int .i64 s.c.a, .int .i64 s.c.b, .int .i64 s.c.c, .int .i64 s.c.d]) rfl rfl (by kernel_rfl) (by kernel_rfl) (by kernel_rfl) (fun _ _ _ h => h) (Or.inl ⟨by rfl, fun W hSw => by (try dsimp only at hSw); go_simp⟩) (by assumption) ?_
      (try simp only [List.setIfInBounds_toArray, List.set_cons_zero, List.set_cons_succ])
      refine takx (i := 10) (D := 22) (v := .pointer (some ⟨gs, 7, none⟩)) rfl rfl (by kernel_rfl) (by kernel_rfl) (by kernel_rfl) (fun _ _ _ h => h) (Or.inl ⟨by rfl, fun W hSw => by (try dsimp only at hSw); go_simp⟩) (by assumption) ?_
      (try simp only [List.setIfInBounds_toArray, List.set_cons_zero, List.set_cons_succ])
      refine takx (i := 11) (D := 23) (v := .agg #[.int .i64 s.r.a, .int .i64 s.r.b, .int .i64 s.r.c, .int .i64 s.r.d]) rfl rfl (by kernel_rfl) (by kernel_rfl) (by kernel_rfl) (fun _ _ _ h => h) (Or.inl ⟨by rfl, fun W hSw => by (try dsimp only at hSw); go_simp⟩) (by assumption) ?_
      (try simp only [List.setIfInBounds_toArray, List.set_cons_zero, List.set_cons_succ])
      refine wpAnyH_ready (rs := [9]) (by kernel_rfl) (by simp) ?_
      refine (AllReadyH.cons rfl (fun K hK => ?_) AllReadyH.nil)
      go_simp
      refine (toColor4 s.c.a s.c.b s.c.c s.c.d _).mono ?_
      rintro e X2 ⟨rfl, bc⟩
      refine hK.out _ _ ⟨ck bc hHeld.1, ck bc hHeld.2.1, ck bc hHeld.2.2.1, ck bc hHeld.2.2.2.1, ck bc hHeld.2.2.2.2.1, ck bc hHeld.2.2.2.2.2.1, ck bc hHeld.2.2.2.2.2.2.1, ck bc hHeld.2.2.2.2.2.2.2.1, ck bc hHeld.2.2.2.2.2.2.2.2.1, ck bc hHeld.2.2.2.2.2.2.2.2.2.1, ck bc hHeld.2.2.2.2.2.2.2.2.2.2⟩ (fun hHeld => ?_)
      clear hK K
      (try simp only [List.setIfInBounds_toArray, List.set_cons_zero, List.set_cons_succ])
      replace k_s := bk bc k_s
      replace bw := bst bc bw
      (try replace hown := own_below hown bc)
      clear bc
      refine wpAnyH_ready (rs := [12]) (by kernel_rfl) (by simp) ?_
      refine (AllReadyH.cons rfl (fun K hK => ?_) AllReadyH.nil)
      go_simp
      refine (toRect4 s.r.a s.r.b s.r.c s.r.d _).mono ?_
      rintro e X3 ⟨rfl, bc⟩
      refine hK.out _ _ ⟨ck bc hHeld.1, ck bc hHeld.2.1, ck bc hHeld.2.2.1, ck bc hHeld.2.2.2.1, ck bc hHeld.2.2.2.2.1, ck bc hHeld.2.2.2.2.2.1, ck bc hHeld.2.2.2.2.2.2.1, ck bc hHeld.2.2.2.2.2.2.2.1, ck bc hHeld.2.2.2.2.2.2.2.2.1, ck bc hHeld.2.2.2.2.2.2.2.2.2.1, ck bc hHeld.2.2.2.2.2.2.2.2.2.2⟩ (fun hHeld => ?_)
      clear hK K
      (try simp only [List.setIfInBounds_toArray, List.set_cons_zero, List.set_cons_succ])
      replace k_s := bk bc k_s
      replace bw := bst bc bw
      (try replace hown := own_below hown bc)
      clear bc
      refine takx (i := 13) (D := 25) (v := .agg #[.int .i64 s.k, .int .i64 s.x, .int .i64 s.y, .int .i64 s.c.a, .int .i64 s.c.b, .int .i64 s.c.c, .int .i64 s.c.d, .int .i64 s.r.a, .int .i64 s.r.b, .int .i64 s.r.c, .int .i64 s.r.d]) rfl rfl (by kernel_rfl) (by kernel_rfl) (by kernel_rfl) (fun _ _ _ h => h) (Or.inl ⟨by rfl, fun W hSw => by (try dsimp only at hSw); go_simp⟩) (by assumption) ?_
      (try simp only [List.setIfInBounds_toArray, List.set_cons_zero, List.set_cons_succ])
      refine wpAnyH_ready (rs := [14]) (by kernel_rfl) (by simp) ?_
      refine (AllReadyH.cons rfl (fun K hK => ?_) AllReadyH.nil)
      go_simp
      refine hK.out _ _ ⟨cka hHeld.1, cka hHeld.2.1, cka hHeld.2.2.1, cka hHeld.2.2.2.1, cka hHeld.2.2.2.2.1, cka hHeld.2.2.2.2.2.1, cka hHeld.2.2.2.2.2.2.1, cka hHeld.2.2.2.2.2.2.2.1, cka hHeld.2.2.2.2.2.2.2.2.1, cka hHeld.2.2.2.2.2.2.2.2.2.1, cka hHeld.2.2.2.2.2.2.2.2.2.2⟩ (fun hHeld => ?_)
      clear hK K
      (try simp only [List.setIfInBounds_toArray, List.set_cons_zero, List.set_cons_succ])
      obtain ⟨X4, g4, eY, eg⟩ : ∃ Y g, Y = X3.alloc (.cells #[.int .i64 s.k, .int .i64 s.x, .int .i64 s.y, .int .i64 s.c.a, .int .i64 s.c.b, .int .i64 s.c.c, .int .i64 s.c.d, .int .i64 s.r.a, .int .i64 s.r.b, .int .i64 s.r.c, .int .i64 s.r.d] 62) ∧ g = X3.heap.size := ⟨_, _, rfl, rfl⟩
      rw [← eY, ← eg]
      rw [← eY] at hHeld
      have bc : Below X3.heap.size X3 X4 := by rw [eY]; exact (Below.refl _ _).alloc (Nat.le_refl _) _
      have k_n26 : X4.heap[g4]? = some (.cells #[.int .i64 s.k, .int .i64 s.x, .int .i64 s.y, .int .i64 s.c.a, .int .i64 s.c.b, .int .i64 s.c.c, .int .i64 s.c.d, .int .i64 s.r.a, .int .i64 s.r.b, .int .i64 s.r.c, .int .i64 s.r.d] 62 (0, 0)) := by rw [eY, eg]; exact heap_alloc_new X3 _
      have hown0 := hown
      have hglt : ∀ j, (Value.slice V k cv).ownBlock = some j → j < g4 := fun j hj => by rw [eg]; exact (hown.lt j hj).2
      replace k_s := bk bc k_s
      replace bw := bst bc bw
      (try replace hown := own_below hown bc)
      clear bc eY eg
      refine wpAnyH_ready (rs := [15]) (by kernel_rfl) (by simp) ?_
      refine (AllReadyH.cons rfl (fun K hK => ?_) AllReadyH.nil)
      refine step_append_lies _ (by rfl) _ _ _ (by rfl) w.heap.size 62 i0 (.agg #[.int .i64 0, .int .i64 0, .int .i64 0, .int .i64 0, .int .i64 0, .int .i64 0, .int .i64 0, .int .i64 0, .int .i64 0, .int .i64 0, .int .i64 0]) 11 88 Try.underlying52 hi hz0 hz1 hz2 rfl (by decide) (.slice V k cv) (k) (flat11 (ss.take k)) (by rfl) hown ⟨g4, 0, none⟩ 1 1 [.int .i64 s.k, .int .i64 s.x, .int .i64 s.y, .int .i64 s.c.a, .int .i64 s.c.b, .int .i64 s.c.c, .int .i64 s.c.d, .int .i64 s.r.a, .int .i64 s.r.b, .int .i64 s.r.c, .int .i64 s.r.d] (by rfl) (by rfl) (World.news_of_block k_n26) (by simp [Value.oneCell']) (by omega) (by unfold maxLen; omega) (by omega) bw.size _ rfl ?_
      intro gg cap X5 hown' hgrow hat hlt
      have nr_s : some gs ≠ (Value.slice V k cv).ownBlock := ne_own hown k_s (by decide)
      have nr_n26 : some g4 ≠ (Value.slice V k cv).ownBlock := fun e => absurd (hglt _ e.symm) (Nat.lt_irrefl _)
      refine hK.out _ _ ⟨(ckg hgrow nr_s hHeld.1), (ckg hgrow nr_s hHeld.2.1), (ckg hgrow nr_s hHeld.2.2.1), (ckg hgrow nr_s hHeld.2.2.2.1), (ckg hgrow nr_s hHeld.2.2.2.2.1), (ckg hgrow nr_s hHeld.2.2.2.2.2.1), (ckg hgrow nr_s hHeld.2.2.2.2.2.2.1), (ckg hgrow nr_s hHeld.2.2.2.2.2.2.2.1), (ckg hgrow nr_s hHeld.2.2.2.2.2.2.2.2.1), (ckg hgrow nr_s hHeld.2.2.2.2.2.2.2.2.2.1), (ckg hgrow nr_s hHeld.2.2.2.2.2.2.2.2.2.2)⟩ (fun hHeld => ?_)
      clear hK K
      (try simp only [List.setIfInBounds_toArray, List.set_cons_zero, List.set_cons_succ])
      replace k_s := bkg hgrow nr_s k_s
      replace k_n26 := bkg hgrow nr_n26 k_n26
      refine takx (i := 16) (D := 3) (v := .slice (some ⟨gg, 0, none⟩) (k + 1) cap) rfl rfl (by kernel_rfl) (by kernel_rfl) (by kernel_rfl) (fun _ _ _ h => h) (Or.inl ⟨by rfl, fun W hSw => by (try dsimp only at hSw); go_simp⟩) (by assumption) ?_
      (try simp only [List.setIfInBounds_toArray, List.set_cons_zero, List.set_cons_succ])
      refine wpAnyH_done (by kernel_rfl) ?_ _
      have bz := bw.grown hgrow bw.size (by intro j hj; exact (hown.lt j hj).1)
      clear hHeld
      go_wp2
      go_roundw
      case rel => exact ⟨k + 1, by omega, by go_num, by rw [HT.out, flat11_append]; exact hown', bz⟩
      case measure => simp [intOf]; omega
    · obtain rfl : k = n := by omega
      obtain ⟨A', cp', rfl⟩ := own_slice HO.out
      go_wp2
      go_ret
      have hqs : ss.take k = ss := List.take_of_length_le (by rw [HR.out.1]; exact Nat.le_refl _)
      have own1 := HO.out
      rw [hqs] at own1
      obtain ⟨A2, c2, e2, rd2, lo2⟩ := RdSteps.of_own own1 hn HR.out.2.2.1
      simp only [Value.slice.injEq, true_and] at e2
      obtain ⟨rfl, rfl⟩ := e2
      exact ⟨A', cp', rfl, rd2, lo2, HB.out⟩

end Go.Proofs.Ytpijljokcoocpaa
