/-
  Contracts: filling an image, and what an image has as data. No condition.
-/
import Derived.Test.YtpllecddmpdaiaaN2
import Derived.Laws.OwnMore
namespace Go.Proofs.Ytpllecddmpdaiaa
open Go.ChangeShapes Go.WideShapes Go.ChangeAt Go.RowKit
set_option linter.unusedVariables false
set_option linter.unusedSimpArgs false

/-- The first N of some numbers, modulo 256; zeros where there are no more. -/
def byt (N : Nat) (zs : List Int) : List Int := (List.range N).map fun i => zs.getD i 0 % 256
theorem byt_length (N : Nat) (zs : List Int) : (byt N zs).length = N := by simp [byt]
theorem byt_ok (N : Nat) (zs : List Int) : ∀ z ∈ byt N zs, 0 ≤ z ∧ z ≤ 255 := by
  intro z hz
  obtain ⟨i, _, rfl⟩ := List.mem_map.1 hz
  omega
theorem byt_getD (N : Nat) (zs : List Int) (i : Nat) (h : i < N) : (byt N zs).getD i 0 = zs.getD i 0 % 256 := by simp [byt, List.getD, h]

section
variable {w w' : World} {g : Nat} {bs : List Int}
theorem Pix.lt (h : Pix w g bs) : g < w.heap.size := (Array.getElem?_eq_some_iff.1 h.1).1
theorem Pix.cell (h : Pix w g bs) {i : Nat} (hi : i < bs.length) : w.cell? ⟨g, i, none⟩ = some (.int .u8 (bs.getD i 0)) := by
  rw [cell_of_row w g i _ _ (0, 0) h.1]
  simp [pixCells, List.getD, hi]
theorem Pix.free (h : Pix w g bs) (i : Nat) : w.frozen? ⟨g, i, none⟩ = false := by simp [World.frozen?, h.1]
theorem Pix.byte (h : Pix w g bs) (i : Nat) : 0 ≤ bs.getD i 0 ∧ bs.getD i 0 ≤ 255 := by
  by_cases hi : i < bs.length
  · have : bs.getD i 0 ∈ bs := by simp [List.getD, hi]
    exact h.2 _ this
  · simp [List.getD, List.getElem?_eq_none (Nat.le_of_not_lt hi)]
theorem Pix.keep (h : Pix w g bs) (hb : w'.heap[g]? = w.heap[g]?) : Pix w' g bs := ⟨hb.trans h.1, h.2⟩
theorem Pix.below (h : Pix w g bs) (hb : Below w.heap.size w w') : Pix w' g bs := h.keep (hb.block g h.lt)
theorem Pix.set (h : Pix w g bs) (i : Nat) (z : Int) (h0 : 0 ≤ z) (h1 : z ≤ 255) : Pix (w.setCell ⟨g, i, none⟩ (.int .u8 z)) g (bs.set i z) := by
  refine ⟨?_, fun y hy => ?_⟩
  · have := h.1
    simp [World.setCell, Array.getElem?_modify, this, pixCells, List.map_set]
  · rcases List.mem_or_eq_of_mem_set hy with hy | rfl
    · exact h.2 y hy
    · exact ⟨h0, h1⟩
end

theorem fill_any (g N n c B : Nat) (A : Option Addr) (zs : List Int) (w : World) (hN : N ≤ 4000000) (hp : Pix w g (List.replicate N 0)) (hr : Rd w B A n zs) (hB : B ≤ g) :
    Calls Try.prog 18 #[.slice (some ⟨g, 0, none⟩) N N, .slice A n c] w fun e w' => e = .returned (.tuple #[]) ∧ Pix w' g (byt N zs) ∧ w.grownBy w' (some g) := by
  obtain ⟨hn, hn8, hz, hc⟩ := hr
  have HC := Lib.hid hc
  have HP := Lib.hid hp
  have HZ := Lib.hid hn
  clear hc hz hp hn
  go_enter Try.func18, Try.ntmps18
  go_wp2
  go_loopw [4] (fun i wr => ∃ (k : Nat), k ≤ N ∧ k ≤ n ∧ i = .int .i64 k ∧ Hid (Pix wr g (byt k zs ++ List.replicate (N - k) 0)) ∧ w.grownBy wr (some g)) (fun i _ => N - (intOf i).toNat)
  case atStart => exact ⟨0, by omega, by omega, rfl, HP, ⟨rfl, rfl, rfl, Nat.le_refl _, fun _ _ _ => rfl⟩⟩
  case round =>
    obtain ⟨k, hk, hk2, rfl, HK, hgr⟩ := hrel
    by_cases h1 : k < N
    · by_cases h2 : k < n
      · obtain ⟨b, off, rfl, hb, hcell⟩ := HC.out (by omega)
        have x1 : wr.cell? ⟨b, off + k, none⟩ = some (.int .i64 (zs.getD k 0)) := (World.cell?_of_block (hgr.block b (Nat.lt_of_lt_of_le (Nat.lt_of_lt_of_le hb hB) (Nat.le_of_lt HP.out.lt)) (by intro e; injection e with e; omega))).trans (hcell k h2)
        have x2 := HK.out.cell (i := k) (by simp [byt_length]; omega)
        have x3 := HK.out.free k
        generalize hv : (byt k zs ++ List.replicate (N - k) 0).getD k 0 = v0 at x2
        clear hv
        go_wp2
        go_roundw
        case rel =>
          refine ⟨k + 1, by omega, by omega, by go_num, ?_, ?_⟩
          · have := HK.out.set k (zs.getD k 0 % 256) (by omega) (by omega)
            have e : (byt k zs ++ List.replicate (N - k) 0).set k (zs.getD k 0 % 256) = byt (k + 1) zs ++ List.replicate (N - (k + 1)) 0 := by
              rw [List.set_append_right _ _ (by simp [byt_length]), byt_length, Nat.sub_self, show N - k = (N - (k + 1)) + 1 by omega, List.replicate_succ, List.set_cons_zero]
              simp [byt, List.range_succ]
            rw [e] at this
            simpa [Hid] using this
          · exact ⟨hgr.os, hgr.tape, hgr.output, by simpa [World.setCell] using hgr.size, fun i hi hne => (Below.heap_setCell _ _ _ i (by rintro rfl; exact hne rfl)).trans (hgr.block i hi hne)⟩
        case measure => simp [intOf]; omega
      · obtain rfl : k = n := by omega
        go_wp2
        go_end0
        refine ⟨rfl, ?_, hgr⟩
        have e : byt k zs ++ List.replicate (N - k) 0 = byt N zs := by
          apply List.ext_getElem
          · simp [byt_length]; omega
          · intro i i1 i2
            have hzl := HZ.out
            by_cases hi : i < k
            · rw [List.getElem_append_left (by simpa [byt_length] using hi)]; simp [byt]
            · rw [List.getElem_append_right (by simpa [byt_length] using hi)]
              simp [byt, List.getD, List.getElem?_eq_none (show zs.length ≤ i by omega)]
        rw [← e]; exact HK.out
    · obtain rfl : k = N := by omega
      go_wp2
      go_end0
      refine ⟨rfl, ?_, hgr⟩
      have := HK.out
      rw [Nat.sub_self, List.replicate_zero, List.append_nil] at this
      exact this

end Go.Proofs.Ytpllecddmpdaiaa
