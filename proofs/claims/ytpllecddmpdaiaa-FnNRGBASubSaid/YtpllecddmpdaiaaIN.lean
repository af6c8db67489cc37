/-
  The dump's head string by its sign codes, and the facts that read it. No condition.
-/
import Derived.Test.YtpllecddmpdaiaaBase
namespace Go.Proofs.Ytpllecddmpdaiaa
theorem ws_ne (a : List Char) : wordsSigns a ≠ [] := by
  intro h
  unfold wordsSigns at h
  split at h
  · cases h
  · cases h
  · split at h <;> cases h
theorem ws_cons (c : Char) (r : List Char) (h : c ≠ Char.ofNat 32) : wordsSigns (c :: r) = match wordsSigns r with | w :: ws => (c :: w) :: ws | [] => [[c]] := by
  exact wordsSigns.eq_3 c r h
theorem ws_sp (r : List Char) : wordsSigns (Char.ofNat 32 :: r) = [] :: wordsSigns r := by
  exact wordsSigns.eq_2 r
theorem ws_app (a r : List Char) : wordsSigns (a ++ Char.ofNat 32 :: r) = wordsSigns a ++ wordsSigns r := by
  induction a with
  | nil => rw [List.nil_append, ws_sp]; rfl
  | cons c a ih =>
    rw [List.cons_append]
    by_cases h : c = Char.ofNat 32
    · subst h; rw [ws_sp, ws_sp, ih]; rfl
    · rw [ws_cons c _ h, ws_cons c _ h, ih]
      cases ha : wordsSigns a with
      | nil => exact absurd ha (ws_ne a)
      | cons w ws => rfl
def cutW : List Char := [99, 117, 116].map Char.ofNat
def atW : List Char := [97, 116].map Char.ofNat

def hdA : List Char := [104, 97, 114, 110, 101, 115, 115, 32, 53, 53, 48, 102, 56, 52, 98, 50, 99, 56, 102, 100, 102, 51, 101, 51, 97, 55, 101, 99, 50, 56, 54, 50, 55, 50, 48, 54, 55, 53, 56, 99, 53, 100, 51, 97, 49, 99, 53, 49, 99, 55, 52, 100, 50, 97, 51, 101, 102, 48, 57, 48, 97, 48, 100, 100, 48, 49, 50, 99, 99, 55, 100, 51, 32, 99, 117, 116, 32, 97, 116].map Char.ofNat
theorem beh_cut (X : List (List Char)) : behindMainWord (wordsSigns hdA ++ X) = cutW :: atW :: X := by kernel_rfl
theorem strip_cut (X : List (List Char)) : stripLifts liftWords (cutW :: atW :: X) = ([], cutW :: atW :: X) := by kernel_rfl
theorem make_cut {P : Program} {X : List (List Char)} (h : wordsSigns P.initOrder.toList = wordsSigns hdA ++ X) : P.make = some .cut := by
  unfold Program.make
  rw [h, beh_cut]
  kernel_rfl
theorem lifts_cut {P : Program} {X : List (List Char)} (h : wordsSigns P.initOrder.toList = wordsSigns hdA ++ X) : P.liftsFinal = false := by
  unfold Program.liftsFinal Program.headLifts
  rw [h, beh_cut, strip_cut]
  kernel_rfl
theorem enter_cut {P : Program} {X : List (List Char)} (h : wordsSigns P.initOrder.toList = wordsSigns hdA ++ X) (h1 : P.laysLater = false) (h2 : P.bearsReflect = false) (h3 : P.doorFits [] = true) : P.mayEnter = true := by
  unfold Program.mayEnter
  rw [h, beh_cut]
  simp only [strip_cut, h1, h2, h3]
  kernel_rfl
def hd0 : List Nat := [108, 111, 111, 112, 46, 101, 120, 97, 109, 112, 108, 101, 47, 108, 105, 98, 45, 103, 48, 49, 49, 57, 50, 47, 108, 97, 119, 115, 46, 70, 110, 78, 82, 71, 66, 65, 83, 117, 98]
def hdB : List Char := (hd0).map Char.ofNat
theorem hd_str : Try.prog.initOrder = String.ofList (hdA ++ Char.ofNat 32 :: hdB) := by kernel_rfl
theorem hd_list : Try.prog.initOrder.toList = hdA ++ Char.ofNat 32 :: hdB := by rw [hd_str]; exact String.toList_ofList
theorem hd_words : ∃ X, wordsSigns Try.prog.initOrder.toList = wordsSigns hdA ++ X := ⟨wordsSigns hdB, by rw [hd_list, ws_app]⟩
theorem hd_make : Try.prog.make = some .cut := by
  obtain ⟨X, hX⟩ := hd_words
  exact make_cut hX
theorem hd_lifts : Try.prog.liftsFinal = false := by
  obtain ⟨X, hX⟩ := hd_words
  exact lifts_cut hX
theorem hd_enter : Try.prog.mayEnter = true := by
  obtain ⟨X, hX⟩ := hd_words
  exact enter_cut hX (by kernel_rfl) (by kernel_rfl) (by kernel_rfl)
theorem and_true_of {a b : Bool} (ha : a = true) (hb : b = true) : (a && b) = true := by rw [ha, hb]; rfl
end Go.Proofs.Ytpllecddmpdaiaa
