/-
  The dump's head string by its sign codes, and the facts that read it. No condition.
-/
import Derived.Test.YtpijljokcoocpaaBase
namespace Go.Proofs.Ytpijljokcoocpaa
theorem ws_ne (a : List Char) : wordsSigns a ≠ [] := by
  intro h
  unfold wordsSigns at h
  split at h
  · cases h
  · cases h
  · split at h <;> cases h
theorem ws_cons (c : Char) (r : List Char) (h : c ≠ Char.ofNat 32) : wordsSigns (c :: r) = match wordsSigns r with | w :: ws => (c :: w) :: ws | [] => [[c]] := by
  exact wordsSigns.eq_3 c r h
theorem ws_sp (r : List Char) : wordsSigns (Char.ofNat 32 :: r) = [] :: wordsSigns r := by
  exact wordsSigns.eq_2 r
theorem ws_app (a r : List Char) : wordsSigns (a ++ Char.ofNat 32 :: r) = wordsSigns a ++ wordsSigns r := by
  induction a with
  | nil => rw [List.nil_append, ws_sp]; rfl
  | cons c a ih =>
    rw [List.cons_append]
    by_cases h : c = Char.ofNat 32
    · subst h; rw [ws_sp, ws_sp, ih]; rfl
    · rw [ws_cons c _ h, ws_cons c _ h, ih]
      cases ha : wordsSigns a with
      | nil => exact absurd ha (ws_ne a)
      | cons w ws => rfl
def cutW : List Char := [99, 117, 116].map Char.ofNat
def atW : List Char := [97, 116].map Char.ofNat

def hdA : List Char := [104, 97, 114, 110, 101, 115, 115, 32, 55, 49, 51, 56, 101, 51, 97, 54, 100, 97, 48, 51, 101, 101, 57, 53, 53, 97, 101, 53, 53, 101, 98, 48, 100, 100, 57, 48, 98, 50, 48, 50, 100, 101, 98, 54, 57, 57, 97, 55, 98, 49, 57, 54, 48, 57, 101, 55, 53, 55, 51, 56, 48, 101, 102, 55, 100, 48, 53, 101, 101, 101, 49, 50, 32, 99, 117, 116, 32, 97, 116].map Char.ofNat
theorem beh_cut (X : List (List Char)) : behindMainWord (wordsSigns hdA ++ X) = cutW :: atW :: X := by kernel_rfl
theorem strip_cut (X : List (List Char)) : stripLifts liftWords (cutW :: atW :: X) = ([], cutW :: atW :: X) := by kernel_rfl
theorem make_cut {P : Program} {X : List (List Char)} (h : wordsSigns P.initOrder.toList = wordsSigns hdA ++ X) : P.make = some .cut := by
  unfold Program.make
  rw [h, beh_cut]
  kernel_rfl
theorem lifts_cut {P : Program} {X : List (List Char)} (h : wordsSigns P.initOrder.toList = wordsSigns hdA ++ X) : P.liftsFinal = false := by
  unfold Program.liftsFinal Program.headLifts
  rw [h, beh_cut, strip_cut]
  kernel_rfl
theorem enter_cut {P : Program} {X : List (List Char)} (h : wordsSigns P.initOrder.toList = wordsSigns hdA ++ X) (h1 : P.laysLater = false) (h2 : P.bearsReflect = false) (h3 : P.doorFits [] = true) : P.mayEnter = true := by
  unfold Program.mayEnter
  rw [h, beh_cut]
  simp only [strip_cut, h1, h2, h3]
  kernel_rfl
def hd0 : List Nat := [108, 111, 111, 112, 46, 101, 120, 97, 109, 112, 108, 101, 47, 108, 105, 98, 45, 103, 48, 49, 49, 57, 50, 47, 108, 97, 119, 115, 46, 70, 110, 71, 114, 97, 121, 78, 101, 119, 32, 108, 111, 111, 112, 46, 101, 120, 97, 109, 112, 108, 101, 47, 108, 105, 98, 45, 103, 48, 49, 49, 57, 50, 47, 108, 97, 119, 115, 46, 70, 110, 71, 114, 97, 121, 78, 101, 119, 66, 111, 117, 110, 100, 115, 32, 108, 111, 111, 112, 46, 101, 120, 97, 109, 112, 108, 101, 47, 108, 105, 98]
def hd1 : List Nat := [45, 103, 48, 49, 49, 57, 50, 47, 108, 97, 119, 115, 46, 70, 110, 71, 114, 97, 121, 82, 101, 97, 100, 32, 108, 111, 111, 112, 46, 101, 120, 97, 109, 112, 108, 101, 47, 108, 105, 98, 45, 103, 48, 49, 49, 57, 50, 47, 108, 97, 119, 115, 46, 70, 110, 71, 114, 97, 121, 65, 112, 97, 114, 116, 32, 108, 111, 111, 112, 46, 101, 120, 97, 109, 112, 108, 101, 47, 108, 105, 98, 45, 103, 48, 49, 49, 57, 50, 47, 108, 97, 119, 115, 46, 70, 110, 71, 114, 97, 121]
def hd2 : List Nat := [79, 102, 102, 115, 101, 116, 32, 108, 111, 111, 112, 46, 101, 120, 97, 109, 112, 108, 101, 47, 108, 105, 98, 45, 103, 48, 49, 49, 57, 50, 47, 108, 97, 119, 115, 46, 70, 110, 71, 114, 97, 121, 79, 112, 97, 113, 117, 101, 32, 108, 111, 111, 112, 46, 101, 120, 97, 109, 112, 108, 101, 47, 108, 105, 98, 45, 103, 48, 49, 49, 57, 50, 47, 108, 97, 119, 115, 46, 70, 110, 71, 114, 97, 121, 87, 114, 105, 116, 101, 32, 108, 111, 111, 112, 46, 101, 120, 97, 109, 112]
def hd3 : List Nat := [108, 101, 47, 108, 105, 98, 45, 103, 48, 49, 49, 57, 50, 47, 108, 97, 119, 115, 46, 70, 110, 71, 114, 97, 121, 87, 114, 105, 116, 101, 79, 117, 116, 115, 105, 100, 101, 32, 108, 111, 111, 112, 46, 101, 120, 97, 109, 112, 108, 101, 47, 108, 105, 98, 45, 103, 48, 49, 49, 57, 50, 47, 108, 97, 119, 115, 46, 70, 110, 71, 114, 97, 121, 87, 114, 105, 116, 101, 84, 119, 105, 99, 101, 32, 108, 111, 111, 112, 46, 101, 120, 97, 109, 112, 108, 101, 47, 108, 105, 98]
def hd4 : List Nat := [45, 103, 48, 49, 49, 57, 50, 47, 108, 97, 119, 115, 46, 70, 110, 71, 114, 97, 121, 82, 101, 97, 100, 79, 117, 116, 115, 105, 100, 101, 32, 108, 111, 111, 112, 46, 101, 120, 97, 109, 112, 108, 101, 47, 108, 105, 98, 45, 103, 48, 49, 49, 57, 50, 47, 108, 97, 119, 115, 46, 70, 110, 71, 114, 97, 121, 67, 111, 108, 111, 114, 32, 108, 111, 111, 112, 46, 101, 120, 97, 109, 112, 108, 101, 47, 108, 105, 98, 45, 103, 48, 49, 49, 57, 50, 47, 108, 97, 119, 115]
def hd5 : List Nat := [46, 70, 110, 71, 114, 97, 121, 87, 114, 105, 116, 101, 82, 101, 97, 100, 32, 108, 111, 111, 112, 46, 101, 120, 97, 109, 112, 108, 101, 47, 108, 105, 98, 45, 103, 48, 49, 49, 57, 50, 47, 108, 97, 119, 115, 46, 70, 110, 71, 114, 97, 121, 83, 117, 98, 69, 109, 112, 116, 121, 32, 108, 111, 111, 112, 46, 101, 120, 97, 109, 112, 108, 101, 47, 108, 105, 98, 45, 103, 48, 49, 49, 57, 50, 47, 108, 97, 119, 115, 46, 70, 110, 71, 114, 97, 121, 82, 117, 110, 32]
def hd6 : List Nat := [108, 111, 111, 112, 46, 101, 120, 97, 109, 112, 108, 101, 47, 108, 105, 98, 45, 103, 48, 49, 49, 57, 50, 47, 108, 97, 119, 115, 46, 70, 110, 71, 114, 97, 121, 82, 117, 110, 65, 110, 121, 119, 104, 101, 114, 101, 32, 108, 111, 111, 112, 46, 101, 120, 97, 109, 112, 108, 101, 47, 108, 105, 98, 45, 103, 48, 49, 49, 57, 50, 47, 108, 97, 119, 115, 46, 70, 110, 71, 114, 97, 121, 83, 112, 108, 105, 116, 32, 108, 111, 111, 112, 46, 101, 120, 97, 109, 112, 108, 101]
def hd7 : List Nat := [47, 108, 105, 98, 45, 103, 48, 49, 49, 57, 50, 47, 108, 97, 119, 115, 46, 70, 110, 71, 114, 97, 121, 80, 97, 114, 116, 79, 102, 80, 97, 114, 116, 32, 108, 111, 111, 112, 46, 101, 120, 97, 109, 112, 108, 101, 47, 108, 105, 98, 45, 103, 48, 49, 49, 57, 50, 47, 108, 97, 119, 115, 46, 70, 110, 71, 114, 97, 121, 75, 101, 101, 112, 115, 65, 114, 103, 117, 109, 101, 110, 116, 32, 108, 111, 111, 112, 46, 101, 120, 97, 109, 112, 108, 101, 47, 108, 105, 98, 45]
def hd8 : List Nat := [103, 48, 49, 49, 57, 50, 47, 108, 97, 119, 115, 46, 70, 110, 71, 114, 97, 121, 83, 104, 97, 114, 101, 100]
def hdB : List Char := (hd0 ++ hd1 ++ hd2 ++ hd3 ++ hd4 ++ hd5 ++ hd6 ++ hd7 ++ hd8).map Char.ofNat
theorem hd_str : Try.prog.initOrder = String.ofList (hdA ++ Char.ofNat 32 :: hdB) := by kernel_rfl
theorem hd_list : Try.prog.initOrder.toList = hdA ++ Char.ofNat 32 :: hdB := by rw [hd_str]; exact String.toList_ofList
theorem hd_words : ∃ X, wordsSigns Try.prog.initOrder.toList = wordsSigns hdA ++ X := ⟨wordsSigns hdB, by rw [hd_list, ws_app]⟩
theorem hd_make : Try.prog.make = some .cut := by
  obtain ⟨X, hX⟩ := hd_words
  exact make_cut hX
theorem hd_lifts : Try.prog.liftsFinal = false := by
  obtain ⟨X, hX⟩ := hd_words
  exact lifts_cut hX
theorem hd_enter : Try.prog.mayEnter = true := by
  obtain ⟨X, hX⟩ := hd_words
  exact enter_cut hX (by kernel_rfl) (by kernel_rfl) (by kernel_rfl)
theorem and_true_of {a b : Bool} (ha : a = true) (hb : b = true) : (a && b) = true := by rw [ha, hb]; rfl
end Go.Proofs.Ytpijljokcoocpaa
