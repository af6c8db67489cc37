/-
  The walk of the law FnGrayPartOfPart. No condition.
-/
import Derived.Test.YtpijljokcoocpaaGL1
import Derived.Test.YtpijljokcoocpaaGL2
import Derived.Test.YtpijljokcoocpaaGL3
namespace Go.Proofs.Ytpijljokcoocpaa
open Go.ChangeShapes Go.WideShapes Go.ChangeAt Go.RowKit
set_option linter.unusedVariables false
set_option linter.unusedSimpArgs false

theorem fnGrayPartOfPart_walk (w : World) (q : Q4) (hq : q.ok) (Z : Option Addr) (n cp : Nat) (zs : List Int) (hr : Rd w w.heap.size Z n zs) (s : Q4) (hs : s.ok) (u : Q4) (hu : u.ok) (x : Int) (hx : I64 x) (y : Int) (hy : I64 y) :
    Calls Try.prog 19 #[q.val, .slice Z n cp, s.val, u.val, .int .i64 x, .int .i64 y] w fun e w' => e = .returned (.bool true) ∧ Below w.heap.size w w' := by
  by_cases hf : Fine q.a q.b q.c q.d
  · cases hc1 : com q s with
    | none => exact fnGrayPartOfPart_n1 w q hq Z n cp zs hr s hs u hu x hx y hy hf hc1
    | some p1 =>
      cases hc2 : com p1 u with
      | none => exact fnGrayPartOfPart_n2 w q hq Z n cp zs hr s hs u hu x hx y hy hf p1 hc1 hc2
      | some p2 =>
        by_cases hin : In p2.a p2.b p2.c p2.d x y
        · exact fnGrayPartOfPart_main w q hq Z n cp zs hr s hs u hu x hx y hy hf p1 hc1 p2 hc2 hin
        · exact fnGrayPartOfPart_out w q hq Z n cp zs hr s hs u hu x hx y hy hf p1 hc1 p2 hc2 hin
  · cases hc1 : com q s with
    | none => exact fnGrayPartOfPart_fn w q hq Z n cp zs hr s hs u hu x hx y hy hf hc1
    | some p1 => exact fnGrayPartOfPart_fs w q hq Z n cp zs hr s hs u hu x hx y hy hf p1 hc1
end Go.Proofs.Ytpijljokcoocpaa
