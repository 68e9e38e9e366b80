/- The statement FnPackagistNumbers: versions of numbers alone compare number by number, and one with more numbers is greater, for all lists of components.
   No condition beyond those that the statement itself states (its card ties the listed variables to the program's text). -/
import Derived.Test.YtmbgkdklgdkikaaDoorPGivPz
namespace Go.Proofs.YtmbgkdklgdkikaaDoor.Pure
open Go.RowKit Go.Proofs.YtmbgkdklgdkikaaDoor.QP Go.Proofs.YtmbgkdklgdkikaaDoorW.PrintWords Go.Proofs.YtmbgkdklgdkikaaDoorW.PrintLast Go.Proofs.YtmbgkdklgdkikaaDoor.Pk Go.Proofs.YtmbgkdklgdkikaaDoor.Giv Go.Proofs.YtmbgkdklgdkikaaDoor.Ord
set_option linter.unusedVariables false
theorem FnPackagistNumbers (A : Option Addr) (c : Nat) (a : List ByteArray) (B : Option Addr) (d : Nat) (b : List ByteArray) (w : World) (hr0 : Kd.C Kd.string w A a.length a) (hc : a.length ≤ c) (hr1 : Kd.C Kd.string w B b.length b) (hd : b.length ≤ d) (hL : Laid w) :
    Calls Tryd.prog 3 #[.slice A a.length c, .slice B b.length d] w fun e w' => e = .returned (.bool true) ∧ Below w.heap.size w w' := by
  obtain ⟨fa, ⟨K1, e1⟩, h1⟩ := fits_ev a
  cases fa with
  | false => exact p_fa a b A B _ _ c d K1 w rfl hr0 hc (e1 K1 (Nat.le_refl _))
  | true =>
  obtain ⟨fb, ⟨K2, e2⟩, h2⟩ := fits_ev b
  have f1 := e1 (K1 + K2) (by omega)
  have f2 := e2 (K1 + K2) (by omega)
  cases fb with
  | false => exact p_fb a b A B _ _ c d (K1 + K2) w rfl rfl hr0 hc hr1 hd f1 f2
  | true =>
  by_cases l0 : ((a.length : Nat) : Int) = 0
  · exact p_la a b A B _ _ c d (K1 + K2) w rfl rfl hr0 hc hr1 hd f1 f2 l0
  by_cases l1 : ((b.length : Nat) : Int) = 0
  · exact p_lb a b A B _ _ c d (K1 + K2) w rfl rfl hr0 hc hr1 hd f1 f2 l0 l1
  obtain ⟨r, ⟨K3, e3⟩, h3⟩ := pack_ev a b (by have := h1 rfl; omega) (by have := h2 rfl; omega)
  have g1 := e1 (K1 + K2 + K3) (by omega)
  have g2 := e2 (K1 + K2 + K3) (by omega)
  have g3 := e3 (K1 + K2 + K3) (by omega)
  cases r with
  | false => exact p_pk a b A B _ _ c d (K1 + K2 + K3) w rfl rfl hr0 hc hr1 hd g1 g2 l0 l1 g3
  | true => exact p_main a b A B _ _ c d (K1 + K2 + K3) w rfl rfl hr0 hc hr1 hd g1 g2 l0 l1 g3 (h3 rfl).1 (h3 rfl).2 hL
end Go.Proofs.YtmbgkdklgdkikaaDoor.Pure
