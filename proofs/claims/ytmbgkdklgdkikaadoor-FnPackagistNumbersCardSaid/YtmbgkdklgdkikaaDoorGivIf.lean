/- What the contracts over the interface Version have in common. -/
import Derived.Test.YtmbgkdklgdkikaaDoorZD
import Derived.Deep.QuietTactic
import Derived.BigQuiet
namespace Go.Proofs.YtmbgkdklgdkikaaDoor.Giv
open Go.RowKit
set_option linter.unusedVariables false

theorem run_assert_is {P : Program} {t : TypeId} {fs : Array Field} (h : P.underlying t = some (.struct fs)) (xT : TypeId) (v : Value) (w : World) : (Instr.typeAssert (.iface t v) xT t true).run P w = .ok (.tuple #[v, .bool true]) w := by
  simp [Instr.typeAssert, run_underlying h, go_sem, Result.andThen]
theorem run_nil_nil {P : Program} {ti : TypeId} {ms : Array (String × TypeId)} (hi : P.underlying ti = some (.interface ms)) (w : World) : (binOp .eql ti .nilIface .nilIface).run P w = .ok (.bool true) w := by
  have h : ∀ d : Nat, (Op.equalIn (d + 1) ti .nilIface .nilIface).run P w = .ok true w := fun d => by simp [Op.equalIn, run_underlying hi]
  simp only [binOp]
  simp [show Op.equal ti .nilIface .nilIface = Op.equalIn (9999 + 1) ti .nilIface .nilIface from rfl, h]
theorem bel_drewN {B : Nat} {a w : World} (h : Below B a w) (n : Nat) : Below B a (w.drewN n) := ⟨h.os, h.tape, h.output, h.size, h.block⟩
end Go.Proofs.YtmbgkdklgdkikaaDoor.Giv
