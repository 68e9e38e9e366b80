/- Contracts by hand: powers of ten.
   Contracts by hand: a reader over a text: a byte read, a byte put back.
   Contracts by hand: the sign of a number that is read.
   Contracts by hand: a number's digits are read: what holds in the loop.
   Contracts by hand: a number's digits are read.
   Contracts by hand: a text is read as a whole number: Int.scan, setFromScanner, SetString, convertToBigInt.
   Contracts by hand: a text is read as a whole number: setFromScanner, SetString, convertToBigInt. -/
import Derived.Test.YtnbpoplomdocjaaGreatDoorZB
import Derived.Deep.QuietTactic
import Derived.BigQuiet
import Derived.Test.YtnbpoplomdocjaaGreatDoorZA
import Derived.LaidEql
import Derived.Deep.CutBlock
import Derived.Deep.DeepCutAuto
namespace Go.Proofs.YtnbpoplomdocjaaGreatDoor.Giv
open Go.RowKit Go.Proofs.YtnbpoplomdocjaaGreatDoorW.PrintWords Go.Proofs.YtnbpoplomdocjaaGreatDoorW.PrintLast Go.Proofs.YtnbpoplomdocjaaGreatDoor.Pk Go.Proofs.YtnbpoplomdocjaaGreatDoor.Ord Go.Proofs.YtnbpoplomdocjaaGreatDoor.QM
set_option linter.unusedVariables false
set_option linter.unusedSimpArgs false

theorem pow_f (i : Nat) (hi : i ≤ 19) : bigall_pow.f 6 10 (i : Int) = some ((10 ^ i : Nat) : Int) := by
  have h : ∀ j : Fin 20, bigall_pow.f 6 10 ((j : Nat) : Int) = some ((10 ^ (j : Nat) : Nat) : Int) := by decide +kernel
  exact h ⟨i, by omega⟩
theorem pow_calls (i : Nat) (hi : i ≤ 19) (w : World) : Calls Tryz.prog 135 #[.int .u64 10, .int .i64 i] w fun e w' => e = .returned (.int .u64 ((10 ^ i : Nat) : Int)) ∧ Drawn0 w w' :=
  bigall_pow.calls 6 10 i _ w (pow_f i hi)
theorem ten_le (n : Nat) (h : n ≤ 19) : 10 ^ n ≤ 10000000000000000000 := Nat.pow_le_pow_right (by decide) h
set_option maxRecDepth 100000 in
theorem maxPow_calls (w : World) : Calls Tryz.prog 133 #[.int .u64 10] w fun e w' => e = .returned (.tuple #[.int .u64 10000000000000000000, .int .i64 19]) ∧ w' = w := by
  go_enter Tryz.func133, Tryz.ntmps133
  go_wp2_with fail
  go_loop [2, 3] (fun v2 v3 => ∃ n q : Nat, n ≤ 19 ∧ q = 10 ^ n ∧ v2 = .int .u64 q ∧ v3 = .int .i64 n) (fun v2 v3 => 19 - (intOf v3).toNat)
  case atStart => exact ⟨1, 10, by omega, rfl, rfl, rfl⟩
  case round =>
    obtain ⟨n, q, hn, hq, rfl, rfl⟩ := hrel
    by_cases h : n < 19
    · have b := ten_le (n + 1) (by omega)
      rw [Nat.pow_succ, ← hq] at b
      have f1 : (q : Int) ≤ 1844674407370955161 := by omega
      have f2 : IntKind.u64.wrap ((q : Int) * 10) = ((q * 10 : Nat) : Int) := by rw [IntKind.wrap_u64]; omega
      have f3 : wrap64 ((n : Int) + 1) = ((n + 1 : Nat) : Int) := Pk.wr n (by omega)
      have HQ := Aside0.mk hq
      clear hq b
      go_wp2_with fail
      refine ⟨⟨n + 1, q * 10, by omega, by rw [Nat.pow_succ, HQ.out], by simp, by simp⟩, ?_⟩
      simp only [intOf]
      omega
    · have e : n = 19 := by omega
      subst e
      subst hq
      go_wp2_with fail
      go_ret2
      exact ⟨rfl, rfl⟩
end Go.Proofs.YtnbpoplomdocjaaGreatDoor.Giv

namespace Go.Proofs.YtnbpoplomdocjaaGreatDoor.Giv
open Go.RowKit Go.Proofs.YtnbpoplomdocjaaGreatDoorW.PrintWords Go.Proofs.YtnbpoplomdocjaaGreatDoorW.PrintLast Go.Proofs.YtnbpoplomdocjaaGreatDoor.Pk Go.Proofs.YtnbpoplomdocjaaGreatDoor.Ord Go.Proofs.YtnbpoplomdocjaaGreatDoor.QM
set_option linter.unusedVariables false
set_option linter.unusedSimpArgs false

/-- A reader at place i of the text s. -/
def RdAt (w : World) (b : Nat) (s : ByteArray) (i : Nat) : Prop := ∃ p : Int, w.heap[b]? = some (.cells #[.string s, .int .i64 (i : Int), .int .i64 p] 151 (0, 0))
theorem RdAt.lt {w : World} {b : Nat} {s : ByteArray} {i : Nat} (h : RdAt w b s i) : b < w.heap.size := by
  obtain ⟨p, h⟩ := h
  exact blk_lt h
theorem RdAt.below {w w' : World} {b B : Nat} {s : ByteArray} {i : Nat} (h : RdAt w b s i) (hb : Below B w w') (hB : b < B) : RdAt w' b s i := by
  obtain ⟨p, h⟩ := h
  exact ⟨p, (hb.block b hB).trans h⟩
theorem grown_drewN {w w1 : World} {r : Option Nat} (hg : w.grownBy w1 r) (n : Nat) : w.grownBy (w1.drewN n) r := ⟨hg.os, hg.tape, hg.output, hg.size, hg.block⟩
set_option maxHeartbeats 2000000 in
theorem readByte_calls (b : Nat) (s : ByteArray) (i : Nat) (w : World) (hR : RdAt w b s i) (hi : i < s.size) (hs : s.size ≤ 140737488355328) :
    Calls Tryz.prog 178 #[.pointer (some ⟨b, 0, none⟩)] w fun e w' => e = .returned (.tuple #[.int .u8 ((s[i]'hi).toNat : Int), .nilIface]) ∧ RdAt w' b s (i + 1) ∧ w.grownBy w' (some b) ∧ w'.heap.size = w.heap.size := by
  obtain ⟨p, h⟩ := hR
  have f2 := blk_frozen h 2
  have c2 : w.cell? ⟨b, 2, none⟩ = some (.int .i64 p) := blk_cell h 2
  have h1 : (w.setCell ⟨b, 2, none⟩ (.int .i64 (-1))).heap[b]? = some (.cells #[.string s, .int .i64 (i : Int), .int .i64 (-1)] 151 (0, 0)) := blk_put h 2 (.int .i64 (-1)) rfl
  have G1 := Aside0.mk (grown_set (World.grownBy.refl w (some b)) 2 (.int .i64 (-1)))
  have S1 := Aside0.mk (show (w.setCell ⟨b, 2, none⟩ (.int .i64 (-1))).heap.size = w.heap.size by simp [World.setCell])
  have lt : (i : Int) < (s.size : Int) := by omega
  have w1 : wrap64 ((i : Int) + 1) = ((i + 1 : Nat) : Int) := by unfold wrap64; omega
  have c4 : (0 : Int) ≤ (i : Int) := by omega
  go_enter Tryz.func178, Tryz.ntmps178
  go_wp2_with fail
  generalize w.setCell ⟨b, 2, none⟩ (.int .i64 (-1)) = w2 at h1 G1 S1 ⊢
  have d0 : w2.cell? ⟨b, 0, none⟩ = some (.string s) := blk_cell h1 0
  have d1 : w2.cell? ⟨b, 1, none⟩ = some (.int .i64 (i : Int)) := blk_cell h1 1
  have f1 : w2.frozen? ⟨b, 1, none⟩ = false := blk_frozen h1 1
  have H1 := Aside0.mk h1
  clear h1 f2 c2
  go_quiet (fail)
  go_wp2_with fail
  go_quiet (fail)
  go_wp2_with fail
  go_ret2
  refine ⟨rfl, ⟨-1, ?_⟩, grown_set (grown_drewN G1.out _) 1 _, ?_⟩
  · exact blk_put (w := w2.drewN _) H1.out 1 (.int .i64 ((i + 1 : Nat) : Int)) rfl
  · rw [← S1.out]
    simp [World.setCell]
set_option maxHeartbeats 2000000 in
theorem readEnd_calls (b : Nat) (s : ByteArray) (i : Nat) (w : World) (v : Value) (hR : RdAt w b s i) (hi : s.size ≤ i) (hs : i ≤ 140737488355328) (hv : w.cell? ⟨4, 0, none⟩ = some v) (hb : b ≠ 4) :
    Calls Tryz.prog 178 #[.pointer (some ⟨b, 0, none⟩)] w fun e w' => e = .returned (.tuple #[.int .u8 0, v]) ∧ RdAt w' b s i ∧ w.grownBy w' (some b) ∧ w'.heap.size = w.heap.size := by
  obtain ⟨p, h⟩ := hR
  have f2 := blk_frozen h 2
  have c2 : w.cell? ⟨b, 2, none⟩ = some (.int .i64 p) := blk_cell h 2
  have h1 : (w.setCell ⟨b, 2, none⟩ (.int .i64 (-1))).heap[b]? = some (.cells #[.string s, .int .i64 (i : Int), .int .i64 (-1)] 151 (0, 0)) := blk_put h 2 (.int .i64 (-1)) rfl
  have g1 := grown_set (World.grownBy.refl w (some b)) 2 (.int .i64 (-1))
  have e1 : (w.setCell ⟨b, 2, none⟩ (.int .i64 (-1))).cell? ⟨4, 0, none⟩ = some v := g1.cell hv (fun e => hb (Option.some.inj e).symm)
  have G1 := Aside0.mk g1
  have S1 := Aside0.mk (show (w.setCell ⟨b, 2, none⟩ (.int .i64 (-1))).heap.size = w.heap.size by simp [World.setCell])
  have lt : ¬ (i : Int) < (s.size : Int) := by omega
  have le : (s.size : Int) ≤ (i : Int) := by omega
  have c4 : (0 : Int) ≤ (i : Int) := by omega
  clear g1
  go_enter Tryz.func178, Tryz.ntmps178
  go_wp2_with fail
  generalize w.setCell ⟨b, 2, none⟩ (.int .i64 (-1)) = w2 at h1 G1 S1 e1 ⊢
  have d0 : w2.cell? ⟨b, 0, none⟩ = some (.string s) := blk_cell h1 0
  have d1 : w2.cell? ⟨b, 1, none⟩ = some (.int .i64 (i : Int)) := blk_cell h1 1
  have H1 := Aside0.mk h1
  clear h1 f2 c2
  go_quiet (fail)
  go_wp2_with fail
  go_quiet (fail)
  go_wp2_with fail
  go_ret2
  exact ⟨rfl, ⟨-1, H1.out⟩, grown_drewN (grown_drewN G1.out _) _, S1.out⟩
set_option maxHeartbeats 2000000 in
theorem unread_calls (b : Nat) (s : ByteArray) (i : Nat) (w : World) (hR : RdAt w b s (i + 1)) (hs : i ≤ 140737488355328) :
    Calls Tryz.prog 179 #[.pointer (some ⟨b, 0, none⟩)] w fun e w' => e = .returned .nilIface ∧ RdAt w' b s i ∧ w.grownBy w' (some b) ∧ w'.heap.size = w.heap.size := by
  obtain ⟨p, h⟩ := hR
  have f2 := blk_frozen h 2
  have c1 : w.cell? ⟨b, 1, none⟩ = some (.int .i64 ((i + 1 : Nat) : Int)) := blk_cell h 1
  have c2 : w.cell? ⟨b, 2, none⟩ = some (.int .i64 p) := blk_cell h 2
  have h1 : (w.setCell ⟨b, 2, none⟩ (.int .i64 (-1))).heap[b]? = some (.cells #[.string s, .int .i64 ((i + 1 : Nat) : Int), .int .i64 (-1)] 151 (0, 0)) := blk_put h 2 (.int .i64 (-1)) rfl
  have G1 := Aside0.mk (grown_set (World.grownBy.refl w (some b)) 2 (.int .i64 (-1)))
  have S1 := Aside0.mk (show (w.setCell ⟨b, 2, none⟩ (.int .i64 (-1))).heap.size = w.heap.size by simp [World.setCell])
  have d1 : (w.setCell ⟨b, 2, none⟩ (.int .i64 (-1))).cell? ⟨b, 1, none⟩ = some (.int .i64 ((i + 1 : Nat) : Int)) := blk_cell h1 1
  have f1 : (w.setCell ⟨b, 2, none⟩ (.int .i64 (-1))).frozen? ⟨b, 1, none⟩ = false := blk_frozen h1 1
  have H1 := Aside0.mk h1
  have c3 : ¬ ((i + 1 : Nat) : Int) ≤ 0 := by omega
  have c4 : wrap64 (((i + 1 : Nat) : Int) - 1) = (i : Int) := by unfold wrap64; omega
  clear h1
  go_enter Tryz.func179, Tryz.ntmps179
  go_wp2_with fail
  go_ret
  refine ⟨rfl, ⟨-1, ?_⟩, grown_set G1.out 1 _, ?_⟩
  · exact blk_put H1.out 1 (.int .i64 (i : Int)) rfl
  · rw [← S1.out]
    simp [World.setCell]
theorem newReader_calls (s : ByteArray) (w : World) :
    Calls Tryz.prog 83 #[.string s] w fun e w' => e = .returned (.pointer (some ⟨w.heap.size, 0, none⟩)) ∧ RdAt w' w.heap.size s 0 ∧ Below w.heap.size w w' ∧ w'.heap.size = w.heap.size + 1 := by
  go_enter Tryz.func83, Tryz.ntmps83
  go_wp2_with fail
  go_ret
  exact ⟨rfl, ⟨-1, blk_new _ _⟩, below_alloc (Below.refl _ _) _, by simp⟩
end Go.Proofs.YtnbpoplomdocjaaGreatDoor.Giv

namespace Go.Proofs.YtnbpoplomdocjaaGreatDoor.Giv
open Go.RowKit Go.Proofs.YtnbpoplomdocjaaGreatDoorW.PrintWords Go.Proofs.YtnbpoplomdocjaaGreatDoorW.PrintLast Go.Proofs.YtnbpoplomdocjaaGreatDoor.Pk Go.Proofs.YtnbpoplomdocjaaGreatDoor.Ord Go.Proofs.YtnbpoplomdocjaaGreatDoor.QM
set_option linter.unusedVariables false
set_option linter.unusedSimpArgs false

abbrev rdr (b : Nat) : Value := .iface 120 (.pointer (some ⟨b, 0, none⟩))
abbrev errv (a : Addr) : Value := .iface 207 (.pointer (some a))
theorem meth_read (b : Nat) (w : World) : (method 323 120 (.pointer (some ⟨b, 0, none⟩)) "ReadByte").run Tryz.prog w = .ok (178, .pointer (some ⟨b, 0, none⟩)) w := by kernel_rfl
theorem meth_unread (b : Nat) (w : World) : (method 323 120 (.pointer (some ⟨b, 0, none⟩)) "UnreadByte").run Tryz.prog w = .ok (179, .pointer (some ⟨b, 0, none⟩)) w := by kernel_rfl
set_option maxRecDepth 100000 in
theorem sign_none (b : Nat) (s : ByteArray) (w : World) (a : Addr) (hR : RdAt w b s 0) (hi : s.size = 0) (hv : w.cell? ⟨4, 0, none⟩ = some (errv a)) (hb : b ≠ 4) :
    Calls Tryz.prog 127 #[rdr b] w fun e w' => e = .returned (.tuple #[.bool false, errv a]) ∧ RdAt w' b s 0 ∧ w.grownBy w' (some b) ∧ w'.heap.size = w.heap.size := by
  have c := readEnd_calls b s 0 w (errv a) hR (by omega) (by omega) hv hb
  clear hv hi hR
  have m1 := meth_read b
  go_enter Tryz.func127, Tryz.ntmps127
  go_wp2_with (first | (go_at_call 178; (with_reducible refine c.mono ?_); rintro e w1 ⟨rfl, r1, r2, r3⟩))
  go_ret2
  exact ⟨rfl, r1, r2, r3⟩
/-- How many bytes a sign takes. -/
def sgnLen (s : ByteArray) : Nat := match s.toList with
  | c :: _ => if c.toNat = 45 ∨ c.toNat = 43 then 1 else 0
  | [] => 0
def sgnNeg (s : ByteArray) : Bool := match s.toList with
  | c :: _ => decide (c.toNat = 45)
  | [] => false
theorem grown_trans {w0 w1 w2 : World} {r : Option Nat} (h : w0.grownBy w1 r) (k : w1.grownBy w2 r) : w0.grownBy w2 r := World.grownBy.trans h k
set_option maxRecDepth 100000 in
set_option maxHeartbeats 1000000 in
theorem sign_some (b : Nat) (s : ByteArray) (w : World) (hR : RdAt w b s 0) (hi : 0 < s.size) (hs : s.size ≤ 140737488355328) :
    Calls Tryz.prog 127 #[rdr b] w fun e w' => e = .returned (.tuple #[.bool (sgnNeg s), .nilIface]) ∧ RdAt w' b s (sgnLen s) ∧ w.grownBy w' (some b) ∧ w'.heap.size = w.heap.size := by
  have c := readByte_calls b s 0 w hR hi hs
  have u := fun (w : World) (h : RdAt w b s (0 + 1)) => unread_calls b s 0 w h (by omega)
  have e0 : s.toList = s[0]'hi :: s.toList.drop 1 := by
    have := drop_at s 0 hi
    simpa using this
  have eN : sgnNeg s = decide ((s[0]'hi).toNat = 45) := by unfold sgnNeg; rw [e0]
  have eL : sgnLen s = if (s[0]'hi).toNat = 45 ∨ (s[0]'hi).toNat = 43 then 1 else 0 := by unfold sgnLen; rw [e0]
  rw [eN, eL]
  obtain ⟨ch, hch⟩ : ∃ ch, ch = (s[0]'hi).toNat := ⟨_, rfl⟩
  rw [← hch] at c ⊢
  have m1 := meth_read b
  have m2 := meth_unread b
  clear e0 eN eL hch hR hi hs
  by_cases h1 : ch = 45
  · subst h1
    go_enter Tryz.func127, Tryz.ntmps127
    go_wp2_with (first | (go_at_call 178; (with_reducible refine c.mono ?_); rintro e w1 ⟨rfl, r1, r2, r3⟩; have R3 := Aside0.mk r3; clear r3))
    go_ret2
    exact ⟨rfl, r1, r2, R3.out⟩
  · by_cases h2 : ch = 43
    · subst h2
      go_enter Tryz.func127, Tryz.ntmps127
      go_wp2_with (first | (go_at_call 178; (with_reducible refine c.mono ?_); rintro e w1 ⟨rfl, r1, r2, r3⟩; have R3 := Aside0.mk r3; clear r3))
      go_ret2
      exact ⟨rfl, r1, r2, R3.out⟩
    · have k1 : ((ch : Int) == 45) = false := beq_eq_false_iff_ne.2 (by omega)
      have k2 : ((ch : Int) == 43) = false := beq_eq_false_iff_ne.2 (by omega)
      rw [if_neg (by omega), decide_eq_false h1]
      clear h1 h2
      go_enter Tryz.func127, Tryz.ntmps127
      go_wp2_with (first | (go_at_call 178; (with_reducible refine c.mono ?_); rintro e w1 ⟨rfl, r1, r2, r3⟩; have R3 := Aside0.mk r3; have R1 := Aside0.mk r1; clear r3 r1) | (go_at_call 179; (with_reducible refine (u _ R1.out).mono ?_); rintro e w2 ⟨rfl, q1, q2, q3⟩; have Q3 := Aside0.mk q3; clear q3))
      go_ret2
      exact ⟨rfl, q1, grown_trans r2 q2, Q3.out.trans R3.out⟩
end Go.Proofs.YtnbpoplomdocjaaGreatDoor.Giv

namespace Go.Proofs.YtnbpoplomdocjaaGreatDoor.Giv
open Go.RowKit Go.Proofs.YtnbpoplomdocjaaGreatDoorW.PrintWords Go.Proofs.YtnbpoplomdocjaaGreatDoorW.PrintLast Go.Proofs.YtnbpoplomdocjaaGreatDoor.Pk Go.Proofs.YtnbpoplomdocjaaGreatDoor.Ord Go.Proofs.YtnbpoplomdocjaaGreatDoor.QM
set_option linter.unusedVariables false
set_option linter.unusedSimpArgs false

theorem eof_same (a : Addr) (w : World) : (binOp .eql 33 (errv a) (errv a)).run Tryz.prog w = .ok (.bool true) w := by
  obtain ⟨i, hi, hc⟩ := Option.map_eq_some_iff.1 (show (Tryz.prog.info? 207).map (·.comparable) = some true by kernel_rfl)
  obtain ⟨j, hj, _⟩ := Option.map_eq_some_iff.1 (show (Tryz.prog.info? 222).map (·.size) = some 1 by kernel_rfl)
  exact run_eql_iface_ptr_same w a Tryz.underlying33 Tryz.underlying207 hi hc hj
theorem eof_nil (a : Addr) (w : World) : (binOp .eql 33 .nilIface (errv a)).run Tryz.prog w = .ok (.bool false) w :=
  run_eql_iface_nil_left w _ _ Tryz.underlying33
theorem eof_same_ne (a : Addr) (w : World) : (binOp .neq 33 (errv a) (errv a)).run Tryz.prog w = .ok (.bool false) w := by
  have h := eof_same a w
  simp only [binOp] at h ⊢
  cases hq : (Op.equal 33 (errv a) (errv a)).run Tryz.prog w <;> simp_all
theorem eof_nil_ne (a : Addr) (w : World) : (binOp .neq 33 .nilIface (errv a)).run Tryz.prog w = .ok (.bool true) w := by
  have h := eof_nil a w
  simp only [binOp] at h ⊢
  cases hq : (Op.equal 33 .nilIface (errv a)).run Tryz.prog w <;> simp_all
/-- k digits have been read: zv and di hold them. -/
def Sc (w : World) (b : Nat) (s : ByteArray) (i0 k : Nat) (wr : World) (v0 v10 v13 v20 v21 : Value) : Prop :=
  ∃ zv di p : Nat, v10 = .int .i64 (k : Int) ∧ v20 = .int .u64 (di : Int) ∧ v21 = .int .i64 ((k % 19 : Nat) : Int) ∧ v13 = .int .i32 (p : Int) ∧ (p = 46 ∨ p = 48) ∧ di < 10 ^ (k % 19) ∧ zv * 10 ^ (k % 19) + di = Num.dec ((s.toList.drop i0).take k) ∧
    ((s.toList.drop i0).take k).all Rpm.dig = true ∧ i0 + k ≤ s.size ∧ NatIn wr w.heap.size v0 zv ∧ w.grownBy wr (some b)
/-- What stands ahead: a byte, or the text's end. -/
def Ahead (b : Nat) (s : ByteArray) (j : Nat) (aE : Addr) (wr : World) (v11 v15 : Value) : Prop :=
  (∃ h : j < s.size, v11 = .nilIface ∧ v15 = .int .u8 ((s[j]'h).toNat : Int) ∧ RdAt wr b s (j + 1)) ∨ (j = s.size ∧ v11 = errv aE ∧ RdAt wr b s j)
/-- Behind the loop. -/
def Done (w : World) (b : Nat) (s : ByteArray) (i0 : Nat) (aE : Addr) (wr : World) (v0 v10 v11 v13 v20 v21 : Value) : Prop :=
  ∃ k, Sc w b s i0 k wr v0 v10 v13 v20 v21 ∧ (v11 = .nilIface ∨ v11 = errv aE) ∧ k = ((s.toList.drop i0).takeWhile Rpm.dig).length ∧ RdAt wr b s (i0 + k)
theorem take_while_at {α : Type} (p : α → Bool) : ∀ (l : List α) (k : Nat), (l.take k).all p = true → (∀ h : k < l.length, p (l[k]'h) = false) → k ≤ l.length → (l.takeWhile p).length = k
  | [], k, _, _, h => by simp at h; simp [h]
  | x :: l, 0, _, h2, _ => by
    have := h2 (by simp)
    simp only [List.getElem_cons_zero] at this
    simp [List.takeWhile_cons, this]
  | x :: l, k + 1, h1, h2, h3 => by
    simp only [List.take_succ_cons, List.all_cons, Bool.and_eq_true] at h1
    rw [List.takeWhile_cons, if_pos h1.1, List.length_cons, take_while_at p l k h1.2 (fun h => by have := h2 (by simpa using h); simpa using this) (by simpa using h3)]
theorem NatIn.far {wr : World} {B b : Nat} {v : Value} {n : Nat} {w' : World} (h : NatIn wr B v n) (hg : wr.grownBy w' (some b)) (hb : b < B) : NatIn w' B v n := by
  rcases h with h | ⟨h0, h, c, e, hB, hl⟩
  · exact .inl h
  · exact .inr ⟨h0, h, c, e, hB, hl.grown hg (by omega)⟩
theorem grown_below {w w1 w2 : World} {b : Nat} (h : w.grownBy w1 (some b)) (k : Below w.heap.size w1 w2) : w.grownBy w2 (some b) :=
  ⟨k.os.trans h.os, k.tape.trans h.tape, k.output.trans h.output, Nat.le_trans h.size k.size, fun i hi hne => (k.block i hi).trans (h.block i hi hne)⟩
theorem Sc.read {w wr w' : World} {b : Nat} {s : ByteArray} {i0 k : Nat} {v0 v10 v13 v20 v21 : Value} (h : Sc w b s i0 k wr v0 v10 v13 v20 v21) (hg : wr.grownBy w' (some b)) (hb : b < w.heap.size) : Sc w b s i0 k w' v0 v10 v13 v20 v21 := by
  obtain ⟨zv, di, p, h1, h2, h3, h4, h5, h6, h7, h8, h9, h10, h11⟩ := h
  exact ⟨zv, di, p, h1, h2, h3, h4, h5, h6, h7, h8, h9, h10.far hg hb, grown_trans h11 hg⟩
/-- A digit more. -/
theorem dec_next (s : ByteArray) (i0 k : Nat) (h : i0 + k < s.size) : Num.dec ((s.toList.drop i0).take (k + 1)) = Num.dec ((s.toList.drop i0).take k) * 10 + ((s[i0 + k]'h).toNat - 48) := by
  have hl : k < (s.toList.drop i0).length := by rw [List.length_drop, len_toList]; omega
  rw [List.take_succ_eq_append_getElem hl, Num.dec_snoc, List.getElem_drop, getElem_toList s (i0 + k) h]
theorem all_next (s : ByteArray) (i0 k : Nat) (h : i0 + k < s.size) (ha : ((s.toList.drop i0).take k).all Rpm.dig = true) (hd : 48 ≤ (s[i0 + k]'h).toNat ∧ (s[i0 + k]'h).toNat ≤ 57) : ((s.toList.drop i0).take (k + 1)).all Rpm.dig = true := by
  have hl : k < (s.toList.drop i0).length := by rw [List.length_drop, len_toList]; omega
  rw [List.take_succ_eq_append_getElem hl, List.all_append, ha, List.getElem_drop, getElem_toList s (i0 + k) h]
  simp [Rpm.dig, hd]
theorem stop_at (s : ByteArray) (i0 k : Nat) (hk : i0 + k ≤ s.size) (ha : ((s.toList.drop i0).take k).all Rpm.dig = true) (hd : ∀ h : i0 + k < s.size, ¬ (48 ≤ (s[i0 + k]'h).toNat ∧ (s[i0 + k]'h).toNat ≤ 57)) : k = ((s.toList.drop i0).takeWhile Rpm.dig).length := by
  symm
  refine take_while_at _ _ _ ha ?_ ?_
  · intro h
    rw [List.length_drop, len_toList] at h
    rw [List.getElem_drop, getElem_toList s (i0 + k) (by omega)]
    have := hd (by omega)
    simp only [Rpm.dig, decide_eq_false_iff_not]
    exact this
  · rw [List.length_drop, len_toList]
    omega
/-- The number so far is small enough. -/
theorem zv_small {zv di k j : Nat} {l : List UInt8} (h : zv * 10 ^ j + di = Num.dec l) (ha : l.all Rpm.dig = true) (hl : l.length ≤ k) : (Dg.dg zv).length ≤ k := by
  refine Num.dg_len_le _ _ ?_
  have a := Num.dec_lt l ha
  have b : zv ≤ zv * 10 ^ j := Nat.le_mul_of_pos_right _ (Nat.pow_pos (by decide))
  have c : 10 ^ l.length ≤ 10 ^ k := Nat.pow_le_pow_right (by decide) hl
  omega
theorem f2_ (di : Nat) (h : di ≤ 1000000000000000000) : IntKind.u64.wrap ((di : Int) * 10) = (di : Int) * 10 := by rw [IntKind.wrap_u64]; omega
theorem f3_ (di ch nd : Nat) (hnd : nd = di * 10 + (ch - 48)) (h48 : 48 ≤ ch) (h : di ≤ 1000000000000000000) (h57 : ch ≤ 57) : IntKind.u64.wrap ((di : Int) * 10 + ((ch : Int) - 48)) = (nd : Int) := by rw [IntKind.wrap_u64]; omega
theorem small_arith {zv di nd i d k : Nat} {D D' : Nat} (hi : i = k % 19) (h1 : i + 1 ≠ 19) (hnd : nd = di * 10 + d) (hd : d ≤ 9) (hdi : di < 10 ^ i) (hv : zv * 10 ^ i + di = D) (hD : D' = D * 10 + d) :
    i + 1 = (k + 1) % 19 ∧ nd < 10 ^ ((k + 1) % 19) ∧ zv * 10 ^ ((k + 1) % 19) + nd = D' := by
  have e : (k + 1) % 19 = i + 1 := by omega
  rw [e, Nat.pow_succ, ← Nat.mul_assoc]
  omega
theorem full_arith {zv di nd i d k : Nat} {D D' : Nat} (hi : i = k % 19) (h1 : i + 1 = 19) (hnd : nd = di * 10 + d) (hd : d ≤ 9) (hdi : di < 10 ^ i) (hv : zv * 10 ^ i + di = D) (hD : D' = D * 10 + d) :
    0 = (k + 1) % 19 ∧ 0 < 10 ^ ((k + 1) % 19) ∧ (zv * 10000000000000000000 + nd) * 10 ^ ((k + 1) % 19) + 0 = D' := by
  have e : (k + 1) % 19 = 0 := by omega
  have e2 : i = 18 := by omega
  subst e2
  rw [e, Nat.pow_zero]
  have : (10 : Nat) ^ 18 = 1000000000000000000 := by decide
  rw [this] at hv
  omega
/-- What comes next when a byte has been read. -/
theorem next_calls (b : Nat) (s : ByteArray) (j : Nat) (aE : Addr) (w : World) (hR : RdAt w b s j) (hj : j ≤ s.size) (hs : s.size ≤ 100000) (hv : w.cell? ⟨4, 0, none⟩ = some (errv aE)) (hb : b ≠ 4) :
    Calls Tryz.prog 178 #[.pointer (some ⟨b, 0, none⟩)] w fun e w' => ∃ v11 v15, e = .returned (.tuple #[v15, v11]) ∧ Ahead b s j aE w' v11 v15 ∧ w.grownBy w' (some b) := by
  by_cases h : j < s.size
  · refine (readByte_calls b s j w hR h (by omega)).mono ?_
    rintro e w' ⟨rfl, h1, h2, _⟩
    exact ⟨_, _, rfl, .inl ⟨h, rfl, rfl, h1⟩, h2⟩
  · refine (readEnd_calls b s j w (errv aE) hR (by omega) (by omega) hv hb).mono ?_
    rintro e w' ⟨rfl, h1, h2, _⟩
    exact ⟨_, _, rfl, .inr ⟨by omega, rfl, h1⟩, h2⟩
end Go.Proofs.YtnbpoplomdocjaaGreatDoor.Giv

namespace Go.Proofs.YtnbpoplomdocjaaGreatDoor.Giv
open Go.RowKit Go.Proofs.YtnbpoplomdocjaaGreatDoorW.PrintWords Go.Proofs.YtnbpoplomdocjaaGreatDoorW.PrintLast Go.Proofs.YtnbpoplomdocjaaGreatDoor.Pk Go.Proofs.YtnbpoplomdocjaaGreatDoor.Ord Go.Proofs.YtnbpoplomdocjaaGreatDoor.QM
set_option linter.unusedVariables false
set_option linter.unusedSimpArgs false

/-- What the reading of digits leaves. -/
def ScanPost (w : World) (b : Nat) (s : ByteArray) (i0 : Nat) (aN : Addr) (e : Ending) (w' : World) : Prop :=
  RdAt w' b s (i0 + ((s.toList.drop i0).takeWhile Rpm.dig).length) ∧ w.grownBy w' (some b) ∧
    ((((s.toList.drop i0).takeWhile Rpm.dig).length = 0 ∧ e = .returned (.tuple #[.slice none 0 0, .int .i64 10, .int .i64 0, errv aN])) ∨
      (((s.toList.drop i0).takeWhile Rpm.dig).length ≠ 0 ∧ ∃ v, e = .returned (.tuple #[v, .int .i64 10, .int .i64 ((((s.toList.drop i0).takeWhile Rpm.dig).length : Nat) : Int), .nilIface]) ∧ NatIn w' w.heap.size v (Num.dec ((s.toList.drop i0).takeWhile Rpm.dig))))
theorem scanPost_none {w w' : World} {b : Nat} {s : ByteArray} {i0 : Nat} {aN : Addr} (hk : 0 = ((s.toList.drop i0).takeWhile Rpm.dig).length) (hR : RdAt w' b s i0) (hG : w.grownBy w' (some b)) : ScanPost w b s i0 aN (.returned (.tuple #[.slice none 0 0, .int .i64 10, .int .i64 0, errv aN])) w' := by
  refine ⟨?_, hG, .inl ⟨hk.symm, rfl⟩⟩
  rw [← hk]
  exact hR
theorem take_while_take {α : Type} (p : α → Bool) : ∀ (l : List α), l.take (l.takeWhile p).length = l.takeWhile p
  | [] => rfl
  | x :: l => by
    by_cases h : p x = true
    · rw [List.takeWhile_cons_of_pos h, List.length_cons, List.take_succ_cons, take_while_take p l]
    · rw [List.takeWhile_cons_of_neg h]
      rfl
theorem scanPost_some {w w' : World} {b : Nat} {s : ByteArray} {i0 k : Nat} {aN : Addr} {v : Value} {n : Nat} (h0 : k ≠ 0) (hk : k = ((s.toList.drop i0).takeWhile Rpm.dig).length) (hn : n = Num.dec ((s.toList.drop i0).take k)) (hR : RdAt w' b s (i0 + k)) (hG : w.grownBy w' (some b)) (hZ : NatIn w' w.heap.size v n) : ScanPost w b s i0 aN (.returned (.tuple #[v, .int .i64 10, .int .i64 (k : Int), .nilIface])) w' := by
  subst hk
  refine ⟨hR, hG, .inr ⟨h0, _, rfl, ?_⟩⟩
  rw [take_while_take] at hn
  rw [← hn]
  exact hZ
set_option maxRecDepth 100000 in
set_option maxHeartbeats 4000000 in
theorem scan_calls (b : Nat) (s : ByteArray) (i0 : Nat) (w : World) (aE aN : Addr) (hR : RdAt w b s i0) (hi : i0 ≤ s.size) (hs : s.size ≤ 40000) (hv : w.cell? ⟨4, 0, none⟩ = some (errv aE)) (hn : w.cell? ⟨9, 0, none⟩ = some (errv aN)) (hb : 9 < b) :
    Calls Tryz.prog 128 #[.slice none 0 0, rdr b, .int .i64 10, .bool false] w fun e w' => ScanPost w b s i0 aN e w' := by
  have rd := fun (w : World) (j : Nat) (h1 : RdAt w b s j) (h2 : j ≤ s.size) (h3 : w.cell? ⟨4, 0, none⟩ = some (errv aE)) => next_calls b s j aE w h1 h2 (by omega) h3 (by omega)
  have mp := maxPow_calls
  have m1 := meth_read b
  have m2 := meth_unread b
  have HR := Aside0.mk hR
  have HV := Aside0.mk hv
  have HN := Aside0.mk hn
  have hbw := hR.lt
  have hbE : b ≠ 4 := by omega
  clear hR hv hn
  go_enter Tryz.func128, Tryz.ntmps128
  go_upto_block 2 with (first | (go_at_call 178; (with_reducible refine (rd _ _ HR.out hi HV.out).mono ?_); rintro e w1 ⟨v11, v15, rfl, r1, r2⟩; have A1 := Aside0.mk r1; have G1 := Aside0.mk r2; clear r1 r2) | (go_at_call 133; (with_reducible refine (mp _).mono ?_); rintro e w1 ⟨rfl, rfl⟩))
  go_cut [0, 3, 10, 11, 13, 14, 15, 20, 21, 22, 23] from 118 to 206 (fun v0 v3 v10 v11 v13 v14 v15 v20 v21 v22 v23 wx => v3 = .bool false ∧ v14 = .bool false ∧ v22 = .int .i64 (-1) ∧ Done w b s i0 aE wx v0 v10 v11 v13 v20 v21)
  case first =>
    go_wp2_with fail
    go_loopw [0, 3, 10, 11, 13, 14, 15, 20, 21, 22] (fun v0 v3 v10 v11 v13 v14 v15 v20 v21 v22 wr => v3 = .bool false ∧ v14 = .bool false ∧ v22 = .int .i64 (-1) ∧ ∃ k, Sc w b s i0 k wr v0 v10 v13 v20 v21 ∧ Ahead b s (i0 + k) aE wr v11 v15) (fun v0 v3 v10 v11 v13 v14 v15 v20 v21 v22 wr => s.size + 1 - (intOf v10).toNat)
    case atStart =>
      exact ⟨rfl, rfl, rfl, 0, ⟨0, 0, 46, rfl, rfl, rfl, rfl, .inl rfl, by decide, by simp [Num.dec], by simp, hi, .inl ⟨rfl, rfl⟩, G1.out⟩, A1.out⟩
    case round =>
      obtain ⟨rfl, rfl, rfl, k, hsc, hah⟩ := hrel
      have SC := Aside0.mk hsc
      obtain ⟨zv, di, p, rfl, rfl, rfl, rfl, hp, hdi, hval, hall, hkle, hZ, hG⟩ := hsc
      rcases hah with ⟨hlt, rfl, rfl, hRd⟩ | ⟨heq, rfl, hRd⟩
      · obtain ⟨ch, hch⟩ : ∃ ch, ch = (s[i0 + k]'hlt).toNat := ⟨_, rfl⟩
        rw [← hch]
        have h256 : ch < 256 := by rw [hch]; exact UInt8.toNat_lt _
        by_cases hd : 48 ≤ ch ∧ ch ≤ 57
        · obtain ⟨i, hi'⟩ : ∃ i, i = k % 19 := ⟨_, rfl⟩
          obtain ⟨nd, hnd⟩ : ∃ nd, nd = di * 10 + (ch - 48) := ⟨_, rfl⟩
          rw [← hi'] at hdi hval ⊢
          have dn := dec_next s i0 k hlt
          have an := all_next s i0 k hlt hall (by rw [← hch]; exact hd)
          rw [← hch] at dn
          have p18 : 10 ^ i ≤ 10 ^ 18 := Nat.pow_le_pow_right (by decide) (by omega)
          have e18 : (10 : Nat) ^ 18 = 1000000000000000000 := by decide
          rw [e18] at p18
          have zs := zv_small hval hall (k := 40000) (by rw [List.length_take, List.length_drop, len_toList]; omega)
          have e1 : ((ch : Int) == 46) = false := beq_eq_false_iff_ne.2 (by omega)
          have e2 : ((ch : Int) == 95) = false := beq_eq_false_iff_ne.2 (by omega)
          have e3 : decide (48 ≤ (ch : Int)) = true := decide_eq_true (by omega)
          have e4 : decide ((ch : Int) ≤ 57) = true := decide_eq_true (by omega)
          have y1 : (48 : Int) ≤ (ch : Int) := by omega
          have y2 : (ch : Int) ≤ 57 := by omega
          have z1 : decide (10 ≤ (ch : Int) - 48) = false := decide_eq_false (by omega)
          have hdi' : i < 19 := by omega
          have hk' : k < 4611686018427387904 := by omega
          by_cases h19 : i + 1 = 19
          · obtain ⟨a1, a2, a3⟩ := full_arith hi' h19 hnd (by omega) hdi hval dn
            have dl : di ≤ 1000000000000000000 := by omega
            have mu : Calls Tryz.prog 134 #[u0, u0, .int .u64 10000000000000000000, .int .u64 nd] wr _ := mulAddWW_calls zv 10000000000000000000 nd w.heap.size u0 wr hZ hG.size (by decide) (by decide) (by omega) (by omega)
            have f6 : ((i : Int) + 1 == 19) = true := beq_iff_eq.2 (by omega)
            have SN := Aside0.mk (show ∀ w2 v, NatIn w2 w.heap.size v (zv * 10000000000000000000 + nd) → Below w.heap.size wr w2 → Sc w b s i0 (k + 1) w2 v (.int .i64 ((k + 1 : Nat) : Int)) (.int .i32 ((48 : Nat) : Int)) (.int .u64 ((0 : Nat) : Int)) (.int .i64 (((k + 1) % 19 : Nat) : Int)) from fun w2 v h1 h2 => ⟨_, 0, 48, rfl, rfl, rfl, rfl, .inr rfl, a2, a3, an, by omega, h1, grown_below hG h2⟩)
            rw [← a1] at SN
            have rn := fun w2 (h : RdAt w2 b s (i0 + k + 1) ∧ w.grownBy w2 (some b)) => rd w2 (i0 + k + 1) h.1 (by omega) (h.2.cell HV.out (fun e => hbE (Option.some.inj e).symm))
            have RG := Aside0.mk (show ∀ w2, Below w.heap.size wr w2 → RdAt w2 b s (i0 + k + 1) ∧ w.grownBy w2 (some b) from fun w2 h2 => ⟨hRd.below h2 hbw, grown_below hG h2⟩)
            have y3 : (k : Int) ≤ 40000 := by omega
            have y4 : (i : Int) ≤ 18 := by omega
            have f2 := f2_ di dl
            have f3 := f3_ di ch nd hnd hd.1 dl hd.2
            clear a1 a2 a3 hi' hnd hdi hval dn an p18 e18 zs hRd hZ hG hall h19 hch hd h256 rd mp m2 dl
            go_wp2_with (first | (go_at_call 178; (with_reducible refine (rn _ (RG.out _ M2.out)).mono ?_); rintro e w3 ⟨v11', v15', rfl, q1, q2⟩; have Q1 := Aside0.mk q1; have Q2 := Aside0.mk q2; clear q1 q2) | (go_at_call 134; (with_reducible refine mu.mono ?_); rintro e w2 ⟨v2, rfl, p1, p2⟩; have M1 := Aside0.mk p1; have M2 := Aside0.mk p2; clear p1 p2))
            clear f2 f3
            exact ⟨⟨rfl, rfl, rfl, k + 1, Sc.read (SN.out _ _ M1.out M2.out) Q2.out hbw, Q1.out⟩, by simp only [intOf]; omega⟩
          · obtain ⟨a1, a2, a3⟩ := small_arith hi' h19 hnd (by omega) hdi hval dn
            have dl : di ≤ 1000000000000000000 := by omega
            have f6 : ((i : Int) + 1 == 19) = false := beq_eq_false_iff_ne.2 (by omega)
            have SN := Aside0.mk (show Sc w b s i0 (k + 1) wr u0 (.int .i64 ((k + 1 : Nat) : Int)) (.int .i32 ((48 : Nat) : Int)) (.int .u64 (nd : Int)) (.int .i64 (((k + 1) % 19 : Nat) : Int)) from ⟨zv, nd, 48, rfl, rfl, rfl, rfl, .inr rfl, a2, a3, an, by omega, hZ, hG⟩)
            rw [← a1] at SN
            have rn := rd wr (i0 + k + 1) hRd (by omega) (hG.cell HV.out (fun e => hbE (Option.some.inj e).symm))
            have y3 : (k : Int) ≤ 40000 := by omega
            have y4 : (i : Int) ≤ 18 := by omega
            have f2 := f2_ di dl
            have f3 := f3_ di ch nd hnd hd.1 dl hd.2
            clear a1 a2 a3 hi' hnd hdi hval dn an p18 e18 zs hRd hZ hG hall h19 hch hd h256 rd mp m2
            go_wp2_with (first | (go_at_call 178; (with_reducible refine rn.mono ?_); rintro e w2 ⟨v11', v15', rfl, q1, q2⟩; have Q1 := Aside0.mk q1; have Q2 := Aside0.mk q2; clear q1 q2))
            clear f2 f3
            exact ⟨⟨rfl, rfl, rfl, k + 1, Sc.read SN.out Q2.out hbw, Q1.out⟩, by simp only [intOf]; omega⟩
        · have st := stop_at s i0 k hkle hall (fun h => by rw [← hch]; exact hd)
          have un := unread_calls b s (i0 + k) wr hRd (by omega)
          have ST := Aside0.mk st
          clear hRd st hch hval hall hdi hZ hG rd mp m1
          have cls : ch = 46 ∨ ch = 95 ∨ (ch < 48 ∧ ch ≠ 46) ∨ (57 < ch ∧ ch < 65) ∨ (65 ≤ ch ∧ ch ≤ 90) ∨ (90 < ch ∧ ch < 97 ∧ ch ≠ 95) ∨ (97 ≤ ch ∧ ch ≤ 122) ∨ 122 < ch := by omega
          clear hd
          rcases cls with rfl | rfl | ⟨x1, x2⟩ | ⟨x1, x2⟩ | ⟨x1, x2⟩ | ⟨x1, x2, x3⟩ | ⟨x1, x2⟩ | x1
          all_goals
            (try have e1 : ((ch : Int) == 46) = false := beq_eq_false_iff_ne.2 (by omega))
            (try have e2 : ((ch : Int) == 95) = false := beq_eq_false_iff_ne.2 (by omega))
            (first | have e3 : decide (48 ≤ (ch : Int)) = false := decide_eq_false (by omega) | have e3 : decide (48 ≤ (ch : Int)) = true := decide_eq_true (by omega) | skip)
            (try have e4 : decide ((ch : Int) ≤ 57) = false := decide_eq_false (by omega))
            (first | have e5 : decide (97 ≤ (ch : Int)) = false := decide_eq_false (by omega) | have e5 : decide (97 ≤ (ch : Int)) = true := decide_eq_true (by omega) | skip)
            (first | have e6 : decide ((ch : Int) ≤ 122) = false := decide_eq_false (by omega) | have e6 : decide ((ch : Int) ≤ 122) = true := decide_eq_true (by omega) | skip)
            (first | have e7 : decide (65 ≤ (ch : Int)) = false := decide_eq_false (by omega) | have e7 : decide (65 ≤ (ch : Int)) = true := decide_eq_true (by omega) | skip)
            (first | have e8 : decide ((ch : Int) ≤ 90) = false := decide_eq_false (by omega) | have e8 : decide ((ch : Int) ≤ 90) = true := decide_eq_true (by omega) | skip)
            (try have y1 : (97 : Int) ≤ (ch : Int) := by omega)
            (try have y1 : (65 : Int) ≤ (ch : Int) := by omega)
            (try have y2 : (ch : Int) ≤ 122 := by omega)
            (try have z1 : decide (10 ≤ (ch : Int) - 97 + 10) = true := decide_eq_true (by omega))
            (try have z2 : decide (10 ≤ (ch : Int) - 65 + 10) = true := decide_eq_true (by omega))
            go_wp2_with (first | (go_at_call 179; (with_reducible refine un.mono ?_); rintro e w2 ⟨rfl, q1, q2, q3⟩; have Q1 := Aside0.mk q1; have Q2 := Aside0.mk q2; clear q1 q2 q3))
            go_meet
            exact ⟨rfl, rfl, rfl, k, Sc.read SC.out Q2.out hbw, .inl rfl, ST.out, Q1.out⟩
      · have st := stop_at s i0 k hkle hall (fun h => by omega)
        have RD := Aside0.mk hRd
        have ST := Aside0.mk st
        clear hRd st heq hval hall hdi hZ hG
        go_wp2_with fail
        go_meet
        exact ⟨rfl, rfl, rfl, k, SC.out, .inr rfl, ST.out, RD.out⟩
  case rest =>
    obtain ⟨rfl, rfl, rfl, k, hsc, h11, hk, hRd⟩ := hcut
    obtain ⟨zv, di, p, rfl, rfl, rfl, rfl, hp, hdi, hval, hall, hkle, hZ, hG⟩ := hsc
    have hv := hG.cell HV.out (fun e => hbE (Option.some.inj e).symm)
    have hn := hG.cell HN.out (fun e => Nat.ne_of_gt hb (Option.some.inj e).symm)
    have e95 : ((p : Int) == 95) = false := beq_eq_false_iff_ne.2 (by omega)
    clear rd mp m1 m2 A1 G1 hp
    have q1 := eof_nil aE
    have q2 := eof_same aE
    by_cases hk0 : k = 0
    · subst hk0
      have hu : u0 = .slice none 0 0 := by
        rcases hZ with ⟨_, h⟩ | ⟨h0, _⟩
        · exact h
        · refine absurd ?_ h0
          simp only [List.take_zero, Num.dec_nil, Nat.zero_mod, Nat.pow_zero] at hval
          omega
      subst hu
      have HK := Aside0.mk hk
      have HRd := Aside0.mk hRd
      have HG := Aside0.mk hG
      clear hk hRd hG hdi hval hall hZ
      rw [show ((0 : Nat) : Int) = 0 from rfl]
      rcases h11 with rfl | rfl
      all_goals
        go_wp2_with fail
        exact bodyPost_ret (results_list (rs := [.tmp 8, .tmp 9, .tmp 10, .tmp 11]) rfl (by simp) (.tmp (.tmp (.tmp (.tmp .nil))))) rfl (scanPost_none HK.out HRd.out HG.out)
    · have k0 : ((k : Int) == 0) = false := beq_eq_false_iff_ne.2 (by omega)
      by_cases hi0 : k % 19 = 0
      · rw [hi0] at hdi hval ⊢
        have HK := Aside0.mk hk
        have HRd := Aside0.mk hRd
        have HG := Aside0.mk hG
        have HZ := Aside0.mk hZ
        have HV2 := Aside0.mk (show zv = Num.dec ((s.toList.drop i0).take k) by omega)
        have HK0 := Aside0.mk hk0
        clear hk hRd hG hdi hval hall hZ hi0 hk0
        rw [show ((0 : Nat) : Int) = 0 from rfl]
        rcases h11 with rfl | rfl
        all_goals
          go_wp2_with fail
          exact bodyPost_ret (results_list (rs := [.tmp 8, .tmp 9, .tmp 10, .tmp 11]) rfl (by simp) (.tmp (.tmp (.tmp (.tmp .nil))))) rfl (scanPost_some HK0.out HK.out HV2.out HRd.out HG.out HZ.out)
      · obtain ⟨i, hi'⟩ : ∃ i, i = k % 19 := ⟨_, rfl⟩
        rw [← hi'] at hdi hval hi0 ⊢
        obtain ⟨q, hq⟩ : ∃ q, q = 10 ^ i := ⟨_, rfl⟩
        have pw := fun w => pow_calls i (by omega) w
        rw [← hq] at pw hval
        have qb : q ≤ 10000000000000000000 := by rw [hq]; exact ten_le i (by omega)
        have q0 : 0 < q := by rw [hq]; exact Nat.pow_pos (by decide)
        have db : di < 10000000000000000000 := by rw [← hq] at hdi; omega
        have zs : (Dg.dg zv).length ≤ 50000 := by
          rw [hq] at hval
          have := zv_small hval hall (k := 40000) (by rw [List.length_take, List.length_drop, len_toList]; omega)
          omega
        have mu := fun w2 (h : NatIn w2 w.heap.size u0 zv) (hs2 : w.heap.size ≤ w2.heap.size) => mulAddWW_calls zv q di w.heap.size u0 w2 h hs2 q0 (by omega) (by omega) zs
        have c1 : decide ((i : Int) > 0) = true := decide_eq_true (by omega)
        have c2 : decide (0 < (i : Int)) = true := decide_eq_true (by omega)
        have c3 : decide (0 < i) = true := decide_eq_true (by omega)
        have c4 : 0 < i := by omega
        have c5 : ¬ i = 0 := by omega
        have HK := Aside0.mk hk
        have HRd := Aside0.mk hRd
        have HG := Aside0.mk hG
        have HZ := Aside0.mk hZ
        have HV2 := Aside0.mk (show zv * q + di = Num.dec ((s.toList.drop i0).take k) from hval)
        have HK0 := Aside0.mk hk0
        clear hk hRd hG hdi hval hall hZ hi0 hk0 hq hi' qb q0 db zs
        rcases h11 with rfl | rfl
        all_goals
          go_wp2_with (first | (go_at_call 135; (with_reducible refine (pw _).mono ?_); rintro e w2 ⟨rfl, dr⟩; have DB := Aside0.mk dr.below; clear dr) | (go_at_call 134; (with_reducible refine (mu _ (HZ.out.below DB.out) (Nat.le_trans HG.out.size DB.out.size)).mono ?_); rintro e w3 ⟨v3, rfl, p1, p2⟩; have P1 := Aside0.mk p1; have P2 := Aside0.mk p2; clear p1 p2))
          have BB := (DB.out.mono HG.out.size).trans P2.out
          exact bodyPost_ret (results_list (rs := [.tmp 8, .tmp 9, .tmp 10, .tmp 11]) rfl (by simp) (.tmp (.tmp (.tmp (.tmp .nil))))) rfl (scanPost_some HK0.out HK.out HV2.out (HRd.out.below BB hbw) (grown_below HG.out BB) P1.out)
end Go.Proofs.YtnbpoplomdocjaaGreatDoor.Giv

namespace Go.Proofs.YtnbpoplomdocjaaGreatDoor.Giv
open Go.RowKit Go.Proofs.YtnbpoplomdocjaaGreatDoorW.PrintWords Go.Proofs.YtnbpoplomdocjaaGreatDoorW.PrintLast Go.Proofs.YtnbpoplomdocjaaGreatDoor.Pk Go.Proofs.YtnbpoplomdocjaaGreatDoor.Ord Go.Proofs.YtnbpoplomdocjaaGreatDoor.QM
set_option linter.unusedVariables false
set_option linter.unusedSimpArgs false

/-- The errors that are laid. -/
structure Laid (w : World) : Prop where
  eof : ∃ a, w.cell? ⟨4, 0, none⟩ = some (errv a)
  nod : ∃ a, w.cell? ⟨9, 0, none⟩ = some (errv a)
  inv : ∃ a, w.cell? ⟨1, 0, none⟩ = some (errv a)
theorem Laid.below {w w' : World} (h : Laid w) (hb : Below w.heap.size w w') : Laid w' := by
  constructor
  · obtain ⟨a, e⟩ := h.eof
    exact ⟨a, pw_cell_below hb e⟩
  · obtain ⟨a, e⟩ := h.nod
    exact ⟨a, pw_cell_below hb e⟩
  · obtain ⟨a, e⟩ := h.inv
    exact ⟨a, pw_cell_below hb e⟩
/-- The digits behind the sign. -/
def digs (s : ByteArray) : List UInt8 := (s.toList.drop (sgnLen s)).takeWhile Rpm.dig
theorem sgn_le (s : ByteArray) : sgnLen s ≤ s.size := by
  unfold sgnLen
  rw [← len_toList]
  split
  · rename_i c r h
    rw [h]
    split <;> simp
  · exact Nat.zero_le _
/-- What Int.scan leaves. -/
def IntPost (B zb b : Nat) (s : ByteArray) (w : World) (e : Ending) (w' : World) : Prop :=
  Below B w w' ∧ ((digs s = [] ∧ ∃ v1 v2 a, e = .returned (.tuple #[v1, v2, errv a])) ∨
    (digs s ≠ [] ∧ e = .returned (.tuple #[.pointer (some ⟨zb, 0, none⟩), .int .i64 10, .nilIface]) ∧ RdAt w' b s (sgnLen s + (digs s).length) ∧ ∀ w3, w'.grownBy w3 (some b) → IsBig w3 zb (if sgnNeg s then -(Num.dec (digs s) : Int) else (Num.dec (digs s) : Int))))
theorem grown_B {B b : Nat} {w w' : World} (hg : w.grownBy w' (some b)) (hB : B ≤ b) (hs : B ≤ w.heap.size) : Below B w w' := below_row hg hB hs
/-- The two cells make the number. -/
theorem isBig_of {w : World} {zb n : Nat} {ng : Bool} {v : Value} {B : Nat} (hz : w.heap[zb]? = some (.cells #[.bool ng, v] 91 (0, 0))) (hN : NatIn w B v n) (hs : (Dg.dg n).length ≤ 1000000) (neg : Bool) (hng : ng = (decide (n ≠ 0) && neg)) :
    IsBig w zb (if neg then -(n : Int) else (n : Int)) := by
  have e1 : (if neg then -(n : Int) else (n : Int)).natAbs = n := by split <;> omega
  have e2 : decide ((if neg then -(n : Int) else (n : Int)) < 0) = ng := by
    rw [hng]
    cases neg <;> by_cases h : n = 0 <;> simp [h] <;> omega
  unfold IsBig wd
  rw [e1, e2]
  rcases hN with ⟨rfl, rfl⟩ | ⟨h0, h, c, rfl, _, hL⟩
  · refine ⟨none, 0, ?_, ?_, ?_, ?_, ?_⟩
    · rw [hz, Dg.dg_zero]
      rfl
    · rw [Dg.dg_zero]
      exact Nat.le_refl _
    · rw [Dg.dg_zero]
      exact Nat.zero_le _
    · rw [Dg.dg_zero]
      exact Kd.C_nil _ _
    · intro a e
      cases e
  · refine ⟨some ⟨h, 0, none⟩, c, ?_, ?_, ?_, ?_, ?_⟩
    · rw [hz, ws_len]
    · rw [ws_len]
      exact hL.le
    · rw [ws_len]
      exact hs
    · exact hL.row hs
    · intro a e
      cases e
      obtain ⟨arr, h1, _⟩ := hL
      exact ⟨arr, h1⟩
theorem NatIn.put {w : World} {B zb : Nat} {v : Value} {n : Nat} (h : NatIn w B v n) (hb : zb < B) (i : Nat) (u : Value) : NatIn (w.setCell ⟨zb, i, none⟩ u) B v n :=
  h.far (grown_set (World.grownBy.refl w _) i u) hb
section
variable (b : Nat) (s : ByteArray) (w w1 : World) (aE aN : Addr) (h : RdAt w1 b s (sgnLen s)) (hg : w.grownBy w1 (some b)) (hs : s.size ≤ 40000)
    (hv : w.cell? ⟨4, 0, none⟩ = some (errv aE)) (hn : w.cell? ⟨9, 0, none⟩ = some (errv aN)) (hb : 9 < b) (hb2 : 4 < b)
include h hg hs hv hn hb hb2
theorem scan_at : Calls Tryz.prog 128 #[.slice none 0 0, rdr b, .int .i64 10, .bool false] w1 (ScanPost w1 b s (sgnLen s) aN) :=
  scan_calls b s (sgnLen s) w1 aE aN h (sgn_le s) hs (hg.cell hv (fun e => Nat.ne_of_lt hb2 (Option.some.inj e))) (hg.cell hn (fun e => Nat.ne_of_lt hb (Option.some.inj e))) hb
theorem scan_none (hD : digs s = []) : Calls Tryz.prog 128 #[.slice none 0 0, rdr b, .int .i64 10, .bool false] w1 fun e w' => e = .returned (.tuple #[.slice none 0 0, .int .i64 10, .int .i64 0, errv aN]) ∧ w1.grownBy w' (some b) := by
  refine (scan_at b s w w1 aE aN h hg hs hv hn hb hb2).mono ?_
  rintro e w' ⟨_, hg2, ⟨_, he⟩ | ⟨hx, _⟩⟩
  · exact ⟨he, hg2⟩
  · exact absurd (congrArg List.length hD) hx
theorem scan_zero (hD : digs s ≠ []) (h0 : Num.dec (digs s) = 0) : Calls Tryz.prog 128 #[.slice none 0 0, rdr b, .int .i64 10, .bool false] w1 fun e w' => e = .returned (.tuple #[.slice none 0 0, .int .i64 10, .int .i64 ((digs s).length : Int), .nilIface]) ∧ w1.grownBy w' (some b) ∧ RdAt w' b s (sgnLen s + (digs s).length) := by
  refine (scan_at b s w w1 aE aN h hg hs hv hn hb hb2).mono ?_
  rintro e w' ⟨hr, hg2, ⟨hx, _⟩ | ⟨_, v, he, hN⟩⟩
  · exact absurd (List.length_eq_zero_iff.1 hx) hD
  · rcases hN with ⟨_, rfl⟩ | ⟨hz, _⟩
    · exact ⟨he, hg2, hr⟩
    · exact absurd h0 hz
theorem scan_pos (hD : digs s ≠ []) (h0 : Num.dec (digs s) ≠ 0) : Calls Tryz.prog 128 #[.slice none 0 0, rdr b, .int .i64 10, .bool false] w1 fun e w' => ∃ h c, e = .returned (.tuple #[.slice (some ⟨h, 0, none⟩) (Dg.dg (Num.dec (digs s))).length c, .int .i64 10, .int .i64 ((digs s).length : Int), .nilIface]) ∧ w1.grownBy w' (some b) ∧ RdAt w' b s (sgnLen s + (digs s).length) ∧ NatIn w' w1.heap.size (.slice (some ⟨h, 0, none⟩) (Dg.dg (Num.dec (digs s))).length c) (Num.dec (digs s)) := by
  refine (scan_at b s w w1 aE aN h hg hs hv hn hb hb2).mono ?_
  rintro e w' ⟨hr, hg2, ⟨hx, _⟩ | ⟨_, v, he, hN⟩⟩
  · exact absurd (List.length_eq_zero_iff.1 hx) hD
  · have hN' := hN
    rcases hN with ⟨hz, _⟩ | ⟨_, h, c, rfl, _⟩
    · exact absurd hz h0
    · exact ⟨h, c, he, hg2, hr, hN'⟩
end
theorem RdAt.put {w : World} {b zb i : Nat} {s : ByteArray} (h : RdAt w b s i) (hne : zb ≠ b) (k : Nat) (u : Value) : RdAt (w.setCell ⟨zb, k, none⟩ u) b s i := by
  obtain ⟨p, h⟩ := h
  exact ⟨p, (Below.heap_setCell _ _ _ _ (Ne.symm hne)).trans h⟩
theorem digs_all (s : ByteArray) : (digs s).all Rpm.dig = true := by
  unfold digs
  exact List.all_takeWhile
theorem digs_len (s : ByteArray) : (digs s).length ≤ s.size := by
  unfold digs
  have a := (List.takeWhile_prefix (l := s.toList.drop (sgnLen s)) Rpm.dig).length_le
  rw [List.length_drop, len_toList] at a
  omega
theorem int_end {B C zb b n : Nat} {s : ByteArray} {w w2 : World} {v : Value} {ng : Bool} (hz2 : w2.heap[zb]? = some (.cells #[.bool false, .slice none 0 0] 91 (0, 0))) (hR : RdAt w2 b s (sgnLen s + (digs s).length)) (hne : zb ≠ b) (hD : digs s ≠ []) (hC : zb < C) (hN : NatIn w2 C v n)
    (hn : n = Num.dec (digs s)) (hng : ng = (decide (n ≠ 0) && sgnNeg s)) (hb : Below B w w2) (hB : B ≤ zb) (hs : s.size ≤ 40000) (hCb : b < C) :
    IntPost B zb b s w (.returned (.tuple #[.pointer (some ⟨zb, 0, none⟩), .int .i64 10, .nilIface])) ((w2.setCell ⟨zb, 1, none⟩ v).setCell ⟨zb, 0, none⟩ (.bool ng)) := by
  refine ⟨(hb.setCell hB _).setCell hB _, .inr ⟨hD, rfl, (hR.put hne _ _).put hne _ _, ?_⟩⟩
  intro w3 hw3
  rw [← hn]
  have hz3 := blk_put (blk_put hz2 1 v rfl) 0 (.bool ng) rfl
  refine isBig_of (ng := ng) (v := v) (B := C) ?_ (((hN.put hC _ _).put hC _ _).far hw3 hCb) ?_ (sgnNeg s) hng
  · exact (hw3.block zb (blk_lt hz3) (fun e => hne (Option.some.inj e))).trans hz3
  · have := Num.dg_len_le n (digs s).length (by rw [hn]; exact Num.dec_lt _ (digs_all s))
    have := digs_len s
    omega
set_option maxRecDepth 100000 in
set_option maxHeartbeats 4000000 in
theorem intScan_calls (zb b : Nat) (s : ByteArray) (w : World) (B : Nat) (aE aN : Addr) (hz : w.heap[zb]? = some (.cells #[.bool false, .slice none 0 0] 91 (0, 0))) (hR : RdAt w b s 0) (hne : zb ≠ b) (hB1 : B ≤ zb) (hB2 : B ≤ b) (hs : s.size ≤ 40000)
    (hv : w.cell? ⟨4, 0, none⟩ = some (errv aE)) (hn : w.cell? ⟨9, 0, none⟩ = some (errv aN)) (hb : 9 < b) (hb2 : 4 < b) :
    Calls Tryz.prog 112 #[.pointer (some ⟨zb, 0, none⟩), rdr b, .int .i64 10] w (IntPost B zb b s w) := by
  have hbw := hR.lt
  have hzw := blk_lt hz
  by_cases h0 : s.size = 0
  · have c := sign_none b s w aE hR h0 hv (by omega)
    have D := Aside0.mk (show digs s = [] by
      unfold digs
      rw [List.drop_eq_nil_of_le (by rw [len_toList]; omega)]
      rfl)
    clear hv hn hR h0 hz
    go_enter Tryz.func112, Tryz.ntmps112
    go_wp2_with (first | (go_at_call 127; (with_reducible refine c.mono ?_); rintro e w1 ⟨rfl, r1, r2, r3⟩; have R2 := Aside0.mk r2; clear r1 r2 r3))
    exact bodyPost_ret (results_list (rs := [.tmp 6, .tmp 7, .tmp 8]) rfl (by simp) (.tmp (.tmp (.tmp .nil)))) rfl ⟨grown_B R2.out hB2 (by omega), .inl ⟨D.out, _, _, _, rfl⟩⟩
  · have c := sign_some b s w hR (by omega) (by omega)
    have HZ := Aside0.mk (show ∀ w1, w.grownBy w1 (some b) → w1.heap[zb]? = some (.cells #[.bool false, .slice none 0 0] 91 (0, 0)) from fun w1 hg => (hg.block zb hzw (fun e => hne (Option.some.inj e))).trans hz)
    by_cases hD : digs s = []
    · have sc := fun (w1 : World) (h : RdAt w1 b s (sgnLen s)) (hg : w.grownBy w1 (some b)) => scan_none b s w w1 aE aN h hg hs hv hn hb hb2 hD
      have DD := Aside0.mk hD
      clear hv hn hR h0 hz hD
      go_enter Tryz.func112, Tryz.ntmps112
      go_upto_region 4 with (first | (go_at_call 127; (with_reducible refine c.mono ?_); rintro e w1 ⟨rfl, r1, r2, r3⟩; have R1 := Aside0.mk r1; have R2 := Aside0.mk r2; clear r1 r2 r3))
      have z2 : w1.cell? ⟨zb, 1, none⟩ = some (.slice none 0 0) := blk_cell (HZ.out _ R2.out) 1
      go_wp2_with (first | (go_at_call 128; (with_reducible refine (sc _ R1.out R2.out).mono ?_); rintro e w2 ⟨rfl, q2⟩; have Q2 := Aside0.mk q2; have y1 : w2.cell? ⟨zb, 1, none⟩ = some (.slice none 0 0) := (blk_cell (HZ.out _ (grown_trans R2.out q2)) 1); have y2 := blk_frozen (HZ.out _ (grown_trans R2.out q2)) 1; clear q2))
      refine bodyPost_ret (results_list (rs := [.tmp 6, .tmp 7, .tmp 8]) rfl (by simp) (.tmp (.tmp (.tmp .nil)))) rfl ⟨?_, .inl ⟨DD.out, _, _, _, rfl⟩⟩
      exact (grown_B (grown_trans R2.out Q2.out) hB2 (by omega)).setCell hB1 _
    · by_cases hZ : Num.dec (digs s) = 0
      · have sc := fun (w1 : World) (h : RdAt w1 b s (sgnLen s)) (hg : w.grownBy w1 (some b)) => scan_zero b s w w1 aE aN h hg hs hv hn hb hb2 hD hZ
        have DD := Aside0.mk hD
        have DZ := Aside0.mk hZ
        clear hv hn hR h0 hz hD hZ
        go_enter Tryz.func112, Tryz.ntmps112
        go_upto_region 4 with (first | (go_at_call 127; (with_reducible refine c.mono ?_); rintro e w1 ⟨rfl, r1, r2, r3⟩; have R1 := Aside0.mk r1; have R2 := Aside0.mk r2; clear r1 r2 r3))
        have z2 : w1.cell? ⟨zb, 1, none⟩ = some (.slice none 0 0) := blk_cell (HZ.out _ R2.out) 1
        go_wp2_with (first | (go_at_call 128; (with_reducible refine (sc _ R1.out R2.out).mono ?_); rintro e w2 ⟨rfl, q2, q3⟩; have Q2 := Aside0.mk q2; have Q3 := Aside0.mk q3; have y1 : w2.cell? ⟨zb, 1, none⟩ = some (.slice none 0 0) := (blk_cell (HZ.out _ (grown_trans R2.out q2)) 1); have y2 := blk_frozen (HZ.out _ (grown_trans R2.out q2)) 1; have y3 : w2.cell? ⟨zb, 0, none⟩ = some (.bool false) := (blk_cell (HZ.out _ (grown_trans R2.out q2)) 0); have y4 := blk_frozen (HZ.out _ (grown_trans R2.out q2)) 0; clear q2 q3))
        exact bodyPost_ret (results_list (rs := [.tmp 6, .tmp 7, .tmp 8]) rfl (by simp) (.tmp (.tmp (.tmp .nil)))) rfl (int_end (C := zb + b + 1) (n := 0) (HZ.out _ (grown_trans R2.out Q2.out)) Q3.out hne DD.out (by omega) (.inl ⟨rfl, rfl⟩) DZ.out.symm rfl (grown_B (grown_trans R2.out Q2.out) hB2 (by omega)) hB1 hs (by omega))
      · have sc := fun (w1 : World) (h : RdAt w1 b s (sgnLen s)) (hg : w.grownBy w1 (some b)) => scan_pos b s w w1 aE aN h hg hs hv hn hb hb2 hD hZ
        have DD := Aside0.mk hD
        have DZ := Aside0.mk hZ
        have lp := dg_ne hZ
        obtain ⟨m, em⟩ : ∃ m, m = (Dg.dg (Num.dec (digs s))).length := ⟨_, rfl⟩
        rw [← em] at sc lp
        obtain ⟨ng, eng⟩ : ∃ ng, ng = sgnNeg s := ⟨_, rfl⟩
        have ENG := Aside0.mk eng
        rw [← eng] at c
        have EM := Aside0.mk em
        have l1 : decide ((m : Int) > 0) = true := decide_eq_true (by omega)
        have l2 : decide (0 < (m : Int)) = true := decide_eq_true (by omega)
        have l3 : decide (0 < m) = true := decide_eq_true (by omega)
        clear hv hn hR h0 hz hD hZ em eng
        go_enter Tryz.func112, Tryz.ntmps112
        go_upto_region 4 with (first | (go_at_call 127; (with_reducible refine c.mono ?_); rintro e w1 ⟨rfl, r1, r2, r3⟩; have R1 := Aside0.mk r1; have R2 := Aside0.mk r2; clear r1 r2 r3))
        have z2 : w1.cell? ⟨zb, 1, none⟩ = some (.slice none 0 0) := blk_cell (HZ.out _ R2.out) 1
        go_wp2_with (first | (go_at_call 128; (with_reducible refine (sc _ R1.out R2.out).mono ?_); rintro e w2 ⟨hh, cc, rfl, q2, q3, q4⟩; have Q2 := Aside0.mk q2; have Q3 := Aside0.mk q3; have Q4 := Aside0.mk q4; have y1 : w2.cell? ⟨zb, 1, none⟩ = some (.slice none 0 0) := (blk_cell (HZ.out _ (grown_trans R2.out q2)) 1); have y2 := blk_frozen (HZ.out _ (grown_trans R2.out q2)) 1; have y3 : w2.cell? ⟨zb, 0, none⟩ = some (.bool false) := (blk_cell (HZ.out _ (grown_trans R2.out q2)) 0); have y4 := blk_frozen (HZ.out _ (grown_trans R2.out q2)) 0; clear q2 q3 q4))
        exact bodyPost_ret (results_list (rs := [.tmp 6, .tmp 7, .tmp 8]) rfl (by simp) (.tmp (.tmp (.tmp .nil)))) rfl (int_end (C := w1.heap.size) (n := Num.dec (digs s)) (HZ.out _ (grown_trans R2.out Q2.out)) Q3.out hne DD.out (Nat.lt_of_lt_of_le hzw R2.out.size) Q4.out rfl (by rw [ENG.out]; simp [DZ.out]) (grown_B (grown_trans R2.out Q2.out) hB2 (by omega)) hB1 hs (Nat.lt_of_lt_of_le hbw R2.out.size))
end Go.Proofs.YtnbpoplomdocjaaGreatDoor.Giv

namespace Go.Proofs.YtnbpoplomdocjaaGreatDoor.Giv
open Go.RowKit Go.Proofs.YtnbpoplomdocjaaGreatDoorW.PrintWords Go.Proofs.YtnbpoplomdocjaaGreatDoorW.PrintLast Go.Proofs.YtnbpoplomdocjaaGreatDoor.Pk Go.Proofs.YtnbpoplomdocjaaGreatDoor.Ord Go.Proofs.YtnbpoplomdocjaaGreatDoor.QM
set_option linter.unusedVariables false
set_option linter.unusedSimpArgs false

theorem cutSign_eq (s : ByteArray) : Num.cutSign s.toList = (sgnNeg s, s.toList.drop (sgnLen s)) := by
  unfold Num.cutSign sgnNeg sgnLen
  cases h : s.toList with
  | nil => rfl
  | cons c r =>
    by_cases h1 : c.toNat = 45
    · simp [h1]
    · by_cases h2 : c.toNat = 43
      · simp [h2]
      · simp [h1, h2]
theorem takeWhile_all {α : Type} (p : α → Bool) : ∀ l : List α, (l.takeWhile p).length = l.length ↔ l.all p = true
  | [] => by simp
  | x :: l => by
    by_cases h : p x = true
    · rw [List.takeWhile_cons_of_pos h, List.length_cons, List.length_cons, List.all_cons, h, Bool.true_and, ← takeWhile_all p l]
      omega
    · rw [List.takeWhile_cons_of_neg h, List.all_cons]
      simp [h]
theorem takeWhile_self {α : Type} (p : α → Bool) (l : List α) (h : l.all p = true) : l.takeWhile p = l := by
  have := (takeWhile_all p l).2 h
  have e := take_while_take p l
  rw [this, List.take_length] at e
  exact e.symm
theorem parse_end (s : ByteArray) (hD : digs s ≠ []) (he : sgnLen s + (digs s).length = s.size) : Num.parse s.toList = some (if sgnNeg s then -(Num.dec (digs s) : Int) else (Num.dec (digs s) : Int)) := by
  have hl : (digs s).length = (s.toList.drop (sgnLen s)).length := by rw [List.length_drop, len_toList]; omega
  have ha := (takeWhile_all Rpm.dig _).1 hl
  have hs : digs s = s.toList.drop (sgnLen s) := takeWhile_self _ _ ha
  unfold Num.parse Num.digits
  rw [cutSign_eq, ← hs]
  rw [← hs] at ha
  have hne : (digs s).isEmpty = false := by simpa using hD
  simp only [hne, ha, Bool.not_false, Bool.and_self, if_true]
theorem parse_not (s : ByteArray) (h : digs s = [] ∨ sgnLen s + (digs s).length ≠ s.size) : Num.parse s.toList = none := by
  unfold Num.parse Num.digits
  rw [cutSign_eq]
  have hd : (!(s.toList.drop (sgnLen s)).isEmpty && (s.toList.drop (sgnLen s)).all Rpm.dig) = false := by
    rw [Bool.eq_false_iff]
    intro hx
    rw [Bool.and_eq_true] at hx
    have e : digs s = s.toList.drop (sgnLen s) := takeWhile_self _ _ hx.2
    rcases h with h | h
    · rw [← e, h] at hx
      simp at hx
    · refine h ?_
      rw [e, List.length_drop, len_toList]
      have := sgn_le s
      omega
  simp only [hd]
  rfl
/-- What SetString leaves. -/
def SetPost (B zb : Nat) (s : ByteArray) (w : World) (e : Ending) (w' : World) : Prop :=
  Below B w w' ∧ ((Num.parse s.toList = none ∧ e = .returned (.tuple #[.pointer none, .bool false])) ∨ (∃ z, Num.parse s.toList = some z ∧ e = .returned (.tuple #[.pointer (some ⟨zb, 0, none⟩), .bool true]) ∧ IsBig w' zb z))
set_option maxRecDepth 100000 in
set_option maxHeartbeats 4000000 in
theorem setFrom_calls (zb b : Nat) (s : ByteArray) (w : World) (B : Nat) (aE aN : Addr) (hz : w.heap[zb]? = some (.cells #[.bool false, .slice none 0 0] 91 (0, 0))) (hR : RdAt w b s 0) (hne : zb ≠ b) (hB1 : B ≤ zb) (hB2 : B ≤ b) (hs : s.size ≤ 40000)
    (hv : w.cell? ⟨4, 0, none⟩ = some (errv aE)) (hn : w.cell? ⟨9, 0, none⟩ = some (errv aN)) (hb : 9 < B) (hb2 : 4 < B) :
    Calls Tryz.prog 82 #[.pointer (some ⟨zb, 0, none⟩), rdr b, .int .i64 10] w (SetPost B zb s w) := by
  have hz0 := Aside0.mk hz
  have m1 := meth_read b
  have c := intScan_calls zb b s w B aE aN hz hR hne hB1 hB2 hs hv hn (by omega) (by omega)
  by_cases hD : digs s = []
  · have c0 := c.mono (R' := fun e w' => Below B w w' ∧ ∃ v1 v2 a, e = .returned (.tuple #[v1, v2, errv a])) (fun e w' hp => by
      obtain ⟨h1, ⟨_, h2⟩ | ⟨h2, _⟩⟩ := hp
      · exact ⟨h1, h2⟩
      · exact absurd hD h2)
    have PN := Aside0.mk (parse_not s (.inl hD))
    clear c hz hR hv hn hD
    go_enter Tryz.func82, Tryz.ntmps82
    go_wp2_with (first | (go_at_call 112; (with_reducible refine c0.mono ?_); rintro e w1 ⟨r1, v1, v2, a, rfl⟩; have R1 := Aside0.mk r1; clear r1))
    exact bodyPost_ret (results_list (rs := [.tmp 6, .tmp 7]) rfl (by simp) (.tmp (.tmp .nil))) rfl ⟨R1.out, .inl ⟨PN.out, rfl⟩⟩
  · have c0 := c.mono (R' := fun e w' => Below B w w' ∧ e = .returned (.tuple #[.pointer (some ⟨zb, 0, none⟩), .int .i64 10, .nilIface]) ∧ RdAt w' b s (sgnLen s + (digs s).length) ∧ ∀ w3, w'.grownBy w3 (some b) → IsBig w3 zb (if sgnNeg s then -(Num.dec (digs s) : Int) else (Num.dec (digs s) : Int))) (fun e w' hp => by
      obtain ⟨h1, ⟨h2, _⟩ | ⟨_, h2⟩⟩ := hp
      · exact absurd h2 hD
      · exact ⟨h1, h2⟩)
    have DB := Aside0.mk (show ∀ w1, Below B w w1 → w1.cell? ⟨4, 0, none⟩ = some (errv aE) from fun w1 h => (h.cell (p := ⟨4, 0, none⟩) hb2).trans hv)
    obtain ⟨j, hj⟩ : ∃ j, j = sgnLen s + (digs s).length := ⟨_, rfl⟩
    rw [← hj] at c0
    have hjs : j ≤ s.size := by
      rw [hj]
      unfold digs
      have a := (List.takeWhile_prefix (l := s.toList.drop (sgnLen s)) Rpm.dig).length_le
      rw [List.length_drop, len_toList] at a
      have := sgn_le s
      omega
    have hbE : b ≠ 4 := by omega
    by_cases hJ : j < s.size
    · have PN := Aside0.mk (parse_not s (.inr (by omega)))
      have rd := fun (w : World) (h : RdAt w b s j) => readByte_calls b s j w h hJ (by omega)
      have q := eof_nil_ne aE
      clear c hz hR hv hn hD hj
      go_enter Tryz.func82, Tryz.ntmps82
      go_wp2_with (first | (go_at_call 112; (with_reducible refine c0.mono ?_); rintro e w1 ⟨r1, rfl, r2, r3⟩; have R1 := Aside0.mk r1; have R2 := Aside0.mk r2; have R3 := Aside0.mk r3; clear r1 r2 r3) | (go_at_call 178; (with_reducible refine (rd _ R2.out).mono ?_); rintro e w2 ⟨rfl, q1, q2, q3⟩; have Q2 := Aside0.mk q2; have hv2 := DB.out _ (R1.out.trans (below_row q2 hB2 (Nat.le_trans (Nat.le_trans hB1 (Nat.le_of_lt (blk_lt hz0.out))) R1.out.size))); clear q1 q2 q3))
      exact bodyPost_ret (results_list (rs := [.tmp 6, .tmp 7]) rfl (by simp) (.tmp (.tmp .nil))) rfl ⟨R1.out.trans (below_row Q2.out hB2 (Nat.le_trans (Nat.le_trans hB1 (Nat.le_of_lt (blk_lt hz0.out))) R1.out.size)), .inl ⟨PN.out, rfl⟩⟩
    · have PN := Aside0.mk (parse_end s hD (by omega))
      have rd := fun (w : World) (h : RdAt w b s j) (hv : w.cell? ⟨4, 0, none⟩ = some (errv aE)) => readEnd_calls b s j w (errv aE) h (by omega) (by omega) hv hbE
      have q := eof_same_ne aE
      clear c hz hR hv hn hD hj
      go_enter Tryz.func82, Tryz.ntmps82
      go_wp2_with (first | (go_at_call 112; (with_reducible refine c0.mono ?_); rintro e w1 ⟨r1, rfl, r2, r3⟩; have R1 := Aside0.mk r1; have R2 := Aside0.mk r2; have R3 := Aside0.mk r3; clear r1 r2 r3) | (go_at_call 178; (with_reducible refine (rd _ R2.out (DB.out _ R1.out)).mono ?_); rintro e w2 ⟨rfl, q1, q2, q3⟩; have Q2 := Aside0.mk q2; have hv2 := DB.out _ (R1.out.trans (below_row q2 hB2 (Nat.le_trans (Nat.le_trans hB1 (Nat.le_of_lt (blk_lt hz0.out))) R1.out.size))); clear q1 q2 q3))
      exact bodyPost_ret (results_list (rs := [.tmp 6, .tmp 7]) rfl (by simp) (.tmp (.tmp .nil))) rfl ⟨R1.out.trans (below_row Q2.out hB2 (Nat.le_trans (Nat.le_trans hB1 (Nat.le_of_lt (blk_lt hz0.out))) R1.out.size)), .inr ⟨_, PN.out, rfl, R3.out _ Q2.out⟩⟩
theorem set_none {P : Program} {f : Nat} {args : Array Value} {B zb : Nat} {s : ByteArray} {w w0 : World} (h : Calls P f args w (SetPost B zb s w0)) (hp : Num.parse s.toList = none) : Calls P f args w fun e w' => e = .returned (.tuple #[.pointer none, .bool false]) ∧ Below B w0 w' := by
  refine h.mono ?_
  rintro e w' ⟨h1, ⟨_, h2⟩ | ⟨z, h2, _⟩⟩
  · exact ⟨h2, h1⟩
  · rw [hp] at h2
    cases h2
theorem set_some {P : Program} {f : Nat} {args : Array Value} {B zb : Nat} {s : ByteArray} {w w0 : World} {z : Int} (h : Calls P f args w (SetPost B zb s w0)) (hp : Num.parse s.toList = some z) : Calls P f args w fun e w' => e = .returned (.tuple #[.pointer (some ⟨zb, 0, none⟩), .bool true]) ∧ Below B w0 w' ∧ IsBig w' zb z := by
  refine h.mono ?_
  rintro e w' ⟨h1, ⟨h2, _⟩ | ⟨z', h2, h3, h4⟩⟩
  · rw [hp] at h2
    cases h2
  · rw [hp] at h2
    obtain rfl := Option.some.inj h2
    exact ⟨h3, h1, h4⟩
set_option maxRecDepth 100000 in
set_option maxHeartbeats 1000000 in
theorem setString_calls (zb : Nat) (s : ByteArray) (w : World) (hz : w.heap[zb]? = some (.cells #[.bool false, .slice none 0 0] 91 (0, 0))) (hs : s.size ≤ 40000) (hL : Laid w) (hg1 : 9 < zb) (hg2 : 4 < zb) :
    Calls Tryz.prog 47 #[.pointer (some ⟨zb, 0, none⟩), .string s, .int .i64 10] w (SetPost zb zb s w) := by
  obtain ⟨aE, hv⟩ := hL.eof
  obtain ⟨aN, hn⟩ := hL.nod
  clear hL
  have nr := newReader_calls s w
  have sf := fun (w1 : World) (h1 : RdAt w1 w.heap.size s 0) (h2 : Below w.heap.size w w1) => setFrom_calls zb w.heap.size s w1 zb aE aN ((h2.block zb (blk_lt hz)).trans hz) h1 (Nat.ne_of_lt (blk_lt hz)) (Nat.le_refl _) (Nat.le_of_lt (blk_lt hz)) hs (pw_cell_below h2 hv) (pw_cell_below h2 hn) hg1 hg2
  have hzl := blk_lt hz
  have mi : Tryz.prog.concrete 120 = true := by kernel_rfl
  clear hv hn hz
  cases hp : Num.parse s.toList with
  | none =>
    have sf0 := fun w1 h1 h2 => set_none (sf w1 h1 h2) hp
    have HP := Aside0.mk hp
    clear sf hp
    go_enter Tryz.func47, Tryz.ntmps47
    go_wp2_with (first | (go_at_call 83; (with_reducible refine nr.mono ?_); rintro e w1 ⟨rfl, r1, r2, r3⟩; have R1 := Aside0.mk r1; have R2 := Aside0.mk r2; clear r1 r2 r3) | (go_at_call 82; (with_reducible refine (sf0 _ R1.out R2.out).mono ?_); rintro e w2 ⟨rfl, q1⟩; have Q1 := Aside0.mk q1; clear q1))
    exact bodyPost_ret (results_list (rs := [.tmp 6, .tmp 7]) rfl (by simp) (.tmp (.tmp .nil))) rfl ⟨(R2.out.mono (Nat.le_of_lt hzl)).trans Q1.out, .inl ⟨HP.out, rfl⟩⟩
  | some z =>
    have sf0 := fun w1 h1 h2 => set_some (sf w1 h1 h2) hp
    have HP := Aside0.mk hp
    clear sf hp
    go_enter Tryz.func47, Tryz.ntmps47
    go_wp2_with (first | (go_at_call 83; (with_reducible refine nr.mono ?_); rintro e w1 ⟨rfl, r1, r2, r3⟩; have R1 := Aside0.mk r1; have R2 := Aside0.mk r2; clear r1 r2 r3) | (go_at_call 82; (with_reducible refine (sf0 _ R1.out R2.out).mono ?_); rintro e w2 ⟨rfl, q1, q2⟩; have Q1 := Aside0.mk q1; have Q2 := Aside0.mk q2; clear q1 q2))
    exact bodyPost_ret (results_list (rs := [.tmp 6, .tmp 7]) rfl (by simp) (.tmp (.tmp .nil))) rfl ⟨(R2.out.mono (Nat.le_of_lt hzl)).trans Q1.out, .inr ⟨z, HP.out, rfl, Q2.out⟩⟩
/-- The blocks of the variables stand below all that is made. -/
theorem Laid.lt {w : World} (h : Laid w) : 4 < w.heap.size ∧ 9 < w.heap.size ∧ True := by
  obtain ⟨a1, h1⟩ := h.eof
  obtain ⟨a2, h2⟩ := h.nod
  exact ⟨World.block_lt_of_cell? w _ h1, World.block_lt_of_cell? w _ h2, trivial⟩
theorem new_calls (s : ByteArray) (w : World) (hs : s.size ≤ 40000) (hL : Laid w) :
    Calls Tryz.prog 47 #[.pointer (some ⟨w.heap.size, 0, none⟩), .string s, .int .i64 10] (w.alloc (.cells #[.bool false, .slice none 0 0] 91)) (SetPost w.heap.size w.heap.size s (w.alloc (.cells #[.bool false, .slice none 0 0] 91))) :=
  setString_calls w.heap.size s _ (blk_new _ _) hs (hL.below (below_alloc (Below.refl _ _) _)) hL.lt.2.1 hL.lt.1
set_option maxRecDepth 100000 in
set_option maxHeartbeats 1000000 in
theorem conv_some (s : ByteArray) (w : World) (z : Int) (hs : s.size ≤ 40000) (hL : Laid w) (hp : Num.parse s.toList = some z) :
    Calls Tryz.prog 40 #[.string s] w fun e w' => ∃ b, e = .returned (.tuple #[.pointer (some ⟨b, 0, none⟩), .nilIface]) ∧ IsBig w' b z ∧ Below w.heap.size w w' := by
  have c := set_some (new_calls s w hs hL) hp
  clear hp hL
  go_enter Tryz.func40, Tryz.ntmps40
  go_wp2_with (first | (go_at_call 47; (with_reducible refine c.mono ?_); rintro e w2 ⟨rfl, q1, q2⟩; have Q1 := Aside0.mk q1; have Q2 := Aside0.mk q2; clear q1 q2))
  exact bodyPost_ret (results_list (rs := [.tmp 2, .tmp 3]) rfl (by simp) (.tmp (.tmp .nil))) rfl ⟨_, rfl, Q2.out, (below_alloc (Below.refl _ _) _).trans Q1.out⟩
set_option maxRecDepth 100000 in
set_option maxHeartbeats 1000000 in
theorem conv_none (s : ByteArray) (w : World) (hs : s.size ≤ 40000) (hL : Laid w) (hp : Num.parse s.toList = none) :
    Calls Tryz.prog 40 #[.string s] w fun e w' => ∃ a, e = .returned (.tuple #[.pointer none, errv a]) ∧ Below w.heap.size w w' := by
  have c := set_none (new_calls s w hs hL) hp
  obtain ⟨aI, hI⟩ := hL.inv
  have HI := Aside0.mk hI
  clear hp hL hI
  go_enter Tryz.func40, Tryz.ntmps40
  go_wp2_with (first | (go_at_call 47; (with_reducible refine c.mono ?_); rintro e w2 ⟨rfl, q1⟩; have Q1 := Aside0.mk ((below_alloc (Below.refl _ w) (.cells #[.bool false, .slice none 0 0] 91)).trans q1); clear q1))
  have hi := pw_cell_below Q1.out HI.out
  go_quiet (fail)
  go_wp2_with fail
  exact bodyPost_ret (results_list (rs := [.tmp 2, .tmp 3]) rfl (by simp) (.tmp (.tmp .nil))) rfl ⟨_, rfl, pw_below_drewN Q1.out _⟩
end Go.Proofs.YtnbpoplomdocjaaGreatDoor.Giv
