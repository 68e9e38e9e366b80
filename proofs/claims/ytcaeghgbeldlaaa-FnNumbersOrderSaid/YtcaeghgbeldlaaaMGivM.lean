/- Contracts by hand: whole numbers made of bytes. -/
import Derived.Test.YtcaeghgbeldlaaaMGivN
import Derived.Laws.BitsLemmas
import Derived.Test.YtcaeghgbeldlaaaQIx1
namespace Go.Proofs.Ytcaeghgbeldlaaa.Giv
open Go.RowKit Go.Proofs.YtcaeghgbeldlaaaW.PrintWords Go.Proofs.YtcaeghgbeldlaaaW.PrintLast Go.Proofs.Ytcaeghgbeldlaaa.Pk Go.Proofs.Ytcaeghgbeldlaaa.Ord Go.Proofs.Ytcaeghgbeldlaaa.QM Go.Proofs.Ytcaeghgbeldlaaa.QI
set_option linter.unusedVariables false
set_option linter.unusedSimpArgs false

/-- Bytes as the model's whole numbers. -/
def bi (l : List UInt8) : List Int := l.map fun c => (c.toNat : Int)
theorem bi_len (l : List UInt8) : (bi l).length = l.length := by simp [bi]
theorem bits_or_comm (k : IntKind) (x y : Int) : bits .or k x y = bits .or k y x := by
  simp only [bits, BitVec.or_comm]
theorem wraps_u32 (n : Int) (h₀ : 0 ≤ n) (h₁ : n < 2 ^ 32) : IntKind.u32.wrap n = n := by rw [IntKind.wrap_u32]; omega
theorem wraps_u64 (n : Int) (h₀ : 0 ≤ n) (h₁ : n < 2 ^ 64) : IntKind.u64.wrap n = n := by
  simp [IntKind.wrap, IntKind.bits, IntKind.signed]
  omega
theorem be32 (a b c d : UInt8) (r : List UInt8) : bigall_beUint32.f (bi (a :: b :: c :: d :: r)) = some (Dg.be [a, b, c, d] : Int) := by
  unfold bigall_beUint32.f
  have ha := a.toNat_lt
  have hb := b.toNat_lt
  have hc := c.toNat_lt
  have hd := d.toNat_lt
  have l : ((bi (a :: b :: c :: d :: r)).length : Int) = 4 + r.length := by
    rw [bi_len]
    simp
    omega
  rw [l, if_pos (by omega), if_pos (by omega), if_pos (by omega), if_pos (by omega)]
  have r0 : rd (bi (a :: b :: c :: d :: r)) 0 = (a.toNat : Int) := rfl
  have r1 : rd (bi (a :: b :: c :: d :: r)) 1 = (b.toNat : Int) := rfl
  have r2 : rd (bi (a :: b :: c :: d :: r)) 2 = (c.toNat : Int) := rfl
  have r3 : rd (bi (a :: b :: c :: d :: r)) 3 = (d.toNat : Int) := rfl
  rw [r0, r1, r2, r3]
  have e1 : bits .or .u32 ((d.toNat : Int) % 4294967296) ((((c.toNat : Int) % 4294967296) * 256) % 4294967296) = (c.toNat : Int) * 256 + d.toNat := by
    rw [bits_or_comm, bits_join .u32 32 (by decide) wraps_u32 8 _ _ (by omega) (by omega) (by omega) (by omega) (by omega) (by omega)]
    omega
  have e2 : bits .or .u32 ((c.toNat : Int) * 256 + d.toNat) ((((b.toNat : Int) % 4294967296) * 65536) % 4294967296) = (b.toNat : Int) * 65536 + (c.toNat : Int) * 256 + d.toNat := by
    rw [bits_or_comm, bits_join .u32 32 (by decide) wraps_u32 16 _ _ (by omega) (by omega) (by omega) (by omega) (by omega) (by omega)]
    omega
  have e3 : bits .or .u32 ((b.toNat : Int) * 65536 + (c.toNat : Int) * 256 + d.toNat) ((((a.toNat : Int) % 4294967296) * 16777216) % 4294967296) = (a.toNat : Int) * 16777216 + (b.toNat : Int) * 65536 + (c.toNat : Int) * 256 + d.toNat := by
    rw [bits_or_comm, bits_join .u32 32 (by decide) wraps_u32 24 _ _ (by omega) (by omega) (by omega) (by omega) (by omega) (by omega)]
    omega
  rw [e1, e2, e3]
  refine congrArg some ?_
  have e : Dg.be [a, b, c, d] = a.toNat * 16777216 + (b.toNat * 65536 + (c.toNat * 256 + d.toNat)) := by simp [Dg.be]
  rw [e]
  omega
theorem be32_of (l : List UInt8) (h : 4 ≤ l.length) : bigall_beUint32.f (bi l) = some (Dg.be (l.take 4) : Int) := by
  match l, h with
  | a :: b :: c :: d :: r, _ => exact be32 a b c d r
  | [], h => exact absurd h (by decide)
  | [_], h => exact absurd h (by simp)
  | [_, _], h => exact absurd h (by simp)
  | [_, _, _], h => exact absurd h (by simp)
theorem be64_val (l : List UInt8) (h8 : l.length = 8) : bits .or .u64 (IntKind.u64.wrap (IntKind.u64.wrap (Dg.be (l.take 4) : Int) * 4294967296)) (IntKind.u64.wrap (Dg.be ((l.drop 4).take 4) : Int)) = (Dg.be l : Int) := by
  have a := Dg.be_lt (l.take 4)
  have b := Dg.be_lt ((l.drop 4).take 4)
  have la : (l.take 4).length = 4 := by rw [List.length_take]; omega
  have lb : ((l.drop 4).take 4).length = 4 := by rw [List.length_take, List.length_drop]; omega
  rw [la] at a
  rw [lb] at b
  have e : Dg.be l = Dg.be (l.take 4) * 4294967296 + Dg.be ((l.drop 4).take 4) := by
    have h := Dg.be_append (l.take 4) (l.drop 4)
    rw [List.take_append_drop, List.length_drop, h8] at h
    have e2 : (l.drop 4).take 4 = l.drop 4 := List.take_of_length_le (by rw [List.length_drop]; omega)
    rw [h, e2]
  rw [e]
  generalize Dg.be (l.take 4) = x at *
  generalize Dg.be ((l.drop 4).take 4) = y at *
  have w1 : IntKind.u64.wrap (x : Int) = x := wraps_u64 _ (by omega) (by omega)
  have w2 : IntKind.u64.wrap (y : Int) = y := wraps_u64 _ (by omega) (by omega)
  have w3 : IntKind.u64.wrap ((x : Int) * 4294967296) = (x : Int) * 4294967296 := wraps_u64 _ (by omega) (by omega)
  rw [w1, w2, w3, bits_join .u64 64 (by decide) wraps_u64 32 _ _ (by omega) (by omega) (by omega) (by omega) (by omega) (by omega)]
  omega
set_option maxHeartbeats 1000000 in
theorem be64_calls (l : List UInt8) (A : Option Addr) (c : Nat) (w : World) (h8 : l.length = 8) (hC : (Kd.int .u8).C w A 8 (bi l)) (hc : 8 ≤ c) :
    Calls Try.prog 31 #[.slice A 8 c] w fun e w' => e = .returned (.int .u64 (Dg.be l)) ∧ Drawn0 w w' := by
  have hl : (bi l).length = 8 := by rw [bi_len, h8]
  obtain ⟨ad, rfl, c7⟩ := Kd.at_int hC 7 (by omega) (by omega)
  rw [← hl] at hC
  have c1 := fun (w' : World) (hb : Below w.heap.size w w') => bigall_beUint32.calls (some ad) c (bi l) _ w' (Kd.C_below hC hb) (by omega) (be32_of l (by omega))
  have hD := Kd.C_drop hC (m := 4) (by omega) (c := c) (by omega)
  have e4 : (bi l).drop 4 = bi (l.drop 4) := by simp [bi]
  rw [e4] at hD
  have h4 : (bi (l.drop 4)).length = 4 := by rw [bi_len, List.length_drop]; omega
  have c2 := fun (w' : World) (hb : Below w.heap.size w w') => bigall_beUint32.calls _ (c - 4) (bi (l.drop 4)) _ w' (Kd.C_below hD hb) (by omega) (be32_of (l.drop 4) (by rw [List.length_drop]; omega))
  simp only [hl] at c1
  simp only [h4, List.length_drop, hl, Option.map_some, Go.Addr.add, show (Kd.int IntKind.u8).sz = 1 from rfl, Nat.mul_one, Nat.reduceEqDiff, ↓reduceIte] at c2
  (try simp only [show (7 : Int).toNat = 7 from rfl, Nat.reduceMul, Nat.reduceEqDiff, Go.Addr.add, ↓reduceIte] at c7)
  go_enter Try.func31, Try.ntmps31
  go_wp2_with fail
  go_quiet (first | (go_at_call 32; (with_reducible refine (c1 _ (by repeat (first | exact Below.refl _ _ | apply pw_below_drewN | apply below_drew))).mono ?_); rintro e w1 ⟨rfl, n, rfl⟩; (try first | exact ⟨rfl, _, World.drewN_drewN _ _ _⟩ | exact ⟨rfl, _, Eq.trans (World.drewN_drewN _ _ _) (congrArg (World.drewN _) (Nat.add_assoc _ _ _))⟩)) | (go_at_call 32; (with_reducible refine (c2 _ (by repeat (first | exact Below.refl _ _ | apply pw_below_drewN | apply below_drew))).mono ?_); rintro e w1 ⟨rfl, n, rfl⟩; (try first | exact ⟨rfl, _, World.drewN_drewN _ _ _⟩ | exact ⟨rfl, _, Eq.trans (World.drewN_drewN _ _ _) (congrArg (World.drewN _) (Nat.add_assoc _ _ _))⟩)))
  go_wp2_with fail
  go_ret
  exact ⟨by exact congrArg (fun v => Ending.returned (Value.int IntKind.u64 v)) (be64_val l h8), ⟨_, rfl⟩⟩
theorem word_calls (l : List UInt8) (A : Option Addr) (c : Nat) (w : World) (h8 : l.length = 8) (hC : (Kd.int .u8).C w A 8 (bi l)) (hc : 8 ≤ c) :
    Calls Try.prog 28 #[.slice A 8 c] w fun e w' => e = .returned (.int .u64 (Dg.be l)) ∧ Drawn0 w w' := by
  have c1 := fun (w' : World) (hb : Below w.heap.size w w') => be64_calls l A c w' h8 (Kd.C_below hC hb) hc
  go_enter Try.func28, Try.ntmps28
  go_wp2_with (first | (go_at_call 31; (with_reducible refine (c1 _ (by repeat (first | exact Below.refl _ _ | apply pw_below_drewN | apply below_drew))).mono ?_); rintro e w1 ⟨rfl, n, rfl⟩))
  go_ret
  exact ⟨rfl, ⟨_, rfl⟩⟩
end Go.Proofs.Ytcaeghgbeldlaaa.Giv
