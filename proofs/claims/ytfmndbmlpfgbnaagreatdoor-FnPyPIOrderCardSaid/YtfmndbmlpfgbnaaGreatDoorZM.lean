/- Several texts of this claim in one. Put together by wip/tool/merge.py. -/
import Derived.Test.YtfmndbmlpfgbnaaGreatDoorZB
import Derived.Laws.BitsLemmas
import Derived.Test.YtfmndbmlpfgbnaaGreatDoorQIx1
import Derived.Test.YtfmndbmlpfgbnaaGreatDoorZC
import Derived.Test.YtfmndbmlpfgbnaaGreatDoorWMore
import Derived.BigQuiet
import Derived.Deep.QuietTactic
import Derived.Outline
import Derived.Lib.ConvBytes
import Derived.LaidEqlPtr
/- Contracts by hand: whole numbers made of bytes. -/
namespace Go.Proofs.YtfmndbmlpfgbnaaGreatDoor.Giv
open Go.RowKit Go.Proofs.YtfmndbmlpfgbnaaGreatDoorW.PrintWords Go.Proofs.YtfmndbmlpfgbnaaGreatDoorW.PrintLast Go.Proofs.YtfmndbmlpfgbnaaGreatDoor.Pk Go.Proofs.YtfmndbmlpfgbnaaGreatDoor.Ord Go.Proofs.YtfmndbmlpfgbnaaGreatDoor.QM Go.Proofs.YtfmndbmlpfgbnaaGreatDoor.QI
set_option linter.unusedVariables false
set_option linter.unusedSimpArgs false

/-- Bytes as the model's whole numbers. -/
def bi (l : List UInt8) : List Int := l.map fun c => (c.toNat : Int)
theorem bi_len (l : List UInt8) : (bi l).length = l.length := by simp [bi]
theorem bits_or_comm (k : IntKind) (x y : Int) : bits .or k x y = bits .or k y x := by
  simp only [bits, BitVec.or_comm]
theorem wraps_u32 (n : Int) (h₀ : 0 ≤ n) (h₁ : n < 2 ^ 32) : IntKind.u32.wrap n = n := by rw [IntKind.wrap_u32]; omega
theorem wraps_u64 (n : Int) (h₀ : 0 ≤ n) (h₁ : n < 2 ^ 64) : IntKind.u64.wrap n = n := by
  simp [IntKind.wrap, IntKind.bits, IntKind.signed]
  omega
theorem be32 (a b c d : UInt8) (r : List UInt8) : bigall_beUint32.f (bi (a :: b :: c :: d :: r)) = some (Dg.be [a, b, c, d] : Int) := by
  unfold bigall_beUint32.f
  have ha := a.toNat_lt
  have hb := b.toNat_lt
  have hc := c.toNat_lt
  have hd := d.toNat_lt
  have l : ((bi (a :: b :: c :: d :: r)).length : Int) = 4 + r.length := by
    rw [bi_len]
    simp
    omega
  rw [l, if_pos (by omega), if_pos (by omega), if_pos (by omega), if_pos (by omega)]
  have r0 : rd (bi (a :: b :: c :: d :: r)) 0 = (a.toNat : Int) := rfl
  have r1 : rd (bi (a :: b :: c :: d :: r)) 1 = (b.toNat : Int) := rfl
  have r2 : rd (bi (a :: b :: c :: d :: r)) 2 = (c.toNat : Int) := rfl
  have r3 : rd (bi (a :: b :: c :: d :: r)) 3 = (d.toNat : Int) := rfl
  rw [r0, r1, r2, r3]
  have e1 : bits .or .u32 ((d.toNat : Int) % 4294967296) ((((c.toNat : Int) % 4294967296) * 256) % 4294967296) = (c.toNat : Int) * 256 + d.toNat := by
    rw [bits_or_comm, bits_join .u32 32 (by decide) wraps_u32 8 _ _ (by omega) (by omega) (by omega) (by omega) (by omega) (by omega)]
    omega
  have e2 : bits .or .u32 ((c.toNat : Int) * 256 + d.toNat) ((((b.toNat : Int) % 4294967296) * 65536) % 4294967296) = (b.toNat : Int) * 65536 + (c.toNat : Int) * 256 + d.toNat := by
    rw [bits_or_comm, bits_join .u32 32 (by decide) wraps_u32 16 _ _ (by omega) (by omega) (by omega) (by omega) (by omega) (by omega)]
    omega
  have e3 : bits .or .u32 ((b.toNat : Int) * 65536 + (c.toNat : Int) * 256 + d.toNat) ((((a.toNat : Int) % 4294967296) * 16777216) % 4294967296) = (a.toNat : Int) * 16777216 + (b.toNat : Int) * 65536 + (c.toNat : Int) * 256 + d.toNat := by
    rw [bits_or_comm, bits_join .u32 32 (by decide) wraps_u32 24 _ _ (by omega) (by omega) (by omega) (by omega) (by omega) (by omega)]
    omega
  rw [e1, e2, e3]
  refine congrArg some ?_
  have e : Dg.be [a, b, c, d] = a.toNat * 16777216 + (b.toNat * 65536 + (c.toNat * 256 + d.toNat)) := by simp [Dg.be]
  rw [e]
  omega
theorem be32_of (l : List UInt8) (h : 4 ≤ l.length) : bigall_beUint32.f (bi l) = some (Dg.be (l.take 4) : Int) := by
  match l, h with
  | a :: b :: c :: d :: r, _ => exact be32 a b c d r
  | [], h => exact absurd h (by decide)
  | [_], h => exact absurd h (by simp)
  | [_, _], h => exact absurd h (by simp)
  | [_, _, _], h => exact absurd h (by simp)
theorem be64_val (l : List UInt8) (h8 : l.length = 8) : bits .or .u64 (IntKind.u64.wrap (IntKind.u64.wrap (Dg.be (l.take 4) : Int) * 4294967296)) (IntKind.u64.wrap (Dg.be ((l.drop 4).take 4) : Int)) = (Dg.be l : Int) := by
  have a := Dg.be_lt (l.take 4)
  have b := Dg.be_lt ((l.drop 4).take 4)
  have la : (l.take 4).length = 4 := by rw [List.length_take]; omega
  have lb : ((l.drop 4).take 4).length = 4 := by rw [List.length_take, List.length_drop]; omega
  rw [la] at a
  rw [lb] at b
  have e : Dg.be l = Dg.be (l.take 4) * 4294967296 + Dg.be ((l.drop 4).take 4) := by
    have h := Dg.be_append (l.take 4) (l.drop 4)
    rw [List.take_append_drop, List.length_drop, h8] at h
    have e2 : (l.drop 4).take 4 = l.drop 4 := List.take_of_length_le (by rw [List.length_drop]; omega)
    rw [h, e2]
  rw [e]
  generalize Dg.be (l.take 4) = x at *
  generalize Dg.be ((l.drop 4).take 4) = y at *
  have w1 : IntKind.u64.wrap (x : Int) = x := wraps_u64 _ (by omega) (by omega)
  have w2 : IntKind.u64.wrap (y : Int) = y := wraps_u64 _ (by omega) (by omega)
  have w3 : IntKind.u64.wrap ((x : Int) * 4294967296) = (x : Int) * 4294967296 := wraps_u64 _ (by omega) (by omega)
  rw [w1, w2, w3, bits_join .u64 64 (by decide) wraps_u64 32 _ _ (by omega) (by omega) (by omega) (by omega) (by omega) (by omega)]
  omega
set_option maxHeartbeats 1000000 in
theorem be64_calls (l : List UInt8) (A : Option Addr) (c : Nat) (w : World) (h8 : l.length = 8) (hC : (Kd.int .u8).C w A 8 (bi l)) (hc : 8 ≤ c) :
    Calls Tryz.prog 73 #[.slice A 8 c] w fun e w' => e = .returned (.int .u64 (Dg.be l)) ∧ Drawn0 w w' := by
  have hl : (bi l).length = 8 := by rw [bi_len, h8]
  obtain ⟨ad, rfl, c7⟩ := Kd.at_int hC 7 (by omega) (by omega)
  rw [← hl] at hC
  have c1 := fun (w' : World) (hb : Below w.heap.size w w') => bigall_beUint32.calls (some ad) c (bi l) _ w' (Kd.C_below hC hb) (by omega) (be32_of l (by omega))
  have hD := Kd.C_drop hC (m := 4) (by omega) (c := c) (by omega)
  have e4 : (bi l).drop 4 = bi (l.drop 4) := by simp [bi]
  rw [e4] at hD
  have h4 : (bi (l.drop 4)).length = 4 := by rw [bi_len, List.length_drop]; omega
  have c2 := fun (w' : World) (hb : Below w.heap.size w w') => bigall_beUint32.calls _ (c - 4) (bi (l.drop 4)) _ w' (Kd.C_below hD hb) (by omega) (be32_of (l.drop 4) (by rw [List.length_drop]; omega))
  simp only [hl] at c1
  simp only [h4, List.length_drop, hl, Option.map_some, Go.Addr.add, show (Kd.int IntKind.u8).sz = 1 from rfl, Nat.mul_one, Nat.reduceEqDiff, ↓reduceIte] at c2
  (try simp only [show (7 : Int).toNat = 7 from rfl, Nat.reduceMul, Nat.reduceEqDiff, Go.Addr.add, ↓reduceIte] at c7)
  go_enter Tryz.func73, Tryz.ntmps73
  go_wp2_with fail
  go_quiet (first | (go_at_call 74; (with_reducible refine (c1 _ (by repeat (first | exact Below.refl _ _ | apply pw_below_drewN | apply below_drew))).mono ?_); rintro e w1 ⟨rfl, n, rfl⟩; (try first | exact ⟨rfl, _, World.drewN_drewN _ _ _⟩ | exact ⟨rfl, _, Eq.trans (World.drewN_drewN _ _ _) (congrArg (World.drewN _) (Nat.add_assoc _ _ _))⟩)) | (go_at_call 74; (with_reducible refine (c2 _ (by repeat (first | exact Below.refl _ _ | apply pw_below_drewN | apply below_drew))).mono ?_); rintro e w1 ⟨rfl, n, rfl⟩; (try first | exact ⟨rfl, _, World.drewN_drewN _ _ _⟩ | exact ⟨rfl, _, Eq.trans (World.drewN_drewN _ _ _) (congrArg (World.drewN _) (Nat.add_assoc _ _ _))⟩)))
  go_wp2_with fail
  go_ret
  exact ⟨by exact congrArg (fun v => Ending.returned (Value.int IntKind.u64 v)) (be64_val l h8), ⟨_, rfl⟩⟩
theorem word_calls (l : List UInt8) (A : Option Addr) (c : Nat) (w : World) (h8 : l.length = 8) (hC : (Kd.int .u8).C w A 8 (bi l)) (hc : 8 ≤ c) :
    Calls Tryz.prog 66 #[.slice A 8 c] w fun e w' => e = .returned (.int .u64 (Dg.be l)) ∧ Drawn0 w w' := by
  have c1 := fun (w' : World) (hb : Below w.heap.size w w') => be64_calls l A c w' h8 (Kd.C_below hC hb) hc
  go_enter Tryz.func66, Tryz.ntmps66
  go_wp2_with (first | (go_at_call 73; (with_reducible refine (c1 _ (by repeat (first | exact Below.refl _ _ | apply pw_below_drewN | apply below_drew))).mono ?_); rintro e w1 ⟨rfl, n, rfl⟩))
  go_ret
  exact ⟨rfl, ⟨_, rfl⟩⟩
end Go.Proofs.YtfmndbmlpfgbnaaGreatDoor.Giv
/- Contracts by hand: words out of bytes. -/
namespace Go.Proofs.YtfmndbmlpfgbnaaGreatDoor.Giv
open Go.RowKit Go.Proofs.YtfmndbmlpfgbnaaGreatDoorW.PrintWords Go.Proofs.YtfmndbmlpfgbnaaGreatDoorW.PrintLast Go.Proofs.YtfmndbmlpfgbnaaGreatDoor.Pk Go.Proofs.YtfmndbmlpfgbnaaGreatDoor.Ord Go.Proofs.YtfmndbmlpfgbnaaGreatDoor.QM
set_option linter.unusedVariables false
set_option linter.unusedSimpArgs false

/-- The words without the zeros at the end, as a row. -/
theorem lies_dg {w : World} {h c : Nat} {l : List Nat} (hl : Lies w h c l) (hw : Dg.Words l) (hm : l.length ≤ 1000000) : (Kd.int .u64).C w (some (⟨h, 0, none⟩ : Go.Addr)) (ws (Dg.dg (Dg.val l))).length (ws (Dg.dg (Dg.val l))) ∧ (ws (Dg.dg (Dg.val l))).length ≤ c ∧ (ws (Dg.dg (Dg.val l))).length ≤ l.length := by
  have p := Dg.dg_prefix l.length l rfl hw
  have len : (Dg.dg (Dg.val l)).length ≤ l.length := by
    rw [p, List.length_take]
    omega
  have e : ws (Dg.dg (Dg.val l)) = (ws l).take (Dg.dg (Dg.val l)).length := by
    conv => lhs; rw [p]
    unfold ws
    rw [List.map_take]
  have r := Kd.C_take (hl.row hm) (m := (Dg.dg (Dg.val l)).length) (by rw [ws_len]; exact len)
  rw [← e] at r
  obtain ⟨_, _, _, h3, _⟩ := hl
  exact ⟨r, by rw [ws_len]; omega, by rw [ws_len]; exact len⟩
theorem lies_words {w : World} {h c : Nat} {l : List Nat} (hl : Lies w h c l) : WordsAt w (some ⟨h, 0, none⟩) := by
  obtain ⟨arr, h1, _⟩ := hl
  intro a e
  obtain rfl := Option.some.inj e
  exact ⟨arr, h1⟩
theorem shl_or (d b m : Nat) (hb : b < 256) (hd : d < 256 ^ m) (hm : m ≤ 7) : bits .or .u64 (d : Int) (IntKind.u64.wrap (IntKind.u64.wrap (b : Int) * 2 ^ (8 * m))) = ((b * 256 ^ m + d : Nat) : Int) := by
  have e : (2 : Int) ^ (8 * m) = ((256 ^ m : Nat) : Int) := by
    have h : (2 : Nat) ^ (8 * m) = 256 ^ m := by rw [Nat.pow_mul]
    rw [← h]
    simp
  have hP : 256 ^ m ≤ 72057594037927936 := Nat.pow_le_pow_right (by decide) hm
  have hbP : b * 256 ^ m ≤ 255 * 72057594037927936 := Nat.mul_le_mul (by omega) hP
  have w1 : IntKind.u64.wrap (b : Int) = b := wraps_u64 _ (by omega) (by omega)
  rw [w1, e]
  have e2 : (b : Int) * ((256 ^ m : Nat) : Int) = ((b * 256 ^ m : Nat) : Int) := by rw [Int.natCast_mul]
  rw [e2]
  have hmod : ((b * 256 ^ m : Nat) : Int) % (2 : Int) ^ (8 * m) = 0 := by
    rw [e, ← e2]
    exact Int.mul_emod_left _ _
  generalize b * 256 ^ m = X at *
  have w2 : IntKind.u64.wrap (X : Int) = X := wraps_u64 _ (by omega) (by omega)
  rw [w2, bits_or_comm, bits_join .u64 64 (by decide) wraps_u64 (8 * m) _ _ (by omega) hmod (by omega) (by omega) (by rw [e]; omega) (by omega)]
  omega
theorem wr_m8 (i j : Nat) (h : i = j + 8) (hi : i < 4611686018427387904) : wrap64 ((i : Int) - 8) = (j : Int) := by unfold wrap64; omega
set_option maxHeartbeats 4000000 in
theorem setBytes_calls (buf : List UInt8) (A : Option Addr) (c : Nat) (w : World) (hm : buf.length ≤ 100000) (hC : (Kd.int .u8).C w A buf.length (bi buf)) (hc : buf.length ≤ c) :
    Calls Tryz.prog 56 #[.slice none 0 0, .slice A buf.length c] w fun e w' => Below w.heap.size w w' ∧ ∃ A' c', e = .returned (.slice A' (ws (Dg.dg (Dg.be buf))).length c') ∧ (ws (Dg.dg (Dg.be buf))).length ≤ c' ∧ (Kd.int .u64).C w' A' (ws (Dg.dg (Dg.be buf))).length (ws (Dg.dg (Dg.be buf))) ∧ WordsAt w' A' ∧ (ws (Dg.dg (Dg.be buf))).length ≤ 1000000 := by
  by_cases h0 : buf.length = 0
  · have h00 : buf = [] := List.length_eq_zero_iff.1 h0
    subst h00
    have mk := fun w => make_zero w
    have nn := fun w => norm_nil w
    have l0 : ([] : List UInt8).length = 0 := rfl
    go_enter Tryz.func56, Tryz.ntmps56
    go_wp2_with (first | (go_at_call 65; (with_reducible refine (mk _).mono ?_); rintro e w1 ⟨rfl, hb⟩))
    go_loop [5, 6] (fun v5 v6 => v5 = .int .i64 0 ∧ v6 = .int .i64 0) (fun v5 v6 => 0)
    case atStart => exact ⟨rfl, rfl⟩
    case round =>
      obtain ⟨rfl, rfl⟩ := hrel
      go_wp2_with (first | (go_at_call 67; (with_reducible refine (nn _).mono ?_); rintro e w2 ⟨rfl, rfl⟩))
      go_ret
      have z : Dg.dg (Dg.be []) = [] := Dg.dg_zero
      rw [z]
      exact ⟨hb, none, 0, rfl, Nat.le_refl _, Kd.C_nil _ _, fun a e => (by cases e), Nat.zero_le _⟩
  · have w1 : wrap64 ((buf.length : Int) + 8) = (buf.length : Int) + 8 := by unfold wrap64; omega
    have w2 : wrap64 ((buf.length : Int) + 8 - 1) = (buf.length : Int) + 7 := by unfold wrap64; omega
    obtain ⟨n, hn⟩ : ∃ n, n = (buf.length + 7) / 8 := ⟨_, rfl⟩
    have mk : ∀ (v : Int) (hv : v = n) (w : World), Calls Tryz.prog 65 #[.slice none 0 0, .int .i64 v] w fun e w' => ∃ h c, e = .returned (.slice (some ⟨h, 0, none⟩) n c) ∧ Below w.heap.size w w' ∧ w.heap.size ≤ h ∧ h < w'.heap.size ∧ Lies w' h c (List.replicate n 0) := fun v hv w => by
      rw [hv]
      exact make_pos n w (by omega) (by omega)
    have HN := Aside0.mk hn
    clear hn
    go_enter Tryz.func56, Tryz.ntmps56
    go_wp2_with (first | (go_at_call 65; (with_reducible refine (mk _ (by have := HN.out; omega) _).mono ?_); rintro e w1 ⟨h, c', rfl, hb, hh, hlt, hL⟩))
    go_loopw [5, 6] (fun v5 v6 wr => ∃ k : Nat, v5 = .int .i64 ((buf.length - 8 * k : Nat) : Int) ∧ v6 = .int .i64 k ∧ 8 * k ≤ buf.length ∧ Below w.heap.size w wr ∧ Lies wr h c' (part n k (Dg.be buf))) (fun v5 v6 wr => match v5 with | .int _ i => i.toNat | _ => 0)
    case atStart => exact ⟨0, rfl, rfl, by omega, hb, by simpa [part, Dg.dn] using hL⟩
    case round =>
      obtain ⟨k, rfl, rfl, hk, hbw, hLw⟩ := hrel
      by_cases h8 : 8 * k + 8 ≤ buf.length
      · have hn := HN.out
        obtain ⟨hi, ehi⟩ : ∃ hi, hi = buf.length - 8 * k := ⟨_, rfl⟩
        obtain ⟨lo, elo⟩ : ∃ lo, lo = buf.length - 8 * k - 8 := ⟨_, rfl⟩
        rw [← ehi]
        have hmid := Kd.C_mid (lo := lo) (hi := hi) (by rw [bi_len]; exact hC) (by omega) (by rw [bi_len]; omega) (c := c) (by rw [bi_len]; exact hc)
        have em : ((bi buf).take hi).drop lo = bi ((buf.take hi).drop lo) := by simp [bi, List.map_take, List.map_drop]
        rw [em] at hmid
        have e8 : ((buf.take hi).drop lo).length = 8 := by rw [List.length_drop, List.length_take]; omega
        have e8' : (bi ((buf.take hi).drop lo)).length = 8 := by rw [bi_len, e8]
        rw [e8', if_neg (show ¬ c = lo by omega)] at hmid
        simp only [show (Kd.int IntKind.u8).sz = 1 from rfl, Nat.mul_one] at hmid
        have wc := fun (w' : World) (hb' : Below w.heap.size w w') => word_calls ((buf.take hi).drop lo) _ (c - lo) w' e8 (Kd.C_below hmid hb') (by omega)
        have f1 : ¬ (hi : Int) < 8 := by omega
        have f0 : hi = lo + 8 := by rw [ehi, elo]; exact (Nat.sub_add_cancel (Nat.le_sub_of_add_le (by rw [Nat.add_comm]; exact h8))).symm
        have f7 : hi ≤ 100000 := Nat.le_trans (ehi ▸ Nat.sub_le _ _) hm
        have f2 : wrap64 ((hi : Int) - 8) = (lo : Int) := wr_m8 hi lo f0 (Nat.lt_of_le_of_lt f7 (by decide))
        have f8 : k < n := by
          clear f2 wc
          omega
        have f3 : wrap64 ((k : Int) + 1) = ((k + 1 : Nat) : Int) := Pk.wr k (by clear f2 wc; omega)
        have f4 : (k : Int) < (n : Int) := Int.ofNat_lt.2 f8
        have f5 : lo ≤ hi := f0 ▸ Nat.le_add_right _ _
        have f6 : hi ≤ buf.length := ehi ▸ Nat.sub_le _ _
        have pl : (part n k (Dg.be buf)).length = n := part_len (Nat.le_of_lt f8) _
        have hcell := hLw.cell k (by rw [pl]; exact f8)
        have hfrz : wr.frozen? ⟨h, k, none⟩ = false := by
          obtain ⟨arr, q1, _⟩ := hLw
          exact blk_frozen q1 k
        have EH := Aside0.mk ehi
        have EL := Aside0.mk elo
        have HK := Aside0.mk hk
        have H8 := Aside0.mk h8
        have HM := Aside0.mk hm
        have AL := Aside0.mk hLw
        have AB := Aside0.mk hbw
        have E8 := Aside0.mk e8
        have E9 := Aside0.mk e8'
        clear ehi elo hk h8 hn hm hLw e8 e8' em hmid hC hL hb w2
        try clear w1
        go_wp2_with (first | (go_at_call 66; (with_reducible refine (wc _ (by repeat (first | exact AB.out | apply pw_below_drewN | apply below_drew))).mono ?_); rintro e w2 ⟨rfl, nd, rfl⟩))
        have ew : Dg.be (List.drop lo (List.take (lo + 8) buf)) = Dg.be buf / 18446744073709551616 ^ k % 18446744073709551616 := by
          have q := Dg.be_word buf k H8.out
          rw [← EL.out, show buf.length - 8 * k = lo + 8 by rw [← EH.out]; exact f0] at q
          exact q
        refine ⟨⟨k + 1, ?_, ?_, ?_, ?_, ?_⟩, ?_⟩
        · rw [show buf.length - 8 * (k + 1) = lo by rw [EL.out, Nat.mul_add, Nat.sub_add_eq]]
        · rw [f3]
        · have q := H8.out
          rw [Nat.mul_add]
          exact q
        · exact below_set (pw_below_drewN AB.out _) hh
        · have q := (Lies.below AL.out (pw_below_drewN (Below.refl _ _) nd)).set k (by rw [pl]; exact f8) (Dg.be (List.drop lo (List.take (lo + 8) buf)))
          rw [← part_next f8, ← ew]
          exact q
        · show (lo : Int).toNat < (hi : Int).toNat
          rw [Int.toNat_natCast, Int.toNat_natCast, f0]
          exact Nat.lt_add_of_pos_right (by decide)
      · obtain ⟨hi, ehi⟩ : ∃ hi, hi = buf.length - 8 * k := ⟨_, rfl⟩
        rw [← ehi]
        have hn := HN.out
        have l8 : hi < 8 := by omega
        have f1 : ¬ (hi : Int) ≥ 8 := by omega
        by_cases hz : hi = 0
        · have kn : k = n := by omega
          have lz : (hi : Int) = 0 := by omega
          rw [lz]
          have pv : Dg.val (part n k (Dg.be buf)) = Dg.be buf := by
            rw [kn]
            unfold part
            rw [Nat.sub_self, List.replicate_zero, List.append_nil]
            refine Dg.dn_val n _ ?_
            rw [Dg.pow_B]
            have := Dg.be_lt buf
            rwa [show 8 * n = buf.length by omega]
          have pl : (part n k (Dg.be buf)).length = n := part_len (by omega) _
          have HN' := HN
          have nc := fun (w' : World) (hb' : Below wr.heap.size wr w') => norm_calls (part n k (Dg.be buf)) h c' w' (part_words _ _ _) (hLw.below hb') hLw.choose_spec.2.2.1 (by rw [pl]; omega)
          rw [pv, pl] at nc
          clear hn
          go_wp2_with (first | (go_at_call 67; (with_reducible refine (nc _ (by repeat (first | exact Below.refl _ _ | apply pw_below_drewN | apply below_drew))).mono ?_); rintro e w2 ⟨rfl, rfl⟩))
          go_ret
          have r := lies_dg hLw (part_words _ _ _) (by rw [pl]; have := HN.out; omega)
          rw [pv] at r
          refine ⟨hbw, _, c', ?_, r.2.1, r.1, lies_words hLw, Nat.le_trans r.2.2 (by rw [pl]; have := HN.out; omega)⟩
          rw [ws_len]
          rfl
        · have gz : (hi : Int) > 0 := by omega
          have kn : n = k + 1 := by omega
          have ple : (part n k (Dg.be buf)).length = n := part_len (by omega) _
          obtain ⟨u0, hcell⟩ : ∃ u, wr.cell? ⟨h, k, none⟩ = some u := ⟨_, hLw.cell k (by rw [ple]; omega)⟩
          have hfrz : wr.frozen? ⟨h, k, none⟩ = false := by
            obtain ⟨arr, q1, _⟩ := hLw
            exact blk_frozen q1 k
          have wn : wrap64 ((n : Int) - 1) = (k : Int) := by unfold wrap64; omega
          have h6 : hi ≤ buf.length := by omega
          have kn2 : (k : Int) < (n : Int) := by omega
          have eh := Dg.be_head buf k (by omega)
          rw [← ehi] at eh
          have small : Dg.be (buf.take hi) < 18446744073709551616 := by
            refine Nat.lt_of_lt_of_le (Dg.be_lt _) ?_
            rw [List.length_take, Nat.min_eq_left h6]
            exact Nat.pow_le_pow_right (by omega) (by omega : hi ≤ 8)
          have ev : Dg.be (buf.take hi) = Dg.be buf / 18446744073709551616 ^ k % 18446744073709551616 := by
            rw [← eh, Nat.mod_eq_of_lt small]
          have lset := hLw.set k (by rw [ple]; omega) (Dg.be (buf.take hi))
          have eset : (part n k (Dg.be buf)).set k (Dg.be (buf.take hi)) = part n n (Dg.be buf) := by
            rw [ev, part_next (by omega)]
            rw [← kn]
          rw [eset] at lset
          have pv : Dg.val (part n n (Dg.be buf)) = Dg.be buf := by
            unfold part
            rw [Nat.sub_self, List.replicate_zero, List.append_nil]
            refine Dg.dn_val n _ ?_
            rw [Dg.pow_B]
            exact Nat.lt_of_lt_of_le (Dg.be_lt buf) (Nat.pow_le_pow_right (by omega) (by omega))
          have pl : (part n n (Dg.be buf)).length = n := part_len (Nat.le_refl _) _
          have nc := norm_calls (part n n (Dg.be buf)) h c' _ (part_words _ _ _) lset lset.choose_spec.2.2.1 (by rw [pl]; omega)
          rw [pv, pl] at nc
          have EH := Aside0.mk ehi
          have HL := Aside0.mk lset
          have AB := Aside0.mk hbw
          have PV := Aside0.mk pv
          have HM := Aside0.mk hm
          have KN := Aside0.mk kn
          have hCm : (Kd.int .u8).C wr A buf.length (bi buf) := Kd.C_below hC hbw
          clear hn hb hL ehi hLw eh ev eset ple pv hm hk h8 hC lset kn
          go_wp2_with fail
          go_loop [5, 7, 8] (fun v5 v7 v8 => ∃ j : Nat, j ≤ hi ∧ v5 = .int .i64 j ∧ v7 = .int .u64 (Dg.be ((buf.take hi).drop j) : Nat) ∧ v8 = .int .u64 ((8 * (hi - j) : Nat) : Int)) (fun v5 v7 v8 => match v5 with | .int _ i => i.toNat | _ => 0)
          case atStart =>
            refine ⟨hi, Nat.le_refl _, rfl, ?_, ?_⟩
            · rw [List.drop_of_length_le (by rw [List.length_take]; exact Nat.min_le_left _ _)]
              rfl
            · rw [Nat.sub_self]
              rfl
          case round =>
            obtain ⟨j, hj, rfl, rfl, rfl⟩ := hrel
            cases j with
            | zero =>
              rw [List.drop_zero]
              go_wp2_with (first | (go_at_call 67; (with_reducible refine nc.mono ?_); rintro e w2 ⟨rfl, rfl⟩))
              go_ret
              have r := lies_dg HL.out (part_words _ _ _) (by rw [pl]; have := HN.out; have := HM.out; omega)
              rw [PV.out] at r
              refine ⟨below_set AB.out hh, _, c', ?_, r.2.1, r.1, lies_words HL.out, Nat.le_trans r.2.2 (by rw [pl]; have := HN.out; have := HM.out; omega)⟩
              rw [ws_len]
              rfl
            | succ j =>
              have hjl : j < buf.length := by omega
              obtain ⟨ad, rfl, cj⟩ := Kd.at_int hCm (j : Int) (by omega) (by omega)
              rw [rd_nat _ _ (by rw [bi_len]; exact hjl)] at cj
              simp only [Int.toNat_natCast, bi, List.getElem_map] at cj
              have w1 : wrap64 (((j + 1 : Nat) : Int) - 1) = (j : Int) := by unfold wrap64; omega
              have g1 : ((j + 1 : Nat) : Int) > 0 := by omega
              have g2 : (0 : Int) ≤ (j : Int) := by omega
              have g3 : (j : Int) < (buf.length : Int) := by omega
              go_wp2_with fail
              have hdr : ((buf.take hi).drop j) = buf[j]'hjl :: ((buf.take hi).drop (j + 1)) := by
                rw [List.drop_eq_getElem_cons (by rw [List.length_take]; omega)]
                simp
              have hln : ((buf.take hi).drop (j + 1)).length = hi - (j + 1) := by rw [List.length_drop, List.length_take]; omega
              have hv := shl_or (Dg.be ((buf.take hi).drop (j + 1))) (buf[j]'hjl).toNat (hi - (j + 1)) (UInt8.toNat_lt _) (by rw [← hln]; exact Dg.be_lt _) (by omega)
              refine ⟨⟨j, by omega, rfl, ?_, ?_⟩, ?_⟩
              · rw [hv, hdr]
                rw [Dg.be, hln]
              · congr 1
                omega
              · show (j : Int).toNat < ((j + 1 : Nat) : Int).toNat
                omega
end Go.Proofs.YtfmndbmlpfgbnaaGreatDoor.Giv
/- Contracts by hand: rows of whole numbers of any size: what they are in memory, an element or 0, two rows compared. -/
namespace Go.Proofs.YtfmndbmlpfgbnaaGreatDoor.Giv
open Go.RowKit Go.Proofs.YtfmndbmlpfgbnaaGreatDoorW.PrintWords Go.Proofs.YtfmndbmlpfgbnaaGreatDoorW.PrintLast Go.Proofs.YtfmndbmlpfgbnaaGreatDoor.Pk Go.Proofs.YtfmndbmlpfgbnaaGreatDoor.Ord Go.Proofs.YtfmndbmlpfgbnaaGreatDoor.QM
set_option linter.unusedVariables false
set_option linter.unusedSimpArgs false

theorem cell_block {w w1 : World} (p : Addr) (h : w1.heap[p.block]? = w.heap[p.block]?) : w1.cell? p = w.cell? p := by
  unfold World.cell?
  rw [h]
theorem add_block (a : Addr) (k : Nat) : (a.add k).block = a.block := by
  unfold Addr.add
  split <;> rfl
theorem C_moved {α : Type} {enc : α → Value} {h1 : ∀ x, (enc x).oneCell' = true} {w w1 : World} {A : Option Addr} {n : Nat} {xs : List α} (h : (Kd.scalar enc h1).C w A n xs) (hm : ∀ a, A = some a → w1.heap[a.block]? = w.heap[a.block]?) : (Kd.scalar enc h1).C w1 A n xs := by
  refine ⟨h.1, h.2.1, fun h0 => ?_⟩
  obtain ⟨ad, he, hc⟩ := h.2.2 h0
  refine ⟨ad, he, fun j p hj => ?_⟩
  obtain ⟨c, c1, c2, c3⟩ := hc j p hj
  refine ⟨c, c1, c2, fun i u hu => ?_⟩
  rw [cell_block (w := w) (w1 := w1) _ (by rw [add_block]; exact hm ad he)]
  exact c3 i u hu
theorem IsBig.kept {w w1 : World} {b : Nat} {z : Int} (h : IsBig w b z) (hm : ∀ (k : Nat) (cells : Array Value) (q : TypeId), w.heap[k]? = some (Obj.cells cells q (0, 0)) → (q = 78 ∨ q = 92) → w1.heap[k]? = w.heap[k]?) : IsBig w1 b z := by
  obtain ⟨A, c, h1, h3, h4, h5, h6⟩ := h
  have hA : ∀ a, A = some a → w1.heap[a.block]? = w.heap[a.block]? := fun a e => by
    obtain ⟨arr, ha⟩ := h6 a e
    exact hm _ _ _ ha (.inr rfl)
  refine ⟨A, c, (hm _ _ _ h1 (.inl rfl)).trans h1, h3, h4, C_moved h5 hA, fun a e => ?_⟩
  obtain ⟨arr, ha⟩ := h6 a e
  exact ⟨arr, (hA a e).trans ha⟩
/-- Over a step that turns one row alone, of another type. -/
theorem IsBig.grown {w w1 : World} {b : Nat} {z : Int} (h : IsBig w b z) {row : Option Nat} (hg : w.grownBy w1 row) (ht : ∀ (k : Nat) (cells : Array Value) (q : TypeId), row = some k → w.heap[k]? = some (Obj.cells cells q (0, 0)) → q ≠ 78 ∧ q ≠ 92) : IsBig w1 b z := by
  refine h.kept (fun k cells q hk hq => hg.block k (Array.getElem?_eq_some_iff.1 hk).1 (fun e => ?_))
  have := ht k cells q e.symm hk
  rcases hq with hq | hq
  · exact this.1 hq
  · exact this.2 hq
/-- A pointer to a number's block. -/
abbrev ptrK : Kd Nat := Kd.scalar (fun b => .pointer (some ⟨b, 0, none⟩)) (fun _ => rfl)
/-- The numbers at some blocks. -/
def Bigs (w : World) (ps : List Nat) (zs : List Int) : Prop := ps.length = zs.length ∧ ∀ (j p : Nat) (z : Int), ps[j]? = some p → zs[j]? = some z → IsBig w p z
theorem Bigs.below {w w1 : World} {ps : List Nat} {zs : List Int} (h : Bigs w ps zs) (hb : Below w.heap.size w w1) : Bigs w1 ps zs := ⟨h.1, fun j p z h1 h2 => (h.2 j p z h1 h2).below hb⟩
theorem Bigs.nil (w : World) : Bigs w [] [] := ⟨rfl, fun j p z h => by simp at h⟩
theorem Bigs.snoc {w : World} {ps : List Nat} {zs : List Int} {p : Nat} {z : Int} (h : Bigs w ps zs) (hp : IsBig w p z) : Bigs w (ps ++ [p]) (zs ++ [z]) := by
  refine ⟨by simp [h.1], fun j q y h1 h2 => ?_⟩
  rcases Nat.lt_or_ge j ps.length with hj | hj
  · rw [List.getElem?_append_left hj] at h1
    rw [List.getElem?_append_left (by rw [← h.1]; exact hj)] at h2
    exact h.2 j q y h1 h2
  · rw [List.getElem?_append_right hj] at h1
    rw [List.getElem?_append_right (by rw [← h.1]; exact hj), ← h.1] at h2
    obtain ⟨e, _⟩ := List.getElem?_eq_some_iff.1 h1
    have e0 : j - ps.length = 0 := by simp at e; omega
    rw [e0] at h1 h2
    simp at h1 h2
    rw [← h1, ← h2]
    exact hp
/-- A row of numbers that is read. -/
def BRow (w : World) (A : Option Addr) (zs : List Int) : Prop := ∃ ps, ptrK.C w A zs.length ps ∧ Bigs w ps zs
theorem BRow.below {w w1 : World} {A : Option Addr} {zs : List Int} (h : BRow w A zs) (hb : Below w.heap.size w w1) : BRow w1 A zs := by
  obtain ⟨ps, h1, h2⟩ := h
  exact ⟨ps, Kd.C_below h1 hb, h2.below hb⟩
theorem BRow.nil (w : World) : BRow w none [] := ⟨[], Kd.C_nil _ _, Bigs.nil w⟩
theorem BRow.at_ {w : World} {A : Option Addr} {zs : List Int} (h : BRow w A zs) (i : Nat) (hi : i < zs.length) : ∃ ad p, A = some ad ∧ w.cell? (ad.add i) = some (.pointer (some ⟨p, 0, none⟩)) ∧ IsBig w p (zs[i]'hi) := by
  obtain ⟨ps, h1, h2⟩ := h
  have hlp : i < ps.length := by rw [h2.1]; exact hi
  obtain ⟨ad, e, c⟩ := h1.2.2 (by omega)
  obtain ⟨cs, c1, c2, c3⟩ := c i _ (List.getElem?_eq_getElem hlp)
  refine ⟨ad, ps[i]'hlp, e, ?_, h2.2 i _ _ (List.getElem?_eq_getElem hlp) (List.getElem?_eq_getElem hi)⟩
  have c2' : cs = [.pointer (some ⟨ps[i]'hlp, 0, none⟩)] := c2
  have := c3 0 (.pointer (some ⟨ps[i]'hlp, 0, none⟩)) (by rw [c2']; rfl)
  have e1 : i * (ptrK).sz + 0 = i := by
    show i * 1 + 0 = i
    omega
  rwa [e1] at this
/-- A row of numbers of the call's own. -/
def BOwn (w : World) (base : Nat) (v : Value) (zs : List Int) : Prop := ∃ ps, ptrK.R 45 w base (fun _ => True) v ps ∧ Bigs w ps zs
theorem BOwn.nil (w : World) (base : Nat) : BOwn w base (.slice none 0 0) [] := ⟨[], Kd.R_nil _ _ _ _ _, Bigs.nil w⟩
theorem BOwn.below {w w1 : World} {base : Nat} {v : Value} {zs : List Int} (h : BOwn w base v zs) (hb : Below w.heap.size w w1) : BOwn w1 base v zs := by
  obtain ⟨ps, h1, h2⟩ := h
  exact ⟨ps, Kd.R_below h1 hb, h2.below hb⟩
theorem BOwn.slice {w : World} {base : Nat} {v : Value} {zs : List Int} (h : BOwn w base v zs) : ∃ A c, v = .slice A zs.length c ∧ zs.length ≤ c ∧ BRow w A zs := by
  obtain ⟨ps, h1, h2⟩ := h
  obtain ⟨A, c, e, hc, hr⟩ := Kd.R_reads h1
  rw [h2.1] at e hc hr
  exact ⟨A, c, e, hc, ps, hr, h2⟩
theorem BOwn.lower {w : World} {base base' : Nat} {v : Value} {zs : List Int} (h : BOwn w base v zs) (hb : base' ≤ base) : BOwn w base' v zs := by
  obtain ⟨ps, h1, h2⟩ := h
  exact ⟨ps, Kd.R_lower h1 hb, h2⟩
/-- What an append of a number leaves. -/
theorem BOwn.more {w w1 : World} {base : Nat} {v v1 : Value} {ps : List Nat} {zs : List Int} {p : Nat} {z : Int} (h1 : ptrK.R 45 w base (fun _ => True) v ps) (h2 : Bigs w ps zs) (hp : IsBig w p z) (hr : ptrK.R 45 w1 base (fun _ => True) v1 (ps ++ [p])) (hg : w.grownBy w1 v.ownBlock) : BOwn w1 base v1 (zs ++ [z]) := by
  obtain ⟨inner, ho⟩ := Kd.R_own h1
  have ht : ∀ (k : Nat) (cells : Array Value) (q : TypeId), v.ownBlock = some k → w.heap[k]? = some (Obj.cells cells q (0, 0)) → q ≠ 78 ∧ q ≠ 92 := by
    intro k cells q hk hc
    obtain ⟨cells', hc'⟩ := own_typed ho k hk
    rw [hc] at hc'
    injection hc' with hc'
    injection hc' with _ hc'
    rw [hc']
    decide
  exact ⟨_, hr, Bigs.snoc ⟨h2.1, fun j q y e1 e2 => (h2.2 j q y e1 e2).grown hg ht⟩ (hp.grown hg ht)⟩
/-- Over a store into a block of another type. -/
theorem IsBig.put {w : World} {b : Nat} {z : Int} (h : IsBig w b z) {g t : Nat} {cells : Array Value} (hb : w.heap[g]? = some (Obj.cells cells t (0, 0))) (ht : t ≠ 78 ∧ t ≠ 92) (j : Nat) (u : Value) : IsBig (w.setCell ⟨g, j, none⟩ u) b z := by
  refine h.kept (fun k cells' q hk hq => Below.heap_setCell w ⟨g, j, none⟩ u k (fun e => ?_))
  have e' : k = g := e
  rw [e', hb] at hk
  injection hk with hk
  injection hk with _ hk
  rcases hq with hq | hq
  · exact ht.1 (hk.trans hq)
  · exact ht.2 (hk.trans hq)
theorem BOwn.put {w : World} {base : Nat} {v : Value} {zs : List Int} (h : BOwn w base v zs) {g t : Nat} {cells : Array Value} (hb : w.heap[g]? = some (Obj.cells cells t (0, 0))) (ht : t ≠ 78 ∧ t ≠ 92) (hp : t ≠ 45) (j : Nat) (u : Value) : BOwn (w.setCell ⟨g, j, none⟩ u) base v zs := by
  obtain ⟨ps, h1, h2⟩ := h
  refine ⟨ps, Kd.R_set h1 hb (fun q hq => ?_) j u, h2.1, fun i p z e1 e2 => (h2.2 i p z e1 e2).put hb ht j u⟩
  rcases List.mem_cons.1 hq with e | e
  · rw [e]; exact fun e2 => hp e2.symm
  · exact absurd e List.not_mem_nil
theorem wd_zero : ws (wd 0) = [] := by
  unfold wd
  rw [show (0 : Int).natAbs = 0 from rfl, Dg.dg_zero]
  rfl
theorem isBig_zero (w : World) : IsBig (w.alloc (.cells #[.bool false, .slice none 0 0] 78)) w.heap.size 0 := by
  unfold IsBig
  rw [wd_zero]
  exact ⟨none, 0, blk_new _ _, Nat.le_refl _, Nat.zero_le _, Kd.C_nil _ _, fun a e => by cases e⟩
set_option maxHeartbeats 1000000 in
theorem newInt_calls (w : World) : Calls Tryz.prog 72 #[.int .i64 0] w fun e w' => ∃ b, e = .returned (.pointer (some ⟨b, 0, none⟩)) ∧ IsBig w' b 0 ∧ Below w.heap.size w w' := by
  go_enter Tryz.func72, Tryz.ntmps72
  go_wp2_with fail
  go_ret
  exact ⟨_, rfl, isBig_zero _, below_alloc (Below.refl _ _) _⟩
set_option maxHeartbeats 1000000 in
theorem compFetch_calls (g o : Nat) (A : Option Addr) (c : Nat) (zs : List Int) (k : Nat) (w : World) (hc : w.cell? ⟨g, o, none⟩ = some (.slice A zs.length c)) (hr : BRow w A zs) :
    Calls Tryz.prog 64 #[.pointer (some ⟨g, o, none⟩), .int .i64 k] w fun e w' => ∃ b, e = .returned (.pointer (some ⟨b, 0, none⟩)) ∧ IsBig w' b (zs.getD k 0) ∧ Below w.heap.size w w' := by
  by_cases hk : k < zs.length
  · obtain ⟨ad, p, rfl, hp, hb⟩ := hr.at_ k hk
    have hz : zs.getD k 0 = zs[k]'hk := by rw [List.getD_eq_getElem?_getD, List.getElem?_eq_getElem hk]; rfl
    have HZ := Aside0.mk hz
    have HB := Aside0.mk hb
    have f1 : decide ((zs.length : Int) ≤ (k : Int)) = false := decide_eq_false (by omega)
    have f2 : decide ((zs.length : Int) ≤ k) = false := f1
    have g1 : (k : Int) < (zs.length : Int) := by omega
    clear hz hb hr
    go_enter Tryz.func64, Tryz.ntmps64
    go_wp2_with fail
    go_ret
    exact ⟨_, rfl, by rw [HZ.out]; exact HB.out, Below.refl _ _⟩
  · have hz : zs.getD k 0 = 0 := by rw [List.getD_eq_getElem?_getD, List.getElem?_eq_none (by omega)]; rfl
    have f1 : decide ((zs.length : Int) ≤ (k : Int)) = true := decide_eq_true (by omega)
    have HZ := Aside0.mk hz
    clear hz hr
    go_enter Tryz.func64, Tryz.ntmps64
    go_wp2_with (first | (go_at_call 72; (with_reducible refine (newInt_calls _).mono ?_); rintro e w1 ⟨b, rfl, hb, h1⟩; have HB := Aside0.mk hb; have H1 := Aside0.mk h1; clear hb h1))
    go_ret
    exact ⟨_, rfl, by rw [HZ.out]; exact HB.out, H1.out⟩
theorem padI_step (a b : List Int) (n k : Nat) (h : k < n) : padN cI 0 (n - k) (a.drop k) (b.drop k) = if cI (a.getD k 0) (b.getD k 0) = 0 then padN cI 0 (n - (k + 1)) (a.drop (k + 1)) (b.drop (k + 1)) else cI (a.getD k 0) (b.getD k 0) := by
  have hd : ∀ l : List Int, (l.drop k).headD 0 = l.getD k 0 := fun l => by
    rw [List.getD_eq_getElem?_getD, ← List.head?_drop]
    cases l.drop k <;> rfl
  rw [show n - k = (n - (k + 1)) + 1 by omega, padN, hd, hd, List.tail_drop, List.tail_drop]
set_option maxRecDepth 100000 in
set_option maxHeartbeats 4000000 in
/-- Two rows of numbers compared: one after the other, the shorter one filled up with 0. -/
theorem compCmp_calls (g o : Nat) (A0 A1 : Option Addr) (c0 c1 : Nat) (a b : List Int) (w : World) (hc : w.cell? ⟨g, o, none⟩ = some (.slice A0 a.length c0)) (ha : BRow w A0 a) (hb : BRow w A1 b) (hla : a.length ≤ 1000000) (hlb : b.length ≤ 1000000) :
    Calls Tryz.prog 54 #[.pointer (some ⟨g, o, none⟩), .slice A1 b.length c1] w fun e w' => e = .returned (.int .i64 (padL cI 0 a b)) ∧ Below w.heap.size w w' := by
  have HA := Aside0.mk ha
  have HB := Aside0.mk hb
  have HC := Aside0.mk hc
  obtain ⟨n, en⟩ : ∃ n, n = max a.length b.length := ⟨_, rfl⟩
  have EP : Aside0 (padL cI 0 a b = padN cI 0 n a b) := Aside0.mk (by unfold padL; rw [← en])
  have hn : n ≤ 1000000 := by omega
  clear ha hb
  have hb0 : Below w.heap.size w (w.alloc (.cells #[.slice A1 b.length c1] 47)) := below_alloc (Below.refl _ _) _
  have k0 := pw_cell_below hb0 hc
  have HB0 := Aside0.mk hb0
  clear hb0 hc
  by_cases hab : (a.length : Int) < (b.length : Int)
  · have EN := Aside0.mk (show n = b.length by omega)
    clear en
    go_enter Tryz.func54, Tryz.ntmps54
    go_wp2_with fail
    go_quiet (fail)
    go_wp2_with fail
    clear k0
    go_loopw [16] (fun v16 wr => ∃ k : Nat, v16 = .int .i64 k ∧ k ≤ n ∧ Below w.heap.size w wr ∧ wr.heap[w.heap.size]? = some (.cells #[.slice A1 b.length c1] 47 (0, 0)) ∧ padN cI 0 (n - k) (a.drop k) (b.drop k) = padN cI 0 n a b) (fun v16 wr => n - (intOf v16).toNat)
    case atStart => exact ⟨0, rfl, Nat.zero_le _, pw_below_drewN HB0.out _, blk_new _ _, rfl⟩
    case round =>
      obtain ⟨k, rfl, hk, hbw, hblk, hpad⟩ := hrel
      have BL := Aside0.mk hbw
      have BS := Aside0.mk hbw.size
      have BK := Aside0.mk hblk
      have LT := Aside0.mk (blk_lt hblk)
      by_cases hlt : k < n
      · have st := padI_step a b n k hlt
        rw [hpad] at st
        have fa := fun (w' : World) (hb' : Below w.heap.size w w') => compFetch_calls g o A0 c0 a k w' (pw_cell_below hb' HC.out) (HA.out.below hb')
        have fb := fun (w' : World) (hk' : w'.heap[w.heap.size]? = some (.cells #[.slice A1 b.length c1] 47 (0, 0))) (hb' : Below w.heap.size w w') => compFetch_calls w.heap.size 0 A1 c1 b k w' (blk_cell hk' 0) (HB.out.below hb')
        generalize a.getD k 0 = x at *
        generalize b.getD k 0 = y at *
        have wk : wrap64 ((k : Int) + 1) = ((k + 1 : Nat) : Int) := Pk.wr k (by omega)
        have f4 : (k : Int) < (b.length : Int) := by have := EN.out; omega
        have kn : k + 1 ≤ n := hlt
        have cm := fun b1 b2 w' (h1 : IsBig w' b1 x) (h2 : IsBig w' b2 y) => Cmp_calls x y b1 b2 w' h1 h2
        clear hpad hbw hblk hlt hn hla hlb
        generalize cI x y = c at *
        by_cases hz : c = 0
        · subst hz
          rw [if_pos rfl] at st
          have ST := Aside0.mk st
          clear st
          go_wp2_with (first | (go_at_call 64; (with_reducible refine (fa _ BL.out).mono ?_); rintro e w1 ⟨b1, rfl, q1, d1⟩; have BL1 := Aside0.mk (below_then BL.out BS.out d1); have BS1 := Aside0.mk (Nat.le_trans BS.out d1.size); have Q1 := Aside0.mk q1; have K1 := Aside0.mk ((d1.block _ LT.out).trans BK.out); clear d1 q1) | (go_at_call 64; (with_reducible refine (fb _ K1.out BL1.out).mono ?_); rintro e w2 ⟨b2, rfl, q2, d2⟩; have BL2 := Aside0.mk (below_then BL1.out BS1.out d2); have BS2 := Aside0.mk (Nat.le_trans BS1.out d2.size); have Q2 := Aside0.mk q2; have D2 := Aside0.mk d2; have K2 := Aside0.mk ((d2.block _ (blk_lt K1.out)).trans K1.out); clear d2 q2) | (go_at_call 40; (with_reducible refine (cm _ _ _ (Q1.out.below D2.out) Q2.out).mono ?_); rintro e w3 ⟨rfl, d3⟩; have BL3 := Aside0.mk (below_then BL2.out BS2.out d3.below); have K3 := Aside0.mk ((d3.below.block _ (blk_lt K2.out)).trans K2.out); clear d3))
          rw [wk]
          exact ⟨⟨k + 1, rfl, kn, BL3.out, K3.out, ST.out.symm⟩, by simp only [intOf]; omega⟩
        · rw [if_neg hz] at st
          have nz : (c != 0) = true := bne_iff_ne.2 hz
          have ST := Aside0.mk (EP.out.trans st)
          clear st hz
          go_wp2_with (first | (go_at_call 64; (with_reducible refine (fa _ BL.out).mono ?_); rintro e w1 ⟨b1, rfl, q1, d1⟩; have BL1 := Aside0.mk (below_then BL.out BS.out d1); have BS1 := Aside0.mk (Nat.le_trans BS.out d1.size); have Q1 := Aside0.mk q1; have K1 := Aside0.mk ((d1.block _ LT.out).trans BK.out); clear d1 q1) | (go_at_call 64; (with_reducible refine (fb _ K1.out BL1.out).mono ?_); rintro e w2 ⟨b2, rfl, q2, d2⟩; have BL2 := Aside0.mk (below_then BL1.out BS1.out d2); have BS2 := Aside0.mk (Nat.le_trans BS1.out d2.size); have Q2 := Aside0.mk q2; have D2 := Aside0.mk d2; have K2 := Aside0.mk ((d2.block _ (blk_lt K1.out)).trans K1.out); clear d2 q2) | (go_at_call 40; (with_reducible refine (cm _ _ _ (Q1.out.below D2.out) Q2.out).mono ?_); rintro e w3 ⟨rfl, d3⟩; have BL3 := Aside0.mk (below_then BL2.out BS2.out d3.below); have K3 := Aside0.mk ((d3.below.block _ (blk_lt K2.out)).trans K2.out); clear d3))
          go_ret
          exact ⟨by rw [ST.out]; rfl, BL3.out⟩
      · have ek : k = n := by omega
        have E0 := Aside0.mk (show padL cI 0 a b = 0 by
          rw [EP.out, ← hpad, ek, Nat.sub_self]
          rfl)
        have f4 : ¬ (k : Int) < (b.length : Int) := by have := EN.out; omega
        clear hpad hbw hblk ek hlt
        go_wp2_with fail
        go_ret
        exact ⟨by rw [E0.out]; rfl, BL.out⟩
  · have EN := Aside0.mk (show n = a.length by omega)
    clear en
    go_enter Tryz.func54, Tryz.ntmps54
    go_wp2_with fail
    go_quiet (fail)
    go_wp2_with fail
    clear k0
    go_loopw [16] (fun v16 wr => ∃ k : Nat, v16 = .int .i64 k ∧ k ≤ n ∧ Below w.heap.size w wr ∧ wr.heap[w.heap.size]? = some (.cells #[.slice A1 b.length c1] 47 (0, 0)) ∧ padN cI 0 (n - k) (a.drop k) (b.drop k) = padN cI 0 n a b) (fun v16 wr => n - (intOf v16).toNat)
    case atStart => exact ⟨0, rfl, Nat.zero_le _, pw_below_drewN HB0.out _, blk_new _ _, rfl⟩
    case round =>
      obtain ⟨k, rfl, hk, hbw, hblk, hpad⟩ := hrel
      have BL := Aside0.mk hbw
      have BS := Aside0.mk hbw.size
      have BK := Aside0.mk hblk
      have LT := Aside0.mk (blk_lt hblk)
      by_cases hlt : k < n
      · have st := padI_step a b n k hlt
        rw [hpad] at st
        have fa := fun (w' : World) (hb' : Below w.heap.size w w') => compFetch_calls g o A0 c0 a k w' (pw_cell_below hb' HC.out) (HA.out.below hb')
        have fb := fun (w' : World) (hk' : w'.heap[w.heap.size]? = some (.cells #[.slice A1 b.length c1] 47 (0, 0))) (hb' : Below w.heap.size w w') => compFetch_calls w.heap.size 0 A1 c1 b k w' (blk_cell hk' 0) (HB.out.below hb')
        generalize a.getD k 0 = x at *
        generalize b.getD k 0 = y at *
        have wk : wrap64 ((k : Int) + 1) = ((k + 1 : Nat) : Int) := Pk.wr k (by omega)
        have f4 : (k : Int) < (a.length : Int) := by have := EN.out; omega
        have kn : k + 1 ≤ n := hlt
        have cm := fun b1 b2 w' (h1 : IsBig w' b1 x) (h2 : IsBig w' b2 y) => Cmp_calls x y b1 b2 w' h1 h2
        clear hpad hbw hblk hlt hn hla hlb
        generalize cI x y = c at *
        by_cases hz : c = 0
        · subst hz
          rw [if_pos rfl] at st
          have ST := Aside0.mk st
          clear st
          go_wp2_with (first | (go_at_call 64; (with_reducible refine (fa _ BL.out).mono ?_); rintro e w1 ⟨b1, rfl, q1, d1⟩; have BL1 := Aside0.mk (below_then BL.out BS.out d1); have BS1 := Aside0.mk (Nat.le_trans BS.out d1.size); have Q1 := Aside0.mk q1; have K1 := Aside0.mk ((d1.block _ LT.out).trans BK.out); clear d1 q1) | (go_at_call 64; (with_reducible refine (fb _ K1.out BL1.out).mono ?_); rintro e w2 ⟨b2, rfl, q2, d2⟩; have BL2 := Aside0.mk (below_then BL1.out BS1.out d2); have BS2 := Aside0.mk (Nat.le_trans BS1.out d2.size); have Q2 := Aside0.mk q2; have D2 := Aside0.mk d2; have K2 := Aside0.mk ((d2.block _ (blk_lt K1.out)).trans K1.out); clear d2 q2) | (go_at_call 40; (with_reducible refine (cm _ _ _ (Q1.out.below D2.out) Q2.out).mono ?_); rintro e w3 ⟨rfl, d3⟩; have BL3 := Aside0.mk (below_then BL2.out BS2.out d3.below); have K3 := Aside0.mk ((d3.below.block _ (blk_lt K2.out)).trans K2.out); clear d3))
          rw [wk]
          exact ⟨⟨k + 1, rfl, kn, BL3.out, K3.out, ST.out.symm⟩, by simp only [intOf]; omega⟩
        · rw [if_neg hz] at st
          have nz : (c != 0) = true := bne_iff_ne.2 hz
          have ST := Aside0.mk (EP.out.trans st)
          clear st hz
          go_wp2_with (first | (go_at_call 64; (with_reducible refine (fa _ BL.out).mono ?_); rintro e w1 ⟨b1, rfl, q1, d1⟩; have BL1 := Aside0.mk (below_then BL.out BS.out d1); have BS1 := Aside0.mk (Nat.le_trans BS.out d1.size); have Q1 := Aside0.mk q1; have K1 := Aside0.mk ((d1.block _ LT.out).trans BK.out); clear d1 q1) | (go_at_call 64; (with_reducible refine (fb _ K1.out BL1.out).mono ?_); rintro e w2 ⟨b2, rfl, q2, d2⟩; have BL2 := Aside0.mk (below_then BL1.out BS1.out d2); have BS2 := Aside0.mk (Nat.le_trans BS1.out d2.size); have Q2 := Aside0.mk q2; have D2 := Aside0.mk d2; have K2 := Aside0.mk ((d2.block _ (blk_lt K1.out)).trans K1.out); clear d2 q2) | (go_at_call 40; (with_reducible refine (cm _ _ _ (Q1.out.below D2.out) Q2.out).mono ?_); rintro e w3 ⟨rfl, d3⟩; have BL3 := Aside0.mk (below_then BL2.out BS2.out d3.below); have K3 := Aside0.mk ((d3.below.block _ (blk_lt K2.out)).trans K2.out); clear d3))
          go_ret
          exact ⟨by rw [ST.out]; rfl, BL3.out⟩
      · have ek : k = n := by omega
        have E0 := Aside0.mk (show padL cI 0 a b = 0 by
          rw [EP.out, ← hpad, ek, Nat.sub_self]
          rfl)
        have f4 : ¬ (k : Int) < (a.length : Int) := by have := EN.out; omega
        clear hpad hbw hblk ek hlt
        go_wp2_with fail
        go_ret
        exact ⟨by rw [E0.out]; rfl, BL.out⟩
end Go.Proofs.YtfmndbmlpfgbnaaGreatDoor.Giv
/- Contracts by hand: whole numbers out of bytes: SetBytes, Neg, zzBig. -/
namespace Go.Proofs.YtfmndbmlpfgbnaaGreatDoor.Giv
open Go.RowKit Go.Proofs.YtfmndbmlpfgbnaaGreatDoorW.PrintWords Go.Proofs.YtfmndbmlpfgbnaaGreatDoorW.PrintLast Go.Proofs.YtfmndbmlpfgbnaaGreatDoor.Pk Go.Proofs.YtfmndbmlpfgbnaaGreatDoor.Ord Go.Proofs.YtfmndbmlpfgbnaaGreatDoor.QM
set_option linter.unusedVariables false
set_option linter.unusedSimpArgs false

set_option maxHeartbeats 2000000 in
set_option maxRecDepth 100000 in
theorem setBytesI_calls (b : Nat) (buf : List UInt8) (A : Option Addr) (c : Nat) (w : World) (hm : buf.length ≤ 100000) (hC : (Kd.int .u8).C w A buf.length (bi buf)) (hc : buf.length ≤ c) (hg : w.heap[b]? = some (.cells #[.bool false, .slice none 0 0] 78 (0, 0))) :
    Calls Tryz.prog 48 #[.pointer (some ⟨b, 0, none⟩), .slice A buf.length c] w fun e w' => e = .returned (.pointer (some ⟨b, 0, none⟩)) ∧ Below b w w' ∧ IsBig w' b (Dg.be buf : Int) := by
  have sb := fun (w' : World) (d : Below w.heap.size w w') => setBytes_calls buf A c w' hm (Kd.C_below hC d) hc
  have lt := blk_lt hg
  have p1 := blk_cell hg 1
  have HG := Aside0.mk hg
  clear hg hC
  go_enter Tryz.func48, Tryz.ntmps48
  go_wp2_with (first | (go_at_call 56; (with_reducible refine (sb _ ?hd).mono ?_); (case hd => repeat (first | with_reducible exact Below.refl _ _ | with_reducible apply Below.drew | apply pw_below_drewN)); rintro e w1 ⟨d1, A', c', rfl, hl', hC', hW', wl⟩; have k1 := (d1.block _ lt).trans HG.out; have q0 := blk_cell k1 0; have q1 := blk_cell k1 1; have f0 := Lib.frozen_of_heap k1 0; have f1 := Lib.frozen_of_heap k1 1; have D1 := Aside0.mk (d1.mono (Nat.le_of_lt lt)); have K1 := Aside0.mk k1; have HC := Aside0.mk hC'; have HW := Aside0.mk hW'; clear d1 k1 hC' hW' sb))
  go_ret
  have e0 : wd (Dg.be buf : Int) = Dg.dg (Dg.be buf) := by unfold wd; rw [Int.natAbs_natCast]
  refine ⟨rfl, (D1.out.setCell (p := ⟨b, 1, none⟩) (Nat.le_refl _) _).setCell (p := ⟨b, 0, none⟩) (Nat.le_refl _) _, A', c', ?_, by rw [e0]; exact hl', by rw [e0]; exact wl, ?_, ?_⟩
  · have k2 := blk_put (cs := #[Value.bool false, .slice none 0 0]) K1.out 1 (.slice A' (ws (Dg.dg (Dg.be buf))).length c') rfl
    have k3 := blk_put (cs := #[Value.bool false, .slice A' (ws (Dg.dg (Dg.be buf))).length c']) k2 0 (.bool false) rfl
    rw [e0, show decide (((Dg.be buf : Nat) : Int) < 0) = false from decide_eq_false (by omega)]
    exact k3
  · rw [e0]
    refine C_moved HC.out (fun a ea => ?_)
    obtain ⟨arr, ha⟩ := HW.out a ea
    have ne : a.block ≠ b := fun e => by
      rw [e, K1.out] at ha
      injection ha with ha
      injection ha with _ ha
      exact absurd ha (by decide)
    rw [Below.heap_setCell _ _ _ _ (fun e => ne e), Below.heap_setCell _ _ _ _ (fun e => ne e)]
  · intro a ea
    obtain ⟨arr, ha⟩ := HW.out a ea
    have ne : a.block ≠ b := fun e => by
      rw [e, K1.out] at ha
      injection ha with ha
      injection ha with _ ha
      exact absurd ha (by decide)
    exact ⟨arr, by rw [Below.heap_setCell _ _ _ _ (fun e => ne e), Below.heap_setCell _ _ _ _ (fun e => ne e)]; exact ha⟩
set_option maxHeartbeats 2000000 in
set_option maxRecDepth 100000 in
theorem set_same (b : Nat) (w : World) :
    Calls Tryz.prog 57 #[.pointer (some ⟨b, 0, none⟩), .pointer (some ⟨b, 0, none⟩)] w fun e w' => e = .returned (.pointer (some ⟨b, 0, none⟩)) ∧ w' = w := by
  obtain ⟨j, hj, hs⟩ := Option.map_eq_some_iff.1 (show (Tryz.prog.info? 78).map (fun i => decide (i.size = 2)) = some true by kernel_rfl)
  have he := Lib.run_neq_ptr_same (P := Tryz.prog) w ⟨b, 0, none⟩ Tryz.underlying45 hj
  go_enter Tryz.func57, Tryz.ntmps57
  go_wp2_with fail
  go_ret
  exact ⟨rfl, rfl⟩
theorem neg_put {w : World} {b c : Nat} {z : Int} {A : Option Addr} (h1 : w.heap[b]? = some (.cells #[.bool false, .slice A (ws (wd z)).length c] 78 (0, 0))) (h3 : (ws (wd z)).length ≤ c) (h4 : (ws (wd z)).length ≤ 1000000) (h5 : (Kd.int .u64).C w A (ws (wd z)).length (ws (wd z))) (h6 : WordsAt w A) (v : Bool) (hv : decide (-z < 0) = v) : IsBig (w.setCell ⟨b, 0, none⟩ (.bool v)) b (-z) := by
  have e0 : wd (-z) = wd z := by unfold wd; rw [Int.natAbs_neg]
  have k := blk_put (cs := #[Value.bool false, .slice A (ws (wd z)).length c]) h1 0 (.bool v) rfl
  have ne : ∀ a, A = some a → ¬ a.block = b := fun a ea e => by
    obtain ⟨arr, ha⟩ := h6 a ea
    rw [e, h1] at ha
    injection ha with ha
    injection ha with _ ha
    exact absurd ha (by decide)
  refine ⟨A, c, by rw [e0, hv]; exact k, by rw [e0]; exact h3, by rw [e0]; exact h4, ?_, ?_⟩
  · rw [e0]
    exact C_moved h5 (fun a ea => Below.heap_setCell _ _ _ _ (fun e => ne a ea e))
  · intro a ea
    obtain ⟨arr, ha⟩ := h6 a ea
    exact ⟨arr, (Below.heap_setCell _ _ _ _ (fun e => ne a ea e)).trans ha⟩
set_option maxHeartbeats 2000000 in
set_option maxRecDepth 100000 in
theorem neg_same (b : Nat) (z : Int) (hz : 0 ≤ z) (w : World) (hb : IsBig w b z) :
    Calls Tryz.prog 49 #[.pointer (some ⟨b, 0, none⟩), .pointer (some ⟨b, 0, none⟩)] w fun e w' => e = .returned (.pointer (some ⟨b, 0, none⟩)) ∧ Below b w w' ∧ IsBig w' b (-z) := by
  have ss := fun (w' : World) => set_same b w'
  obtain ⟨A, c, h1, h3, h4, h5, h6⟩ := hb
  have ng : decide (z < 0) = false := decide_eq_false (by omega)
  rw [ng] at h1
  have p0 := blk_cell h1 0
  have p1 := blk_cell h1 1
  have f0 := Lib.frozen_of_heap h1 0
  have H1 := Aside0.mk h1
  have WL := ws_len (wd z)
  have key : decide (-z < 0) = (decide (0 < ((ws (wd z)).length : Int))) := by
    have l : (wd z).length = 0 ↔ z = 0 := by
      constructor
      · intro h
        have h0 : wd z = [] := List.length_eq_zero_iff.1 h
        have v := Dg.val_dg z.natAbs
        unfold wd at h0
        rw [h0] at v
        have : z.natAbs = 0 := by simpa [Dg.val] using v.symm
        omega
      · rintro rfl
        have := wd_zero
        have e := congrArg List.length this
        rw [ws_len] at e
        exact e
    rw [WL]
    by_cases h : z = 0
    · rw [decide_eq_false (by omega), decide_eq_false (by have := l.2 h; omega)]
    · have h7 : (wd z).length ≠ 0 := fun e => h (l.1 e)
      rw [decide_eq_true (by omega), decide_eq_true (by omega)]
  have KEY := Aside0.mk key
  clear key h1
  go_enter Tryz.func49, Tryz.ntmps49
  go_wp2_with (first | (go_at_call 57; (with_reducible refine (ss _).mono ?_); rintro e w1 ⟨rfl, rfl⟩))
  all_goals
    go_ret
    refine ⟨rfl, (Below.refl b w1).setCell (p := ⟨b, 0, none⟩) (Nat.le_refl _) _, neg_put H1.out h3 h4 h5 h6 _ ?_⟩
    rw [KEY.out, WL]
    first
      | exact decide_eq_true (by omega)
      | exact decide_eq_false (by omega)
/-- The number that a sign and bytes tell. -/
def zOf (ng : Bool) (mg : ByteArray) : Int := if ng then -(Dg.be mg.toList : Int) else (Dg.be mg.toList : Int)
theorem bytes_row (w : World) (s : ByteArray) (hs : s.size ≤ 100000) : (Kd.int .u8).C (Lib.bytesWorld w 5 s) (some ⟨w.heap.size, 0, none⟩) s.toList.length (bi s.toList) := by
  have hl : s.toList.length = s.size := len_toList s
  have ed : s.toList = s.data.toList := Lib.toList_data s
  refine ⟨by rw [bi_len], by omega, fun _ => ⟨_, rfl, ?_⟩⟩
  intro j p hj
  have hlt : j < s.toList.length := by
    have := (List.getElem?_eq_some_iff.1 hj).1
    rwa [bi_len] at this
  have hp : p = ((s.toList[j]'hlt).toNat : Int) := by
    unfold bi at hj
    rw [List.getElem?_map, List.getElem?_eq_getElem hlt] at hj
    simpa using hj.symm
  refine ⟨[.int .u8 p], rfl, rfl, ?_⟩
  intro i u hu
  have hi : i = 0 := by
    have := (List.getElem?_eq_some_iff.1 hu).1
    simp at this
    exact this
  subst hi
  have hu' : u = .int .u8 p := by simpa using hu.symm
  rw [hu', hp]
  have c := Lib.bytesWorld_cell w 5 s j (by omega)
  have g : s.data.toList.getD j 0 = s.toList[j]'hlt := by
    rw [← ed, List.getD_eq_getElem?_getD, List.getElem?_eq_getElem hlt]
    rfl
  rw [g] at c
  show (Lib.bytesWorld w 5 s).cell? (Go.Addr.add _ (j * 1 + 0)) = _
  rw [Nat.mul_one, Nat.add_zero]
  unfold Go.Addr.add
  by_cases hz : j = 0
  · subst hz
    simpa using c
  · simpa [hz] using c
set_option maxRecDepth 100000 in
set_option maxHeartbeats 4000000 in
theorem zzBig_calls (ng : Bool) (mg : ByteArray) (w : World) (hs : mg.size ≤ 100000) :
    Calls Tryz.prog 35 #[.agg #[.bool ng, .string mg]] w fun e w' => ∃ p, e = .returned (.pointer (some ⟨p, 0, none⟩)) ∧ IsBig w' p (zOf ng mg) ∧ Below w.heap.size w w' := by
  have b2 := below_alloc (below_alloc (Below.refl w.heap.size w) (Obj.cells #[.bool ng, .string mg] 56)) (Obj.cells #[.bool false, .slice none 0 0] 78)
  have k1 : ((w.alloc (Obj.cells #[.bool ng, .string mg] 56)).alloc (Obj.cells #[.bool false, .slice none 0 0] 78)).heap[w.heap.size]? = some (Obj.cells #[.bool ng, .string mg] 56) := blk_alloc (blk_new w _) _
  have m1 : ((w.alloc (Obj.cells #[.bool ng, .string mg] 56)).alloc (Obj.cells #[.bool false, .slice none 0 0] 78)).heap[w.heap.size + 1]? = some (Obj.cells #[.bool false, .slice none 0 0] 78) := by
    have := blk_new (w.alloc (Obj.cells #[.bool ng, .string mg] 56)) (Obj.cells #[.bool false, .slice none 0 0] 78)
    simpa using this
  have hl : mg.toList.length = mg.size := len_toList mg
  obtain ⟨A, cp, W3, hcv, hb3, hr3, hc3⟩ : ∃ (A : Option Addr) (cp : Nat) (W3 : World), (convert 9 80 (.string mg)).run Tryz.prog ((w.alloc (Obj.cells #[.bool ng, .string mg] 56)).alloc (Obj.cells #[.bool false, .slice none 0 0] 78)) = .ok (.slice A mg.toList.length cp) W3 ∧ Below ((w.alloc (Obj.cells #[.bool ng, .string mg] 56)).alloc (Obj.cells #[.bool false, .slice none 0 0] 78)).heap.size ((w.alloc (Obj.cells #[.bool ng, .string mg] 56)).alloc (Obj.cells #[.bool false, .slice none 0 0] 78)) W3 ∧ (Kd.int .u8).C W3 A mg.toList.length (bi mg.toList) ∧ mg.toList.length ≤ cp := by
    have cv := Lib.run_convert_string_bytes ((w.alloc (Obj.cells #[.bool ng, .string mg] 56)).alloc (Obj.cells #[.bool false, .slice none 0 0] 78)) 9 80 5 mg Tryz.underlying9 Tryz.underlying80 Tryz.underlying5
    rw [← hl] at cv
    exact ⟨_, _, _, cv, bytes_below (Below.refl _ _) (Nat.le_refl _) _ _, bytes_row _ mg hs, by rw [hl]; exact grownCap_ge _ _ _ _⟩
  have k3 := (hb3.block _ (blk_lt k1)).trans k1
  have m3 := (hb3.block _ (blk_lt m1)).trans m1
  have sb := setBytesI_calls (w.heap.size + 1) mg.toList A cp W3 (by omega) hr3 hc3 m3
  clear hr3
  obtain ⟨n, en⟩ : ∃ n, n = mg.toList.length := ⟨_, rfl⟩
  rw [← en] at sb hcv
  have EN := Aside0.mk en
  clear en hl hc3
  have K3 := Aside0.mk k3
  have B3 := Aside0.mk (b2.trans (hb3.mono (by have := b2.size; omega)))
  have nz := fun (w' : World) (h : IsBig w' (w.heap.size + 1) (Dg.be mg.toList : Int)) => neg_same (w.heap.size + 1) (Dg.be mg.toList : Int) (by omega) w' h
  clear b2 k1 m1 hb3 k3 m3
  go_enter Tryz.func35, Tryz.ntmps35
  cases ng with
  | false =>
    go_wp2_with (first | (go_at_call 48; (with_reducible refine sb.mono ?_); rintro e w4 ⟨rfl, d4, hb4⟩; have q0 := blk_cell ((d4.block _ (Nat.lt_succ_self _)).trans K3.out) 0; have D4 := Aside0.mk (B3.out.trans (d4.mono (Nat.le_succ _))); have HB := Aside0.mk hb4; clear d4 hb4))
    go_ret
    exact ⟨_, rfl, HB.out, D4.out⟩
  | true =>
    go_wp2_with (first | (go_at_call 48; (with_reducible refine sb.mono ?_); rintro e w4 ⟨rfl, d4, hb4⟩; have q0 := blk_cell ((d4.block _ (Nat.lt_succ_self _)).trans K3.out) 0; have D4 := Aside0.mk (B3.out.trans (d4.mono (Nat.le_succ _))); have HB := Aside0.mk hb4; clear d4 hb4) | (go_at_call 49; (with_reducible refine (nz _ HB.out).mono ?_); rintro e w5 ⟨rfl, d5, hb5⟩; have D5 := Aside0.mk (D4.out.trans (d5.mono (Nat.le_succ _))); have HB5 := Aside0.mk hb5; clear d5 hb5))
    go_ret
    exact ⟨_, rfl, HB5.out, D5.out⟩
end Go.Proofs.YtfmndbmlpfgbnaaGreatDoor.Giv
