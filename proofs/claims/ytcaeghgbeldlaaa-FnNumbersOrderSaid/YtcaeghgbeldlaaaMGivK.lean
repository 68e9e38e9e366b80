/- Contracts by hand: words out of bytes. -/
import Derived.Test.YtcaeghgbeldlaaaMGivL
import Derived.Test.YtcaeghgbeldlaaaMGivM
namespace Go.Proofs.Ytcaeghgbeldlaaa.Giv
open Go.RowKit Go.Proofs.YtcaeghgbeldlaaaW.PrintWords Go.Proofs.YtcaeghgbeldlaaaW.PrintLast Go.Proofs.Ytcaeghgbeldlaaa.Pk Go.Proofs.Ytcaeghgbeldlaaa.Ord Go.Proofs.Ytcaeghgbeldlaaa.QM
set_option linter.unusedVariables false
set_option linter.unusedSimpArgs false

/-- The words without the zeros at the end, as a row. -/
theorem lies_dg {w : World} {h c : Nat} {l : List Nat} (hl : Lies w h c l) (hw : Dg.Words l) (hm : l.length ≤ 1000000) : (Kd.int .u64).C w (some (⟨h, 0, none⟩ : Go.Addr)) (ws (Dg.dg (Dg.val l))).length (ws (Dg.dg (Dg.val l))) ∧ (ws (Dg.dg (Dg.val l))).length ≤ c ∧ (ws (Dg.dg (Dg.val l))).length ≤ l.length := by
  have p := Dg.dg_prefix l.length l rfl hw
  have len : (Dg.dg (Dg.val l)).length ≤ l.length := by
    rw [p, List.length_take]
    omega
  have e : ws (Dg.dg (Dg.val l)) = (ws l).take (Dg.dg (Dg.val l)).length := by
    conv => lhs; rw [p]
    unfold ws
    rw [List.map_take]
  have r := Kd.C_take (hl.row hm) (m := (Dg.dg (Dg.val l)).length) (by rw [ws_len]; exact len)
  rw [← e] at r
  obtain ⟨_, _, _, h3, _⟩ := hl
  exact ⟨r, by rw [ws_len]; omega, by rw [ws_len]; exact len⟩
theorem lies_words {w : World} {h c : Nat} {l : List Nat} (hl : Lies w h c l) : WordsAt w (some ⟨h, 0, none⟩) := by
  obtain ⟨arr, h1, _⟩ := hl
  intro a e
  obtain rfl := Option.some.inj e
  exact ⟨arr, h1⟩
theorem shl_or (d b m : Nat) (hb : b < 256) (hd : d < 256 ^ m) (hm : m ≤ 7) : bits .or .u64 (d : Int) (IntKind.u64.wrap (IntKind.u64.wrap (b : Int) * 2 ^ (8 * m))) = ((b * 256 ^ m + d : Nat) : Int) := by
  have e : (2 : Int) ^ (8 * m) = ((256 ^ m : Nat) : Int) := by
    have h : (2 : Nat) ^ (8 * m) = 256 ^ m := by rw [Nat.pow_mul]
    rw [← h]
    simp
  have hP : 256 ^ m ≤ 72057594037927936 := Nat.pow_le_pow_right (by decide) hm
  have hbP : b * 256 ^ m ≤ 255 * 72057594037927936 := Nat.mul_le_mul (by omega) hP
  have w1 : IntKind.u64.wrap (b : Int) = b := wraps_u64 _ (by omega) (by omega)
  rw [w1, e]
  have e2 : (b : Int) * ((256 ^ m : Nat) : Int) = ((b * 256 ^ m : Nat) : Int) := by rw [Int.natCast_mul]
  rw [e2]
  have hmod : ((b * 256 ^ m : Nat) : Int) % (2 : Int) ^ (8 * m) = 0 := by
    rw [e, ← e2]
    exact Int.mul_emod_left _ _
  generalize b * 256 ^ m = X at *
  have w2 : IntKind.u64.wrap (X : Int) = X := wraps_u64 _ (by omega) (by omega)
  rw [w2, bits_or_comm, bits_join .u64 64 (by decide) wraps_u64 (8 * m) _ _ (by omega) hmod (by omega) (by omega) (by rw [e]; omega) (by omega)]
  omega
theorem wr_m8 (i j : Nat) (h : i = j + 8) (hi : i < 4611686018427387904) : wrap64 ((i : Int) - 8) = (j : Int) := by unfold wrap64; omega
set_option maxHeartbeats 4000000 in
theorem setBytes_calls (buf : List UInt8) (A : Option Addr) (c : Nat) (w : World) (hm : buf.length ≤ 100000) (hC : (Kd.int .u8).C w A buf.length (bi buf)) (hc : buf.length ≤ c) :
    Calls Try.prog 25 #[.slice none 0 0, .slice A buf.length c] w fun e w' => Below w.heap.size w w' ∧ ∃ A' c', e = .returned (.slice A' (ws (Dg.dg (Dg.be buf))).length c') ∧ (ws (Dg.dg (Dg.be buf))).length ≤ c' ∧ (Kd.int .u64).C w' A' (ws (Dg.dg (Dg.be buf))).length (ws (Dg.dg (Dg.be buf))) ∧ WordsAt w' A' ∧ (ws (Dg.dg (Dg.be buf))).length ≤ 1000000 := by
  by_cases h0 : buf.length = 0
  · have h00 : buf = [] := List.length_eq_zero_iff.1 h0
    subst h00
    have mk := fun w => make_zero w
    have nn := fun w => norm_nil w
    have l0 : ([] : List UInt8).length = 0 := rfl
    go_enter Try.func25, Try.ntmps25
    go_wp2_with (first | (go_at_call 27; (with_reducible refine (mk _).mono ?_); rintro e w1 ⟨rfl, hb⟩))
    go_loop [5, 6] (fun v5 v6 => v5 = .int .i64 0 ∧ v6 = .int .i64 0) (fun v5 v6 => 0)
    case atStart => exact ⟨rfl, rfl⟩
    case round =>
      obtain ⟨rfl, rfl⟩ := hrel
      go_wp2_with (first | (go_at_call 29; (with_reducible refine (nn _).mono ?_); rintro e w2 ⟨rfl, rfl⟩))
      go_ret
      have z : Dg.dg (Dg.be []) = [] := Dg.dg_zero
      rw [z]
      exact ⟨hb, none, 0, rfl, Nat.le_refl _, Kd.C_nil _ _, fun a e => (by cases e), Nat.zero_le _⟩
  · have w1 : wrap64 ((buf.length : Int) + 8) = (buf.length : Int) + 8 := by unfold wrap64; omega
    have w2 : wrap64 ((buf.length : Int) + 8 - 1) = (buf.length : Int) + 7 := by unfold wrap64; omega
    obtain ⟨n, hn⟩ : ∃ n, n = (buf.length + 7) / 8 := ⟨_, rfl⟩
    have mk : ∀ (v : Int) (hv : v = n) (w : World), Calls Try.prog 27 #[.slice none 0 0, .int .i64 v] w fun e w' => ∃ h c, e = .returned (.slice (some ⟨h, 0, none⟩) n c) ∧ Below w.heap.size w w' ∧ w.heap.size ≤ h ∧ h < w'.heap.size ∧ Lies w' h c (List.replicate n 0) := fun v hv w => by
      rw [hv]
      exact make_pos n w (by omega) (by omega)
    have HN := Aside0.mk hn
    clear hn
    go_enter Try.func25, Try.ntmps25
    go_wp2_with (first | (go_at_call 27; (with_reducible refine (mk _ (by have := HN.out; omega) _).mono ?_); rintro e w1 ⟨h, c', rfl, hb, hh, hlt, hL⟩))
    go_loopw [5, 6] (fun v5 v6 wr => ∃ k : Nat, v5 = .int .i64 ((buf.length - 8 * k : Nat) : Int) ∧ v6 = .int .i64 k ∧ 8 * k ≤ buf.length ∧ Below w.heap.size w wr ∧ Lies wr h c' (part n k (Dg.be buf))) (fun v5 v6 wr => match v5 with | .int _ i => i.toNat | _ => 0)
    case atStart => exact ⟨0, rfl, rfl, by omega, hb, by simpa [part, Dg.dn] using hL⟩
    case round =>
      obtain ⟨k, rfl, rfl, hk, hbw, hLw⟩ := hrel
      by_cases h8 : 8 * k + 8 ≤ buf.length
      · have hn := HN.out
        obtain ⟨hi, ehi⟩ : ∃ hi, hi = buf.length - 8 * k := ⟨_, rfl⟩
        obtain ⟨lo, elo⟩ : ∃ lo, lo = buf.length - 8 * k - 8 := ⟨_, rfl⟩
        rw [← ehi]
        have hmid := Kd.C_mid (lo := lo) (hi := hi) (by rw [bi_len]; exact hC) (by omega) (by rw [bi_len]; omega) (c := c) (by rw [bi_len]; exact hc)
        have em : ((bi buf).take hi).drop lo = bi ((buf.take hi).drop lo) := by simp [bi, List.map_take, List.map_drop]
        rw [em] at hmid
        have e8 : ((buf.take hi).drop lo).length = 8 := by rw [List.length_drop, List.length_take]; omega
        have e8' : (bi ((buf.take hi).drop lo)).length = 8 := by rw [bi_len, e8]
        rw [e8', if_neg (show ¬ c = lo by omega)] at hmid
        simp only [show (Kd.int IntKind.u8).sz = 1 from rfl, Nat.mul_one] at hmid
        have wc := fun (w' : World) (hb' : Below w.heap.size w w') => word_calls ((buf.take hi).drop lo) _ (c - lo) w' e8 (Kd.C_below hmid hb') (by omega)
        have f1 : ¬ (hi : Int) < 8 := by omega
        have f0 : hi = lo + 8 := by rw [ehi, elo]; exact (Nat.sub_add_cancel (Nat.le_sub_of_add_le (by rw [Nat.add_comm]; exact h8))).symm
        have f7 : hi ≤ 100000 := Nat.le_trans (ehi ▸ Nat.sub_le _ _) hm
        have f2 : wrap64 ((hi : Int) - 8) = (lo : Int) := wr_m8 hi lo f0 (Nat.lt_of_le_of_lt f7 (by decide))
        have f8 : k < n := by
          clear f2 wc
          omega
        have f3 : wrap64 ((k : Int) + 1) = ((k + 1 : Nat) : Int) := Pk.wr k (by clear f2 wc; omega)
        have f4 : (k : Int) < (n : Int) := Int.ofNat_lt.2 f8
        have f5 : lo ≤ hi := f0 ▸ Nat.le_add_right _ _
        have f6 : hi ≤ buf.length := ehi ▸ Nat.sub_le _ _
        have pl : (part n k (Dg.be buf)).length = n := part_len (Nat.le_of_lt f8) _
        have hcell := hLw.cell k (by rw [pl]; exact f8)
        have hfrz : wr.frozen? ⟨h, k, none⟩ = false := by
          obtain ⟨arr, q1, _⟩ := hLw
          exact blk_frozen q1 k
        have EH := Aside0.mk ehi
        have EL := Aside0.mk elo
        have HK := Aside0.mk hk
        have H8 := Aside0.mk h8
        have HM := Aside0.mk hm
        have AL := Aside0.mk hLw
        have AB := Aside0.mk hbw
        have E8 := Aside0.mk e8
        have E9 := Aside0.mk e8'
        clear ehi elo hk h8 hn hm hLw e8 e8' em hmid hC hL hb w2
        try clear w1
        go_wp2_with (first | (go_at_call 28; (with_reducible refine (wc _ (by repeat (first | exact AB.out | apply pw_below_drewN | apply below_drew))).mono ?_); rintro e w2 ⟨rfl, nd, rfl⟩))
        have ew : Dg.be (List.drop lo (List.take (lo + 8) buf)) = Dg.be buf / 18446744073709551616 ^ k % 18446744073709551616 := by
          have q := Dg.be_word buf k H8.out
          rw [← EL.out, show buf.length - 8 * k = lo + 8 by rw [← EH.out]; exact f0] at q
          exact q
        refine ⟨⟨k + 1, ?_, ?_, ?_, ?_, ?_⟩, ?_⟩
        · rw [show buf.length - 8 * (k + 1) = lo by rw [EL.out, Nat.mul_add, Nat.sub_add_eq]]
        · rw [f3]
        · have q := H8.out
          rw [Nat.mul_add]
          exact q
        · exact below_set (pw_below_drewN AB.out _) hh
        · have q := (Lies.below AL.out (pw_below_drewN (Below.refl _ _) nd)).set k (by rw [pl]; exact f8) (Dg.be (List.drop lo (List.take (lo + 8) buf)))
          rw [← part_next f8, ← ew]
          exact q
        · show (lo : Int).toNat < (hi : Int).toNat
          rw [Int.toNat_natCast, Int.toNat_natCast, f0]
          exact Nat.lt_add_of_pos_right (by decide)
      · obtain ⟨hi, ehi⟩ : ∃ hi, hi = buf.length - 8 * k := ⟨_, rfl⟩
        rw [← ehi]
        have hn := HN.out
        have l8 : hi < 8 := by omega
        have f1 : ¬ (hi : Int) ≥ 8 := by omega
        by_cases hz : hi = 0
        · have kn : k = n := by omega
          have lz : (hi : Int) = 0 := by omega
          rw [lz]
          have pv : Dg.val (part n k (Dg.be buf)) = Dg.be buf := by
            rw [kn]
            unfold part
            rw [Nat.sub_self, List.replicate_zero, List.append_nil]
            refine Dg.dn_val n _ ?_
            rw [Dg.pow_B]
            have := Dg.be_lt buf
            rwa [show 8 * n = buf.length by omega]
          have pl : (part n k (Dg.be buf)).length = n := part_len (by omega) _
          have HN' := HN
          have nc := fun (w' : World) (hb' : Below wr.heap.size wr w') => norm_calls (part n k (Dg.be buf)) h c' w' (part_words _ _ _) (hLw.below hb') hLw.choose_spec.2.2.1 (by rw [pl]; omega)
          rw [pv, pl] at nc
          clear hn
          go_wp2_with (first | (go_at_call 29; (with_reducible refine (nc _ (by repeat (first | exact Below.refl _ _ | apply pw_below_drewN | apply below_drew))).mono ?_); rintro e w2 ⟨rfl, rfl⟩))
          go_ret
          have r := lies_dg hLw (part_words _ _ _) (by rw [pl]; have := HN.out; omega)
          rw [pv] at r
          refine ⟨hbw, _, c', ?_, r.2.1, r.1, lies_words hLw, Nat.le_trans r.2.2 (by rw [pl]; have := HN.out; omega)⟩
          rw [ws_len]
          rfl
        · have gz : (hi : Int) > 0 := by omega
          have kn : n = k + 1 := by omega
          have ple : (part n k (Dg.be buf)).length = n := part_len (by omega) _
          obtain ⟨u0, hcell⟩ : ∃ u, wr.cell? ⟨h, k, none⟩ = some u := ⟨_, hLw.cell k (by rw [ple]; omega)⟩
          have hfrz : wr.frozen? ⟨h, k, none⟩ = false := by
            obtain ⟨arr, q1, _⟩ := hLw
            exact blk_frozen q1 k
          have wn : wrap64 ((n : Int) - 1) = (k : Int) := by unfold wrap64; omega
          have h6 : hi ≤ buf.length := by omega
          have kn2 : (k : Int) < (n : Int) := by omega
          have eh := Dg.be_head buf k (by omega)
          rw [← ehi] at eh
          have small : Dg.be (buf.take hi) < 18446744073709551616 := by
            refine Nat.lt_of_lt_of_le (Dg.be_lt _) ?_
            rw [List.length_take, Nat.min_eq_left h6]
            exact Nat.pow_le_pow_right (by omega) (by omega : hi ≤ 8)
          have ev : Dg.be (buf.take hi) = Dg.be buf / 18446744073709551616 ^ k % 18446744073709551616 := by
            rw [← eh, Nat.mod_eq_of_lt small]
          have lset := hLw.set k (by rw [ple]; omega) (Dg.be (buf.take hi))
          have eset : (part n k (Dg.be buf)).set k (Dg.be (buf.take hi)) = part n n (Dg.be buf) := by
            rw [ev, part_next (by omega)]
            rw [← kn]
          rw [eset] at lset
          have pv : Dg.val (part n n (Dg.be buf)) = Dg.be buf := by
            unfold part
            rw [Nat.sub_self, List.replicate_zero, List.append_nil]
            refine Dg.dn_val n _ ?_
            rw [Dg.pow_B]
            exact Nat.lt_of_lt_of_le (Dg.be_lt buf) (Nat.pow_le_pow_right (by omega) (by omega))
          have pl : (part n n (Dg.be buf)).length = n := part_len (Nat.le_refl _) _
          have nc := norm_calls (part n n (Dg.be buf)) h c' _ (part_words _ _ _) lset lset.choose_spec.2.2.1 (by rw [pl]; omega)
          rw [pv, pl] at nc
          have EH := Aside0.mk ehi
          have HL := Aside0.mk lset
          have AB := Aside0.mk hbw
          have PV := Aside0.mk pv
          have HM := Aside0.mk hm
          have KN := Aside0.mk kn
          have hCm : (Kd.int .u8).C wr A buf.length (bi buf) := Kd.C_below hC hbw
          clear hn hb hL ehi hLw eh ev eset ple pv hm hk h8 hC lset kn
          go_wp2_with fail
          go_loop [5, 7, 8] (fun v5 v7 v8 => ∃ j : Nat, j ≤ hi ∧ v5 = .int .i64 j ∧ v7 = .int .u64 (Dg.be ((buf.take hi).drop j) : Nat) ∧ v8 = .int .u64 ((8 * (hi - j) : Nat) : Int)) (fun v5 v7 v8 => match v5 with | .int _ i => i.toNat | _ => 0)
          case atStart =>
            refine ⟨hi, Nat.le_refl _, rfl, ?_, ?_⟩
            · rw [List.drop_of_length_le (by rw [List.length_take]; exact Nat.min_le_left _ _)]
              rfl
            · rw [Nat.sub_self]
              rfl
          case round =>
            obtain ⟨j, hj, rfl, rfl, rfl⟩ := hrel
            cases j with
            | zero =>
              rw [List.drop_zero]
              go_wp2_with (first | (go_at_call 29; (with_reducible refine nc.mono ?_); rintro e w2 ⟨rfl, rfl⟩))
              go_ret
              have r := lies_dg HL.out (part_words _ _ _) (by rw [pl]; have := HN.out; have := HM.out; omega)
              rw [PV.out] at r
              refine ⟨below_set AB.out hh, _, c', ?_, r.2.1, r.1, lies_words HL.out, Nat.le_trans r.2.2 (by rw [pl]; have := HN.out; have := HM.out; omega)⟩
              rw [ws_len]
              rfl
            | succ j =>
              have hjl : j < buf.length := by omega
              obtain ⟨ad, rfl, cj⟩ := Kd.at_int hCm (j : Int) (by omega) (by omega)
              rw [rd_nat _ _ (by rw [bi_len]; exact hjl)] at cj
              simp only [Int.toNat_natCast, bi, List.getElem_map] at cj
              have w1 : wrap64 (((j + 1 : Nat) : Int) - 1) = (j : Int) := by unfold wrap64; omega
              have g1 : ((j + 1 : Nat) : Int) > 0 := by omega
              have g2 : (0 : Int) ≤ (j : Int) := by omega
              have g3 : (j : Int) < (buf.length : Int) := by omega
              go_wp2_with fail
              have hdr : ((buf.take hi).drop j) = buf[j]'hjl :: ((buf.take hi).drop (j + 1)) := by
                rw [List.drop_eq_getElem_cons (by rw [List.length_take]; omega)]
                simp
              have hln : ((buf.take hi).drop (j + 1)).length = hi - (j + 1) := by rw [List.length_drop, List.length_take]; omega
              have hv := shl_or (Dg.be ((buf.take hi).drop (j + 1))) (buf[j]'hjl).toNat (hi - (j + 1)) (UInt8.toNat_lt _) (by rw [← hln]; exact Dg.be_lt _) (by omega)
              refine ⟨⟨j, by omega, rfl, ?_, ?_⟩, ?_⟩
              · rw [hv, hdr]
                rw [Dg.be, hln]
              · congr 1
                omega
              · show (j : Int).toNat < ((j + 1 : Nat) : Int).toNat
                omega
end Go.Proofs.Ytcaeghgbeldlaaa.Giv
