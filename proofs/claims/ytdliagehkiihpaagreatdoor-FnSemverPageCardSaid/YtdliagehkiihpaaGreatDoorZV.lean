/- Magnitudes compared: by length, then byte by byte. Plain Lean, no program.
   Bytes without a zero ahead are the bytes of the number that they tell. Plain Lean, no program.
   Contracts by hand: a whole number's bytes, its sign, both as plain data.
   Contracts by hand: whole numbers made of bytes.
   Contracts by hand: words out of bytes.
   Contracts by hand: whole numbers out of bytes: SetBytes, Neg, zzBig. -/
import Derived.Test.YtdliagehkiihpaaGreatDoorZY
import Derived.Test.YtdliagehkiihpaaGreatDoorZA
import Derived.Outline
import Derived.Test.YtdliagehkiihpaaGreatDoorZB
import Derived.Laws.BitsLemmas
import Derived.Test.YtdliagehkiihpaaGreatDoorQIx1
import Derived.Test.YtdliagehkiihpaaGreatDoorWMore
import Derived.Lib.ConvBytes
import Derived.LaidEqlPtr
namespace Go.Proofs.YtdliagehkiihpaaGreatDoor.Lb
open Go.Proofs.YtdliagehkiihpaaGreatDoor.Ord
set_option linter.unusedVariables false

theorem mag_rec {n : Nat} (h : n ≠ 0) : mag n = mag (n / 256) ++ [UInt8.ofNat (n % 256)] := by
  conv => lhs; unfold mag
  rw [lb_pos h, List.reverse_cons, List.map_append]
  rfl
theorem mag_head (n : Nat) : ∀ c r, mag n = c :: r → c ≠ 0 := by
  induction n using Nat.strongRecOn with
  | _ n ih =>
    intro c r h
    have hn : n ≠ 0 := by
      rintro rfl
      rw [mag_zero] at h
      cases h
    rw [mag_rec hn] at h
    cases e : mag (n / 256) with
    | nil =>
      rw [e] at h
      have z := mag_nil e
      obtain ⟨rfl, _⟩ := List.cons.inj h
      intro hc
      have := congrArg UInt8.toNat hc
      rw [UInt8.toNat_ofNat'] at this
      simp at this
      omega
    | cons x s =>
      rw [e, List.cons_append] at h
      obtain ⟨rfl, _⟩ := List.cons.inj h
      exact ih _ (by omega) _ _ e
end Go.Proofs.YtdliagehkiihpaaGreatDoor.Lb

namespace Go.Proofs.YtdliagehkiihpaaGreatDoor.Lb
set_option linter.unusedVariables false
theorem mag_be (n : Nat) : ∀ l : List UInt8, l.length = n → (∀ c r, l = c :: r → c ≠ 0) → mag (Dg.be l) = l := by
  induction n with
  | zero =>
    intro l hl _
    rw [List.length_eq_zero_iff.1 hl]
    exact mag_zero
  | succ n ih =>
    intro l hl hz
    obtain ⟨p, x, rfl⟩ : ∃ p x, l = p ++ [x] := ⟨l.dropLast, l.getLast (by intro e; rw [e] at hl; simp at hl), (List.dropLast_concat_getLast _).symm⟩
    have hp : p.length = n := by simpa using hl
    have e : Dg.be (p ++ [x]) = Dg.be p * 256 + x.toNat := by rw [Dg.be_append]; simp [Dg.be]
    have hx := x.toNat_lt
    have hne : Dg.be (p ++ [x]) ≠ 0 := by
      cases p with
      | nil =>
        have h := hz x [] rfl
        intro h0
        rw [e] at h0
        simp [Dg.be] at h0
        exact h (UInt8.toNat_inj.1 h0)
      | cons c r =>
        have h := ih (c :: r) hp (fun a b hab => by cases hab; exact hz c (r ++ [x]) rfl)
        intro h0
        rw [e] at h0
        have : Dg.be (c :: r) = 0 := by omega
        rw [this, mag_zero] at h
        cases h
    rw [mag_rec hne, e, show (Dg.be p * 256 + x.toNat) / 256 = Dg.be p by omega, show (Dg.be p * 256 + x.toNat) % 256 = x.toNat by omega]
    rw [ih p hp (fun c r hcr => hz c (r ++ [x]) (by rw [hcr]; rfl))]
    simp
end Go.Proofs.YtdliagehkiihpaaGreatDoor.Lb

namespace Go.Proofs.YtdliagehkiihpaaGreatDoor.Giv
open Go.RowKit Go.Proofs.YtdliagehkiihpaaGreatDoorW.PrintWords Go.Proofs.YtdliagehkiihpaaGreatDoorW.PrintLast Go.Proofs.YtdliagehkiihpaaGreatDoor.Pk Go.Proofs.YtdliagehkiihpaaGreatDoor.Ord Go.Proofs.YtdliagehkiihpaaGreatDoor.QM
set_option linter.unusedVariables false
set_option linter.unusedSimpArgs false

/-- t bytes of a number, the lowest first. -/
def le : Nat → Nat → List Nat
  | 0, _ => []
  | t + 1, v => le t v ++ [v / 256 ^ t % 256]
theorem le_len (v : Nat) : ∀ t, (le t v).length = t
  | 0 => rfl
  | t + 1 => by rw [le, List.length_append, le_len v t]; rfl
theorem le_cons (v : Nat) : ∀ t, le (t + 1) v = v % 256 :: le t (v / 256)
  | 0 => by simp [le]
  | t + 1 => by
    rw [le, le_cons v t, le, List.cons_append, Nat.pow_succ, Nat.mul_comm, Nat.div_div_eq_div_mul]
theorem le_lb : ∀ (t v : Nat), v < 256 ^ t → le t v = Lb.lb v ++ List.replicate (t - (Lb.lb v).length) 0
  | 0, v, h => by
    have : v = 0 := by simpa using h
    rw [this, Lb.lb_zero]
    rfl
  | t + 1, v, h => by
    by_cases z : v = 0
    · subst z
      have ih := le_lb t 0 (Nat.pow_pos (by omega))
      rw [Lb.lb_zero, List.nil_append] at ih
      rw [le_cons, Nat.zero_div, ih, Lb.lb_zero, List.nil_append]
      simp [List.replicate_succ]
    · have ih := le_lb t (v / 256) (by rw [Nat.pow_succ] at h; omega)
      rw [le_cons, ih, Lb.lb_pos z, List.cons_append, List.length_cons, Nat.add_sub_add_right]
/-- A block of bytes. -/
def BufAt (w : World) (h : Nat) (L : List Nat) : Prop := ∃ arr, w.heap[h]? = some (Obj.cells arr 5 (0, 0)) ∧ arr.toList = L.map (fun d : Nat => Value.int .u8 (d : Int))
theorem BufAt.cell {w : World} {h : Nat} {L : List Nat} (hb : BufAt w h L) (i : Nat) (hi : i < L.length) : w.cell? ⟨h, i, none⟩ = some (.int .u8 ((L[i]'hi : Nat) : Int)) := by
  obtain ⟨arr, h1, h2⟩ := hb
  rw [blk_cell h1 i]
  have : arr.toList[i]? = some (.int .u8 ((L[i]'hi : Nat) : Int)) := by
    rw [h2, List.getElem?_map, List.getElem?_eq_getElem hi]
    rfl
  simpa using this
theorem BufAt.set {w : World} {h : Nat} {L : List Nat} (hb : BufAt w h L) (i d : Nat) : BufAt (w.setCell ⟨h, i, none⟩ (.int .u8 (d : Int))) h (L.set i d) := by
  obtain ⟨arr, h1, h2⟩ := hb
  refine ⟨_, blk_put h1 i _ rfl, ?_⟩
  rw [Array.toList_setIfInBounds, h2, List.map_set]
theorem BufAt.lt {w : World} {h : Nat} {L : List Nat} (hb : BufAt w h L) : h < w.heap.size := by
  obtain ⟨arr, h1, _⟩ := hb
  exact blk_lt h1
theorem BufAt.frozen {w : World} {h : Nat} {L : List Nat} (hb : BufAt w h L) (i : Nat) : w.frozen? ⟨h, i, none⟩ = false := by
  obtain ⟨arr, h1, _⟩ := hb
  exact Lib.frozen_of_heap h1 i
theorem buf_next (N t x : Nat) (h : t < N) (R : List Nat) : (List.replicate (N - t) 0 ++ R).set (N - t - 1) x = List.replicate (N - (t + 1)) 0 ++ x :: R := by
  rw [show N - t = (N - (t + 1)) + 1 by omega, show N - (t + 1) + 1 - 1 = N - (t + 1) by omega, List.replicate_succ', List.append_assoc, List.set_append_right _ _ (by rw [List.length_replicate]; exact Nat.le_refl _), List.length_replicate, Nat.sub_self]
  rfl
theorem byte_at (x j : Nat) (h : j < 8) : x % 18446744073709551616 / 256 ^ j % 256 = x / 256 ^ j % 256 := by
  have e : (18446744073709551616 : Nat) = 256 ^ j * 256 ^ (8 - j) := by
    rw [← Nat.pow_add, show j + (8 - j) = 8 by omega]
  rw [e, Nat.mod_mul_right_div_self]
  exact Nat.mod_mod_of_dvd _ (by
    rw [show 8 - j = (7 - j) + 1 by omega, Nat.pow_succ]
    exact Nat.dvd_mul_left _ _)
theorem le_word (v k j : Nat) (h : j < 8) : le (8 * k + j + 1) v = le (8 * k + j) v ++ [v / 18446744073709551616 ^ k % 18446744073709551616 / 256 ^ j % 256] := by
  rw [le, byte_at _ _ h, Dg.pow_B, Nat.div_div_eq_div_mul, ← Nat.pow_add]
theorem wrap_pred (q : Nat) (h : q < 4611686018427387904) : wrap64 (((q + 1 : Nat) : Int) - 1) = (q : Int) := by unfold wrap64; omega
theorem lb_last : ∀ V : Nat, V ≠ 0 → ∃ d r, (Lb.lb V).reverse = d :: r ∧ d ≠ 0 := by
  intro V
  induction V using Nat.strongRecOn with
  | _ V ih =>
    intro hz
    rw [Lb.lb_pos hz, List.reverse_cons]
    by_cases h : V / 256 = 0
    · rw [h, Lb.lb_zero]
      exact ⟨V % 256, [], rfl, by omega⟩
    · obtain ⟨d, r, e, hd⟩ := ih (V / 256) (by omega) h
      exact ⟨d, r ++ [V % 256], by rw [e]; rfl, hd⟩
theorem le_rev (n V : Nat) (h : V < 256 ^ n) : (le n V).reverse = List.replicate (n - (Lb.lb V).length) 0 ++ (Lb.lb V).reverse ∧ (Lb.lb V).length ≤ n := by
  have e := le_lb n V h
  have hl := congrArg List.length e
  rw [le_len, List.length_append, List.length_replicate] at hl
  refine ⟨?_, by omega⟩
  rw [e, List.reverse_append, List.reverse_replicate]
set_option maxRecDepth 100000 in
set_option maxHeartbeats 4000000 in
/-- The bytes of words are laid into a row of zeros; the place of the first one that is not 0. -/
theorem natBytes_calls (V : Nat) (xs : List Nat) (A : Option Addr) (m n c h : Nat) (w : World) (hx : xs.length = m) (hv : ∀ (k : Nat) (hk : k < xs.length), xs[k]'hk = V / 18446744073709551616 ^ k % 18446744073709551616) (hV : V < 256 ^ n) (hA : (Kd.int .u64).C w A m (ws xs)) (hc : m ≤ c) (hm : m ≤ 1000000) (hn : n = 8 * m) (hB : BufAt w h (List.replicate n 0)) (hne : ∀ a, A = some a → a.block ≠ h) :
    Calls Tryz.prog 115 #[.slice A m c, .slice (some ⟨h, 0, none⟩) n n] w fun e w' => e = .returned (.int .i64 ((n - (Lb.lb V).length : Nat) : Int)) ∧ BufAt w' h (le n V).reverse ∧ w.grownBy w' (some h) := by
  have HB := Aside0.mk hB
  have HV := Aside0.mk hV
  have HXv := Aside0.mk hv
  have HX := Aside0.mk hx
  have HN := Aside0.mk hn
  have nl : n ≤ 8000000 := by omega
  have WC : ∀ (k : Nat), k < m → ∃ ad, A = some ad ∧ ∀ w', w.grownBy w' (some h) → w'.cell? (ad.add k) = some (.int .u64 ((V / 18446744073709551616 ^ k % 18446744073709551616 : Nat) : Int)) := fun k hk => by
    obtain ⟨ad, e, c1⟩ := Kd.at_int hA (k : Int) (by omega) (by omega)
    refine ⟨ad, e, fun w' hg => hg.cell ?_ ?_⟩
    · rw [Int.toNat_natCast] at c1
      rw [c1, rd_nat _ _ (by rw [ws_len]; omega)]
      unfold ws
      simp only [List.getElem_map]
      rw [hv k (by omega)]
      rfl
    · rw [add_block]
      exact fun e2 => hne ad e (Option.some.inj e2)
  have HW := Aside0.mk WC
  clear hB hV hv hx hA hne WC hn
  go_enter Tryz.func115, Tryz.ntmps115
  go_wp2_with fail
  go_loopw [4, 12] (fun v4 v12 wr => ∃ k : Nat, v12 = .int .i64 k ∧ k ≤ m ∧ v4 = .int .i64 ((n - 8 * k : Nat) : Int) ∧ BufAt wr h (List.replicate (n - 8 * k) 0 ++ (le (8 * k) V).reverse) ∧ w.grownBy wr (some h)) (fun v4 v12 wr => m - (intOf v12).toNat)
  case atStart => exact ⟨0, rfl, Nat.zero_le _, rfl, by simpa [le] using HB.out, World.grownBy.refl _ _⟩
  case round =>
    obtain ⟨k, rfl, hk, rfl, hb, hg⟩ := hrel
    have HB1 := Aside0.mk hb
    have HG1 := Aside0.mk hg
    by_cases hlt : k < m
    · obtain ⟨ad, rfl, hw⟩ := HW.out k hlt
      have cw := hw _ hg
      obtain ⟨W, eW⟩ : ∃ W, W = V / 18446744073709551616 ^ k % 18446744073709551616 := ⟨_, rfl⟩
      rw [← eW] at cw
      have W64 := Aside0.mk (show W < 18446744073709551616 by rw [eW]; exact Nat.mod_lt _ (by decide))
      have EW := Aside0.mk eW
      have wk : wrap64 ((k : Int) + 1) = ((k + 1 : Nat) : Int) := Pk.wr k (by omega)
      have f4 : (k : Int) < (m : Int) := Int.ofNat_lt.2 hlt
      have KL := Aside0.mk hlt
      clear hw hb hg eW hlt
      go_wp2_with fail
      obtain ⟨wo, rfl⟩ : ∃ wo : World, wo = wr := ⟨_, rfl⟩
      go_loopw [4, 6, 7] (fun v4 v6 v7 wr => ∃ j p : Nat, v7 = .int .i64 j ∧ j ≤ 8 ∧ p + (8 * k + j) = n ∧ v4 = .int .i64 (p : Int) ∧ v6 = .int .u64 ((W / 256 ^ j : Nat) : Int) ∧ BufAt wr h (List.replicate p 0 ++ (le (8 * k + j) V).reverse) ∧ w.grownBy wr (some h)) (fun v4 v6 v7 wr => 8 - (intOf v7).toNat)
      case atStart => exact ⟨0, n - 8 * k, rfl, by omega, by have := KL.out; have := HN.out; omega, rfl, by simp, HB1.out, HG1.out⟩
      case round =>
        obtain ⟨j, p, rfl, hj, hp, rfl, rfl, hb, hg⟩ := hrel
        have HB2 := Aside0.mk hb
        have HG2 := Aside0.mk hg
        by_cases h8 : j < 8
        · obtain ⟨q, rfl⟩ : ∃ q, p = q + 1 := ⟨p - 1, by have := KL.out; have := HN.out; omega⟩
          have hq : q < (List.replicate (q + 1) 0 ++ (le (8 * k + j) V).reverse).length := by rw [List.length_append, List.length_replicate]; omega
          have cq := hb.cell q hq
          have fq := hb.frozen q
          obtain ⟨d, ed⟩ : ∃ d, d = W / 256 ^ j := ⟨_, rfl⟩
          rw [← ed]
          have DL := Aside0.mk (show (d : Int) < 18446744073709551616 from Int.ofNat_lt.2 (Nat.lt_of_le_of_lt (by rw [ed]; exact Nat.div_le_self _ _) W64.out))
          have nx := hb.set q (d % 256)
          have bn := buf_next n (8 * k + j) (d % 256) (by omega) (le (8 * k + j) V).reverse
          rw [show n - (8 * k + j) = q + 1 by omega, show q + 1 - 1 = q by omega, show n - (8 * k + j + 1) = q by omega] at bn
          have lw := le_word V k j h8
          rw [← EW.out, ← ed] at lw
          have ND := Aside0.mk (show BufAt (wr.setCell ⟨h, q, none⟩ (.int .u8 ((d : Int) % 256))) h (List.replicate q 0 ++ (le (8 * k + j + 1) V).reverse) by
            rw [lw, List.reverse_append]
            have e2 : [d % 256].reverse ++ (le (8 * k + j) V).reverse = d % 256 :: (le (8 * k + j) V).reverse := rfl
            rw [e2, ← bn]
            exact nx)
          have sh : d / 256 = W / 256 ^ (j + 1) := by rw [ed, Nat.pow_succ, Nat.div_div_eq_div_mul]
          have SH := Aside0.mk sh
          clear nx bn lw sh hb hg ed
          have qb : q < 4611686018427387904 := by omega
          have g1 : (0 : Int) ≤ (q : Int) := by omega
          have g2 : (q : Int) < (n : Int) := by omega
          have g3 : (j : Int) < 8 := by omega
          have P2 := Aside0.mk (show q + (8 * k + (j + 1)) = n by omega)
          have jb : j < 4611686018427387904 := by omega
          have w1 : wrap64 (((q + 1 : Nat) : Int) - 1) = (q : Int) := wrap_pred q qb
          have w2 : wrap64 ((j : Int) + 1) = ((j + 1 : Nat) : Int) := Pk.wr j jb
          clear hp
          have dl := DL.out
          go_wp2_with fail
          exact ⟨⟨j + 1, q, by simp, by omega, P2.out, rfl, by rw [← SH.out, Int.natCast_ediv]; rfl, ND.out, grown_set HG2.out q _⟩, by simp only [intOf]; omega⟩
        · have j8 : j = 8 := by omega
          subst j8
          have EP := Aside0.mk (show n - 8 * (k + 1) = p by omega)
          have KP := Aside0.mk (show 8 * k + 8 = 8 * (k + 1) by omega)
          have KM := Aside0.mk (show k + 1 ≤ m from KL.out)
          clear hb hg hp h8
          go_wp2_with fail
          refine ⟨⟨k + 1, by simp, KM.out, by rw [EP.out], by rw [EP.out, ← KP.out]; exact HB2.out, HG2.out⟩, by simp only [intOf]; have := KM.out; omega⟩
    · have km : k = m := by omega
      have e0 : n - 8 * k = 0 := by have := HN.out; omega
      have e1 : 8 * k = n := by have := HN.out; omega
      rw [e1, show n - n = 0 by omega, List.replicate_zero, List.nil_append] at hb
      obtain ⟨lr, ll⟩ := le_rev n V HV.out
      have HB3 := Aside0.mk hb
      obtain ⟨z, ez⟩ : ∃ z, z = n - (Lb.lb V).length := ⟨_, rfl⟩
      rw [← ez] at lr
      have lrl := congrArg List.length lr
      rw [List.length_reverse, le_len, List.length_append, List.length_replicate] at lrl
      have zn : z ≤ n := by omega
      have LR := Aside0.mk lr
      have LL := Aside0.mk ll
      have EZ := Aside0.mk ez
      have f4 : ¬ (k : Int) < (m : Int) := by omega
      rw [e0]
      clear hb hg e0 e1 lr ll ez lrl hlt HB1
      go_wp2_with fail
      go_loop [4] (fun v4 => ∃ i : Nat, v4 = .int .i64 i ∧ i ≤ z) (fun v4 => z - (intOf v4).toNat)
      case atStart => exact ⟨0, rfl, Nat.zero_le _⟩
      case round =>
        obtain ⟨i, rfl, hi⟩ := hrel
        by_cases hz : i < z
        · have hin : i < (le n V).reverse.length := by rw [List.length_reverse, le_len]; omega
          have ci := HB3.out.cell i hin
          have vi : (le n V).reverse[i]'hin = 0 := by
            have e : (le n V).reverse[i]? = some 0 := by
              rw [LR.out, List.getElem?_append_left (by rw [List.length_replicate]; exact hz), List.getElem?_replicate, if_pos hz]
            rw [List.getElem?_eq_getElem hin] at e
            exact Option.some.inj e
          rw [vi] at ci
          have g1 : (0 : Int) ≤ (i : Int) := by omega
          have g2 : (i : Int) < (n : Int) := by omega
          have w1 : wrap64 ((i : Int) + 1) = ((i + 1 : Nat) : Int) := Pk.wr i (by omega)
          clear vi
          go_wp2_with fail
          exact ⟨⟨i + 1, by simp, hz⟩, by simp only [intOf]; omega⟩
        · have iz : i = z := by omega
          by_cases hin : i < n
          · have hin' : i < (le n V).reverse.length := by rw [List.length_reverse, le_len]; exact hin
            have ci := HB3.out.cell i hin'
            have hV0 : V ≠ 0 := fun e => by
              have := EZ.out
              rw [e, Lb.lb_zero, List.length_nil] at this
              omega
            obtain ⟨d, r, ed, hd⟩ := lb_last V hV0
            have vi : (le n V).reverse[i]'hin' = d := by
              have e : (le n V).reverse[i]? = some d := by
                rw [LR.out, List.getElem?_append_right (by rw [List.length_replicate]; omega), List.length_replicate, iz, Nat.sub_self, ed]
                rfl
              rw [List.getElem?_eq_getElem hin'] at e
              exact Option.some.inj e
            rw [vi] at ci
            have nd : ((d : Int) == 0) = false := beq_eq_false_iff_ne.2 (by omega)
            have g1 : (0 : Int) ≤ (i : Int) := by omega
            have g2 : (i : Int) < (n : Int) := by omega
            have IZ := Aside0.mk iz
            clear vi ed hd hV0 iz
            go_wp2_with fail
            go_ret
            exact ⟨by rw [← EZ.out, ← IZ.out]; rfl, HB3.out, HG1.out⟩
          · have g2 : ¬ (i : Int) < (n : Int) := by omega
            have IZ := Aside0.mk iz
            clear iz
            go_wp2_with fail
            go_ret
            exact ⟨by rw [← EZ.out, ← IZ.out]; rfl, HB3.out, HG1.out⟩
theorem dg_get (v : Nat) : ∀ (k : Nat) (hk : k < (Dg.dg v).length), (Dg.dg v)[k]'hk = v / 18446744073709551616 ^ k % 18446744073709551616 := by
  induction v using Nat.strongRecOn with
  | _ v ih =>
    intro k hk
    by_cases h : v = 0
    · subst h
      rw [Dg.dg_zero] at hk
      simp at hk
    · have e := Dg.dg_pos h
      have e2 : (Dg.dg v)[k]? = (v % 18446744073709551616 :: Dg.dg (v / 18446744073709551616))[k]? := by rw [← e]
      rw [List.getElem?_eq_getElem hk] at e2
      cases k with
      | zero =>
        simp at e2
        rw [e2]
        simp
      | succ k =>
        have hk2 : k < (Dg.dg (v / 18446744073709551616)).length := by
          rw [e, List.length_cons] at hk
          omega
        rw [List.getElem?_cons_succ, List.getElem?_eq_getElem hk2] at e2
        rw [Option.some.inj e2, ih _ (by omega) k hk2, Nat.div_div_eq_div_mul, Nat.pow_succ, Nat.mul_comm (18446744073709551616 ^ k)]
theorem dg_lt (v : Nat) : v < 256 ^ (8 * (Dg.dg v).length) := by
  have h1 := Dg.val_lt (Dg.dg_words v)
  rwa [Dg.val_dg, Dg.pow_B] at h1
/-- A number's bytes as whole numbers, the highest first. -/
def mgi (v : Nat) : List Int := (Lb.lb v).reverse.map Int.ofNat
theorem mgi_str (v : Nat) : strOfNums (mgi v) = bs (Lb.mag v) := by
  unfold strOfNums bs Lb.mag mgi
  rw [List.map_map]
  rfl
theorem buf_row {w : World} {h : Nat} {L : List Nat} (hb : BufAt w h L) (hm : L.length ≤ 9000000) : (Kd.int .u8).C w (some ⟨h, 0, none⟩) (L.map Int.ofNat).length (L.map Int.ofNat) := by
  refine ⟨rfl, by rw [List.length_map]; omega, fun _ => ⟨_, rfl, ?_⟩⟩
  intro j p hj
  rw [List.getElem?_map] at hj
  obtain ⟨d, hd, rfl⟩ := Option.map_eq_some_iff.1 hj
  obtain ⟨hlt, rfl⟩ := List.getElem?_eq_some_iff.1 hd
  refine ⟨[.int .u8 (Int.ofNat (L[j]'hlt))], rfl, rfl, ?_⟩
  intro i u hu
  have hi : i = 0 := by
    have := (List.getElem?_eq_some_iff.1 hu).1
    simp at this
    exact this
  subst hi
  have hu' : u = .int .u8 (Int.ofNat (L[j]'hlt)) := by simpa using hu.symm
  rw [hu']
  have := hb.cell j hlt
  show w.cell? (Go.Addr.add _ (j * 1 + 0)) = _
  rw [Nat.mul_one, Nat.add_zero]
  unfold Go.Addr.add
  by_cases hz : j = 0
  · subst hz
    simpa using this
  · simpa [hz] using this
theorem buf_made (w : World) (n : Nat) : BufAt (w.alloc (.cells (madeCells #[.int .u8 0] n) 5)) w.heap.size (List.replicate n 0) := by
  refine ⟨_, blk_new _ _, ?_⟩
  rw [made_toList, List.map_replicate]
  rfl
set_option maxRecDepth 100000 in
set_option maxHeartbeats 4000000 in
theorem bytes_calls (z : Int) (b : Nat) (w : World) (hb : IsBig w b z) :
    Calls Tryz.prog 109 #[.pointer (some ⟨b, 0, none⟩)] w fun e w' => ∃ A c, e = .returned (.slice A (mgi z.natAbs).length c) ∧ (Kd.int .u8).C w' A (mgi z.natAbs).length (mgi z.natAbs) ∧ Below w.heap.size w w' := by
  obtain ⟨A, c, h1, h3, h4, h5, h6⟩ := hb
  obtain ⟨i, hi, hs⟩ := Option.map_eq_some_iff.1 (show (Tryz.prog.info? 5).map (fun i => (i.zero, i.size, i.bytes)) = some (some (.int .u8 0), 1, 1) by kernel_rfl)
  have z1 : i.zero = some (.int .u8 0) := congrArg (fun p => p.1) hs
  have z2 : i.size = 1 := congrArg (fun p => p.2.1) hs
  have z3 : i.bytes = 1 := congrArg (fun p => p.2.2) hs
  obtain ⟨m, em⟩ : ∃ m, m = (ws (wd z)).length := ⟨_, rfl⟩
  have lenm : (wd z).length = m := by rw [em, ws_len]
  obtain ⟨n, en⟩ : ∃ n, n = 8 * m := ⟨_, rfl⟩
  rw [← em] at h1 h3 h4 h5
  have hV : z.natAbs < 256 ^ n := by
    have := dg_lt z.natAbs
    rw [en, ← lenm]
    exact this
  have mk := run_makeSlice (P := Tryz.prog) w 77 5 i (.int .u8 0) Tryz.underlying77 hi z1 .i64 .i64 (n : Int) (n : Int) (by omega) (by omega) (by rw [z2]; omega) (by rw [z3]; omega) (by omega)
  rw [z2, Int.toNat_natCast, Nat.mul_one] at mk
  have nb := fun (w' : World) (hA : (Kd.int .u64).C w' A m (ws (wd z))) (hB : BufAt w' w.heap.size (List.replicate n 0)) (hne : ∀ a, A = some a → a.block ≠ w.heap.size) =>
    natBytes_calls z.natAbs (wd z) A m n c w.heap.size w' lenm (fun k hk => dg_get z.natAbs k hk) hV hA h3 h4 en hB hne
  have b1 := blk_cell h1 1
  have al := below_alloc (Below.refl w.heap.size w) (.cells (madeCells #[.int .u8 0] n) 5)
  have nb1 := nb _ (Kd.C_below h5 al) (buf_made w n) (fun a e => by
    obtain ⟨arr, ha⟩ := h6 a e
    exact Nat.ne_of_lt (blk_lt ha))
  have b2 := blk_cell (blk_below h1 al) 1
  have w8 : wrap64 ((m : Int) * 8) = (n : Int) := by unfold wrap64; omega
  obtain ⟨lr, ll⟩ := le_rev n z.natAbs hV
  obtain ⟨j, ij, z4⟩ := Option.map_eq_some_iff.1 (show (Tryz.prog.info? 5).map (fun i => i.size) = some 1 by kernel_rfl)
  have li : ((le n z.natAbs).reverse.map Int.ofNat).length = n := by rw [List.length_map, List.length_reverse, le_len]
  obtain ⟨A', r1, r2, r3⟩ := print_drop_of (P := Tryz.prog) (Value.int .u8) (0 : Int) 77 5 .i64 Tryz.underlying77 ij z4 (some ⟨w.heap.size, 0, none⟩) n ((le n z.natAbs).reverse.map Int.ofNat) ((n - (Lb.lb z.natAbs).length : Nat) : Int) (by omega) (by rw [li]; omega) (by rw [li]; exact Nat.le_refl _)
  have dm : ((le n z.natAbs).reverse.map Int.ofNat).drop (n - (Lb.lb z.natAbs).length) = mgi z.natAbs := by
    rw [lr, List.map_append, List.drop_left' (by rw [List.length_map, List.length_replicate])]
    rfl
  rw [Int.toNat_natCast, dm, li] at r1
  rw [Int.toNat_natCast, dm] at r2
  have R2 := Aside0.mk r2
  have NL := Aside0.mk (show n ≤ 9000000 by omega)
  have AL := Aside0.mk al
  have LI := Aside0.mk li
  clear nb h1 h3 h4 h5 h6 en em lenm hV lr ll r2 r3 dm hi ij al li
  generalize (n - (Lb.lb z.natAbs).length : Nat) = q at *
  go_enter Tryz.func109, Tryz.ntmps109
  go_wp2_with (first | (go_at_call 115; (with_reducible refine nb1.mono ?_); rintro e w2 ⟨rfl, q2, g2⟩; have Q2 := Aside0.mk q2; have G2 := Aside0.mk g2; clear q2 g2))
  go_ret
  refine ⟨A', _, rfl, Kd.C_of_reads (R2.out _ (Kd.reads_of_C (buf_row Q2.out (by rw [List.length_reverse, le_len]; exact NL.out)))), AL.out.trans (below_row G2.out (Nat.le_refl _) AL.out.size)⟩
def sgz (z : Int) : Int := if z < 0 then -1 else if z = 0 then 0 else 1
theorem wd_ne {z : Int} (h : z ≠ 0) : 0 < (ws (wd z)).length := by
  rw [ws_len]
  refine List.length_pos_iff.2 (fun e => h ?_)
  have := Dg.dg_nil e
  omega
set_option maxHeartbeats 1000000 in
theorem sign_calls (z : Int) (b : Nat) (w : World) (hb : IsBig w b z) :
    Calls Tryz.prog 108 #[.pointer (some ⟨b, 0, none⟩)] w fun e w' => e = .returned (.int .i64 (sgz z)) ∧ Drawn0 w w' := by
  obtain ⟨A, c, h1, h3, h4, h5, h6⟩ := hb
  have b0 := blk_cell h1 0
  have b1 := blk_cell h1 1
  by_cases hz : z = 0
  · have lz : ((ws (wd z)).length : Int) = 0 := by rw [hz, wd_zero]; rfl
    have le0 : (((ws (wd z)).length : Int) == 0) = true := beq_iff_eq.2 lz
    have SZ := Aside0.mk (show sgz z = 0 by rw [hz]; rfl)
    clear hz h1 h3 h4 h5 h6 lz
    generalize (ws (wd z)).length = m at *
    go_enter Tryz.func108, Tryz.ntmps108
    go_wp2_with fail
    go_ret
    exact ⟨by rw [SZ.out]; rfl, Drawn0.refl _⟩
  · have lz : ¬ ((ws (wd z)).length : Int) = 0 := by have := wd_ne hz; omega
    have le0 : (((ws (wd z)).length : Int) == 0) = false := beq_eq_false_iff_ne.2 lz
    by_cases hn : z < 0
    · have SZ := Aside0.mk (show sgz z = -1 by unfold sgz; rw [if_pos hn])
      have b0' : w.cell? ⟨b, 0, none⟩ = some (.bool true) := by rw [b0]; simp [hn]
      clear hz h1 h3 h4 h5 h6 lz hn b0
      generalize (ws (wd z)).length = m at *
      go_enter Tryz.func108, Tryz.ntmps108
      go_wp2_with fail
      go_ret
      exact ⟨by rw [SZ.out]; rfl, Drawn0.refl _⟩
    · have SZ := Aside0.mk (show sgz z = 1 by unfold sgz; rw [if_neg hn, if_neg hz])
      have b0' : w.cell? ⟨b, 0, none⟩ = some (.bool false) := by rw [b0]; simp [hn]
      clear hz h1 h3 h4 h5 h6 lz hn b0
      generalize (ws (wd z)).length = m at *
      go_enter Tryz.func108, Tryz.ntmps108
      go_wp2_with fail
      go_ret
      exact ⟨by rw [SZ.out]; rfl, Drawn0.refl _⟩
set_option maxHeartbeats 1000000 in
set_option maxRecDepth 100000 in
/-- A number as plain data: whether it is below 0, and its bytes. -/
theorem plain_calls (z : Int) (b : Nat) (w : World) (hb : IsBig w b z) :
    Calls Tryz.prog 97 #[.pointer (some ⟨b, 0, none⟩)] w fun e w' => e = .returned (.agg #[.bool (decide (z < 0)), .string (bs (Lb.mag z.natAbs))]) ∧ Below w.heap.size w w' := by
  have sg := fun (w' : World) (h : Below w.heap.size w w') => sign_calls z b w' (hb.below h)
  have by_ := fun (w' : World) (h : Below w.heap.size w w') => bytes_calls z b w' (hb.below h)
  have al := below_alloc (Below.refl w.heap.size w) (Obj.cells #[Value.bool false, Value.string ⟨#[]⟩] 109)
  have AL := Aside0.mk al
  have lt : decide (sgz z < 0) = decide (z < 0) := by
    unfold sgz
    by_cases h1 : z < 0
    · rw [if_pos h1, decide_eq_true h1]
      rfl
    · rw [if_neg h1, decide_eq_false h1]
      split <;> rfl
  have MS := Aside0.mk (mgi_str z.natAbs)
  have K0 := Aside0.mk (blk_new w (Obj.cells #[Value.bool false, Value.string ⟨#[]⟩] 109))
  have LT := Aside0.mk (blk_lt K0.out)
  clear al hb
  generalize sgz z = s at *
  go_enter Tryz.func97, Tryz.ntmps97
  go_wp2_with (first | (go_at_call 108; (with_reducible refine (sg _ AL.out).mono ?_); rintro e w1 ⟨rfl, d1⟩; have D1 := Aside0.mk (below_then AL.out AL.out.size d1.below); have K1 := Aside0.mk ((d1.below.block _ LT.out).trans K0.out); clear d1) | (go_at_call 109; (with_reducible refine (by_ _ D1.out).mono ?_); rintro e w2 ⟨A2, c2, rfl, r2, d2⟩; have kc := Kd.C_string (P := Tryz.prog) (src := 77) (e := 5) (dst := 9) (c := c2) Tryz.underlying77 Tryz.underlying5 Tryz.underlying9 r2; rw [MS.out] at kc; have D2 := Aside0.mk (below_then D1.out D1.out.size d2); have k2 := (d2.block _ (blk_lt K1.out)).trans K1.out; have p0 := blk_cell k2 0; have p1 := blk_cell k2 1; have f0 := Lib.frozen_of_heap k2 0; have f1 := Lib.frozen_of_heap k2 1; have K2 := Aside0.mk k2; clear d2 r2 k2))
  refine bodyPost_ret (results_cell_row rfl _ _ w.heap.size 109 #[.bool (decide (z < 0)), .string (bs (Lb.mag z.natAbs))] (0, 0) _ rfl (blk_put (cs := #[.bool (decide (z < 0)), .string (⟨#[]⟩ : ByteArray)]) (blk_put (cs := #[.bool false, .string (⟨#[]⟩ : ByteArray)]) K2.out 0 _ rfl) 1 _ rfl) Tryz.underlying109 rfl (by kernel_rfl)) rfl ?_
  exact ⟨rfl, (D2.out.setCell (Nat.le_refl _) _).setCell (Nat.le_refl _) _⟩
end Go.Proofs.YtdliagehkiihpaaGreatDoor.Giv

namespace Go.Proofs.YtdliagehkiihpaaGreatDoor.Giv
open Go.RowKit Go.Proofs.YtdliagehkiihpaaGreatDoorW.PrintWords Go.Proofs.YtdliagehkiihpaaGreatDoorW.PrintLast Go.Proofs.YtdliagehkiihpaaGreatDoor.Pk Go.Proofs.YtdliagehkiihpaaGreatDoor.Ord Go.Proofs.YtdliagehkiihpaaGreatDoor.QM Go.Proofs.YtdliagehkiihpaaGreatDoor.QI
set_option linter.unusedVariables false
set_option linter.unusedSimpArgs false

/-- Bytes as the model's whole numbers. -/
def bi (l : List UInt8) : List Int := l.map fun c => (c.toNat : Int)
theorem bi_len (l : List UInt8) : (bi l).length = l.length := by simp [bi]
theorem bits_or_comm (k : IntKind) (x y : Int) : bits .or k x y = bits .or k y x := by
  simp only [bits, BitVec.or_comm]
theorem wraps_u32 (n : Int) (h₀ : 0 ≤ n) (h₁ : n < 2 ^ 32) : IntKind.u32.wrap n = n := by rw [IntKind.wrap_u32]; omega
theorem wraps_u64 (n : Int) (h₀ : 0 ≤ n) (h₁ : n < 2 ^ 64) : IntKind.u64.wrap n = n := by
  simp [IntKind.wrap, IntKind.bits, IntKind.signed]
  omega
theorem be32 (a b c d : UInt8) (r : List UInt8) : bigall_beUint32.f (bi (a :: b :: c :: d :: r)) = some (Dg.be [a, b, c, d] : Int) := by
  unfold bigall_beUint32.f
  have ha := a.toNat_lt
  have hb := b.toNat_lt
  have hc := c.toNat_lt
  have hd := d.toNat_lt
  have l : ((bi (a :: b :: c :: d :: r)).length : Int) = 4 + r.length := by
    rw [bi_len]
    simp
    omega
  rw [l, if_pos (by omega), if_pos (by omega), if_pos (by omega), if_pos (by omega)]
  have r0 : rd (bi (a :: b :: c :: d :: r)) 0 = (a.toNat : Int) := rfl
  have r1 : rd (bi (a :: b :: c :: d :: r)) 1 = (b.toNat : Int) := rfl
  have r2 : rd (bi (a :: b :: c :: d :: r)) 2 = (c.toNat : Int) := rfl
  have r3 : rd (bi (a :: b :: c :: d :: r)) 3 = (d.toNat : Int) := rfl
  rw [r0, r1, r2, r3]
  have e1 : bits .or .u32 ((d.toNat : Int) % 4294967296) ((((c.toNat : Int) % 4294967296) * 256) % 4294967296) = (c.toNat : Int) * 256 + d.toNat := by
    rw [bits_or_comm, bits_join .u32 32 (by decide) wraps_u32 8 _ _ (by omega) (by omega) (by omega) (by omega) (by omega) (by omega)]
    omega
  have e2 : bits .or .u32 ((c.toNat : Int) * 256 + d.toNat) ((((b.toNat : Int) % 4294967296) * 65536) % 4294967296) = (b.toNat : Int) * 65536 + (c.toNat : Int) * 256 + d.toNat := by
    rw [bits_or_comm, bits_join .u32 32 (by decide) wraps_u32 16 _ _ (by omega) (by omega) (by omega) (by omega) (by omega) (by omega)]
    omega
  have e3 : bits .or .u32 ((b.toNat : Int) * 65536 + (c.toNat : Int) * 256 + d.toNat) ((((a.toNat : Int) % 4294967296) * 16777216) % 4294967296) = (a.toNat : Int) * 16777216 + (b.toNat : Int) * 65536 + (c.toNat : Int) * 256 + d.toNat := by
    rw [bits_or_comm, bits_join .u32 32 (by decide) wraps_u32 24 _ _ (by omega) (by omega) (by omega) (by omega) (by omega) (by omega)]
    omega
  rw [e1, e2, e3]
  refine congrArg some ?_
  have e : Dg.be [a, b, c, d] = a.toNat * 16777216 + (b.toNat * 65536 + (c.toNat * 256 + d.toNat)) := by simp [Dg.be]
  rw [e]
  omega
theorem be32_of (l : List UInt8) (h : 4 ≤ l.length) : bigall_beUint32.f (bi l) = some (Dg.be (l.take 4) : Int) := by
  match l, h with
  | a :: b :: c :: d :: r, _ => exact be32 a b c d r
  | [], h => exact absurd h (by decide)
  | [_], h => exact absurd h (by simp)
  | [_, _], h => exact absurd h (by simp)
  | [_, _, _], h => exact absurd h (by simp)
theorem be64_val (l : List UInt8) (h8 : l.length = 8) : bits .or .u64 (IntKind.u64.wrap (IntKind.u64.wrap (Dg.be (l.take 4) : Int) * 4294967296)) (IntKind.u64.wrap (Dg.be ((l.drop 4).take 4) : Int)) = (Dg.be l : Int) := by
  have a := Dg.be_lt (l.take 4)
  have b := Dg.be_lt ((l.drop 4).take 4)
  have la : (l.take 4).length = 4 := by rw [List.length_take]; omega
  have lb : ((l.drop 4).take 4).length = 4 := by rw [List.length_take, List.length_drop]; omega
  rw [la] at a
  rw [lb] at b
  have e : Dg.be l = Dg.be (l.take 4) * 4294967296 + Dg.be ((l.drop 4).take 4) := by
    have h := Dg.be_append (l.take 4) (l.drop 4)
    rw [List.take_append_drop, List.length_drop, h8] at h
    have e2 : (l.drop 4).take 4 = l.drop 4 := List.take_of_length_le (by rw [List.length_drop]; omega)
    rw [h, e2]
  rw [e]
  generalize Dg.be (l.take 4) = x at *
  generalize Dg.be ((l.drop 4).take 4) = y at *
  have w1 : IntKind.u64.wrap (x : Int) = x := wraps_u64 _ (by omega) (by omega)
  have w2 : IntKind.u64.wrap (y : Int) = y := wraps_u64 _ (by omega) (by omega)
  have w3 : IntKind.u64.wrap ((x : Int) * 4294967296) = (x : Int) * 4294967296 := wraps_u64 _ (by omega) (by omega)
  rw [w1, w2, w3, bits_join .u64 64 (by decide) wraps_u64 32 _ _ (by omega) (by omega) (by omega) (by omega) (by omega) (by omega)]
  omega
set_option maxHeartbeats 1000000 in
theorem be64_calls (l : List UInt8) (A : Option Addr) (c : Nat) (w : World) (h8 : l.length = 8) (hC : (Kd.int .u8).C w A 8 (bi l)) (hc : 8 ≤ c) :
    Calls Tryz.prog 145 #[.slice A 8 c] w fun e w' => e = .returned (.int .u64 (Dg.be l)) ∧ Drawn0 w w' := by
  have hl : (bi l).length = 8 := by rw [bi_len, h8]
  obtain ⟨ad, rfl, c7⟩ := Kd.at_int hC 7 (by omega) (by omega)
  rw [← hl] at hC
  have c1 := fun (w' : World) (hb : Below w.heap.size w w') => bigall_beUint32.calls (some ad) c (bi l) _ w' (Kd.C_below hC hb) (by omega) (be32_of l (by omega))
  have hD := Kd.C_drop hC (m := 4) (by omega) (c := c) (by omega)
  have e4 : (bi l).drop 4 = bi (l.drop 4) := by simp [bi]
  rw [e4] at hD
  have h4 : (bi (l.drop 4)).length = 4 := by rw [bi_len, List.length_drop]; omega
  have c2 := fun (w' : World) (hb : Below w.heap.size w w') => bigall_beUint32.calls _ (c - 4) (bi (l.drop 4)) _ w' (Kd.C_below hD hb) (by omega) (be32_of (l.drop 4) (by rw [List.length_drop]; omega))
  simp only [hl] at c1
  simp only [h4, List.length_drop, hl, Option.map_some, Go.Addr.add, show (Kd.int IntKind.u8).sz = 1 from rfl, Nat.mul_one, Nat.reduceEqDiff, ↓reduceIte] at c2
  (try simp only [show (7 : Int).toNat = 7 from rfl, Nat.reduceMul, Nat.reduceEqDiff, Go.Addr.add, ↓reduceIte] at c7)
  go_enter Tryz.func145, Tryz.ntmps145
  go_wp2_with fail
  go_quiet (first | (go_at_call 146; (with_reducible refine (c1 _ (by repeat (first | exact Below.refl _ _ | apply pw_below_drewN | apply below_drew))).mono ?_); rintro e w1 ⟨rfl, n, rfl⟩; (try first | exact ⟨rfl, _, World.drewN_drewN _ _ _⟩ | exact ⟨rfl, _, Eq.trans (World.drewN_drewN _ _ _) (congrArg (World.drewN _) (Nat.add_assoc _ _ _))⟩)) | (go_at_call 146; (with_reducible refine (c2 _ (by repeat (first | exact Below.refl _ _ | apply pw_below_drewN | apply below_drew))).mono ?_); rintro e w1 ⟨rfl, n, rfl⟩; (try first | exact ⟨rfl, _, World.drewN_drewN _ _ _⟩ | exact ⟨rfl, _, Eq.trans (World.drewN_drewN _ _ _) (congrArg (World.drewN _) (Nat.add_assoc _ _ _))⟩)))
  go_wp2_with fail
  go_ret
  exact ⟨by exact congrArg (fun v => Ending.returned (Value.int IntKind.u64 v)) (be64_val l h8), ⟨_, rfl⟩⟩
theorem word_calls (l : List UInt8) (A : Option Addr) (c : Nat) (w : World) (h8 : l.length = 8) (hC : (Kd.int .u8).C w A 8 (bi l)) (hc : 8 ≤ c) :
    Calls Tryz.prog 128 #[.slice A 8 c] w fun e w' => e = .returned (.int .u64 (Dg.be l)) ∧ Drawn0 w w' := by
  have c1 := fun (w' : World) (hb : Below w.heap.size w w') => be64_calls l A c w' h8 (Kd.C_below hC hb) hc
  go_enter Tryz.func128, Tryz.ntmps128
  go_wp2_with (first | (go_at_call 145; (with_reducible refine (c1 _ (by repeat (first | exact Below.refl _ _ | apply pw_below_drewN | apply below_drew))).mono ?_); rintro e w1 ⟨rfl, n, rfl⟩))
  go_ret
  exact ⟨rfl, ⟨_, rfl⟩⟩
end Go.Proofs.YtdliagehkiihpaaGreatDoor.Giv

namespace Go.Proofs.YtdliagehkiihpaaGreatDoor.Giv
open Go.RowKit Go.Proofs.YtdliagehkiihpaaGreatDoorW.PrintWords Go.Proofs.YtdliagehkiihpaaGreatDoorW.PrintLast Go.Proofs.YtdliagehkiihpaaGreatDoor.Pk Go.Proofs.YtdliagehkiihpaaGreatDoor.Ord Go.Proofs.YtdliagehkiihpaaGreatDoor.QM
set_option linter.unusedVariables false
set_option linter.unusedSimpArgs false

/-- The words without the zeros at the end, as a row. -/
theorem lies_dg {w : World} {h c : Nat} {l : List Nat} (hl : Lies w h c l) (hw : Dg.Words l) (hm : l.length ≤ 1000000) : (Kd.int .u64).C w (some (⟨h, 0, none⟩ : Go.Addr)) (ws (Dg.dg (Dg.val l))).length (ws (Dg.dg (Dg.val l))) ∧ (ws (Dg.dg (Dg.val l))).length ≤ c ∧ (ws (Dg.dg (Dg.val l))).length ≤ l.length := by
  have p := Dg.dg_prefix l.length l rfl hw
  have len : (Dg.dg (Dg.val l)).length ≤ l.length := by
    rw [p, List.length_take]
    omega
  have e : ws (Dg.dg (Dg.val l)) = (ws l).take (Dg.dg (Dg.val l)).length := by
    conv => lhs; rw [p]
    unfold ws
    rw [List.map_take]
  have r := Kd.C_take (hl.row hm) (m := (Dg.dg (Dg.val l)).length) (by rw [ws_len]; exact len)
  rw [← e] at r
  obtain ⟨_, _, _, h3, _⟩ := hl
  exact ⟨r, by rw [ws_len]; omega, by rw [ws_len]; exact len⟩
theorem lies_words {w : World} {h c : Nat} {l : List Nat} (hl : Lies w h c l) : WordsAt w (some ⟨h, 0, none⟩) := by
  obtain ⟨arr, h1, _⟩ := hl
  intro a e
  obtain rfl := Option.some.inj e
  exact ⟨arr, h1⟩
theorem shl_or (d b m : Nat) (hb : b < 256) (hd : d < 256 ^ m) (hm : m ≤ 7) : bits .or .u64 (d : Int) (IntKind.u64.wrap (IntKind.u64.wrap (b : Int) * 2 ^ (8 * m))) = ((b * 256 ^ m + d : Nat) : Int) := by
  have e : (2 : Int) ^ (8 * m) = ((256 ^ m : Nat) : Int) := by
    have h : (2 : Nat) ^ (8 * m) = 256 ^ m := by rw [Nat.pow_mul]
    rw [← h]
    simp
  have hP : 256 ^ m ≤ 72057594037927936 := Nat.pow_le_pow_right (by decide) hm
  have hbP : b * 256 ^ m ≤ 255 * 72057594037927936 := Nat.mul_le_mul (by omega) hP
  have w1 : IntKind.u64.wrap (b : Int) = b := wraps_u64 _ (by omega) (by omega)
  rw [w1, e]
  have e2 : (b : Int) * ((256 ^ m : Nat) : Int) = ((b * 256 ^ m : Nat) : Int) := by rw [Int.natCast_mul]
  rw [e2]
  have hmod : ((b * 256 ^ m : Nat) : Int) % (2 : Int) ^ (8 * m) = 0 := by
    rw [e, ← e2]
    exact Int.mul_emod_left _ _
  generalize b * 256 ^ m = X at *
  have w2 : IntKind.u64.wrap (X : Int) = X := wraps_u64 _ (by omega) (by omega)
  rw [w2, bits_or_comm, bits_join .u64 64 (by decide) wraps_u64 (8 * m) _ _ (by omega) hmod (by omega) (by omega) (by rw [e]; omega) (by omega)]
  omega
theorem wr_m8 (i j : Nat) (h : i = j + 8) (hi : i < 4611686018427387904) : wrap64 ((i : Int) - 8) = (j : Int) := by unfold wrap64; omega
set_option maxHeartbeats 4000000 in
theorem setBytes_calls (buf : List UInt8) (A : Option Addr) (c : Nat) (w : World) (hm : buf.length ≤ 100000) (hC : (Kd.int .u8).C w A buf.length (bi buf)) (hc : buf.length ≤ c) :
    Calls Tryz.prog 113 #[.slice none 0 0, .slice A buf.length c] w fun e w' => Below w.heap.size w w' ∧ ∃ A' c', e = .returned (.slice A' (ws (Dg.dg (Dg.be buf))).length c') ∧ (ws (Dg.dg (Dg.be buf))).length ≤ c' ∧ (Kd.int .u64).C w' A' (ws (Dg.dg (Dg.be buf))).length (ws (Dg.dg (Dg.be buf))) ∧ WordsAt w' A' ∧ (ws (Dg.dg (Dg.be buf))).length ≤ 1000000 := by
  by_cases h0 : buf.length = 0
  · have h00 : buf = [] := List.length_eq_zero_iff.1 h0
    subst h00
    have mk := fun w => make_zero w
    have nn := fun w => norm_nil w
    have l0 : ([] : List UInt8).length = 0 := rfl
    go_enter Tryz.func113, Tryz.ntmps113
    go_wp2_with (first | (go_at_call 127; (with_reducible refine (mk _).mono ?_); rintro e w1 ⟨rfl, hb⟩))
    go_loop [5, 6] (fun v5 v6 => v5 = .int .i64 0 ∧ v6 = .int .i64 0) (fun v5 v6 => 0)
    case atStart => exact ⟨rfl, rfl⟩
    case round =>
      obtain ⟨rfl, rfl⟩ := hrel
      go_wp2_with (first | (go_at_call 129; (with_reducible refine (nn _).mono ?_); rintro e w2 ⟨rfl, rfl⟩))
      go_ret
      have z : Dg.dg (Dg.be []) = [] := Dg.dg_zero
      rw [z]
      exact ⟨hb, none, 0, rfl, Nat.le_refl _, Kd.C_nil _ _, fun a e => (by cases e), Nat.zero_le _⟩
  · have w1 : wrap64 ((buf.length : Int) + 8) = (buf.length : Int) + 8 := by unfold wrap64; omega
    have w2 : wrap64 ((buf.length : Int) + 8 - 1) = (buf.length : Int) + 7 := by unfold wrap64; omega
    obtain ⟨n, hn⟩ : ∃ n, n = (buf.length + 7) / 8 := ⟨_, rfl⟩
    have mk : ∀ (v : Int) (hv : v = n) (w : World), Calls Tryz.prog 127 #[.slice none 0 0, .int .i64 v] w fun e w' => ∃ h c, e = .returned (.slice (some ⟨h, 0, none⟩) n c) ∧ Below w.heap.size w w' ∧ w.heap.size ≤ h ∧ h < w'.heap.size ∧ Lies w' h c (List.replicate n 0) := fun v hv w => by
      rw [hv]
      exact make_pos n w (by omega) (by omega)
    have HN := Aside0.mk hn
    clear hn
    go_enter Tryz.func113, Tryz.ntmps113
    go_wp2_with (first | (go_at_call 127; (with_reducible refine (mk _ (by have := HN.out; omega) _).mono ?_); rintro e w1 ⟨h, c', rfl, hb, hh, hlt, hL⟩))
    go_loopw [5, 6] (fun v5 v6 wr => ∃ k : Nat, v5 = .int .i64 ((buf.length - 8 * k : Nat) : Int) ∧ v6 = .int .i64 k ∧ 8 * k ≤ buf.length ∧ Below w.heap.size w wr ∧ Lies wr h c' (part n k (Dg.be buf))) (fun v5 v6 wr => match v5 with | .int _ i => i.toNat | _ => 0)
    case atStart => exact ⟨0, rfl, rfl, by omega, hb, by simpa [part, Dg.dn] using hL⟩
    case round =>
      obtain ⟨k, rfl, rfl, hk, hbw, hLw⟩ := hrel
      by_cases h8 : 8 * k + 8 ≤ buf.length
      · have hn := HN.out
        obtain ⟨hi, ehi⟩ : ∃ hi, hi = buf.length - 8 * k := ⟨_, rfl⟩
        obtain ⟨lo, elo⟩ : ∃ lo, lo = buf.length - 8 * k - 8 := ⟨_, rfl⟩
        rw [← ehi]
        have hmid := Kd.C_mid (lo := lo) (hi := hi) (by rw [bi_len]; exact hC) (by omega) (by rw [bi_len]; omega) (c := c) (by rw [bi_len]; exact hc)
        have em : ((bi buf).take hi).drop lo = bi ((buf.take hi).drop lo) := by simp [bi, List.map_take, List.map_drop]
        rw [em] at hmid
        have e8 : ((buf.take hi).drop lo).length = 8 := by rw [List.length_drop, List.length_take]; omega
        have e8' : (bi ((buf.take hi).drop lo)).length = 8 := by rw [bi_len, e8]
        rw [e8', if_neg (show ¬ c = lo by omega)] at hmid
        simp only [show (Kd.int IntKind.u8).sz = 1 from rfl, Nat.mul_one] at hmid
        have wc := fun (w' : World) (hb' : Below w.heap.size w w') => word_calls ((buf.take hi).drop lo) _ (c - lo) w' e8 (Kd.C_below hmid hb') (by omega)
        have f1 : ¬ (hi : Int) < 8 := by omega
        have f0 : hi = lo + 8 := by rw [ehi, elo]; exact (Nat.sub_add_cancel (Nat.le_sub_of_add_le (by rw [Nat.add_comm]; exact h8))).symm
        have f7 : hi ≤ 100000 := Nat.le_trans (ehi ▸ Nat.sub_le _ _) hm
        have f2 : wrap64 ((hi : Int) - 8) = (lo : Int) := wr_m8 hi lo f0 (Nat.lt_of_le_of_lt f7 (by decide))
        have f8 : k < n := by
          clear f2 wc
          omega
        have f3 : wrap64 ((k : Int) + 1) = ((k + 1 : Nat) : Int) := Pk.wr k (by clear f2 wc; omega)
        have f4 : (k : Int) < (n : Int) := Int.ofNat_lt.2 f8
        have f5 : lo ≤ hi := f0 ▸ Nat.le_add_right _ _
        have f6 : hi ≤ buf.length := ehi ▸ Nat.sub_le _ _
        have pl : (part n k (Dg.be buf)).length = n := part_len (Nat.le_of_lt f8) _
        have hcell := hLw.cell k (by rw [pl]; exact f8)
        have hfrz : wr.frozen? ⟨h, k, none⟩ = false := by
          obtain ⟨arr, q1, _⟩ := hLw
          exact blk_frozen q1 k
        have EH := Aside0.mk ehi
        have EL := Aside0.mk elo
        have HK := Aside0.mk hk
        have H8 := Aside0.mk h8
        have HM := Aside0.mk hm
        have AL := Aside0.mk hLw
        have AB := Aside0.mk hbw
        have E8 := Aside0.mk e8
        have E9 := Aside0.mk e8'
        clear ehi elo hk h8 hn hm hLw e8 e8' em hmid hC hL hb w2
        try clear w1
        go_wp2_with (first | (go_at_call 128; (with_reducible refine (wc _ (by repeat (first | exact AB.out | apply pw_below_drewN | apply below_drew))).mono ?_); rintro e w2 ⟨rfl, nd, rfl⟩))
        have ew : Dg.be (List.drop lo (List.take (lo + 8) buf)) = Dg.be buf / 18446744073709551616 ^ k % 18446744073709551616 := by
          have q := Dg.be_word buf k H8.out
          rw [← EL.out, show buf.length - 8 * k = lo + 8 by rw [← EH.out]; exact f0] at q
          exact q
        refine ⟨⟨k + 1, ?_, ?_, ?_, ?_, ?_⟩, ?_⟩
        · rw [show buf.length - 8 * (k + 1) = lo by rw [EL.out, Nat.mul_add, Nat.sub_add_eq]]
        · rw [f3]
        · have q := H8.out
          rw [Nat.mul_add]
          exact q
        · exact below_set (pw_below_drewN AB.out _) hh
        · have q := (Lies.below AL.out (pw_below_drewN (Below.refl _ _) nd)).set k (by rw [pl]; exact f8) (Dg.be (List.drop lo (List.take (lo + 8) buf)))
          rw [← part_next f8, ← ew]
          exact q
        · show (lo : Int).toNat < (hi : Int).toNat
          rw [Int.toNat_natCast, Int.toNat_natCast, f0]
          exact Nat.lt_add_of_pos_right (by decide)
      · obtain ⟨hi, ehi⟩ : ∃ hi, hi = buf.length - 8 * k := ⟨_, rfl⟩
        rw [← ehi]
        have hn := HN.out
        have l8 : hi < 8 := by omega
        have f1 : ¬ (hi : Int) ≥ 8 := by omega
        by_cases hz : hi = 0
        · have kn : k = n := by omega
          have lz : (hi : Int) = 0 := by omega
          rw [lz]
          have pv : Dg.val (part n k (Dg.be buf)) = Dg.be buf := by
            rw [kn]
            unfold part
            rw [Nat.sub_self, List.replicate_zero, List.append_nil]
            refine Dg.dn_val n _ ?_
            rw [Dg.pow_B]
            have := Dg.be_lt buf
            rwa [show 8 * n = buf.length by omega]
          have pl : (part n k (Dg.be buf)).length = n := part_len (by omega) _
          have HN' := HN
          have nc := fun (w' : World) (hb' : Below wr.heap.size wr w') => norm_calls (part n k (Dg.be buf)) h c' w' (part_words _ _ _) (hLw.below hb') hLw.choose_spec.2.2.1 (by rw [pl]; omega)
          rw [pv, pl] at nc
          clear hn
          go_wp2_with (first | (go_at_call 129; (with_reducible refine (nc _ (by repeat (first | exact Below.refl _ _ | apply pw_below_drewN | apply below_drew))).mono ?_); rintro e w2 ⟨rfl, rfl⟩))
          go_ret
          have r := lies_dg hLw (part_words _ _ _) (by rw [pl]; have := HN.out; omega)
          rw [pv] at r
          refine ⟨hbw, _, c', ?_, r.2.1, r.1, lies_words hLw, Nat.le_trans r.2.2 (by rw [pl]; have := HN.out; omega)⟩
          rw [ws_len]
          rfl
        · have gz : (hi : Int) > 0 := by omega
          have kn : n = k + 1 := by omega
          have ple : (part n k (Dg.be buf)).length = n := part_len (by omega) _
          obtain ⟨u0, hcell⟩ : ∃ u, wr.cell? ⟨h, k, none⟩ = some u := ⟨_, hLw.cell k (by rw [ple]; omega)⟩
          have hfrz : wr.frozen? ⟨h, k, none⟩ = false := by
            obtain ⟨arr, q1, _⟩ := hLw
            exact blk_frozen q1 k
          have wn : wrap64 ((n : Int) - 1) = (k : Int) := by unfold wrap64; omega
          have h6 : hi ≤ buf.length := by omega
          have kn2 : (k : Int) < (n : Int) := by omega
          have eh := Dg.be_head buf k (by omega)
          rw [← ehi] at eh
          have small : Dg.be (buf.take hi) < 18446744073709551616 := by
            refine Nat.lt_of_lt_of_le (Dg.be_lt _) ?_
            rw [List.length_take, Nat.min_eq_left h6]
            exact Nat.pow_le_pow_right (by omega) (by omega : hi ≤ 8)
          have ev : Dg.be (buf.take hi) = Dg.be buf / 18446744073709551616 ^ k % 18446744073709551616 := by
            rw [← eh, Nat.mod_eq_of_lt small]
          have lset := hLw.set k (by rw [ple]; omega) (Dg.be (buf.take hi))
          have eset : (part n k (Dg.be buf)).set k (Dg.be (buf.take hi)) = part n n (Dg.be buf) := by
            rw [ev, part_next (by omega)]
            rw [← kn]
          rw [eset] at lset
          have pv : Dg.val (part n n (Dg.be buf)) = Dg.be buf := by
            unfold part
            rw [Nat.sub_self, List.replicate_zero, List.append_nil]
            refine Dg.dn_val n _ ?_
            rw [Dg.pow_B]
            exact Nat.lt_of_lt_of_le (Dg.be_lt buf) (Nat.pow_le_pow_right (by omega) (by omega))
          have pl : (part n n (Dg.be buf)).length = n := part_len (Nat.le_refl _) _
          have nc := norm_calls (part n n (Dg.be buf)) h c' _ (part_words _ _ _) lset lset.choose_spec.2.2.1 (by rw [pl]; omega)
          rw [pv, pl] at nc
          have EH := Aside0.mk ehi
          have HL := Aside0.mk lset
          have AB := Aside0.mk hbw
          have PV := Aside0.mk pv
          have HM := Aside0.mk hm
          have KN := Aside0.mk kn
          have hCm : (Kd.int .u8).C wr A buf.length (bi buf) := Kd.C_below hC hbw
          clear hn hb hL ehi hLw eh ev eset ple pv hm hk h8 hC lset kn
          go_wp2_with fail
          go_loop [5, 7, 8] (fun v5 v7 v8 => ∃ j : Nat, j ≤ hi ∧ v5 = .int .i64 j ∧ v7 = .int .u64 (Dg.be ((buf.take hi).drop j) : Nat) ∧ v8 = .int .u64 ((8 * (hi - j) : Nat) : Int)) (fun v5 v7 v8 => match v5 with | .int _ i => i.toNat | _ => 0)
          case atStart =>
            refine ⟨hi, Nat.le_refl _, rfl, ?_, ?_⟩
            · rw [List.drop_of_length_le (by rw [List.length_take]; exact Nat.min_le_left _ _)]
              rfl
            · rw [Nat.sub_self]
              rfl
          case round =>
            obtain ⟨j, hj, rfl, rfl, rfl⟩ := hrel
            cases j with
            | zero =>
              rw [List.drop_zero]
              go_wp2_with (first | (go_at_call 129; (with_reducible refine nc.mono ?_); rintro e w2 ⟨rfl, rfl⟩))
              go_ret
              have r := lies_dg HL.out (part_words _ _ _) (by rw [pl]; have := HN.out; have := HM.out; omega)
              rw [PV.out] at r
              refine ⟨below_set AB.out hh, _, c', ?_, r.2.1, r.1, lies_words HL.out, Nat.le_trans r.2.2 (by rw [pl]; have := HN.out; have := HM.out; omega)⟩
              rw [ws_len]
              rfl
            | succ j =>
              have hjl : j < buf.length := by omega
              obtain ⟨ad, rfl, cj⟩ := Kd.at_int hCm (j : Int) (by omega) (by omega)
              rw [rd_nat _ _ (by rw [bi_len]; exact hjl)] at cj
              simp only [Int.toNat_natCast, bi, List.getElem_map] at cj
              have w1 : wrap64 (((j + 1 : Nat) : Int) - 1) = (j : Int) := by unfold wrap64; omega
              have g1 : ((j + 1 : Nat) : Int) > 0 := by omega
              have g2 : (0 : Int) ≤ (j : Int) := by omega
              have g3 : (j : Int) < (buf.length : Int) := by omega
              go_wp2_with fail
              have hdr : ((buf.take hi).drop j) = buf[j]'hjl :: ((buf.take hi).drop (j + 1)) := by
                rw [List.drop_eq_getElem_cons (by rw [List.length_take]; omega)]
                simp
              have hln : ((buf.take hi).drop (j + 1)).length = hi - (j + 1) := by rw [List.length_drop, List.length_take]; omega
              have hv := shl_or (Dg.be ((buf.take hi).drop (j + 1))) (buf[j]'hjl).toNat (hi - (j + 1)) (UInt8.toNat_lt _) (by rw [← hln]; exact Dg.be_lt _) (by omega)
              refine ⟨⟨j, by omega, rfl, ?_, ?_⟩, ?_⟩
              · rw [hv, hdr]
                rw [Dg.be, hln]
              · congr 1
                omega
              · show (j : Int).toNat < ((j + 1 : Nat) : Int).toNat
                omega
end Go.Proofs.YtdliagehkiihpaaGreatDoor.Giv

namespace Go.Proofs.YtdliagehkiihpaaGreatDoor.Giv
open Go.RowKit Go.Proofs.YtdliagehkiihpaaGreatDoorW.PrintWords Go.Proofs.YtdliagehkiihpaaGreatDoorW.PrintLast Go.Proofs.YtdliagehkiihpaaGreatDoor.Pk Go.Proofs.YtdliagehkiihpaaGreatDoor.Ord Go.Proofs.YtdliagehkiihpaaGreatDoor.QM
set_option linter.unusedVariables false
set_option linter.unusedSimpArgs false

set_option maxHeartbeats 2000000 in
set_option maxRecDepth 100000 in
theorem setBytesI_calls (b : Nat) (buf : List UInt8) (A : Option Addr) (c : Nat) (w : World) (hm : buf.length ≤ 100000) (hC : (Kd.int .u8).C w A buf.length (bi buf)) (hc : buf.length ≤ c) (hg : w.heap[b]? = some (.cells #[.bool false, .slice none 0 0] 117 (0, 0))) :
    Calls Tryz.prog 106 #[.pointer (some ⟨b, 0, none⟩), .slice A buf.length c] w fun e w' => e = .returned (.pointer (some ⟨b, 0, none⟩)) ∧ Below b w w' ∧ IsBig w' b (Dg.be buf : Int) := by
  have sb := fun (w' : World) (d : Below w.heap.size w w') => setBytes_calls buf A c w' hm (Kd.C_below hC d) hc
  have lt := blk_lt hg
  have p1 := blk_cell hg 1
  have HG := Aside0.mk hg
  clear hg hC
  go_enter Tryz.func106, Tryz.ntmps106
  go_wp2_with (first | (go_at_call 113; (with_reducible refine (sb _ ?hd).mono ?_); (case hd => repeat (first | with_reducible exact Below.refl _ _ | with_reducible apply Below.drew | apply pw_below_drewN)); rintro e w1 ⟨d1, A', c', rfl, hl', hC', hW', wl⟩; have k1 := (d1.block _ lt).trans HG.out; have q0 := blk_cell k1 0; have q1 := blk_cell k1 1; have f0 := Lib.frozen_of_heap k1 0; have f1 := Lib.frozen_of_heap k1 1; have D1 := Aside0.mk (d1.mono (Nat.le_of_lt lt)); have K1 := Aside0.mk k1; have HC := Aside0.mk hC'; have HW := Aside0.mk hW'; clear d1 k1 hC' hW' sb))
  go_ret
  have e0 : wd (Dg.be buf : Int) = Dg.dg (Dg.be buf) := by unfold wd; rw [Int.natAbs_natCast]
  refine ⟨rfl, (D1.out.setCell (p := ⟨b, 1, none⟩) (Nat.le_refl _) _).setCell (p := ⟨b, 0, none⟩) (Nat.le_refl _) _, A', c', ?_, by rw [e0]; exact hl', by rw [e0]; exact wl, ?_, ?_⟩
  · have k2 := blk_put (cs := #[Value.bool false, .slice none 0 0]) K1.out 1 (.slice A' (ws (Dg.dg (Dg.be buf))).length c') rfl
    have k3 := blk_put (cs := #[Value.bool false, .slice A' (ws (Dg.dg (Dg.be buf))).length c']) k2 0 (.bool false) rfl
    rw [e0, show decide (((Dg.be buf : Nat) : Int) < 0) = false from decide_eq_false (by omega)]
    exact k3
  · rw [e0]
    refine C_moved HC.out (fun a ea => ?_)
    obtain ⟨arr, ha⟩ := HW.out a ea
    have ne : a.block ≠ b := fun e => by
      rw [e, K1.out] at ha
      injection ha with ha
      injection ha with _ ha
      exact absurd ha (by decide)
    rw [Below.heap_setCell _ _ _ _ (fun e => ne e), Below.heap_setCell _ _ _ _ (fun e => ne e)]
  · intro a ea
    obtain ⟨arr, ha⟩ := HW.out a ea
    have ne : a.block ≠ b := fun e => by
      rw [e, K1.out] at ha
      injection ha with ha
      injection ha with _ ha
      exact absurd ha (by decide)
    exact ⟨arr, by rw [Below.heap_setCell _ _ _ _ (fun e => ne e), Below.heap_setCell _ _ _ _ (fun e => ne e)]; exact ha⟩
set_option maxHeartbeats 2000000 in
set_option maxRecDepth 100000 in
theorem set_same (b : Nat) (w : World) :
    Calls Tryz.prog 114 #[.pointer (some ⟨b, 0, none⟩), .pointer (some ⟨b, 0, none⟩)] w fun e w' => e = .returned (.pointer (some ⟨b, 0, none⟩)) ∧ w' = w := by
  obtain ⟨j, hj, hs⟩ := Option.map_eq_some_iff.1 (show (Tryz.prog.info? 117).map (fun i => decide (i.size = 2)) = some true by kernel_rfl)
  have he := Lib.run_neq_ptr_same (P := Tryz.prog) w ⟨b, 0, none⟩ Tryz.underlying94 hj
  go_enter Tryz.func114, Tryz.ntmps114
  go_wp2_with fail
  go_ret
  exact ⟨rfl, rfl⟩
theorem neg_put {w : World} {b c : Nat} {z : Int} {A : Option Addr} (h1 : w.heap[b]? = some (.cells #[.bool false, .slice A (ws (wd z)).length c] 117 (0, 0))) (h3 : (ws (wd z)).length ≤ c) (h4 : (ws (wd z)).length ≤ 1000000) (h5 : (Kd.int .u64).C w A (ws (wd z)).length (ws (wd z))) (h6 : WordsAt w A) (v : Bool) (hv : decide (-z < 0) = v) : IsBig (w.setCell ⟨b, 0, none⟩ (.bool v)) b (-z) := by
  have e0 : wd (-z) = wd z := by unfold wd; rw [Int.natAbs_neg]
  have k := blk_put (cs := #[Value.bool false, .slice A (ws (wd z)).length c]) h1 0 (.bool v) rfl
  have ne : ∀ a, A = some a → ¬ a.block = b := fun a ea e => by
    obtain ⟨arr, ha⟩ := h6 a ea
    rw [e, h1] at ha
    injection ha with ha
    injection ha with _ ha
    exact absurd ha (by decide)
  refine ⟨A, c, by rw [e0, hv]; exact k, by rw [e0]; exact h3, by rw [e0]; exact h4, ?_, ?_⟩
  · rw [e0]
    exact C_moved h5 (fun a ea => Below.heap_setCell _ _ _ _ (fun e => ne a ea e))
  · intro a ea
    obtain ⟨arr, ha⟩ := h6 a ea
    exact ⟨arr, (Below.heap_setCell _ _ _ _ (fun e => ne a ea e)).trans ha⟩
set_option maxHeartbeats 2000000 in
set_option maxRecDepth 100000 in
theorem neg_same (b : Nat) (z : Int) (hz : 0 ≤ z) (w : World) (hb : IsBig w b z) :
    Calls Tryz.prog 107 #[.pointer (some ⟨b, 0, none⟩), .pointer (some ⟨b, 0, none⟩)] w fun e w' => e = .returned (.pointer (some ⟨b, 0, none⟩)) ∧ Below b w w' ∧ IsBig w' b (-z) := by
  have ss := fun (w' : World) => set_same b w'
  obtain ⟨A, c, h1, h3, h4, h5, h6⟩ := hb
  have ng : decide (z < 0) = false := decide_eq_false (by omega)
  rw [ng] at h1
  have p0 := blk_cell h1 0
  have p1 := blk_cell h1 1
  have f0 := Lib.frozen_of_heap h1 0
  have H1 := Aside0.mk h1
  have WL := ws_len (wd z)
  have key : decide (-z < 0) = (decide (0 < ((ws (wd z)).length : Int))) := by
    have l : (wd z).length = 0 ↔ z = 0 := by
      constructor
      · intro h
        have h0 : wd z = [] := List.length_eq_zero_iff.1 h
        have v := Dg.val_dg z.natAbs
        unfold wd at h0
        rw [h0] at v
        have : z.natAbs = 0 := by simpa [Dg.val] using v.symm
        omega
      · rintro rfl
        have := wd_zero
        have e := congrArg List.length this
        rw [ws_len] at e
        exact e
    rw [WL]
    by_cases h : z = 0
    · rw [decide_eq_false (by omega), decide_eq_false (by have := l.2 h; omega)]
    · have h7 : (wd z).length ≠ 0 := fun e => h (l.1 e)
      rw [decide_eq_true (by omega), decide_eq_true (by omega)]
  have KEY := Aside0.mk key
  clear key h1
  go_enter Tryz.func107, Tryz.ntmps107
  go_wp2_with (first | (go_at_call 114; (with_reducible refine (ss _).mono ?_); rintro e w1 ⟨rfl, rfl⟩))
  all_goals
    go_ret
    refine ⟨rfl, (Below.refl b w1).setCell (p := ⟨b, 0, none⟩) (Nat.le_refl _) _, neg_put H1.out h3 h4 h5 h6 _ ?_⟩
    rw [KEY.out, WL]
    first
      | exact decide_eq_true (by omega)
      | exact decide_eq_false (by omega)
/-- The number that a sign and bytes tell. -/
def zOf (ng : Bool) (mg : ByteArray) : Int := if ng then -(Dg.be mg.toList : Int) else (Dg.be mg.toList : Int)
theorem bytes_row (w : World) (s : ByteArray) (hs : s.size ≤ 100000) : (Kd.int .u8).C (Lib.bytesWorld w 5 s) (some ⟨w.heap.size, 0, none⟩) s.toList.length (bi s.toList) := by
  have hl : s.toList.length = s.size := len_toList s
  have ed : s.toList = s.data.toList := Lib.toList_data s
  refine ⟨by rw [bi_len], by omega, fun _ => ⟨_, rfl, ?_⟩⟩
  intro j p hj
  have hlt : j < s.toList.length := by
    have := (List.getElem?_eq_some_iff.1 hj).1
    rwa [bi_len] at this
  have hp : p = ((s.toList[j]'hlt).toNat : Int) := by
    unfold bi at hj
    rw [List.getElem?_map, List.getElem?_eq_getElem hlt] at hj
    simpa using hj.symm
  refine ⟨[.int .u8 p], rfl, rfl, ?_⟩
  intro i u hu
  have hi : i = 0 := by
    have := (List.getElem?_eq_some_iff.1 hu).1
    simp at this
    exact this
  subst hi
  have hu' : u = .int .u8 p := by simpa using hu.symm
  rw [hu', hp]
  have c := Lib.bytesWorld_cell w 5 s j (by omega)
  have g : s.data.toList.getD j 0 = s.toList[j]'hlt := by
    rw [← ed, List.getD_eq_getElem?_getD, List.getElem?_eq_getElem hlt]
    rfl
  rw [g] at c
  show (Lib.bytesWorld w 5 s).cell? (Go.Addr.add _ (j * 1 + 0)) = _
  rw [Nat.mul_one, Nat.add_zero]
  unfold Go.Addr.add
  by_cases hz : j = 0
  · subst hz
    simpa using c
  · simpa [hz] using c
set_option maxRecDepth 100000 in
set_option maxHeartbeats 4000000 in
theorem zzBig_calls (ng : Bool) (mg : ByteArray) (w : World) (hs : mg.size ≤ 100000) :
    Calls Tryz.prog 96 #[.agg #[.bool ng, .string mg]] w fun e w' => ∃ p, e = .returned (.pointer (some ⟨p, 0, none⟩)) ∧ IsBig w' p (zOf ng mg) ∧ Below w.heap.size w w' := by
  have b2 := below_alloc (below_alloc (Below.refl w.heap.size w) (Obj.cells #[.bool ng, .string mg] 109)) (Obj.cells #[.bool false, .slice none 0 0] 117)
  have k1 : ((w.alloc (Obj.cells #[.bool ng, .string mg] 109)).alloc (Obj.cells #[.bool false, .slice none 0 0] 117)).heap[w.heap.size]? = some (Obj.cells #[.bool ng, .string mg] 109) := blk_alloc (blk_new w _) _
  have m1 : ((w.alloc (Obj.cells #[.bool ng, .string mg] 109)).alloc (Obj.cells #[.bool false, .slice none 0 0] 117)).heap[w.heap.size + 1]? = some (Obj.cells #[.bool false, .slice none 0 0] 117) := by
    have := blk_new (w.alloc (Obj.cells #[.bool ng, .string mg] 109)) (Obj.cells #[.bool false, .slice none 0 0] 117)
    simpa using this
  have hl : mg.toList.length = mg.size := len_toList mg
  obtain ⟨A, cp, W3, hcv, hb3, hr3, hc3⟩ : ∃ (A : Option Addr) (cp : Nat) (W3 : World), (convert 9 77 (.string mg)).run Tryz.prog ((w.alloc (Obj.cells #[.bool ng, .string mg] 109)).alloc (Obj.cells #[.bool false, .slice none 0 0] 117)) = .ok (.slice A mg.toList.length cp) W3 ∧ Below ((w.alloc (Obj.cells #[.bool ng, .string mg] 109)).alloc (Obj.cells #[.bool false, .slice none 0 0] 117)).heap.size ((w.alloc (Obj.cells #[.bool ng, .string mg] 109)).alloc (Obj.cells #[.bool false, .slice none 0 0] 117)) W3 ∧ (Kd.int .u8).C W3 A mg.toList.length (bi mg.toList) ∧ mg.toList.length ≤ cp := by
    have cv := Lib.run_convert_string_bytes ((w.alloc (Obj.cells #[.bool ng, .string mg] 109)).alloc (Obj.cells #[.bool false, .slice none 0 0] 117)) 9 77 5 mg Tryz.underlying9 Tryz.underlying77 Tryz.underlying5
    rw [← hl] at cv
    exact ⟨_, _, _, cv, bytes_below (Below.refl _ _) (Nat.le_refl _) _ _, bytes_row _ mg hs, by rw [hl]; exact grownCap_ge _ _ _ _⟩
  have k3 := (hb3.block _ (blk_lt k1)).trans k1
  have m3 := (hb3.block _ (blk_lt m1)).trans m1
  have sb := setBytesI_calls (w.heap.size + 1) mg.toList A cp W3 (by omega) hr3 hc3 m3
  clear hr3
  obtain ⟨n, en⟩ : ∃ n, n = mg.toList.length := ⟨_, rfl⟩
  rw [← en] at sb hcv
  have EN := Aside0.mk en
  clear en hl hc3
  have K3 := Aside0.mk k3
  have B3 := Aside0.mk (b2.trans (hb3.mono (by have := b2.size; omega)))
  have nz := fun (w' : World) (h : IsBig w' (w.heap.size + 1) (Dg.be mg.toList : Int)) => neg_same (w.heap.size + 1) (Dg.be mg.toList : Int) (by omega) w' h
  clear b2 k1 m1 hb3 k3 m3
  go_enter Tryz.func96, Tryz.ntmps96
  cases ng with
  | false =>
    go_wp2_with (first | (go_at_call 106; (with_reducible refine sb.mono ?_); rintro e w4 ⟨rfl, d4, hb4⟩; have q0 := blk_cell ((d4.block _ (Nat.lt_succ_self _)).trans K3.out) 0; have D4 := Aside0.mk (B3.out.trans (d4.mono (Nat.le_succ _))); have HB := Aside0.mk hb4; clear d4 hb4))
    go_ret
    exact ⟨_, rfl, HB.out, D4.out⟩
  | true =>
    go_wp2_with (first | (go_at_call 106; (with_reducible refine sb.mono ?_); rintro e w4 ⟨rfl, d4, hb4⟩; have q0 := blk_cell ((d4.block _ (Nat.lt_succ_self _)).trans K3.out) 0; have D4 := Aside0.mk (B3.out.trans (d4.mono (Nat.le_succ _))); have HB := Aside0.mk hb4; clear d4 hb4) | (go_at_call 107; (with_reducible refine (nz _ HB.out).mono ?_); rintro e w5 ⟨rfl, d5, hb5⟩; have D5 := Aside0.mk (D4.out.trans (d5.mono (Nat.le_succ _))); have HB5 := Aside0.mk hb5; clear d5 hb5))
    go_ret
    exact ⟨_, rfl, HB5.out, D5.out⟩
end Go.Proofs.YtdliagehkiihpaaGreatDoor.Giv
