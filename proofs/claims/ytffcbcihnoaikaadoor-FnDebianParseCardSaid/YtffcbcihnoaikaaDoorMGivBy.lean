/- Contracts by hand: a whole number's bytes, its sign, both as plain data. -/
import Derived.Test.YtffcbcihnoaikaaDoorMGivBg
import Derived.Test.YtffcbcihnoaikaaDoorLb
import Derived.Outline
namespace Go.Proofs.YtffcbcihnoaikaaDoor.Giv
open Go.RowKit Go.Proofs.YtffcbcihnoaikaaDoorW.PrintWords Go.Proofs.YtffcbcihnoaikaaDoorW.PrintLast Go.Proofs.YtffcbcihnoaikaaDoor.Pk Go.Proofs.YtffcbcihnoaikaaDoor.Ord Go.Proofs.YtffcbcihnoaikaaDoor.QM
set_option linter.unusedVariables false
set_option linter.unusedSimpArgs false

/-- t bytes of a number, the lowest first. -/
def le : Nat → Nat → List Nat
  | 0, _ => []
  | t + 1, v => le t v ++ [v / 256 ^ t % 256]
theorem le_len (v : Nat) : ∀ t, (le t v).length = t
  | 0 => rfl
  | t + 1 => by rw [le, List.length_append, le_len v t]; rfl
theorem le_cons (v : Nat) : ∀ t, le (t + 1) v = v % 256 :: le t (v / 256)
  | 0 => by simp [le]
  | t + 1 => by
    rw [le, le_cons v t, le, List.cons_append, Nat.pow_succ, Nat.mul_comm, Nat.div_div_eq_div_mul]
theorem le_lb : ∀ (t v : Nat), v < 256 ^ t → le t v = Lb.lb v ++ List.replicate (t - (Lb.lb v).length) 0
  | 0, v, h => by
    have : v = 0 := by simpa using h
    rw [this, Lb.lb_zero]
    rfl
  | t + 1, v, h => by
    by_cases z : v = 0
    · subst z
      have ih := le_lb t 0 (Nat.pow_pos (by omega))
      rw [Lb.lb_zero, List.nil_append] at ih
      rw [le_cons, Nat.zero_div, ih, Lb.lb_zero, List.nil_append]
      simp [List.replicate_succ]
    · have ih := le_lb t (v / 256) (by rw [Nat.pow_succ] at h; omega)
      rw [le_cons, ih, Lb.lb_pos z, List.cons_append, List.length_cons, Nat.add_sub_add_right]
/-- A block of bytes. -/
def BufAt (w : World) (h : Nat) (L : List Nat) : Prop := ∃ arr, w.heap[h]? = some (Obj.cells arr 5 (0, 0)) ∧ arr.toList = L.map (fun d : Nat => Value.int .u8 (d : Int))
theorem BufAt.cell {w : World} {h : Nat} {L : List Nat} (hb : BufAt w h L) (i : Nat) (hi : i < L.length) : w.cell? ⟨h, i, none⟩ = some (.int .u8 ((L[i]'hi : Nat) : Int)) := by
  obtain ⟨arr, h1, h2⟩ := hb
  rw [blk_cell h1 i]
  have : arr.toList[i]? = some (.int .u8 ((L[i]'hi : Nat) : Int)) := by
    rw [h2, List.getElem?_map, List.getElem?_eq_getElem hi]
    rfl
  simpa using this
theorem BufAt.set {w : World} {h : Nat} {L : List Nat} (hb : BufAt w h L) (i d : Nat) : BufAt (w.setCell ⟨h, i, none⟩ (.int .u8 (d : Int))) h (L.set i d) := by
  obtain ⟨arr, h1, h2⟩ := hb
  refine ⟨_, blk_put h1 i _ rfl, ?_⟩
  rw [Array.toList_setIfInBounds, h2, List.map_set]
theorem BufAt.lt {w : World} {h : Nat} {L : List Nat} (hb : BufAt w h L) : h < w.heap.size := by
  obtain ⟨arr, h1, _⟩ := hb
  exact blk_lt h1
theorem BufAt.frozen {w : World} {h : Nat} {L : List Nat} (hb : BufAt w h L) (i : Nat) : w.frozen? ⟨h, i, none⟩ = false := by
  obtain ⟨arr, h1, _⟩ := hb
  exact Lib.frozen_of_heap h1 i
theorem buf_next (N t x : Nat) (h : t < N) (R : List Nat) : (List.replicate (N - t) 0 ++ R).set (N - t - 1) x = List.replicate (N - (t + 1)) 0 ++ x :: R := by
  rw [show N - t = (N - (t + 1)) + 1 by omega, show N - (t + 1) + 1 - 1 = N - (t + 1) by omega, List.replicate_succ', List.append_assoc, List.set_append_right _ _ (by rw [List.length_replicate]; exact Nat.le_refl _), List.length_replicate, Nat.sub_self]
  rfl
theorem byte_at (x j : Nat) (h : j < 8) : x % 18446744073709551616 / 256 ^ j % 256 = x / 256 ^ j % 256 := by
  have e : (18446744073709551616 : Nat) = 256 ^ j * 256 ^ (8 - j) := by
    rw [← Nat.pow_add, show j + (8 - j) = 8 by omega]
  rw [e, Nat.mod_mul_right_div_self]
  exact Nat.mod_mod_of_dvd _ (by
    rw [show 8 - j = (7 - j) + 1 by omega, Nat.pow_succ]
    exact Nat.dvd_mul_left _ _)
theorem le_word (v k j : Nat) (h : j < 8) : le (8 * k + j + 1) v = le (8 * k + j) v ++ [v / 18446744073709551616 ^ k % 18446744073709551616 / 256 ^ j % 256] := by
  rw [le, byte_at _ _ h, Dg.pow_B, Nat.div_div_eq_div_mul, ← Nat.pow_add]
theorem wrap_pred (q : Nat) (h : q < 4611686018427387904) : wrap64 (((q + 1 : Nat) : Int) - 1) = (q : Int) := by unfold wrap64; omega
theorem lb_last : ∀ V : Nat, V ≠ 0 → ∃ d r, (Lb.lb V).reverse = d :: r ∧ d ≠ 0 := by
  intro V
  induction V using Nat.strongRecOn with
  | _ V ih =>
    intro hz
    rw [Lb.lb_pos hz, List.reverse_cons]
    by_cases h : V / 256 = 0
    · rw [h, Lb.lb_zero]
      exact ⟨V % 256, [], rfl, by omega⟩
    · obtain ⟨d, r, e, hd⟩ := ih (V / 256) (by omega) h
      exact ⟨d, r ++ [V % 256], by rw [e]; rfl, hd⟩
theorem le_rev (n V : Nat) (h : V < 256 ^ n) : (le n V).reverse = List.replicate (n - (Lb.lb V).length) 0 ++ (Lb.lb V).reverse ∧ (Lb.lb V).length ≤ n := by
  have e := le_lb n V h
  have hl := congrArg List.length e
  rw [le_len, List.length_append, List.length_replicate] at hl
  refine ⟨?_, by omega⟩
  rw [e, List.reverse_append, List.reverse_replicate]
set_option maxRecDepth 100000 in
set_option maxHeartbeats 4000000 in
/-- The bytes of words are laid into a row of zeros; the place of the first one that is not 0. -/
theorem natBytes_calls (V : Nat) (xs : List Nat) (A : Option Addr) (m n c h : Nat) (w : World) (hx : xs.length = m) (hv : ∀ (k : Nat) (hk : k < xs.length), xs[k]'hk = V / 18446744073709551616 ^ k % 18446744073709551616) (hV : V < 256 ^ n) (hA : (Kd.int .u64).C w A m (ws xs)) (hc : m ≤ c) (hm : m ≤ 1000000) (hn : n = 8 * m) (hB : BufAt w h (List.replicate n 0)) (hne : ∀ a, A = some a → a.block ≠ h) :
    Calls Tryd.prog 62 #[.slice A m c, .slice (some ⟨h, 0, none⟩) n n] w fun e w' => e = .returned (.int .i64 ((n - (Lb.lb V).length : Nat) : Int)) ∧ BufAt w' h (le n V).reverse ∧ w.grownBy w' (some h) := by
  have HB := Aside0.mk hB
  have HV := Aside0.mk hV
  have HXv := Aside0.mk hv
  have HX := Aside0.mk hx
  have HN := Aside0.mk hn
  have nl : n ≤ 8000000 := by omega
  have WC : ∀ (k : Nat), k < m → ∃ ad, A = some ad ∧ ∀ w', w.grownBy w' (some h) → w'.cell? (ad.add k) = some (.int .u64 ((V / 18446744073709551616 ^ k % 18446744073709551616 : Nat) : Int)) := fun k hk => by
    obtain ⟨ad, e, c1⟩ := Kd.at_int hA (k : Int) (by omega) (by omega)
    refine ⟨ad, e, fun w' hg => hg.cell ?_ ?_⟩
    · rw [Int.toNat_natCast] at c1
      rw [c1, rd_nat _ _ (by rw [ws_len]; omega)]
      unfold ws
      simp only [List.getElem_map]
      rw [hv k (by omega)]
      rfl
    · rw [add_block]
      exact fun e2 => hne ad e (Option.some.inj e2)
  have HW := Aside0.mk WC
  clear hB hV hv hx hA hne WC hn
  go_enter Tryd.func62, Tryd.ntmps62
  go_wp2_with fail
  go_loopw [4, 12] (fun v4 v12 wr => ∃ k : Nat, v12 = .int .i64 k ∧ k ≤ m ∧ v4 = .int .i64 ((n - 8 * k : Nat) : Int) ∧ BufAt wr h (List.replicate (n - 8 * k) 0 ++ (le (8 * k) V).reverse) ∧ w.grownBy wr (some h)) (fun v4 v12 wr => m - (intOf v12).toNat)
  case atStart => exact ⟨0, rfl, Nat.zero_le _, rfl, by simpa [le] using HB.out, World.grownBy.refl _ _⟩
  case round =>
    obtain ⟨k, rfl, hk, rfl, hb, hg⟩ := hrel
    have HB1 := Aside0.mk hb
    have HG1 := Aside0.mk hg
    by_cases hlt : k < m
    · obtain ⟨ad, rfl, hw⟩ := HW.out k hlt
      have cw := hw _ hg
      obtain ⟨W, eW⟩ : ∃ W, W = V / 18446744073709551616 ^ k % 18446744073709551616 := ⟨_, rfl⟩
      rw [← eW] at cw
      have W64 := Aside0.mk (show W < 18446744073709551616 by rw [eW]; exact Nat.mod_lt _ (by decide))
      have EW := Aside0.mk eW
      have wk : wrap64 ((k : Int) + 1) = ((k + 1 : Nat) : Int) := Pk.wr k (by omega)
      have f4 : (k : Int) < (m : Int) := Int.ofNat_lt.2 hlt
      have KL := Aside0.mk hlt
      clear hw hb hg eW hlt
      go_wp2_with fail
      obtain ⟨wo, rfl⟩ : ∃ wo : World, wo = wr := ⟨_, rfl⟩
      go_loopw [4, 6, 7] (fun v4 v6 v7 wr => ∃ j p : Nat, v7 = .int .i64 j ∧ j ≤ 8 ∧ p + (8 * k + j) = n ∧ v4 = .int .i64 (p : Int) ∧ v6 = .int .u64 ((W / 256 ^ j : Nat) : Int) ∧ BufAt wr h (List.replicate p 0 ++ (le (8 * k + j) V).reverse) ∧ w.grownBy wr (some h)) (fun v4 v6 v7 wr => 8 - (intOf v7).toNat)
      case atStart => exact ⟨0, n - 8 * k, rfl, by omega, by have := KL.out; have := HN.out; omega, rfl, by simp, HB1.out, HG1.out⟩
      case round =>
        obtain ⟨j, p, rfl, hj, hp, rfl, rfl, hb, hg⟩ := hrel
        have HB2 := Aside0.mk hb
        have HG2 := Aside0.mk hg
        by_cases h8 : j < 8
        · obtain ⟨q, rfl⟩ : ∃ q, p = q + 1 := ⟨p - 1, by have := KL.out; have := HN.out; omega⟩
          have hq : q < (List.replicate (q + 1) 0 ++ (le (8 * k + j) V).reverse).length := by rw [List.length_append, List.length_replicate]; omega
          have cq := hb.cell q hq
          have fq := hb.frozen q
          obtain ⟨d, ed⟩ : ∃ d, d = W / 256 ^ j := ⟨_, rfl⟩
          rw [← ed]
          have DL := Aside0.mk (show (d : Int) < 18446744073709551616 from Int.ofNat_lt.2 (Nat.lt_of_le_of_lt (by rw [ed]; exact Nat.div_le_self _ _) W64.out))
          have nx := hb.set q (d % 256)
          have bn := buf_next n (8 * k + j) (d % 256) (by omega) (le (8 * k + j) V).reverse
          rw [show n - (8 * k + j) = q + 1 by omega, show q + 1 - 1 = q by omega, show n - (8 * k + j + 1) = q by omega] at bn
          have lw := le_word V k j h8
          rw [← EW.out, ← ed] at lw
          have ND := Aside0.mk (show BufAt (wr.setCell ⟨h, q, none⟩ (.int .u8 ((d : Int) % 256))) h (List.replicate q 0 ++ (le (8 * k + j + 1) V).reverse) by
            rw [lw, List.reverse_append]
            have e2 : [d % 256].reverse ++ (le (8 * k + j) V).reverse = d % 256 :: (le (8 * k + j) V).reverse := rfl
            rw [e2, ← bn]
            exact nx)
          have sh : d / 256 = W / 256 ^ (j + 1) := by rw [ed, Nat.pow_succ, Nat.div_div_eq_div_mul]
          have SH := Aside0.mk sh
          clear nx bn lw sh hb hg ed
          have qb : q < 4611686018427387904 := by omega
          have g1 : (0 : Int) ≤ (q : Int) := by omega
          have g2 : (q : Int) < (n : Int) := by omega
          have g3 : (j : Int) < 8 := by omega
          have P2 := Aside0.mk (show q + (8 * k + (j + 1)) = n by omega)
          have jb : j < 4611686018427387904 := by omega
          have w1 : wrap64 (((q + 1 : Nat) : Int) - 1) = (q : Int) := wrap_pred q qb
          have w2 : wrap64 ((j : Int) + 1) = ((j + 1 : Nat) : Int) := Pk.wr j jb
          clear hp
          have dl := DL.out
          go_wp2_with fail
          exact ⟨⟨j + 1, q, by simp, by omega, P2.out, rfl, by rw [← SH.out, Int.natCast_ediv]; rfl, ND.out, grown_set HG2.out q _⟩, by simp only [intOf]; omega⟩
        · have j8 : j = 8 := by omega
          subst j8
          have EP := Aside0.mk (show n - 8 * (k + 1) = p by omega)
          have KP := Aside0.mk (show 8 * k + 8 = 8 * (k + 1) by omega)
          have KM := Aside0.mk (show k + 1 ≤ m from KL.out)
          clear hb hg hp h8
          go_wp2_with fail
          refine ⟨⟨k + 1, by simp, KM.out, by rw [EP.out], by rw [EP.out, ← KP.out]; exact HB2.out, HG2.out⟩, by simp only [intOf]; have := KM.out; omega⟩
    · have km : k = m := by omega
      have e0 : n - 8 * k = 0 := by have := HN.out; omega
      have e1 : 8 * k = n := by have := HN.out; omega
      rw [e1, show n - n = 0 by omega, List.replicate_zero, List.nil_append] at hb
      obtain ⟨lr, ll⟩ := le_rev n V HV.out
      have HB3 := Aside0.mk hb
      obtain ⟨z, ez⟩ : ∃ z, z = n - (Lb.lb V).length := ⟨_, rfl⟩
      rw [← ez] at lr
      have lrl := congrArg List.length lr
      rw [List.length_reverse, le_len, List.length_append, List.length_replicate] at lrl
      have zn : z ≤ n := by omega
      have LR := Aside0.mk lr
      have LL := Aside0.mk ll
      have EZ := Aside0.mk ez
      have f4 : ¬ (k : Int) < (m : Int) := by omega
      rw [e0]
      clear hb hg e0 e1 lr ll ez lrl hlt HB1
      go_wp2_with fail
      go_loop [4] (fun v4 => ∃ i : Nat, v4 = .int .i64 i ∧ i ≤ z) (fun v4 => z - (intOf v4).toNat)
      case atStart => exact ⟨0, rfl, Nat.zero_le _⟩
      case round =>
        obtain ⟨i, rfl, hi⟩ := hrel
        by_cases hz : i < z
        · have hin : i < (le n V).reverse.length := by rw [List.length_reverse, le_len]; omega
          have ci := HB3.out.cell i hin
          have vi : (le n V).reverse[i]'hin = 0 := by
            have e : (le n V).reverse[i]? = some 0 := by
              rw [LR.out, List.getElem?_append_left (by rw [List.length_replicate]; exact hz), List.getElem?_replicate, if_pos hz]
            rw [List.getElem?_eq_getElem hin] at e
            exact Option.some.inj e
          rw [vi] at ci
          have g1 : (0 : Int) ≤ (i : Int) := by omega
          have g2 : (i : Int) < (n : Int) := by omega
          have w1 : wrap64 ((i : Int) + 1) = ((i + 1 : Nat) : Int) := Pk.wr i (by omega)
          clear vi
          go_wp2_with fail
          exact ⟨⟨i + 1, by simp, hz⟩, by simp only [intOf]; omega⟩
        · have iz : i = z := by omega
          by_cases hin : i < n
          · have hin' : i < (le n V).reverse.length := by rw [List.length_reverse, le_len]; exact hin
            have ci := HB3.out.cell i hin'
            have hV0 : V ≠ 0 := fun e => by
              have := EZ.out
              rw [e, Lb.lb_zero, List.length_nil] at this
              omega
            obtain ⟨d, r, ed, hd⟩ := lb_last V hV0
            have vi : (le n V).reverse[i]'hin' = d := by
              have e : (le n V).reverse[i]? = some d := by
                rw [LR.out, List.getElem?_append_right (by rw [List.length_replicate]; omega), List.length_replicate, iz, Nat.sub_self, ed]
                rfl
              rw [List.getElem?_eq_getElem hin'] at e
              exact Option.some.inj e
            rw [vi] at ci
            have nd : ((d : Int) == 0) = false := beq_eq_false_iff_ne.2 (by omega)
            have g1 : (0 : Int) ≤ (i : Int) := by omega
            have g2 : (i : Int) < (n : Int) := by omega
            have IZ := Aside0.mk iz
            clear vi ed hd hV0 iz
            go_wp2_with fail
            go_ret
            exact ⟨by rw [← EZ.out, ← IZ.out]; rfl, HB3.out, HG1.out⟩
          · have g2 : ¬ (i : Int) < (n : Int) := by omega
            have IZ := Aside0.mk iz
            clear iz
            go_wp2_with fail
            go_ret
            exact ⟨by rw [← EZ.out, ← IZ.out]; rfl, HB3.out, HG1.out⟩
theorem dg_get (v : Nat) : ∀ (k : Nat) (hk : k < (Dg.dg v).length), (Dg.dg v)[k]'hk = v / 18446744073709551616 ^ k % 18446744073709551616 := by
  induction v using Nat.strongRecOn with
  | _ v ih =>
    intro k hk
    by_cases h : v = 0
    · subst h
      rw [Dg.dg_zero] at hk
      simp at hk
    · have e := Dg.dg_pos h
      have e2 : (Dg.dg v)[k]? = (v % 18446744073709551616 :: Dg.dg (v / 18446744073709551616))[k]? := by rw [← e]
      rw [List.getElem?_eq_getElem hk] at e2
      cases k with
      | zero =>
        simp at e2
        rw [e2]
        simp
      | succ k =>
        have hk2 : k < (Dg.dg (v / 18446744073709551616)).length := by
          rw [e, List.length_cons] at hk
          omega
        rw [List.getElem?_cons_succ, List.getElem?_eq_getElem hk2] at e2
        rw [Option.some.inj e2, ih _ (by omega) k hk2, Nat.div_div_eq_div_mul, Nat.pow_succ, Nat.mul_comm (18446744073709551616 ^ k)]
theorem dg_lt (v : Nat) : v < 256 ^ (8 * (Dg.dg v).length) := by
  have h1 := Dg.val_lt (Dg.dg_words v)
  rwa [Dg.val_dg, Dg.pow_B] at h1
/-- A number's bytes as whole numbers, the highest first. -/
def mgi (v : Nat) : List Int := (Lb.lb v).reverse.map Int.ofNat
theorem mgi_str (v : Nat) : strOfNums (mgi v) = bs (Lb.mag v) := by
  unfold strOfNums bs Lb.mag mgi
  rw [List.map_map]
  rfl
theorem buf_row {w : World} {h : Nat} {L : List Nat} (hb : BufAt w h L) (hm : L.length ≤ 9000000) : (Kd.int .u8).C w (some ⟨h, 0, none⟩) (L.map Int.ofNat).length (L.map Int.ofNat) := by
  refine ⟨rfl, by rw [List.length_map]; omega, fun _ => ⟨_, rfl, ?_⟩⟩
  intro j p hj
  rw [List.getElem?_map] at hj
  obtain ⟨d, hd, rfl⟩ := Option.map_eq_some_iff.1 hj
  obtain ⟨hlt, rfl⟩ := List.getElem?_eq_some_iff.1 hd
  refine ⟨[.int .u8 (Int.ofNat (L[j]'hlt))], rfl, rfl, ?_⟩
  intro i u hu
  have hi : i = 0 := by
    have := (List.getElem?_eq_some_iff.1 hu).1
    simp at this
    exact this
  subst hi
  have hu' : u = .int .u8 (Int.ofNat (L[j]'hlt)) := by simpa using hu.symm
  rw [hu']
  have := hb.cell j hlt
  show w.cell? (Go.Addr.add _ (j * 1 + 0)) = _
  rw [Nat.mul_one, Nat.add_zero]
  unfold Go.Addr.add
  by_cases hz : j = 0
  · subst hz
    simpa using this
  · simpa [hz] using this
theorem buf_made (w : World) (n : Nat) : BufAt (w.alloc (.cells (madeCells #[.int .u8 0] n) 5)) w.heap.size (List.replicate n 0) := by
  refine ⟨_, blk_new _ _, ?_⟩
  rw [made_toList, List.map_replicate]
  rfl
set_option maxRecDepth 100000 in
set_option maxHeartbeats 4000000 in
theorem bytes_calls (z : Int) (b : Nat) (w : World) (hb : IsBig w b z) :
    Calls Tryd.prog 50 #[.pointer (some ⟨b, 0, none⟩)] w fun e w' => ∃ A c, e = .returned (.slice A (mgi z.natAbs).length c) ∧ (Kd.int .u8).C w' A (mgi z.natAbs).length (mgi z.natAbs) ∧ Below w.heap.size w w' := by
  obtain ⟨A, c, h1, h3, h4, h5, h6⟩ := hb
  obtain ⟨i, hi, hs⟩ := Option.map_eq_some_iff.1 (show (Tryd.prog.info? 5).map (fun i => (i.zero, i.size, i.bytes)) = some (some (.int .u8 0), 1, 1) by kernel_rfl)
  have z1 : i.zero = some (.int .u8 0) := congrArg (fun p => p.1) hs
  have z2 : i.size = 1 := congrArg (fun p => p.2.1) hs
  have z3 : i.bytes = 1 := congrArg (fun p => p.2.2) hs
  obtain ⟨m, em⟩ : ∃ m, m = (ws (wd z)).length := ⟨_, rfl⟩
  have lenm : (wd z).length = m := by rw [em, ws_len]
  obtain ⟨n, en⟩ : ∃ n, n = 8 * m := ⟨_, rfl⟩
  rw [← em] at h1 h3 h4 h5
  have hV : z.natAbs < 256 ^ n := by
    have := dg_lt z.natAbs
    rw [en, ← lenm]
    exact this
  have mk := run_makeSlice (P := Tryd.prog) w 70 5 i (.int .u8 0) Tryd.underlying70 hi z1 .i64 .i64 (n : Int) (n : Int) (by omega) (by omega) (by rw [z2]; omega) (by rw [z3]; omega) (by omega)
  rw [z2, Int.toNat_natCast, Nat.mul_one] at mk
  have nb := fun (w' : World) (hA : (Kd.int .u64).C w' A m (ws (wd z))) (hB : BufAt w' w.heap.size (List.replicate n 0)) (hne : ∀ a, A = some a → a.block ≠ w.heap.size) =>
    natBytes_calls z.natAbs (wd z) A m n c w.heap.size w' lenm (fun k hk => dg_get z.natAbs k hk) hV hA h3 h4 en hB hne
  have b1 := blk_cell h1 1
  have al := below_alloc (Below.refl w.heap.size w) (.cells (madeCells #[.int .u8 0] n) 5)
  have nb1 := nb _ (Kd.C_below h5 al) (buf_made w n) (fun a e => by
    obtain ⟨arr, ha⟩ := h6 a e
    exact Nat.ne_of_lt (blk_lt ha))
  have b2 := blk_cell (blk_below h1 al) 1
  have w8 : wrap64 ((m : Int) * 8) = (n : Int) := by unfold wrap64; omega
  obtain ⟨lr, ll⟩ := le_rev n z.natAbs hV
  obtain ⟨j, ij, z4⟩ := Option.map_eq_some_iff.1 (show (Tryd.prog.info? 5).map (fun i => i.size) = some 1 by kernel_rfl)
  have li : ((le n z.natAbs).reverse.map Int.ofNat).length = n := by rw [List.length_map, List.length_reverse, le_len]
  obtain ⟨A', r1, r2, r3⟩ := print_drop_of (P := Tryd.prog) (Value.int .u8) (0 : Int) 70 5 .i64 Tryd.underlying70 ij z4 (some ⟨w.heap.size, 0, none⟩) n ((le n z.natAbs).reverse.map Int.ofNat) ((n - (Lb.lb z.natAbs).length : Nat) : Int) (by omega) (by rw [li]; omega) (by rw [li]; exact Nat.le_refl _)
  have dm : ((le n z.natAbs).reverse.map Int.ofNat).drop (n - (Lb.lb z.natAbs).length) = mgi z.natAbs := by
    rw [lr, List.map_append, List.drop_left' (by rw [List.length_map, List.length_replicate])]
    rfl
  rw [Int.toNat_natCast, dm, li] at r1
  rw [Int.toNat_natCast, dm] at r2
  have R2 := Aside0.mk r2
  have NL := Aside0.mk (show n ≤ 9000000 by omega)
  have AL := Aside0.mk al
  have LI := Aside0.mk li
  clear nb h1 h3 h4 h5 h6 en em lenm hV lr ll r2 r3 dm hi ij al li
  generalize (n - (Lb.lb z.natAbs).length : Nat) = q at *
  go_enter Tryd.func50, Tryd.ntmps50
  go_wp2_with (first | (go_at_call 62; (with_reducible refine nb1.mono ?_); rintro e w2 ⟨rfl, q2, g2⟩; have Q2 := Aside0.mk q2; have G2 := Aside0.mk g2; clear q2 g2))
  go_ret
  refine ⟨A', _, rfl, Kd.C_of_reads (R2.out _ (Kd.reads_of_C (buf_row Q2.out (by rw [List.length_reverse, le_len]; exact NL.out)))), AL.out.trans (below_row G2.out (Nat.le_refl _) AL.out.size)⟩
def sgz (z : Int) : Int := if z < 0 then -1 else if z = 0 then 0 else 1
theorem wd_ne {z : Int} (h : z ≠ 0) : 0 < (ws (wd z)).length := by
  rw [ws_len]
  refine List.length_pos_iff.2 (fun e => h ?_)
  have := Dg.dg_nil e
  omega
set_option maxHeartbeats 1000000 in
theorem sign_calls (z : Int) (b : Nat) (w : World) (hb : IsBig w b z) :
    Calls Tryd.prog 49 #[.pointer (some ⟨b, 0, none⟩)] w fun e w' => e = .returned (.int .i64 (sgz z)) ∧ Drawn0 w w' := by
  obtain ⟨A, c, h1, h3, h4, h5, h6⟩ := hb
  have b0 := blk_cell h1 0
  have b1 := blk_cell h1 1
  by_cases hz : z = 0
  · have lz : ((ws (wd z)).length : Int) = 0 := by rw [hz, wd_zero]; rfl
    have le0 : (((ws (wd z)).length : Int) == 0) = true := beq_iff_eq.2 lz
    have SZ := Aside0.mk (show sgz z = 0 by rw [hz]; rfl)
    clear hz h1 h3 h4 h5 h6 lz
    generalize (ws (wd z)).length = m at *
    go_enter Tryd.func49, Tryd.ntmps49
    go_wp2_with fail
    go_ret
    exact ⟨by rw [SZ.out]; rfl, Drawn0.refl _⟩
  · have lz : ¬ ((ws (wd z)).length : Int) = 0 := by have := wd_ne hz; omega
    have le0 : (((ws (wd z)).length : Int) == 0) = false := beq_eq_false_iff_ne.2 lz
    by_cases hn : z < 0
    · have SZ := Aside0.mk (show sgz z = -1 by unfold sgz; rw [if_pos hn])
      have b0' : w.cell? ⟨b, 0, none⟩ = some (.bool true) := by rw [b0]; simp [hn]
      clear hz h1 h3 h4 h5 h6 lz hn b0
      generalize (ws (wd z)).length = m at *
      go_enter Tryd.func49, Tryd.ntmps49
      go_wp2_with fail
      go_ret
      exact ⟨by rw [SZ.out]; rfl, Drawn0.refl _⟩
    · have SZ := Aside0.mk (show sgz z = 1 by unfold sgz; rw [if_neg hn, if_neg hz])
      have b0' : w.cell? ⟨b, 0, none⟩ = some (.bool false) := by rw [b0]; simp [hn]
      clear hz h1 h3 h4 h5 h6 lz hn b0
      generalize (ws (wd z)).length = m at *
      go_enter Tryd.func49, Tryd.ntmps49
      go_wp2_with fail
      go_ret
      exact ⟨by rw [SZ.out]; rfl, Drawn0.refl _⟩
set_option maxHeartbeats 1000000 in
set_option maxRecDepth 100000 in
/-- A number as plain data: whether it is below 0, and its bytes. -/
theorem plain_calls (z : Int) (b : Nat) (w : World) (hb : IsBig w b z) :
    Calls Tryd.prog 32 #[.pointer (some ⟨b, 0, none⟩)] w fun e w' => e = .returned (.agg #[.bool (decide (z < 0)), .string (bs (Lb.mag z.natAbs))]) ∧ Below w.heap.size w w' := by
  have sg := fun (w' : World) (h : Below w.heap.size w w') => sign_calls z b w' (hb.below h)
  have by_ := fun (w' : World) (h : Below w.heap.size w w') => bytes_calls z b w' (hb.below h)
  have al := below_alloc (Below.refl w.heap.size w) (Obj.cells #[Value.bool false, Value.string ⟨#[]⟩] 45)
  have AL := Aside0.mk al
  have lt : decide (sgz z < 0) = decide (z < 0) := by
    unfold sgz
    by_cases h1 : z < 0
    · rw [if_pos h1, decide_eq_true h1]
      rfl
    · rw [if_neg h1, decide_eq_false h1]
      split <;> rfl
  have MS := Aside0.mk (mgi_str z.natAbs)
  have K0 := Aside0.mk (blk_new w (Obj.cells #[Value.bool false, Value.string ⟨#[]⟩] 45))
  have LT := Aside0.mk (blk_lt K0.out)
  clear al hb
  generalize sgz z = s at *
  go_enter Tryd.func32, Tryd.ntmps32
  go_wp2_with (first | (go_at_call 49; (with_reducible refine (sg _ AL.out).mono ?_); rintro e w1 ⟨rfl, d1⟩; have D1 := Aside0.mk (below_then AL.out AL.out.size d1.below); have K1 := Aside0.mk ((d1.below.block _ LT.out).trans K0.out); clear d1) | (go_at_call 50; (with_reducible refine (by_ _ D1.out).mono ?_); rintro e w2 ⟨A2, c2, rfl, r2, d2⟩; have kc := Kd.C_string (P := Tryd.prog) (src := 70) (e := 5) (dst := 9) (c := c2) Tryd.underlying70 Tryd.underlying5 Tryd.underlying9 r2; rw [MS.out] at kc; have D2 := Aside0.mk (below_then D1.out D1.out.size d2); have k2 := (d2.block _ (blk_lt K1.out)).trans K1.out; have p0 := blk_cell k2 0; have p1 := blk_cell k2 1; have f0 := Lib.frozen_of_heap k2 0; have f1 := Lib.frozen_of_heap k2 1; have K2 := Aside0.mk k2; clear d2 r2 k2))
  refine bodyPost_ret (results_cell_row rfl _ _ w.heap.size 45 #[.bool (decide (z < 0)), .string (bs (Lb.mag z.natAbs))] (0, 0) _ rfl (blk_put (cs := #[.bool (decide (z < 0)), .string (⟨#[]⟩ : ByteArray)]) (blk_put (cs := #[.bool false, .string (⟨#[]⟩ : ByteArray)]) K2.out 0 _ rfl) 1 _ rfl) Tryd.underlying45 rfl (by kernel_rfl)) rfl ?_
  exact ⟨rfl, (D2.out.setCell (Nat.le_refl _) _).setCell (Nat.le_refl _) _⟩
end Go.Proofs.YtffcbcihnoaikaaDoor.Giv
