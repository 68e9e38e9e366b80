/- The law FnRedHatSorted walked: a list put in order by insertion, then held against the reference, over contracts of what it calls. -/
import Derived.Test.YtehlakaccgccbaaDoorGivIns
import Derived.Test.YtehlakaccgccbaaDoorIns
import Derived.Deep.RegionHeld3
import Derived.Outline
namespace Go.Proofs.YtehlakaccgccbaaDoor.Giv
open Go.RowKit Go.Proofs.YtehlakaccgccbaaDoorW.PrintWords Go.Proofs.YtehlakaccgccbaaDoorW.PrintLast Go.Proofs.YtehlakaccgccbaaDoor.Pk Go.Proofs.YtehlakaccgccbaaDoor.Ord
set_option linter.unusedVariables false
set_option linter.unusedSimpArgs false
theorem ins_infoStr : (Tryd.prog.info? 9).map (fun i => (i.zero, i.size, i.bytes)) = some (some (.string ⟨#[]⟩), 1, 16) := by kernel_rfl
/-- A literal of one text. -/
theorem own_lit1 {t : Nat} (W : World) (s : ByteArray) : Kd.R Kd.string t (W.alloc (Obj.cells #[Value.string s] t)) W.heap.size (fun _ => True) (.slice (some ⟨W.heap.size, 0, none⟩) 1 1) [s] := by
  refine Kd.R_of_own (enc := Value.string) ⟨rfl, .inr ⟨W.heap.size, 1, #[Value.string s], rfl, Nat.le_refl _, blk_new W _, Nat.le_refl _, by decide, rfl, rfl⟩⟩ (fun _ _ => trivial)
set_option maxRecDepth 100000 in
set_option maxHeartbeats 8000000 in
theorem sorted_calls (l : List ByteArray) (A0 : Option Addr) (c0 : Nat) (w : World) (hr0 : Kd.C Kd.string w A0 l.length l) (hc0 : l.length ≤ c0) (fits small : Bool) (okS knS : ByteArray → Bool) (cmp : ByteArray → ByteArray → Int) (hcmp : Cmp cmp)
    (zf : ∀ w', Below w.heap.size w w' → Calls Tryd.prog 4 #[.slice A0 l.length c0] w' fun e w'' => e = .returned (.bool fits) ∧ Below w'.heap.size w' w'')
    (sh : fits = true → ∀ w', Below w.heap.size w w' → Calls Tryd.prog 5 #[.slice A0 l.length c0] w' fun e w'' => e = .returned (.bool small) ∧ Below w'.heap.size w' w'')
    (dp : fits = true → small = true → ∀ s ∈ l, ∀ w', Calls Tryd.prog 6 #[.string s, .string ⟨#[46, 95, 43, 45, 126, 94, 58]⟩] w' fun e w'' => e = .returned (.bool (okS s)) ∧ Below w'.heap.size w' w'')
    (kn : fits = true → small = true → ∀ s ∈ l, ∀ w', Calls Tryd.prog 7 #[.string s] w' fun e w'' => e = .returned (.bool (knS s)) ∧ Below w'.heap.size w' w'')
    (ic : fits = true → small = true → (∀ s ∈ l, okS s = true ∧ knS s = true) → ∀ x ∈ l, ∀ y ∈ l, ∀ w', Below w.heap.size w w' → Calls Tryd.prog 8 #[.string x, .string y] w' fun e w'' => e = .returned (.tuple #[.int .i64 (cmp x y), .bool true]) ∧ Below w'.heap.size w' w'')
    (sc : fits = true → small = true → (∀ s ∈ l, okS s = true ∧ knS s = true) → ∀ x ∈ l, ∀ y ∈ l, ∀ w', Below w.heap.size w w' → Calls Tryd.prog 9 #[.string x, .string y] w' fun e w'' => e = .returned (.tuple #[.int .i64 (cmp x y), .bool true]) ∧ Below w'.heap.size w' w'') :
    Calls Tryd.prog 3 #[.slice A0 l.length c0] w fun e w' => e = .returned (.bool true) ∧ Below w.heap.size w w' := by
  have HR0 := Aside0.mk hr0
  clear hr0
  cases fits with
  | false =>
    clear sh dp kn ic sc
    go_enter Tryd.func3, Tryd.ntmps3
    go_wp2_with (first | (go_at_call 4; (with_reducible refine (zf _ (Below.refl _ _)).mono ?_); rintro e w1 ⟨rfl, d1⟩; have D1 := Aside0.mk d1; clear d1 zf))
    go_ret
    exact ⟨rfl, D1.out⟩
  | true =>
    have SH0 := Aside0.mk (sh rfl)
    clear sh
    have sh := SH0.out
    clear SH0
    by_cases h14 : 14 < l.length
    · have f1 : (14 : Int) < (l.length : Int) := by omega
      clear sh dp kn ic sc h14
      go_enter Tryd.func3, Tryd.ntmps3
      go_wp2_with (first | (go_at_call 4; (with_reducible refine (zf _ (Below.refl _ _)).mono ?_); rintro e w1 ⟨rfl, d1⟩; have D1 := Aside0.mk d1; clear d1 zf))
      go_ret
      exact ⟨rfl, D1.out⟩
    have f1 : ¬ (14 : Int) < (l.length : Int) := by omega
    cases small with
    | false =>
      clear dp kn ic sc
      go_enter Tryd.func3, Tryd.ntmps3
      go_wp2_with (first | (go_at_call 4; (with_reducible refine (zf _ (Below.refl _ _)).mono ?_); rintro e w1 ⟨rfl, d1⟩; have D1 := Aside0.mk d1; clear d1 zf) | (go_at_call 5; (with_reducible refine (sh _ D1.out).mono ?_); rintro e w2 ⟨rfl, d2⟩; have D2 := Aside0.mk (below_then D1.out D1.out.size d2); clear d2 sh))
      go_ret
      exact ⟨rfl, D2.out⟩
    | true =>
      have DP := Aside0.mk (dp rfl rfl)
      have KN := Aside0.mk (kn rfl rfl)
      have IC := Aside0.mk (ic rfl rfl)
      have SC := Aside0.mk (sc rfl rfl)
      clear dp kn ic sc
      go_enter Tryd.func3, Tryd.ntmps3
      go_wp2_with (first | (go_at_call 4; (with_reducible refine (zf _ (Below.refl _ _)).mono ?_); rintro e w1 ⟨rfl, d1⟩; have D1 := Aside0.mk d1; clear d1 zf) | (go_at_call 5; (with_reducible refine (sh _ D1.out).mono ?_); rintro e w2 ⟨rfl, d2⟩; have D2 := Aside0.mk (below_then D1.out D1.out.size d2); clear d2 sh))
      go_loopw [28] (fun v28 wr => ∃ j : Nat, v28 = .int .i64 j ∧ j ≤ l.length ∧ (∀ s ∈ l.take j, okS s = true ∧ knS s = true) ∧ Below w.heap.size w wr) (fun v28 wr => l.length - (intOf v28).toNat)
      case atStart => exact ⟨0, rfl, Nat.zero_le _, by simp, D2.out⟩
      case round =>
        obtain ⟨j, rfl, hj, hgood, hbw⟩ := hrel
        have BL := Aside0.mk hbw
        clear hbw
        by_cases hlt : j < l.length
        · obtain ⟨ad, rfl, cx0⟩ := Kd.at_string (Kd.C_below HR0.out BL.out) (j : Int) (by omega) (by omega)
          rw [rdOf_nat _ _ j hlt, Int.toNat_natCast] at cx0
          have hm : l[j]'hlt ∈ l := List.getElem_mem hlt
          have dp := DP.out _ hm
          have kn := KN.out _ hm
          have GD := Aside0.mk (fun (h : okS (l[j]'hlt) = true ∧ knS (l[j]'hlt) = true) => show ∀ s ∈ l.take (j + 1), okS s = true ∧ knS s = true from fun s hs => by
            rw [List.take_succ_eq_append_getElem hlt] at hs
            rcases List.mem_append.1 hs with hs | hs
            · exact hgood s hs
            · rw [List.mem_singleton.1 hs]; exact h)
          generalize l[j]'hlt = s at *
          have wk : wrap64 ((j : Int) + 1) = ((j + 1 : Nat) : Int) := Pk.wr j (by omega)
          have g4 : (j : Int) < (l.length : Int) := Int.ofNat_lt.2 hlt
          have JL := Aside0.mk (show j + 1 ≤ l.length from hlt)
          clear hm hgood hj hlt
          cases ho : okS s with
          | false =>
            rw [ho] at dp
            clear kn GD ho
            go_wp2_with (first | (go_at_call 6; (with_reducible refine (dp _).mono ?_); rintro e w3 ⟨rfl, d3⟩; have D3 := Aside0.mk (below_then BL.out BL.out.size d3); clear d3 dp))
            go_ret
            exact ⟨rfl, D3.out⟩
          | true =>
            rw [ho] at dp
            cases hk : knS s with
            | false =>
              rw [hk] at kn
              clear GD ho hk
              go_wp2_with (first | (go_at_call 6; (with_reducible refine (dp _).mono ?_); rintro e w3 ⟨rfl, d3⟩; have D3 := Aside0.mk (below_then BL.out BL.out.size d3); clear d3 dp) | (go_at_call 7; (with_reducible refine (kn _).mono ?_); rintro e w4 ⟨rfl, d4⟩; have D4 := Aside0.mk (below_then D3.out D3.out.size d4); clear d4 kn))
              go_ret
              exact ⟨rfl, D4.out⟩
            | true =>
              rw [hk] at kn
              have G2 := Aside0.mk (GD.out ⟨ho, hk⟩)
              clear GD ho hk
              go_wp2_with (first | (go_at_call 6; (with_reducible refine (dp _).mono ?_); rintro e w3 ⟨rfl, d3⟩; have D3 := Aside0.mk (below_then BL.out BL.out.size d3); clear d3 dp) | (go_at_call 7; (with_reducible refine (kn _).mono ?_); rintro e w4 ⟨rfl, d4⟩; have D4 := Aside0.mk (below_then D3.out D3.out.size d4); clear d4 kn))
              go_roundw
              case rel => exact ⟨j + 1, rfl, JL.out, G2.out, D4.out⟩
              case measure =>
                have := JL.out
                simp only [intOf]
                omega
        · have ej : j = l.length := by omega
          subst ej
          rw [List.take_length] at hgood
          have IC := Aside0.mk (IC.out hgood)
          have SC := Aside0.mk (SC.out hgood)
          have g4 : ¬ (l.length : Int) < (l.length : Int) := by omega
          clear hgood hlt DP KN hj
          go_wp2_with fail
          clear g4
          obtain ⟨wa, rfl⟩ : ∃ wa : World, wa = wr := ⟨_, rfl⟩
          go_loopw [5, 43] (fun v5 v43 wi => ∃ j : Nat, v43 = .int .i64 j ∧ j ≤ l.length ∧ Kd.R Kd.string 9 wi w.heap.size (fun _ => True) v5 (Ins.sort cmp [] (l.take j)) ∧ Below w.heap.size w wi) (fun v5 v43 wi => l.length - (intOf v43).toNat)
          case atStart => exact ⟨0, rfl, Nat.zero_le _, Kd.R_nil _ _ _ _ _, BL.out⟩
          case round =>
            obtain ⟨j, rfl, hj, hrow, hbw⟩ := hrel
            have BL := Aside0.mk hbw
            obtain ⟨A, c, rfl, hcc, hC⟩ := Kd.R_reads hrow
            clear hbw hrow
            have hmem : ∀ x ∈ Ins.sort cmp [] (l.take j), x ∈ l := fun x hx => by
              rcases (Ins.sort_mem (l.take j) []).1 hx with h | h
              · exact absurd h (by simp)
              · exact List.mem_of_mem_take h
            have hlen : (Ins.sort cmp [] (l.take j)).length = j := by rw [Ins.sort_len, List.length_take]; simp; omega
            by_cases hlt : j < l.length
            · obtain ⟨ad, rfl, cx0⟩ := Kd.at_string (Kd.C_below HR0.out BL.out) (j : Int) (by omega) (by omega)
              rw [rdOf_nat _ _ j hlt, Int.toNat_natCast] at cx0
              have hm : l[j]'hlt ∈ l := List.getElem_mem hlt
              have ins := sort_snoc cmp [] (l.take j) (l[j]'hlt)
              rw [← List.take_succ_eq_append_getElem hlt] at ins
              generalize l[j]'hlt = s at *
              generalize Ins.sort cmp [] (l.take j) = out at *
              have CC := Aside0.mk hcc
              have HC := Aside0.mk hC
              have INS0 := Aside0.mk ins
              have JL := Aside0.mk (show j + 1 ≤ l.length from hlt)
              have J14 : j ≤ 14 := by omega
              have OL := Aside0.mk hlen
              have wk : wrap64 ((j : Int) + 1) = ((j + 1 : Nat) : Int) := Pk.wr j (by omega)
              have g4 : (j : Int) < (l.length : Int) := Int.ofNat_lt.2 hlt
              clear ins hcc hC hlt hj hlen
              go_wp2_with fail
              obtain ⟨wb, rfl⟩ : ∃ wb : World, wb = wr := ⟨_, rfl⟩
              go_loopw [8] (fun v8 wk => ∃ k : Nat, v8 = .int .i64 k ∧ k ≤ out.length ∧ (∀ (i : Nat) (x : ByteArray), i < k → out[i]? = some x → ¬ cmp x s > 0) ∧ Below wb.heap.size wb wk) (fun v8 wk => out.length - (intOf v8).toNat)
              case atStart => exact ⟨0, rfl, Nat.zero_le _, fun i x hi => absurd hi (Nat.not_lt_zero _), Below.refl _ _⟩
              case round =>
                obtain ⟨k, rfl, hk, hno, hbk⟩ := hrel
                have BK0 := Aside0.mk hbk
                have BK := Aside0.mk (below_then BL.out BL.out.size hbk)
                have CKb := Kd.C_below HC.out hbk
                have BSZ := Aside0.mk (show w.heap.size ≤ wr.heap.size from BK.out.size)
                have KL := Aside0.mk hk
                have k14 : k ≤ 14 := by have := OL.out; omega
                have NA := Aside0.mk (show A = none → k = 0 from fun e => by
                  rcases Nat.eq_zero_or_pos out.length with h | h
                  · omega
                  · obtain ⟨ad, e2, _⟩ := HC.out.2.2 h
                    rw [e] at e2
                    cases e2)
                have LIM1 := Aside0.mk (show (([s] : List ByteArray).length + (out.length - k)) * 16 ≤ 140737488355328 by
                  have := OL.out
                  simp
                  omega)
                have LIM2 := Aside0.mk (show (k + ([s] ++ out.drop k).length) * 16 ≤ 140737488355328 by
                  rw [List.length_append, List.length_drop]
                  have := OL.out
                  simp
                  omega)
                clear hbk
                by_cases hlk : k < out.length
                · obtain ⟨ad2, rfl, cy0⟩ := Kd.at_string CKb (k : Int) (by omega) (by omega)
                  rw [rdOf_nat _ _ k hlk, Int.toNat_natCast] at cy0
                  have CK := Aside0.mk CKb
                  have hx := hmem _ (List.getElem_mem hlk)
                  have ic := IC.out _ hx s hm
                  have NX := Aside0.mk (fun (h : ¬ cmp (out[k]'hlk) s > 0) => show ∀ (i : Nat) (x : ByteArray), i < k + 1 → out[i]? = some x → ¬ cmp x s > 0 from fun i x hi he => by
                    rcases Nat.lt_or_ge i k with h2 | h2
                    · exact hno i x h2 he
                    · obtain rfl : i = k := by omega
                      rw [List.getElem?_eq_getElem hlk] at he
                      rw [← Option.some.inj he]; exact h)
                  have PL := Aside0.mk (fun (h : cmp (out[k]'hlk) s > 0) => Ins.place_of cmp s out k hk hno (fun x he => by rw [List.getElem?_eq_getElem hlk] at he; rw [← Option.some.inj he]; exact h))
                  generalize out[k]'hlk = x at *
                  generalize cmp x s = r at *
                  have wk2 : wrap64 ((k : Int) + 1) = ((k + 1 : Nat) : Int) := Pk.wr k (by omega)
                  have g5 : (k : Int) < (out.length : Int) := Int.ofNat_lt.2 hlk
                  have KN2 := Aside0.mk (show k + 1 ≤ out.length from hlk)
                  have f5 : (k : Int) ≤ (out.length : Int) := by omega
                  have f6 : k ≤ c := Nat.le_trans KL.out CC.out
                  have f7 : k ≤ out.length := KL.out
                  clear hno hlk hk CKb hx
                  by_cases hr : r > 0
                  · have INS := Aside0.mk (show Ins.sort cmp [] (l.take (j + 1)) = out.take k ++ ([s] ++ out.drop k) by rw [INS0.out]; unfold Ins.ins; rw [PL.out hr]; rfl)
                    have hr2 : (0 : Int) < r := hr
                    clear NX PL hr
                    go_wp2_with (first | (go_at_call 8; (with_reducible refine (ic _ BK.out).mono ?_); rintro e w5 ⟨rfl, d5⟩; have D5x := Aside0.mk d5; have D5 := Aside0.mk (below_then BK0.out BK0.out.size d5); have D6 := Aside0.mk (below_then BK.out BK.out.size d5); clear d5 ic))
                    have CK := Aside0.mk (Kd.C_below CK.out D5x.out)
                    have CDX := Aside0.mk (show Kd.C Kd.string w5 (if c = k then some ad2 else some (ad2.add k)) (out.length - k) (out.drop k) by
                      have h := Kd.C_drop (k := Kd.string) CK.out KL.out CC.out
                      rw [List.length_drop] at h
                      have e : (if c = k then some ad2 else Option.map (fun x => x.add (k * Kd.string.sz)) (some ad2)) = (if c = k then some ad2 else some (ad2.add k)) := by
                        show (if c = k then some ad2 else some (ad2.add (k * 1))) = _
                        rw [Nat.mul_one]
                      rw [e] at h
                      exact h)
                    have BSZ := Aside0.mk D6.out.size
                    refine start_ (n := 12) (S := fun w' => True) (ds := []) #[false, false, false, false, false, false, false, false, false, false, false, false] (by kernel_rfl) rfl rfl trivial (fun hHeld => ?_)
                    refine pure_ (i := 0) (N := some 66) (v := ?_) (a' := ?_) #[true, false, false, false, false, false, false, false, false, false, false, false] rfl rfl (by kernel_rfl) (fun _ _ _ h => h) (Or.inl ⟨by rfl, ?_⟩) ?_ ?_
                    rotate_left
                    · intro w'
                      go_simp
                      with_reducible rfl
                    rotate_left
                    · simp only [Act.put, List.setIfInBounds_toArray, List.set_cons_zero, List.set_cons_succ, i64_w, i32_w]
                      rfl
                    refine pure_ (i := 1) (N := some 67) (v := ?_) (a' := ?_) #[true, true, false, false, false, false, false, false, false, false, false, false] rfl rfl (by kernel_rfl) (fun _ _ _ h => h) (Or.inl ⟨by rfl, ?_⟩) ?_ ?_
                    rotate_left
                    · intro w'
                      go_simp
                      with_reducible rfl
                    rotate_left
                    · simp only [Act.put, List.setIfInBounds_toArray, List.set_cons_zero, List.set_cons_succ, i64_w, i32_w]
                      rfl
                    refine pure_ (i := 2) (N := some 68) (v := ?_) (a' := ?_) #[true, true, true, false, false, false, false, false, false, false, false, false] rfl rfl (by kernel_rfl) (fun _ _ _ h => h) (Or.inl ⟨by rfl, ?_⟩) ?_ ?_
                    rotate_left
                    · intro w'
                      go_simp
                      with_reducible rfl
                    rotate_left
                    · simp only [Act.put, List.setIfInBounds_toArray, List.set_cons_zero, List.set_cons_succ, i64_w, i32_w]
                      rfl
                    refine pure_ (i := 3) (N := some 69) (v := ?_) (a' := ?_) #[true, true, true, true, false, false, false, false, false, false, false, false] rfl rfl (by kernel_rfl) (fun _ _ _ h => h) (Or.inl ⟨by rfl, ?_⟩) ?_ ?_
                    rotate_left
                    · intro w'
                      go_simp
                      with_reducible rfl
                    rotate_left
                    · simp only [Act.put, List.setIfInBounds_toArray, List.set_cons_zero, List.set_cons_succ, i64_w, i32_w]
                      rfl
                    refine pure_ (i := 4) (N := some 70) (v := ?_) (a' := ?_) #[true, true, true, true, true, false, false, false, false, false, false, false] rfl rfl (by kernel_rfl) (fun _ _ _ h => h) (Or.inl ⟨by rfl, ?_⟩) ?_ ?_
                    rotate_left
                    · intro w'
                      go_simp
                      with_reducible rfl
                    rotate_left
                    · simp only [Act.put, List.setIfInBounds_toArray, List.set_cons_zero, List.set_cons_succ, i64_w, i32_w]
                      rfl
                    refine pure_ (i := 6) (N := some 72) (v := ?_) (a' := ?_) #[true, true, true, true, true, false, true, false, false, false, false, false] rfl rfl (by kernel_rfl) (fun _ _ _ h => h) (Or.inl ⟨by rfl, ?_⟩) ?_ ?_
                    rotate_left
                    · intro w'
                      go_simp
                      with_reducible rfl
                    rotate_left
                    · simp only [Act.put, List.setIfInBounds_toArray, List.set_cons_zero, List.set_cons_succ, i64_w, i32_w]
                      rfl
                    refine pure_ (i := 7) (N := some 73) (v := ?_) (a' := ?_) #[true, true, true, true, true, false, true, true, false, false, false, false] rfl rfl (by kernel_rfl) (fun _ _ _ h => h) (Or.inl ⟨by rfl, ?_⟩) ?_ ?_
                    rotate_left
                    · intro w'
                      go_simp
                      with_reducible rfl
                    rotate_left
                    · simp only [Act.put, List.setIfInBounds_toArray, List.set_cons_zero, List.set_cons_succ, i64_w, i32_w]
                      rfl
                    refine pure_ (i := 8) (N := some 74) (v := ?_) (a' := ?_) #[true, true, true, true, true, false, true, true, true, false, false, false] rfl rfl (by kernel_rfl) (fun _ _ _ h => h) (Or.inl ⟨by rfl, ?_⟩) ?_ ?_
                    rotate_left
                    · intro w'
                      go_simp
                      with_reducible rfl
                    rotate_left
                    · simp only [Act.put, List.setIfInBounds_toArray, List.set_cons_zero, List.set_cons_succ, i64_w, i32_w]
                      rfl
                    refine one_ (i := 5) (N := some 71) #[true, true, true, true, true, true, true, true, true, false, false, false] rfl rfl (by kernel_rfl) (by decide) (fun K hK => ?_)
                    refine value_ (w1 := ?_) (v := ?_) (by rfl) rfl ?_ ?_
                    rotate_left 2
                    · go_simp
                      constructor
                      · rfl
                      · rfl
                    refine hK.out _ _ trivial (fun hHeld => ?_)
                    clear hK K
                    refine norm_ (a' := ?_) ?_ ?_
                    rotate_left
                    · show Act.put _ (some 71) _ = _
                      simp only [Act.put, List.setIfInBounds_toArray, List.set_cons_zero, List.set_cons_succ, i64_w, i32_w]
                      rfl
                    refine one_ (i := 9) (N := some 75) #[true, true, true, true, true, true, true, true, true, true, false, false] rfl rfl (by kernel_rfl) (by decide) (fun K hK => ?_)
                    have LT := Aside0.mk (own_lit1 (t := 9) w5.drew s)
                    have CD0 := Aside0.mk (show Kd.C Kd.string (w5.drew.alloc (Obj.cells #[Value.string s] 9)) (if c = k then some ad2 else some (ad2.add k)) (out.length - k) (out.drop k) from Kd.C_below CDX.out (below_alloc (Below.drew (Below.refl _ _)) _))
                    refine Kd.R_append_rows_step Kd.string (w0 := w5.drew) w5.drew.heap.size (by rfl) (.tmp 71) (.tmp 74) 22 9 (.string ⟨#[]⟩) 16 rfl Tryd.underlying22 ins_infoStr rfl (by decide) (by omega) (.slice (some ⟨w5.drew.heap.size, 0, none⟩) 1 1) [s] (out.drop k) (if c = k then some ad2 else some (ad2.add k)) (out.length - k) (c - k) (fun _ => True) (fun _ => False) rfl rfl LT.out CD0.out (fun _ _ h => h) (fun _ h => h.elim) (fun _ _ => trivial) (below_alloc (Below.refl _ _) _) (by simp) LIM1.out ?_
                    intro v1 w1 ho1 hb1 hg1 hat1
                    obtain ⟨A1, c1, rfl, hc1, hC1⟩ := Kd.R_reads ho1
                    have C1 := Aside0.mk hC1; have B1 := Aside0.mk (below_then (Below.drew (Below.refl w5.heap.size w5)) (Nat.le_refl _) hb1)
                    clear ho1 hb1 hg1 hat1 hC1
                    refine hK.out _ _ trivial (fun hHeld => ?_)
                    clear hK K
                    refine norm_ (a' := ?_) ?_ ?_
                    rotate_left
                    · show Act.put _ (some 75) _ = _
                      simp only [Act.put, List.setIfInBounds_toArray, List.set_cons_zero, List.set_cons_succ, i64_w, i32_w]
                      rfl
                    refine one_ (i := 10) (N := some 76) #[true, true, true, true, true, true, true, true, true, true, true, false] rfl rfl (by kernel_rfl) (by decide) (fun K hK => ?_)
                    refine appendFull_step (by rfl) (.tmp 69) (.tmp 75) 22 9 rfl Tryd.underlying22 ins_infoStr (some ad2) k (out.take k) ([s] ++ out.drop k) A1 ([s] ++ out.drop k).length c1 rfl rfl (by have := Kd.C_take (k := Kd.string) (Kd.C_below CK.out B1.out) KL.out; rw [List.length_take, Nat.min_eq_left KL.out] at this; exact this) (fun e => nomatch e) C1.out (by simp) LIM2.out ?_
                    intro v2 w2 ho2 hb2
                    have B2 := Aside0.mk (below_then B1.out B1.out.size hb2)
                    have O2 := Aside0.mk (Kd.R_lower ho2 (Nat.le_trans BSZ.out B1.out.size))
                    clear ho2 hb2
                    refine hK.out _ _ trivial (fun hHeld => ?_)
                    clear hK K
                    refine norm_ (a' := ?_) ?_ ?_
                    rotate_left
                    · show Act.put _ (some 76) _ = _
                      simp only [Act.put, List.setIfInBounds_toArray, List.set_cons_zero, List.set_cons_succ, i64_w, i32_w]
                      rfl
                    refine pure_ (i := 11) (N := some 5) (v := ?_) (a' := ?_) #[true, true, true, true, true, true, true, true, true, true, true, true] rfl rfl (by kernel_rfl) (fun _ _ _ h => h) (Or.inl ⟨by rfl, ?_⟩) ?_ ?_
                    rotate_left
                    · intro w'
                      go_simp
                      with_reducible rfl
                    rotate_left
                    · simp only [Act.put, List.setIfInBounds_toArray, List.set_cons_zero, List.set_cons_succ, i64_w, i32_w]
                      rfl
                    refine done_ (by kernel_rfl) ?_
                    go_wp2_with fail
                    go_roundw
                    case rel => exact ⟨j + 1, rfl, JL.out, by rw [INS.out]; exact O2.out, below_then D6.out D6.out.size B2.out⟩
                    case measure =>
                      have := JL.out
                      simp only [intOf]
                      omega
                  · have N2 := Aside0.mk (NX.out hr)
                    have hr2 : ¬ (0 : Int) < r := hr
                    clear NX PL hr
                    go_wp2_with (first | (go_at_call 8; (with_reducible refine (ic _ BK.out).mono ?_); rintro e w5 ⟨rfl, d5⟩; have D5x := Aside0.mk d5; have D5 := Aside0.mk (below_then BK0.out BK0.out.size d5); have D6 := Aside0.mk (below_then BK.out BK.out.size d5); clear d5 ic))
                    go_roundw
                    case rel => exact ⟨k + 1, rfl, KN2.out, fun i x hi he => by have := N2.out i x hi he; omega, D5.out⟩
                    case measure =>
                      have := KN2.out
                      simp only [intOf]
                      omega
                · have ek : k = out.length := by omega
                  have g5 : ¬ (k : Int) < (out.length : Int) := by omega
                  have f5 : (k : Int) ≤ (out.length : Int) := by omega
                  have f6 : k ≤ c := Nat.le_trans KL.out CC.out
                  have f7 : k ≤ out.length := KL.out
                  have INS := Aside0.mk (show Ins.sort cmp [] (l.take (j + 1)) = out.take k ++ ([s] ++ out.drop k) by
                    rw [INS0.out]
                    unfold Ins.ins
                    rw [Ins.place_of cmp s out k hk hno (fun x he => by rw [ek, List.getElem?_eq_none (Nat.le_refl _)] at he; cases he)]
                    rfl)
                  have CK := Aside0.mk CKb
                  clear hno hlk hk CKb ek
                  cases A with
                  | none =>
                    have CDX := Aside0.mk (show Kd.C Kd.string wr none (out.length - k) (out.drop k) by
                      have h := Kd.C_drop (k := Kd.string) CK.out KL.out CC.out
                      rw [List.length_drop] at h
                      have e : (if c = k then none else Option.map (fun x => x.add (k * Kd.string.sz)) (none : Option Addr)) = none := by split <;> rfl
                      rw [e] at h
                      exact h)
                    go_wp2_with fail
                    refine start_ (n := 12) (S := fun w' => True) (ds := []) #[false, false, false, false, false, false, false, false, false, false, false, false] (by kernel_rfl) rfl rfl trivial (fun hHeld => ?_)
                    refine pure_ (i := 0) (N := some 66) (v := ?_) (a' := ?_) #[true, false, false, false, false, false, false, false, false, false, false, false] rfl rfl (by kernel_rfl) (fun _ _ _ h => h) (Or.inl ⟨by rfl, ?_⟩) ?_ ?_
                    rotate_left
                    · intro w'
                      go_simp
                      with_reducible rfl
                    rotate_left
                    · simp only [Act.put, List.setIfInBounds_toArray, List.set_cons_zero, List.set_cons_succ, i64_w, i32_w]
                      rfl
                    refine pure_ (i := 1) (N := some 67) (v := ?_) (a' := ?_) #[true, true, false, false, false, false, false, false, false, false, false, false] rfl rfl (by kernel_rfl) (fun _ _ _ h => h) (Or.inl ⟨by rfl, ?_⟩) ?_ ?_
                    rotate_left
                    · intro w'
                      go_simp
                      with_reducible rfl
                    rotate_left
                    · simp only [Act.put, List.setIfInBounds_toArray, List.set_cons_zero, List.set_cons_succ, i64_w, i32_w]
                      rfl
                    refine pure_ (i := 2) (N := some 68) (v := ?_) (a' := ?_) #[true, true, true, false, false, false, false, false, false, false, false, false] rfl rfl (by kernel_rfl) (fun _ _ _ h => h) (Or.inl ⟨by rfl, ?_⟩) ?_ ?_
                    rotate_left
                    · intro w'
                      go_simp
                      with_reducible rfl
                    rotate_left
                    · simp only [Act.put, List.setIfInBounds_toArray, List.set_cons_zero, List.set_cons_succ, i64_w, i32_w]
                      rfl
                    refine pure_ (i := 3) (N := some 69) (v := ?_) (a' := ?_) #[true, true, true, true, false, false, false, false, false, false, false, false] rfl rfl (by kernel_rfl) (fun _ _ _ h => h) (Or.inl ⟨by rfl, ?_⟩) ?_ ?_
                    rotate_left
                    · intro w'
                      go_simp
                      with_reducible rfl
                    rotate_left
                    · simp only [Act.put, List.setIfInBounds_toArray, List.set_cons_zero, List.set_cons_succ, i64_w, i32_w]
                      rfl
                    refine pure_ (i := 4) (N := some 70) (v := ?_) (a' := ?_) #[true, true, true, true, true, false, false, false, false, false, false, false] rfl rfl (by kernel_rfl) (fun _ _ _ h => h) (Or.inl ⟨by rfl, ?_⟩) ?_ ?_
                    rotate_left
                    · intro w'
                      go_simp
                      with_reducible rfl
                    rotate_left
                    · simp only [Act.put, List.setIfInBounds_toArray, List.set_cons_zero, List.set_cons_succ, i64_w, i32_w]
                      rfl
                    refine pure_ (i := 6) (N := some 72) (v := ?_) (a' := ?_) #[true, true, true, true, true, false, true, false, false, false, false, false] rfl rfl (by kernel_rfl) (fun _ _ _ h => h) (Or.inl ⟨by rfl, ?_⟩) ?_ ?_
                    rotate_left
                    · intro w'
                      go_simp
                      with_reducible rfl
                    rotate_left
                    · simp only [Act.put, List.setIfInBounds_toArray, List.set_cons_zero, List.set_cons_succ, i64_w, i32_w]
                      rfl
                    refine pure_ (i := 7) (N := some 73) (v := ?_) (a' := ?_) #[true, true, true, true, true, false, true, true, false, false, false, false] rfl rfl (by kernel_rfl) (fun _ _ _ h => h) (Or.inl ⟨by rfl, ?_⟩) ?_ ?_
                    rotate_left
                    · intro w'
                      go_simp
                      with_reducible rfl
                    rotate_left
                    · simp only [Act.put, List.setIfInBounds_toArray, List.set_cons_zero, List.set_cons_succ, i64_w, i32_w]
                      rfl
                    refine pure_ (i := 8) (N := some 74) (v := ?_) (a' := ?_) #[true, true, true, true, true, false, true, true, true, false, false, false] rfl rfl (by kernel_rfl) (fun _ _ _ h => h) (Or.inl ⟨by rfl, ?_⟩) ?_ ?_
                    rotate_left
                    · intro w'
                      go_simp
                      with_reducible rfl
                    rotate_left
                    · simp only [Act.put, List.setIfInBounds_toArray, List.set_cons_zero, List.set_cons_succ, i64_w, i32_w]
                      rfl
                    refine one_ (i := 5) (N := some 71) #[true, true, true, true, true, true, true, true, true, false, false, false] rfl rfl (by kernel_rfl) (by decide) (fun K hK => ?_)
                    refine value_ (w1 := ?_) (v := ?_) (by rfl) rfl ?_ ?_
                    rotate_left 2
                    · go_simp
                      constructor
                      · rfl
                      · rfl
                    refine hK.out _ _ trivial (fun hHeld => ?_)
                    clear hK K
                    refine norm_ (a' := ?_) ?_ ?_
                    rotate_left
                    · show Act.put _ (some 71) _ = _
                      simp only [Act.put, List.setIfInBounds_toArray, List.set_cons_zero, List.set_cons_succ, i64_w, i32_w]
                      rfl
                    refine one_ (i := 9) (N := some 75) #[true, true, true, true, true, true, true, true, true, true, false, false] rfl rfl (by kernel_rfl) (by decide) (fun K hK => ?_)
                    have LT := Aside0.mk (own_lit1 (t := 9) wr.drew s)
                    have CD0 := Aside0.mk (show Kd.C Kd.string (wr.drew.alloc (Obj.cells #[Value.string s] 9)) none (out.length - k) (out.drop k) from Kd.C_below CDX.out (below_alloc (Below.drew (Below.refl _ _)) _))
                    refine Kd.R_append_rows_step Kd.string (w0 := wr.drew) wr.drew.heap.size (by rfl) (.tmp 71) (.tmp 74) 22 9 (.string ⟨#[]⟩) 16 rfl Tryd.underlying22 ins_infoStr rfl (by decide) (by omega) (.slice (some ⟨wr.drew.heap.size, 0, none⟩) 1 1) [s] (out.drop k) none (out.length - k) (c - k) (fun _ => True) (fun _ => False) rfl rfl LT.out CD0.out (fun _ _ h => h) (fun _ h => h.elim) (fun _ _ => trivial) (below_alloc (Below.refl _ _) _) (by simp) LIM1.out ?_
                    intro v1 w1 ho1 hb1 hg1 hat1
                    obtain ⟨A1, c1, rfl, hc1, hC1⟩ := Kd.R_reads ho1
                    have C1 := Aside0.mk hC1; have B1 := Aside0.mk (below_then (Below.drew (Below.refl wr.heap.size wr)) (Nat.le_refl _) hb1)
                    clear ho1 hb1 hg1 hat1 hC1
                    refine hK.out _ _ trivial (fun hHeld => ?_)
                    clear hK K
                    refine norm_ (a' := ?_) ?_ ?_
                    rotate_left
                    · show Act.put _ (some 75) _ = _
                      simp only [Act.put, List.setIfInBounds_toArray, List.set_cons_zero, List.set_cons_succ, i64_w, i32_w]
                      rfl
                    refine one_ (i := 10) (N := some 76) #[true, true, true, true, true, true, true, true, true, true, true, false] rfl rfl (by kernel_rfl) (by decide) (fun K hK => ?_)
                    refine appendFull_step (by rfl) (.tmp 69) (.tmp 75) 22 9 rfl Tryd.underlying22 ins_infoStr none k (out.take k) ([s] ++ out.drop k) A1 ([s] ++ out.drop k).length c1 rfl rfl (by have := Kd.C_take (k := Kd.string) (Kd.C_below CK.out B1.out) KL.out; rw [List.length_take, Nat.min_eq_left KL.out] at this; exact this) (fun _ => by first | exact NA.out trivial | exact NA.out rfl) C1.out (by simp) LIM2.out ?_
                    intro v2 w2 ho2 hb2
                    have B2 := Aside0.mk (below_then B1.out B1.out.size hb2)
                    have O2 := Aside0.mk (Kd.R_lower ho2 (Nat.le_trans BSZ.out B1.out.size))
                    clear ho2 hb2
                    refine hK.out _ _ trivial (fun hHeld => ?_)
                    clear hK K
                    refine norm_ (a' := ?_) ?_ ?_
                    rotate_left
                    · show Act.put _ (some 76) _ = _
                      simp only [Act.put, List.setIfInBounds_toArray, List.set_cons_zero, List.set_cons_succ, i64_w, i32_w]
                      rfl
                    refine pure_ (i := 11) (N := some 5) (v := ?_) (a' := ?_) #[true, true, true, true, true, true, true, true, true, true, true, true] rfl rfl (by kernel_rfl) (fun _ _ _ h => h) (Or.inl ⟨by rfl, ?_⟩) ?_ ?_
                    rotate_left
                    · intro w'
                      go_simp
                      with_reducible rfl
                    rotate_left
                    · simp only [Act.put, List.setIfInBounds_toArray, List.set_cons_zero, List.set_cons_succ, i64_w, i32_w]
                      rfl
                    refine done_ (by kernel_rfl) ?_
                    go_wp2_with fail
                    go_roundw
                    case rel => exact ⟨j + 1, rfl, JL.out, by rw [INS.out]; exact O2.out, below_then BK.out BK.out.size B2.out⟩
                    case measure =>
                      have := JL.out
                      simp only [intOf]
                      omega
                  | some ad2 =>
                    have CDX := Aside0.mk (show Kd.C Kd.string wr (if c = k then some ad2 else some (ad2.add k)) (out.length - k) (out.drop k) by
                      have h := Kd.C_drop (k := Kd.string) CK.out KL.out CC.out
                      rw [List.length_drop] at h
                      have e : (if c = k then some ad2 else Option.map (fun x => x.add (k * Kd.string.sz)) (some ad2)) = (if c = k then some ad2 else some (ad2.add k)) := by
                        show (if c = k then some ad2 else some (ad2.add (k * 1))) = _
                        rw [Nat.mul_one]
                      rw [e] at h
                      exact h)
                    go_wp2_with fail
                    refine start_ (n := 12) (S := fun w' => True) (ds := []) #[false, false, false, false, false, false, false, false, false, false, false, false] (by kernel_rfl) rfl rfl trivial (fun hHeld => ?_)
                    refine pure_ (i := 0) (N := some 66) (v := ?_) (a' := ?_) #[true, false, false, false, false, false, false, false, false, false, false, false] rfl rfl (by kernel_rfl) (fun _ _ _ h => h) (Or.inl ⟨by rfl, ?_⟩) ?_ ?_
                    rotate_left
                    · intro w'
                      go_simp
                      with_reducible rfl
                    rotate_left
                    · simp only [Act.put, List.setIfInBounds_toArray, List.set_cons_zero, List.set_cons_succ, i64_w, i32_w]
                      rfl
                    refine pure_ (i := 1) (N := some 67) (v := ?_) (a' := ?_) #[true, true, false, false, false, false, false, false, false, false, false, false] rfl rfl (by kernel_rfl) (fun _ _ _ h => h) (Or.inl ⟨by rfl, ?_⟩) ?_ ?_
                    rotate_left
                    · intro w'
                      go_simp
                      with_reducible rfl
                    rotate_left
                    · simp only [Act.put, List.setIfInBounds_toArray, List.set_cons_zero, List.set_cons_succ, i64_w, i32_w]
                      rfl
                    refine pure_ (i := 2) (N := some 68) (v := ?_) (a' := ?_) #[true, true, true, false, false, false, false, false, false, false, false, false] rfl rfl (by kernel_rfl) (fun _ _ _ h => h) (Or.inl ⟨by rfl, ?_⟩) ?_ ?_
                    rotate_left
                    · intro w'
                      go_simp
                      with_reducible rfl
                    rotate_left
                    · simp only [Act.put, List.setIfInBounds_toArray, List.set_cons_zero, List.set_cons_succ, i64_w, i32_w]
                      rfl
                    refine pure_ (i := 3) (N := some 69) (v := ?_) (a' := ?_) #[true, true, true, true, false, false, false, false, false, false, false, false] rfl rfl (by kernel_rfl) (fun _ _ _ h => h) (Or.inl ⟨by rfl, ?_⟩) ?_ ?_
                    rotate_left
                    · intro w'
                      go_simp
                      with_reducible rfl
                    rotate_left
                    · simp only [Act.put, List.setIfInBounds_toArray, List.set_cons_zero, List.set_cons_succ, i64_w, i32_w]
                      rfl
                    refine pure_ (i := 4) (N := some 70) (v := ?_) (a' := ?_) #[true, true, true, true, true, false, false, false, false, false, false, false] rfl rfl (by kernel_rfl) (fun _ _ _ h => h) (Or.inl ⟨by rfl, ?_⟩) ?_ ?_
                    rotate_left
                    · intro w'
                      go_simp
                      with_reducible rfl
                    rotate_left
                    · simp only [Act.put, List.setIfInBounds_toArray, List.set_cons_zero, List.set_cons_succ, i64_w, i32_w]
                      rfl
                    refine pure_ (i := 6) (N := some 72) (v := ?_) (a' := ?_) #[true, true, true, true, true, false, true, false, false, false, false, false] rfl rfl (by kernel_rfl) (fun _ _ _ h => h) (Or.inl ⟨by rfl, ?_⟩) ?_ ?_
                    rotate_left
                    · intro w'
                      go_simp
                      with_reducible rfl
                    rotate_left
                    · simp only [Act.put, List.setIfInBounds_toArray, List.set_cons_zero, List.set_cons_succ, i64_w, i32_w]
                      rfl
                    refine pure_ (i := 7) (N := some 73) (v := ?_) (a' := ?_) #[true, true, true, true, true, false, true, true, false, false, false, false] rfl rfl (by kernel_rfl) (fun _ _ _ h => h) (Or.inl ⟨by rfl, ?_⟩) ?_ ?_
                    rotate_left
                    · intro w'
                      go_simp
                      with_reducible rfl
                    rotate_left
                    · simp only [Act.put, List.setIfInBounds_toArray, List.set_cons_zero, List.set_cons_succ, i64_w, i32_w]
                      rfl
                    refine pure_ (i := 8) (N := some 74) (v := ?_) (a' := ?_) #[true, true, true, true, true, false, true, true, true, false, false, false] rfl rfl (by kernel_rfl) (fun _ _ _ h => h) (Or.inl ⟨by rfl, ?_⟩) ?_ ?_
                    rotate_left
                    · intro w'
                      go_simp
                      with_reducible rfl
                    rotate_left
                    · simp only [Act.put, List.setIfInBounds_toArray, List.set_cons_zero, List.set_cons_succ, i64_w, i32_w]
                      rfl
                    refine one_ (i := 5) (N := some 71) #[true, true, true, true, true, true, true, true, true, false, false, false] rfl rfl (by kernel_rfl) (by decide) (fun K hK => ?_)
                    refine value_ (w1 := ?_) (v := ?_) (by rfl) rfl ?_ ?_
                    rotate_left 2
                    · go_simp
                      constructor
                      · rfl
                      · rfl
                    refine hK.out _ _ trivial (fun hHeld => ?_)
                    clear hK K
                    refine norm_ (a' := ?_) ?_ ?_
                    rotate_left
                    · show Act.put _ (some 71) _ = _
                      simp only [Act.put, List.setIfInBounds_toArray, List.set_cons_zero, List.set_cons_succ, i64_w, i32_w]
                      rfl
                    refine one_ (i := 9) (N := some 75) #[true, true, true, true, true, true, true, true, true, true, false, false] rfl rfl (by kernel_rfl) (by decide) (fun K hK => ?_)
                    have LT := Aside0.mk (own_lit1 (t := 9) wr.drew s)
                    have CD0 := Aside0.mk (show Kd.C Kd.string (wr.drew.alloc (Obj.cells #[Value.string s] 9)) (if c = k then some ad2 else some (ad2.add k)) (out.length - k) (out.drop k) from Kd.C_below CDX.out (below_alloc (Below.drew (Below.refl _ _)) _))
                    refine Kd.R_append_rows_step Kd.string (w0 := wr.drew) wr.drew.heap.size (by rfl) (.tmp 71) (.tmp 74) 22 9 (.string ⟨#[]⟩) 16 rfl Tryd.underlying22 ins_infoStr rfl (by decide) (by omega) (.slice (some ⟨wr.drew.heap.size, 0, none⟩) 1 1) [s] (out.drop k) (if c = k then some ad2 else some (ad2.add k)) (out.length - k) (c - k) (fun _ => True) (fun _ => False) rfl rfl LT.out CD0.out (fun _ _ h => h) (fun _ h => h.elim) (fun _ _ => trivial) (below_alloc (Below.refl _ _) _) (by simp) LIM1.out ?_
                    intro v1 w1 ho1 hb1 hg1 hat1
                    obtain ⟨A1, c1, rfl, hc1, hC1⟩ := Kd.R_reads ho1
                    have C1 := Aside0.mk hC1; have B1 := Aside0.mk (below_then (Below.drew (Below.refl wr.heap.size wr)) (Nat.le_refl _) hb1)
                    clear ho1 hb1 hg1 hat1 hC1
                    refine hK.out _ _ trivial (fun hHeld => ?_)
                    clear hK K
                    refine norm_ (a' := ?_) ?_ ?_
                    rotate_left
                    · show Act.put _ (some 75) _ = _
                      simp only [Act.put, List.setIfInBounds_toArray, List.set_cons_zero, List.set_cons_succ, i64_w, i32_w]
                      rfl
                    refine one_ (i := 10) (N := some 76) #[true, true, true, true, true, true, true, true, true, true, true, false] rfl rfl (by kernel_rfl) (by decide) (fun K hK => ?_)
                    refine appendFull_step (by rfl) (.tmp 69) (.tmp 75) 22 9 rfl Tryd.underlying22 ins_infoStr (some ad2) k (out.take k) ([s] ++ out.drop k) A1 ([s] ++ out.drop k).length c1 rfl rfl (by have := Kd.C_take (k := Kd.string) (Kd.C_below CK.out B1.out) KL.out; rw [List.length_take, Nat.min_eq_left KL.out] at this; exact this) (fun e => nomatch e) C1.out (by simp) LIM2.out ?_
                    intro v2 w2 ho2 hb2
                    have B2 := Aside0.mk (below_then B1.out B1.out.size hb2)
                    have O2 := Aside0.mk (Kd.R_lower ho2 (Nat.le_trans BSZ.out B1.out.size))
                    clear ho2 hb2
                    refine hK.out _ _ trivial (fun hHeld => ?_)
                    clear hK K
                    refine norm_ (a' := ?_) ?_ ?_
                    rotate_left
                    · show Act.put _ (some 76) _ = _
                      simp only [Act.put, List.setIfInBounds_toArray, List.set_cons_zero, List.set_cons_succ, i64_w, i32_w]
                      rfl
                    refine pure_ (i := 11) (N := some 5) (v := ?_) (a' := ?_) #[true, true, true, true, true, true, true, true, true, true, true, true] rfl rfl (by kernel_rfl) (fun _ _ _ h => h) (Or.inl ⟨by rfl, ?_⟩) ?_ ?_
                    rotate_left
                    · intro w'
                      go_simp
                      with_reducible rfl
                    rotate_left
                    · simp only [Act.put, List.setIfInBounds_toArray, List.set_cons_zero, List.set_cons_succ, i64_w, i32_w]
                      rfl
                    refine done_ (by kernel_rfl) ?_
                    go_wp2_with fail
                    go_roundw
                    case rel => exact ⟨j + 1, rfl, JL.out, by rw [INS.out]; exact O2.out, below_then BK.out BK.out.size B2.out⟩
                    case measure =>
                      have := JL.out
                      simp only [intOf]
                      omega
            · have ej : j = l.length := by omega
              subst ej
              rw [List.take_length] at hmem hC hcc hlen ⊢
              have hsort := Ins.sort_sorted hcmp l [] List.Pairwise.nil
              generalize Ins.sort cmp [] l = out at *
              have HC := Aside0.mk hC
              have OL := Aside0.mk hlen
              have SO := Aside0.mk hsort
              have MM := Aside0.mk hmem
              have g4 : ¬ (l.length : Int) < (l.length : Int) := by omega
              clear hcc hlt hj hlen hsort hmem hC
              go_wp2_with fail
              clear g4
              obtain ⟨wb, rfl⟩ : ∃ wb : World, wb = wr := ⟨_, rfl⟩
              go_loopw [80] (fun v80 wi => ∃ i : Nat, v80 = .int .i64 i ∧ i ≤ out.length ∧ Below wb.heap.size wb wi) (fun v80 wi => out.length - (intOf v80).toNat)
              case atStart => exact ⟨0, rfl, Nat.zero_le _, Below.refl _ _⟩
              case round =>
                obtain ⟨i, rfl, hi, hbi⟩ := hrel
                have BI := Aside0.mk hbi
                clear hbi
                by_cases hlt : i < out.length
                · have g4 : (i : Int) < (out.length : Int) := Int.ofNat_lt.2 hlt
                  have i14 : i ≤ 14 := by have := OL.out; omega
                  have wk : wrap64 ((i : Int) + 1) = ((i + 1 : Nat) : Int) := Pk.wr i (by omega)
                  have IL := Aside0.mk hlt
                  have xi : out[i]? = some (out[i]'hlt) := List.getElem?_eq_getElem hlt
                  have mi := MM.out _ (List.getElem_mem hlt)
                  have ci := fun (w' : World) (h : Below wr.heap.size wr w') => (show Below wr.heap.size wr w' from h)
                  clear hi ci
                  go_wp2_with fail
                  obtain ⟨wd, rfl⟩ : ∃ wd : World, wd = wr := ⟨_, rfl⟩
                  go_loopw [12] (fun v12 wk => ∃ k : Nat, v12 = .int .i64 k ∧ k ≤ out.length ∧ i < k ∧ Below wb.heap.size wb wk) (fun v12 wk => out.length - (intOf v12).toNat)
                  case atStart => exact ⟨i + 1, rfl, IL.out, Nat.lt_succ_self _, BI.out⟩
                  case round =>
                    obtain ⟨k, rfl, hk, hik, hbk⟩ := hrel
                    have BK0 := Aside0.mk hbk
                    have BK := Aside0.mk (below_then BL.out BL.out.size hbk)
                    have CK := Kd.C_below HC.out hbk
                    clear hbk
                    by_cases hlk : k < out.length
                    · obtain ⟨ad2, rfl, cy0⟩ := Kd.at_string CK (k : Int) (by omega) (by omega)
                      obtain ⟨ad3, e3, cx0⟩ := Kd.at_string CK (i : Int) (by omega) (by omega)
                      obtain rfl := Option.some.inj e3
                      rw [rdOf_nat _ _ k hlk, Int.toNat_natCast] at cy0
                      rw [rdOf_nat _ _ i hlt, Int.toNat_natCast] at cx0
                      have le0 := Ins.sorted_at SO.out i k hik _ _ xi (List.getElem?_eq_getElem hlk)
                      have sc := SC.out _ mi _ (MM.out _ (List.getElem_mem hlk))
                      generalize out[i]'hlt = x at *
                      generalize out[k]'hlk = y at *
                      generalize cmp x y = r at *
                      have hr2 : ¬ (0 : Int) < r := by omega
                      have k14 : k ≤ 14 := by have := OL.out; omega
                      have wk2 : wrap64 ((k : Int) + 1) = ((k + 1 : Nat) : Int) := Pk.wr k (by omega)
                      have g5 : (k : Int) < (out.length : Int) := Int.ofNat_lt.2 hlk
                      have KL := Aside0.mk (show k + 1 ≤ out.length from hlk)
                      have IK := Aside0.mk (show i < k + 1 by omega)
                      clear hlk hk hik CK le0
                      go_wp2_with fail
                      go_region_with (go_at_call 9; (with_reducible refine (sc _ ?hb).mono ?_); (case hb => repeat (first | with_reducible exact BK.out | with_reducible apply Below.drew | apply pw_below_drewN | apply below_drew)); rintro e w6 ⟨rfl, d6⟩; have D7 := Aside0.mk (below_then (by repeat (first | with_reducible exact BK0.out | with_reducible apply Below.drew | apply pw_below_drewN)) (by exact BK0.out.size) d6); clear d6)
                      all_goals
                        go_wp2_with fail
                        go_roundw
                        case rel => exact ⟨k + 1, rfl, KL.out, IK.out, D7.out⟩
                        case measure =>
                          have := KL.out
                          simp only [intOf]
                          omega
                    · have g5 : ¬ (k : Int) < (out.length : Int) := by omega
                      clear hlk hk hik CK
                      go_wp2_with fail
                      go_roundw
                      case rel => exact ⟨i + 1, rfl, IL.out, BK0.out⟩
                      case measure =>
                        have := IL.out
                        simp only [intOf]
                        omega
                · have g4 : ¬ (i : Int) < (out.length : Int) := by omega
                  go_wp2_with fail
                  go_ret
                  exact ⟨rfl, below_then BL.out BL.out.size BI.out⟩
end Go.Proofs.YtehlakaccgccbaaDoor.Giv
