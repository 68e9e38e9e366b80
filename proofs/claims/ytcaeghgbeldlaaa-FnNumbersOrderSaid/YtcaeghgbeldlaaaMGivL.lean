/- Contracts by hand: rows of words: made, and without zeros at their end. -/
import Derived.Test.YtcaeghgbeldlaaaMGivN
namespace Go.Proofs.Ytcaeghgbeldlaaa.Giv
open Go.RowKit Go.Proofs.YtcaeghgbeldlaaaW.PrintWords Go.Proofs.YtcaeghgbeldlaaaW.PrintLast Go.Proofs.Ytcaeghgbeldlaaa.Pk Go.Proofs.Ytcaeghgbeldlaaa.Ord Go.Proofs.Ytcaeghgbeldlaaa.QM
set_option linter.unusedVariables false
set_option linter.unusedSimpArgs false

/-- A word as a value. -/
def wv (d : Nat) : Value := .int .u64 (d : Int)
/-- At block h lie c words' places; the first ones hold l. -/
def Lies (w : World) (h c : Nat) (l : List Nat) : Prop := ∃ arr : Array Value, w.heap[h]? = some (.cells arr 58 (0, 0)) ∧ arr.size = c ∧ l.length ≤ c ∧ arr.toList.take l.length = l.map wv
theorem Lies.below {w w' : World} {h c : Nat} {l : List Nat} (hl : Lies w h c l) (hb : Below w.heap.size w w') : Lies w' h c l := by
  obtain ⟨arr, h1, h2⟩ := hl
  exact ⟨arr, blk_below h1 hb, h2⟩
theorem Lies.cell {w : World} {h c : Nat} {l : List Nat} (hl : Lies w h c l) (i : Nat) (hi : i < l.length) : w.cell? ⟨h, i, none⟩ = some (wv (l[i]'hi)) := by
  obtain ⟨arr, h1, h2, h3, h4⟩ := hl
  rw [blk_cell h1 i]
  have : (arr.toList.take l.length)[i]? = (l.map wv)[i]? := by rw [h4]
  rw [List.getElem?_take, if_pos hi, List.getElem?_map, List.getElem?_eq_getElem hi] at this
  simpa using this
theorem Lies.set {w : World} {h c : Nat} {l : List Nat} (hl : Lies w h c l) (k : Nat) (hk : k < l.length) (d : Nat) : Lies (w.setCell ⟨h, k, none⟩ (.int .u64 (d : Int))) h c (l.set k d) := by
  obtain ⟨arr, h1, h2, h3, h4⟩ := hl
  refine ⟨_, blk_put h1 k _ rfl, by rw [Array.size_setIfInBounds]; exact h2, by rw [List.length_set]; exact h3, ?_⟩
  rw [Array.toList_setIfInBounds, List.length_set, List.map_set, ← h4, List.take_set]
  rfl
theorem Lies.row {w : World} {h c : Nat} {l : List Nat} (hl : Lies w h c l) (hm : l.length ≤ 1000000) : (Kd.int .u64).C w (some ⟨h, 0, none⟩) (ws l).length (ws l) := by
  refine ⟨rfl, by rw [ws_len]; omega, fun _ => ⟨_, rfl, ?_⟩⟩
  intro j p hj
  have hlt : j < (ws l).length := (List.getElem?_eq_some_iff.1 hj).1
  rw [ws_len] at hlt
  have hp : p = ((l[j]'hlt : Nat) : Int) := by
    have := hj
    unfold ws at this
    rw [List.getElem?_map, List.getElem?_eq_getElem hlt] at this
    simpa using this.symm
  refine ⟨[.int .u64 p], rfl, rfl, ?_⟩
  intro i u hu
  have hi : i = 0 := by
    have := (List.getElem?_eq_some_iff.1 hu).1
    simp at this
    exact this
  subst hi
  have hu' : u = .int .u64 p := by simpa using hu.symm
  rw [hu', hp]
  have := hl.cell j hlt
  show w.cell? (Go.Addr.add _ (j * 1 + 0)) = _
  rw [Nat.mul_one, Nat.add_zero]
  unfold Go.Addr.add
  by_cases hz : j = 0
  · subst hz
    simpa [wv] using this
  · simpa [hz, wv] using this
theorem made_toList (v : Value) : ∀ n : Nat, (madeCells #[v] n).toList = List.replicate n v := by
  intro n
  refine List.ext_getElem (by rw [Array.length_toList, size_madeCells, List.length_replicate]) ?_
  intro i h1 h2
  rw [List.getElem_replicate]
  simp [madeCells, Nat.mod_one]
theorem lies_new (w : World) (n c : Nat) (h : n ≤ c) : Lies (w.alloc (.cells (madeCells #[.int .u64 0] c) 58)) w.heap.size c (List.replicate n 0) := by
  refine ⟨_, blk_new _ _, size_madeCells _ _, by rw [List.length_replicate]; exact h, ?_⟩
  rw [made_toList, List.length_replicate, List.take_replicate, Nat.min_eq_left h, List.map_replicate]
  rfl
set_option maxHeartbeats 1000000 in
set_option maxRecDepth 100000 in
theorem make_calls (n : Nat) (w : World) (hn : n ≤ 100000) :
    Calls Try.prog 27 #[.slice none 0 0, .int .i64 n] w fun e w' => Below w.heap.size w w' ∧ ((n = 0 ∧ e = .returned (.slice none 0 0)) ∨ (0 < n ∧ ∃ h c, e = .returned (.slice (some ⟨h, 0, none⟩) n c) ∧ w.heap.size ≤ h ∧ h < w'.heap.size ∧ Lies w' h c (List.replicate n 0))) := by
  obtain ⟨i, hi, hs⟩ := Option.map_eq_some_iff.1 (show (Try.prog.info? 58).map (fun i => (i.zero, i.size, i.bytes)) = some (some (.int .u64 0), 1, 8) by kernel_rfl)
  have z1 : i.zero = some (.int .u64 0) := congrArg (fun p => p.1) hs
  have z2 : i.size = 1 := congrArg (fun p => p.2.1) hs
  have z3 : i.bytes = 8 := congrArg (fun p => p.2.2) hs
  have mk := fun (l c : Int) (h0 : 0 ≤ l) (h1 : l ≤ c) (h2 : c ≤ 200000) => run_makeSlice (P := Try.prog) w 47 58 i (.int .u64 0) Try.underlying47 hi z1 .i64 .i64 l c h0 h1 (by rw [z2]; omega) (by rw [z3]; omega) (by omega)
  go_enter Try.func27, Try.ntmps27
  by_cases h0 : n = 0
  · subst h0
    go_wp2_with fail
    go_ret
    exact ⟨Below.refl _ _, rfl⟩
  · by_cases h1 : n = 1
    · subst h1
      have mk1 := mk 1 1 (by omega) (by omega) (by omega)
      go_wp2_with fail
      go_ret
      exact ⟨below_alloc (Below.refl _ _) _, .inr ⟨by omega, _, 1, rfl, Nat.le_refl _, blk_lt (blk_new _ _), lies_new w 1 1 (by omega)⟩⟩
    · have c0 : ¬ ((n : Int) ≤ 0) := by omega
      have c1 : ¬ ((n : Int) = 1) := by omega
      have c2 : wrap64 ((n : Int) + 4) = (n : Int) + 4 := by unfold wrap64; omega
      have mk2 := mk n (n + 4) (by omega) (by omega) (by omega)
      go_wp2_with fail
      go_ret
      exact ⟨below_alloc (Below.refl _ _) _, by omega, _, n + 4, rfl, Nat.le_refl _, blk_lt (blk_new _ _), lies_new w n (n + 4) (by omega)⟩
set_option maxHeartbeats 1000000 in
theorem norm_calls (l : List Nat) (h c : Nat) (w : World) (hw : Dg.Words l) (hL : Lies w h c l) (hc : l.length ≤ c) (hm : l.length ≤ 100000) :
    Calls Try.prog 29 #[.slice (some ⟨h, 0, none⟩) l.length c] w fun e w' => e = .returned (.slice (some ⟨h, 0, none⟩) (Dg.dg (Dg.val l)).length c) ∧ w' = w := by
  go_enter Try.func29, Try.ntmps29
  go_wp2_with fail
  go_loop [3] (fun v3 => ∃ i : Nat, v3 = .int .i64 i ∧ i ≤ l.length ∧ ∀ d ∈ l.drop i, d = 0) (fun v3 => match v3 with | .int _ i => i.toNat | _ => 0)
  case atStart => exact ⟨l.length, rfl, Nat.le_refl _, by simp⟩
  case round =>
    obtain ⟨i, rfl, hi, hz⟩ := hrel
    cases i with
    | zero =>
      go_wp2_with fail
      go_ret
      have e := Dg.dg_take hw 0 (Nat.zero_le _) hz (by simp)
      rw [← e]
      exact ⟨rfl, rfl⟩
    | succ i =>
      have w1 : wrap64 (((i + 1 : Nat) : Int) - 1) = (i : Int) := by unfold wrap64; omega
      have g1 : ((i + 1 : Nat) : Int) > 0 := by omega
      have g2 : (0 : Int) ≤ (i : Int) := by omega
      have g3 : (i : Int) < (l.length : Int) := by omega
      have cell := hL.cell i (by omega)
      unfold wv at cell
      by_cases hd : l[i]'(by omega) = 0
      · have hd' : ((l[i]'(by omega) : Nat) : Int) = 0 := by omega
        rw [hd'] at cell
        go_wp2_with fail
        refine ⟨⟨i, rfl, by omega, ?_⟩, by show ((i : Nat) : Int).toNat < (((i + 1 : Nat) : Nat) : Int).toNat; omega⟩
        intro d hdm
        rw [List.drop_eq_getElem_cons (by omega : i < l.length)] at hdm
        rcases List.mem_cons.1 hdm with h | h
        · rw [h]
          exact hd
        · exact hz d h
      · have hd' : ¬ ((l[i]'(by omega) : Nat) : Int) = 0 := by omega
        go_wp2_with fail
        go_ret
        have e := Dg.dg_take hw (i + 1) hi hz (by
          intro x hx
          rw [List.take_succ_eq_append_getElem (by omega : i < l.length), List.getLast?_append] at hx
          simp at hx
          rw [← hx]
          exact hd)
        have e2 : (Dg.dg (Dg.val l)).length = i + 1 := by
          rw [← e, List.length_take]
          omega
        rw [e2]
        exact ⟨rfl, rfl⟩
/-- Of no words. -/
theorem norm_nil (w : World) : Calls Try.prog 29 #[.slice none 0 0] w fun e w' => e = .returned (.slice none 0 0) ∧ w' = w := by
  go_enter Try.func29, Try.ntmps29
  go_wp2_with fail
  go_loop [3] (fun v3 => v3 = .int .i64 0) (fun v3 => 0)
  case atStart => rfl
  case round =>
    obtain rfl := hrel
    go_wp2_with fail
    go_ret
    exact ⟨rfl, rfl⟩
/-- What the bytes are so far: k words of n. -/
def part (n k : Nat) (v : Nat) : List Nat := Dg.dn k v ++ List.replicate (n - k) 0
theorem part_len {n k : Nat} (h : k ≤ n) (v : Nat) : (part n k v).length = n := by
  unfold part
  rw [List.length_append, Dg.dn_len, List.length_replicate]
  omega
theorem part_next {n k : Nat} (h : k < n) (v : Nat) : (part n k v).set k (v / 18446744073709551616 ^ k % 18446744073709551616) = part n (k + 1) v := by
  unfold part
  rw [Dg.dn_snoc, List.append_assoc, show n - k = (n - (k + 1)) + 1 by omega, List.replicate_succ]
  rw [List.set_append_right _ _ (by rw [Dg.dn_len]; exact Nat.le_refl _), Dg.dn_len, Nat.sub_self]
  rfl
theorem part_words (n k v : Nat) : Dg.Words (part n k v) := by
  intro d hd
  rcases List.mem_append.1 hd with h | h
  · exact Dg.dn_words _ _ d h
  · rw [(List.mem_replicate.1 h).2]
    omega
theorem make_zero (w : World) : Calls Try.prog 27 #[.slice none 0 0, .int .i64 0] w fun e w' => e = .returned (.slice none 0 0) ∧ Below w.heap.size w w' := by
  refine (make_calls 0 w (by omega)).mono ?_
  rintro e w' ⟨hb, ⟨_, h⟩ | ⟨h, _⟩⟩
  · exact ⟨h, hb⟩
  · exact absurd h (by omega)
theorem make_pos (n : Nat) (w : World) (h0 : 0 < n) (hn : n ≤ 100000) : Calls Try.prog 27 #[.slice none 0 0, .int .i64 n] w fun e w' => ∃ h c, e = .returned (.slice (some ⟨h, 0, none⟩) n c) ∧ Below w.heap.size w w' ∧ w.heap.size ≤ h ∧ h < w'.heap.size ∧ Lies w' h c (List.replicate n 0) := by
  refine (make_calls n w hn).mono ?_
  rintro e w' ⟨hb, ⟨h, _⟩ | ⟨_, h, c, he, h1, h2, h3⟩⟩
  · exact absurd h (by omega)
  · exact ⟨h, c, he, hb, h1, h2, h3⟩
end Go.Proofs.Ytcaeghgbeldlaaa.Giv
