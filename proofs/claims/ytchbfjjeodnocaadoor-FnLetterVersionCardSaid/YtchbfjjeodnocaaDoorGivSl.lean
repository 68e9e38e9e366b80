/- Contract by hand: spec.lower: a text with small letters in the place of great ones. -/
import Derived.Test.YtchbfjjeodnocaaDoorGivLc
import Derived.Lib.ConvBytes
namespace Go.Proofs.YtchbfjjeodnocaaDoor.Giv
open Go.RowKit Go.Proofs.YtchbfjjeodnocaaDoorW.PrintWords Go.Proofs.YtchbfjjeodnocaaDoorW.PrintLast Go.Proofs.YtchbfjjeodnocaaDoor.Pk
set_option linter.unusedSimpArgs false
set_option linter.unusedVariables false

/-- A byte as a value. -/
def bv (c : UInt8) : Value := .int .u8 (c.toNat : Int)
/-- At block h lie a text's bytes, as a conversion laid them: nothing before the row's end is frozen. -/
def LiesT (w : World) (h : Nat) (l : List UInt8) : Prop := ∃ (arr : Array Value), w.heap[h]? = some (.cells arr 5 (arr.size, arr.size + 1)) ∧ l.length ≤ arr.size ∧ arr.toList.take l.length = l.map bv
theorem LiesT.cell {w : World} {h : Nat} {l : List UInt8} (hl : LiesT w h l) (i : Nat) (hi : i < l.length) : w.cell? ⟨h, i, none⟩ = some (.int .u8 ((l[i]'hi).toNat : Int)) := by
  obtain ⟨arr, h1, h2, h4⟩ := hl
  rw [Lib.cell_of_heap h1]
  have : (arr.toList.take l.length)[i]? = (l.map bv)[i]? := by rw [h4]
  rw [List.getElem?_take, if_pos hi, List.getElem?_map, List.getElem?_eq_getElem hi] at this
  simpa [bv] using this
theorem LiesT.frozen {w : World} {h : Nat} {l : List UInt8} (hl : LiesT w h l) (i : Nat) (hi : i < l.length) : w.frozen? ⟨h, i, none⟩ = false := by
  obtain ⟨arr, h1, h2, h4⟩ := hl
  have : i < arr.size := by omega
  simp [World.frozen?, h1]
  omega
theorem LiesT.set {w : World} {h : Nat} {l : List UInt8} (hl : LiesT w h l) (k : Nat) (hk : k < l.length) (c : UInt8) (ci : Int) (hc : ci = c.toNat) : LiesT (w.setCell ⟨h, k, none⟩ (.int .u8 ci)) h (l.set k c) := by
  obtain ⟨arr, h1, h2, h4⟩ := hl
  subst hc
  refine ⟨arr.setIfInBounds k (bv c), ?_, by rw [List.length_set, Array.size_setIfInBounds]; exact h2, ?_⟩
  · rw [Array.size_setIfInBounds]
    simp only [World.setCell, Array.getElem?_modify, h1]
    simp [bv]
  · rw [Array.toList_setIfInBounds, List.length_set, List.map_set, ← h4, List.take_set]
theorem LiesT.row {w : World} {h : Nat} {l : List UInt8} (hl : LiesT w h l) (hm : l.length ≤ 1000000) : (Kd.int .u8).C w (some ⟨h, 0, none⟩) l.length (l.map fun c => (c.toNat : Int)) := by
  refine ⟨by simp, by omega, fun _ => ⟨_, rfl, ?_⟩⟩
  intro j p hj
  have hlt : j < l.length := by
    have := (List.getElem?_eq_some_iff.1 hj).1
    simpa using this
  have hp : p = ((l[j]'hlt).toNat : Int) := by
    rw [List.getElem?_map, List.getElem?_eq_getElem hlt] at hj
    simpa using hj.symm
  refine ⟨[.int .u8 p], rfl, rfl, ?_⟩
  intro i u hu
  have hi : i = 0 := by
    have := (List.getElem?_eq_some_iff.1 hu).1
    simp at this
    exact this
  subst hi
  have hu' : u = .int .u8 p := by simpa using hu.symm
  rw [hu', hp]
  have := hl.cell j hlt
  show w.cell? (Go.Addr.add _ (j * 1 + 0)) = _
  rw [Nat.mul_one, Nat.add_zero]
  unfold Go.Addr.add
  by_cases hz : j = 0
  · subst hz
    simpa using this
  · simpa [hz] using this
theorem lies_conv (w : World) (s : ByteArray) : LiesT (Lib.bytesWorld w 5 s) w.heap.size s.data.toList := by
  refine ⟨_, Lib.bytesWorld_at_new w _ s, ?_, ?_⟩
  · simp [Lib.bytesCells]
  · rw [Lib.bytesCells, Array.toList_append, List.take_append_of_le_length (by simp), Array.toList_map, List.take_of_length_le (by simp)]
    rfl
/-- Small letters up to a place. -/
def lowTo (k : Nat) (l : List UInt8) : List UInt8 := (l.take k).map Lib.lowerB ++ l.drop k
theorem lowTo_len (k : Nat) (l : List UInt8) : (lowTo k l).length = l.length := by
  simp [lowTo]
  omega
theorem lowTo_at {k : Nat} {l : List UInt8} (h : k < l.length) : (lowTo k l)[k]'(by rw [lowTo_len]; exact h) = l[k]'h := by
  unfold lowTo
  rw [List.getElem_append_right (by simp; omega)]
  simp [show min k l.length = k by omega]
theorem lowTo_next {k : Nat} {l : List UInt8} (h : k < l.length) : (lowTo k l).set k (Lib.lowerB (l[k]'h)) = lowTo (k + 1) l := by
  unfold lowTo
  have e : ((l.take k).map Lib.lowerB).length = k := by simp; omega
  rw [List.set_append_right _ _ (by rw [e]; exact Nat.le_refl _), e, Nat.sub_self, List.drop_eq_getElem_cons h, List.set_cons_zero, List.take_succ_eq_append_getElem h, List.map_append, List.append_assoc]
  rfl
theorem lowTo_same {k : Nat} {l : List UInt8} (h : k < l.length) (hn : Lib.isUpperB (l[k]'h) = false) : lowTo k l = lowTo (k + 1) l := by
  rw [← lowTo_next h, Lib.lowerB_of_not _ hn]
  refine (List.ext_getElem (by simp) ?_)
  intro i h1 h2
  rw [List.getElem_set]
  split
  · next e =>
    subst e
    exact lowTo_at h
  · rfl
theorem lowTo_all (l : List UInt8) : lowTo l.length l = Lib.toLowerA l := by
  unfold lowTo Lib.toLowerA
  simp
theorem strOf_low (l : List UInt8) : strOfNums ((Lib.toLowerA l).map fun c => (c.toNat : Int)) = ⟨(Lib.toLowerA l).toArray⟩ := by
  unfold strOfNums
  rw [List.map_map]
  congr 1
  simp [Function.comp_def]
set_option maxHeartbeats 2000000 in
set_option maxRecDepth 100000 in
theorem specLower_calls (s : ByteArray) (w : World) (hs : s.size ≤ 100000) :
    Calls Tryd.prog 82 #[.string s] w fun e w' => e = .returned (.string (low s)) ∧ Below w.heap.size w w' := by
  have len : s.data.toList.length = s.size := (Lib.size_eq s).symm
  obtain ⟨cp, W3, hcv, hb3, hl3⟩ : ∃ (cp : Nat) (W3 : World), (convert 9 145 (.string s)).run Tryd.prog w = .ok (.slice (some ⟨w.heap.size, 0, none⟩) s.size cp) W3 ∧ Below w.heap.size w W3 ∧ LiesT W3 w.heap.size s.data.toList := ⟨_, _, Lib.run_convert_string_bytes w 9 145 5 s Tryd.underlying9 Tryd.underlying145 Tryd.underlying5, bytes_below (Below.refl _ _) (Nat.le_refl _) _ _, lies_conv w s⟩
  have B3 := Aside0.mk hb3
  have L3 := Aside0.mk hl3
  have LEN := Aside0.mk len
  clear hb3 hl3 len
  go_enter Tryd.func82, Tryd.ntmps82
  go_wp2_with fail
  go_loopw [4] (fun v4 wr => ∃ k : Nat, v4 = .int .i64 k ∧ k ≤ s.size ∧ Aside0 (LiesT wr w.heap.size (lowTo k s.data.toList)) ∧ Aside0 (Below w.heap.size w wr)) (fun v4 wr => s.size - (match v4 with | .int _ n => n.toNat | _ => 0))
  case atStart => exact ⟨0, rfl, Nat.zero_le _, L3, B3⟩
  case round =>
    obtain ⟨k, rfl, hk, HL, HB⟩ := hrel
    by_cases hlt : k < s.size
    · have hk' : k < s.data.toList.length := by rw [LEN.out]; exact hlt
      have hk2 : k < (lowTo k s.data.toList).length := by rw [lowTo_len]; exact hk'
      have hcell := HL.out.cell k hk2
      rw [lowTo_at hk'] at hcell
      have hfrz := HL.out.frozen k hk2
      have hi : (k : Int) < (s.size : Int) := by omega
      have hw : wrap64 ((k : Int) + 1) = ((k + 1 : Nat) : Int) := by unfold wrap64; omega
      have HN := Aside0.mk (fun h => lowTo_same (l := s.data.toList) hk' h)
      have HU := Aside0.mk (lowTo_next (l := s.data.toList) hk')
      have HS := fun (ci : Int) hc => HL.out.set k hk2 (Lib.lowerB (s.data.toList[k]'hk')) ci hc
      have up := Lib.isUpperB_int (s.data.toList[k]'hk')
      have lo := Lib.lowerB_int (s.data.toList[k]'hk')
      generalize s.data.toList[k]'hk' = c at *
      by_cases hu : Lib.isUpperB c = true
      · rw [hu] at up
        have up2 := up.symm
        rw [Bool.and_eq_true, decide_eq_true_eq, decide_eq_true_eq] at up2
        have u1 := up2.1
        have u2 := up2.2
        have hw8 : IntKind.u8.wrap ((c.toNat : Int) + 32) = (c.toNat : Int) + 32 := by
          simp [IntKind.wrap, IntKind.bits, IntKind.signed]
          omega
        have SET := Aside0.mk (HS ((c.toNat : Int) + 32) (lo hu).symm)
        clear HS lo up up2
        go_wp2_with fail
        refine ⟨⟨k + 1, ?_, by omega, ?_, ?_⟩, ?_⟩
        · go_num
        · rw [← HU.out]
          exact SET
        · exact Aside0.mk (HB.out.setCell (p := ⟨w.heap.size, k, none⟩) (Nat.le_refl _) _)
        · simp
          omega
      · have hu' : Lib.isUpperB c = false := by simpa using hu
        rw [hu'] at up
        have nu : ¬ ((65 : Int) ≤ (c.toNat : Int) ∧ (c.toNat : Int) ≤ 90) := by
          have := up.symm
          simpa using this
        have HE := Aside0.mk (HN.out hu')
        clear HS lo up
        go_wp2_with fail
        all_goals first
          | (exfalso; omega)
          | exact ⟨⟨k + 1, by go_num, by omega, Aside0.mk (HE.out ▸ HL.out), HB⟩, by simp; omega⟩
    · obtain rfl : k = s.size := by omega
      have row := HL.out
      rw [← LEN.out, lowTo_all] at row
      have ll : (Lib.toLowerA s.data.toList).length = s.size := by unfold Lib.toLowerA; rw [List.length_map, LEN.out]
      have C := row.row (by rw [ll]; omega)
      rw [ll] at C
      have cs := Kd.C_string (P := Tryd.prog) (src := 145) (e := 5) (dst := 9) (c := cp) Tryd.underlying145 Tryd.underlying5 Tryd.underlying9 C
      rw [strOf_low] at cs
      have hi : ¬ (s.size : Int) < (s.size : Int) := by omega
      clear row C
      go_wp2_with fail
      go_ret
      exact ⟨rfl, HB.out⟩
def spec_lower.f (a0 : ByteArray) : Option ByteArray := if a0.size ≤ 100000 then some (low a0) else none
theorem spec_lower.calls (a0 : ByteArray) (r : ByteArray) (w : World) (h : spec_lower.f a0 = some r) :
    Calls Tryd.prog 82 #[.string a0] w fun e w' => e = .returned (.string r) ∧ Below w.heap.size w w' := by
  unfold spec_lower.f at h
  split at h
  · next hc =>
    obtain rfl := Option.some.inj h
    exact specLower_calls a0 w hc
  · exact absurd h (by simp)
end Go.Proofs.YtchbfjjeodnocaaDoor.Giv
