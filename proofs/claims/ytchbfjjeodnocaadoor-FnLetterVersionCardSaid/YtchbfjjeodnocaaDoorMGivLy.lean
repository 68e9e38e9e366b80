/- Contracts by hand: the normal form of a letter and a number, from the statements' side. -/
import Derived.Test.YtchbfjjeodnocaaDoorMGivLz
import Derived.Deep.RegionHeld3
namespace Go.Proofs.YtchbfjjeodnocaaDoor.Giv
open Go.RowKit Go.Proofs.YtchbfjjeodnocaaDoorW.PrintWords Go.Proofs.YtchbfjjeodnocaaDoorW.PrintLast Go.Proofs.YtchbfjjeodnocaaDoor.Pk Go.Proofs.YtchbfjjeodnocaaDoor.Ord Go.Proofs.YtchbfjjeodnocaaDoor.QM
set_option linter.unusedVariables false
set_option linter.unusedSimpArgs false

set_option maxHeartbeats 4000000 in
set_option maxRecDepth 100000 in
theorem zzLV_none (w : World) :
    Calls Tryd.prog 80 #[.string ⟨#[]⟩, .string ⟨#[]⟩] w fun e w' => e = .returned (.tuple #[.agg #[.bool false, .string ⟨#[]⟩, .bool false, .string ⟨#[]⟩], .nilIface]) ∧ Below w.heap.size w w' := by
  have al := below_alloc (Below.refl w.heap.size w) (Obj.cells #[Value.bool false, .string ⟨#[]⟩, .bool false, .string ⟨#[]⟩] 104)
  have AL := Aside0.mk al
  have K0 := Aside0.mk (blk_new w (Obj.cells #[Value.bool false, .string ⟨#[]⟩, .bool false, .string ⟨#[]⟩] 104))
  have pc := fun w' => parseLV_none w'
  clear al
  go_enter Tryd.func80, Tryd.ntmps80
  go_wp2_with (first | (go_at_call 115; (with_reducible refine (pc _).mono ?_); rintro e w1 ⟨rfl, d1⟩; have D1 := Aside0.mk (below_then AL.out AL.out.size d1); have K1 := Aside0.mk ((d1.block _ (blk_lt K0.out)).trans K0.out); clear d1 pc; have k4 := blk_new w1 (Obj.cells #[Value.string ⟨#[]⟩, .pointer none] 94); have p0 := blk_cell k4 0; have p1 := blk_cell k4 1; have f0 := Lib.frozen_of_heap k4 0; have f1 := Lib.frozen_of_heap k4 1; have lt4 := blk_lt k4; have q6 := blk_alloc K1.out (Obj.cells #[Value.string ⟨#[]⟩, .pointer none] 94); have t0 := blk_cell q6 0; have t1 := blk_cell q6 1; have t2 := blk_cell q6 2; have t3 := blk_cell q6 3; have g0 := Lib.frozen_of_heap q6 0; have g1 := Lib.frozen_of_heap q6 1; have g2 := Lib.frozen_of_heap q6 2; have g3 := Lib.frozen_of_heap q6 3; have lt6 := blk_lt q6; have Q6 := Aside0.mk q6; have D6 := Aside0.mk (below_alloc D1.out (Obj.cells #[Value.string ⟨#[]⟩, .pointer none] 94)); clear k4 q6))
  all_goals exact bodyPost_ret (results_list (rs := [.cell 4 104, .tmp 5]) rfl (by simp) (.cell w.heap.size 104 #[.bool false, .string ⟨#[]⟩, .bool false, .string ⟨#[]⟩] (0, 0) _ rfl (lz_fin false false ⟨#[]⟩ ⟨#[]⟩ Q6.out D6.out (Nat.le_refl _)).1 Tryd.underlying104 rfl (by kernel_rfl) (.tmp .nil))) rfl ⟨rfl, (lz_fin false false ⟨#[]⟩ ⟨#[]⟩ Q6.out D6.out (Nat.le_refl _)).2⟩
set_option maxHeartbeats 4000000 in
set_option maxRecDepth 100000 in
theorem implLV_of (l n X mg : ByteArray) (hb ng : Bool) (w : World) (pc : ∀ w', Below w.heap.size w w' → Calls Tryd.prog 80 #[.string l, .string n] w' fun e w'' => e = .returned (.tuple #[.agg #[.bool hb, .string X, .bool ng, .string mg], .nilIface]) ∧ Below w'.heap.size w' w'') :
    Calls Tryd.prog 39 #[.string l, .string n] w fun e w' => e = .returned (.tuple #[.agg #[.bool hb, .string X, .bool ng, .string mg], .bool true]) ∧ Below w.heap.size w w' := by
  have al := below_alloc (Below.refl w.heap.size w) (Obj.cells #[Value.bool false, .string ⟨#[]⟩, .bool false, .string ⟨#[]⟩] 46)
  have AL := Aside0.mk al
  have K0 := Aside0.mk (blk_new w (Obj.cells #[Value.bool false, .string ⟨#[]⟩, .bool false, .string ⟨#[]⟩] 46))
  clear al
  go_enter Tryd.func39, Tryd.ntmps39
  go_wp2_with (first | (go_at_call 80; (with_reducible refine (pc _ AL.out).mono ?_); rintro e w1 ⟨rfl, d1⟩; have D1 := Aside0.mk (below_then AL.out AL.out.size d1); have K1 := Aside0.mk ((d1.block _ (blk_lt K0.out)).trans K0.out); clear d1 pc; have k4 := blk_new w1 (Obj.cells #[Value.bool false, .string ⟨#[]⟩, .bool false, .string ⟨#[]⟩] 104); have p0 := blk_cell k4 0; have p1 := blk_cell k4 1; have p2 := blk_cell k4 2; have p3 := blk_cell k4 3; have f0 := Lib.frozen_of_heap k4 0; have f1 := Lib.frozen_of_heap k4 1; have f2 := Lib.frozen_of_heap k4 2; have f3 := Lib.frozen_of_heap k4 3; have lt4 := blk_lt k4; have q6 := blk_alloc K1.out (Obj.cells #[Value.bool hb, .string X, .bool ng, .string mg] 104); have t0 := blk_cell q6 0; have t1 := blk_cell q6 1; have t2 := blk_cell q6 2; have t3 := blk_cell q6 3; have g0 := Lib.frozen_of_heap q6 0; have g1 := Lib.frozen_of_heap q6 1; have g2 := Lib.frozen_of_heap q6 2; have g3 := Lib.frozen_of_heap q6 3; have lt6 := blk_lt q6; have Q6 := Aside0.mk q6; have D6 := Aside0.mk (below_alloc D1.out (Obj.cells #[Value.bool hb, .string X, .bool ng, .string mg] 104)); clear k4 q6))
  all_goals exact bodyPost_ret (results_list (rs := [.cell 4 46, .tmp 5]) rfl (by simp) (.cell w.heap.size 46 #[.bool hb, .string X, .bool ng, .string mg] (0, 0) _ rfl (lz_fin hb ng X mg Q6.out D6.out (Nat.le_refl _)).1 Tryd.underlying46 rfl (by kernel_rfl) (.tmp .nil))) rfl ⟨rfl, (lz_fin hb ng X mg Q6.out D6.out (Nat.le_refl _)).2⟩
/-- What impl.LetterVersion answers: of letters below 128 and a number of digits or none. -/
def impl_LetterVersion.f (l n : ByteArray) : Option (Bool × ByteArray × Bool × ByteArray × Bool) :=
  if l.size ≤ 40000 ∧ n.size ≤ 40000 ∧ (l.data.toList.all fun b => decide (b.toNat < 128)) = true then
    (if l.size = 0 then (if n.size = 0 then some (false, ⟨#[]⟩, false, ⟨#[]⟩, true) else
      match Num.parse n.toList with
      | some z => some (true, ⟨#[112, 111, 115, 116]⟩, decide (z < 0), bs (Lb.mag z.natAbs), true)
      | none => none)
    else match Num.parse (if (n.toList == ([] : List UInt8)) = true then (⟨#[48]⟩ : ByteArray) else n).toList with
      | some z => some (true, lvN (low l), decide (z < 0), bs (Lb.mag z.natAbs), true)
      | none => none)
  else none
theorem empty_of_size {s : ByteArray} (h : s.size = 0) : s = ⟨#[]⟩ := by
  have : s.data = #[] := Array.eq_empty_of_size_eq_zero h
  cases s
  simpa using this
theorem impl_LetterVersion.calls (a0 a1 : ByteArray) (r1 : Bool) (r2 : ByteArray) (r3 : Bool) (r4 : ByteArray) (r5 : Bool) (w : World) (h : impl_LetterVersion.f a0 a1 = some (r1, r2, r3, r4, r5)) (hL : Laid w) :
    Calls Tryd.prog 39 #[.string a0, .string a1] w fun e w' => e = .returned (.tuple #[.agg #[.bool r1, .string r2, .bool r3, .string r4], .bool r5]) ∧ Below w.heap.size w w' := by
  unfold impl_LetterVersion.f at h
  by_cases hc : a0.size ≤ 40000 ∧ a1.size ≤ 40000 ∧ (a0.data.toList.all fun b => decide (b.toNat < 128)) = true
  · rw [if_pos hc] at h
    obtain ⟨h0, h1, ha⟩ := hc
    by_cases l0 : a0.size = 0
    · rw [if_pos l0] at h
      obtain rfl := empty_of_size l0
      by_cases n0 : a1.size = 0
      · rw [if_pos n0] at h
        obtain rfl := empty_of_size n0
        have h := Option.some.inj h
        simp only [Prod.mk.injEq] at h
        obtain ⟨rfl, rfl, rfl, rfl, rfl⟩ := h
        exact implLV_of _ _ _ _ _ _ w (fun w' _ => zzLV_none w')
      · rw [if_neg n0] at h
        cases hp : Num.parse a1.toList with
        | none =>
          rw [hp] at h
          exact absurd h (by simp)
        | some z =>
          rw [hp] at h
          have h := Option.some.inj h
          simp only [Prod.mk.injEq] at h
          obtain ⟨rfl, rfl, rfl, rfl, rfl⟩ := h
          exact implLV_of _ _ _ _ _ _ w (fun w' d => zzLV_some _ _ _ w' z (fun w2 d2 => parseLV_post a1 w2 z n0 h1 ((hL.below d).below d2) hp))
    · rw [if_neg l0] at h
      obtain ⟨m, em⟩ : ∃ m, m = (if (a1.toList == ([] : List UInt8)) = true then (⟨#[48]⟩ : ByteArray) else a1) := ⟨_, rfl⟩
      rw [← em] at h
      have hm : m.size ≤ 40000 := by
        rw [em]
        split
        · decide
        · exact h1
      have hasc : ∀ (j : Nat) (b : UInt8), a0.data.toList[j]? = some b → b.toNat < 128 := fun j b hj => of_decide_eq_true (List.all_eq_true.1 ha b (List.mem_of_getElem? hj))
      cases hp : Num.parse m.toList with
      | none =>
        rw [hp] at h
        exact absurd h (by simp)
      | some z =>
        rw [hp] at h
        have h := Option.some.inj h
        simp only [Prod.mk.injEq] at h
        obtain ⟨rfl, rfl, rfl, rfl, rfl⟩ := h
        exact implLV_of _ _ _ _ _ _ w (fun w' d => zzLV_some _ _ _ w' z (fun w2 d2 => parseLV_letter a0 a1 m w2 z l0 h0 hasc em hm ((hL.below d).below d2) hp))
  · rw [if_neg hc] at h
    exact absurd h (by simp)
end Go.Proofs.YtchbfjjeodnocaaDoor.Giv
