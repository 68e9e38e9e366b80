/- Contracts by hand: the normal form of a letter and a number (parseLetterVersion, ZZLetterVersion, impl.LetterVersion). -/
import Derived.Test.YtchbfjjeodnocaaDoorMGivBy
import Derived.Test.YtchbfjjeodnocaaDoorGivLc
import Derived.Deep.RegionHeld3
import Derived.Outline
namespace Go.Proofs.YtchbfjjeodnocaaDoor.Giv
open Go.RowKit Go.Proofs.YtchbfjjeodnocaaDoorW.PrintWords Go.Proofs.YtchbfjjeodnocaaDoorW.PrintLast Go.Proofs.YtchbfjjeodnocaaDoor.Pk Go.Proofs.YtchbfjjeodnocaaDoor.Ord Go.Proofs.YtchbfjjeodnocaaDoor.QM
set_option linter.unusedVariables false
set_option linter.unusedSimpArgs false

/-- The normal spelling. -/
def lvN (s : ByteArray) : ByteArray :=
  if (s.toList == [97, 108, 112, 104, 97]) = true then ⟨#[97]⟩ else if (s.toList == [98, 101, 116, 97]) = true then ⟨#[98]⟩ else if (s.toList == [99]) = true then ⟨#[114, 99]⟩ else if (s.toList == [112, 114, 101]) = true then ⟨#[114, 99]⟩
  else if (s.toList == [112, 114, 101, 118, 105, 101, 119]) = true then ⟨#[114, 99]⟩ else if (s.toList == [114, 101, 118]) = true then ⟨#[112, 111, 115, 116]⟩ else if (s.toList == [114]) = true then ⟨#[112, 111, 115, 116]⟩ else s
theorem beq_nil {s : ByteArray} (h : s.size ≠ 0) : (s.toList == ([] : List UInt8)) = false := by
  have : s.toList ≠ [] := fun e => h (by have := congrArg List.length e; rw [len_toList] at this; exact this)
  simpa using this
/-- What is left in the world: the struct's block filled, the number where it was. -/
theorem lv_fin {w0 w : World} {b h : Nat} {z : Int} (X : ByteArray) (hb : IsBig w b z) (hk : w.heap[h]? = some (Obj.cells #[Value.string ⟨#[]⟩, .pointer none] 94 (0, 0))) (hB : Below w0.heap.size w0 w) (hh : w0.heap.size ≤ h) :
    IsBig ((w.setCell ⟨h, 0, none⟩ (.string X)).setCell ⟨h, 1, none⟩ (.pointer (some ⟨b, 0, none⟩))) b z ∧ Below w0.heap.size w0 ((w.setCell ⟨h, 0, none⟩ (.string X)).setCell ⟨h, 1, none⟩ (.pointer (some ⟨b, 0, none⟩))) ∧ ((w.setCell ⟨h, 0, none⟩ (.string X)).setCell ⟨h, 1, none⟩ (.pointer (some ⟨b, 0, none⟩))).heap[h]? = some (Obj.cells #[Value.string X, .pointer (some ⟨b, 0, none⟩)] 94 (0, 0)) := by
  have k1 := blk_put (cs := #[Value.string ⟨#[]⟩, .pointer none]) hk 0 (.string X) rfl
  have k2 := blk_put (cs := #[Value.string X, .pointer none]) k1 1 (.pointer (some ⟨b, 0, none⟩)) rfl
  exact ⟨(hb.put hk (by decide) 0 _).put k1 (by decide) 1 _, (hB.setCell (p := ⟨h, 0, none⟩) hh _).setCell (p := ⟨h, 1, none⟩) hh _, k2⟩
set_option maxHeartbeats 4000000 in
set_option maxRecDepth 100000 in
theorem parseLV_letter (l n m : ByteArray) (w : World) (z : Int) (hl : l.size ≠ 0) (hs : l.size ≤ 40000) (ha : ∀ (j : Nat) (b : UInt8), l.data.toList[j]? = some b → b.toNat < 128) (hm : m = if (n.toList == ([] : List UInt8)) = true then ⟨#[48]⟩ else n) (hn : m.size ≤ 40000) (hL : Laid w) (hp : Num.parse m.toList = some z) :
    Calls Tryd.prog 115 #[.string l, .string n] w fun e w' => ∃ b, e = .returned (.tuple #[.agg #[.string (lvN (low l)), .pointer (some ⟨b, 0, none⟩)], .nilIface]) ∧ IsBig w' b z ∧ Below w.heap.size w w' := by
  have al := below_alloc (Below.refl w.heap.size w) (Obj.cells #[Value.string ⟨#[]⟩, .pointer none] 94)
  have AL := Aside0.mk al
  have K0 := Aside0.mk (blk_new w (Obj.cells #[Value.string ⟨#[]⟩, .pointer none] 94))
  have LD := Aside0.mk (fun (w' : World) (d : Below w.heap.size w w') => hL.below d)
  have tl := fun (w' : World) => toLower_calls l w' (by omega) ha
  have cv := fun (w' : World) (d : Below w.heap.size w w') => conv_some m w' z hn (LD.out w' d) hp
  have el := beq_nil hl
  clear al hL hp ha
  change ∀ w', Calls _ _ _ _ (fun e w'' => e = .returned (.string (low l)) ∧ _) at tl
  generalize low l = L at *
  go_enter Tryd.func115, Tryd.ntmps115
  cases en : (n.toList == ([] : List UInt8)) with
  | true =>
    rw [en, if_pos rfl] at hm
    subst hm
    go_wp2_with (first | (go_at_call 136; (with_reducible refine (tl _).mono ?_); rintro e w1 ⟨rfl, d1⟩; have D1 := Aside0.mk (below_then AL.out AL.out.size d1); have K1 := Aside0.mk ((d1.block _ (blk_lt K0.out)).trans K0.out); clear d1 tl) | (go_at_call 127; (with_reducible refine (cv _ D1.out).mono ?_); rintro e w2 ⟨b, rfl, hb, d2⟩; have D2 := Aside0.mk (below_then D1.out D1.out.size d2); have k2 := (d2.block _ (blk_lt K1.out)).trans K1.out; have lt2 := blk_lt k2; have p0 := blk_cell k2 0; have p1 := blk_cell k2 1; have f0 := Lib.frozen_of_heap k2 0; have f1 := Lib.frozen_of_heap k2 1; have K2 := Aside0.mk k2; have HB := Aside0.mk hb; clear d2 k2 hb cv))
    all_goals
      refine bodyPost_ret (results_list (rs := [.cell 4 94, .tmp 5]) rfl (by simp) (.cell w.heap.size 94 #[.string _, .pointer (some ⟨b, 0, none⟩)] (0, 0) _ rfl (lv_fin _ HB.out K2.out D2.out (Nat.le_refl _)).2.2 Tryd.underlying94 rfl (by kernel_rfl) (.tmp .nil))) rfl ?_
      refine ⟨b, ?_, (lv_fin _ HB.out K2.out D2.out (Nat.le_refl _)).1, (lv_fin _ HB.out K2.out D2.out (Nat.le_refl _)).2.1⟩
      unfold lvN
      simp only [*, if_true, Bool.false_eq_true, if_false]
      try rfl
  | false =>
    rw [en, if_neg (by decide)] at hm
    subst hm
    go_wp2_with (first | (go_at_call 136; (with_reducible refine (tl _).mono ?_); rintro e w1 ⟨rfl, d1⟩; have D1 := Aside0.mk (below_then AL.out AL.out.size d1); have K1 := Aside0.mk ((d1.block _ (blk_lt K0.out)).trans K0.out); clear d1 tl) | (go_at_call 127; (with_reducible refine (cv _ D1.out).mono ?_); rintro e w2 ⟨b, rfl, hb, d2⟩; have D2 := Aside0.mk (below_then D1.out D1.out.size d2); have k2 := (d2.block _ (blk_lt K1.out)).trans K1.out; have lt2 := blk_lt k2; have p0 := blk_cell k2 0; have p1 := blk_cell k2 1; have f0 := Lib.frozen_of_heap k2 0; have f1 := Lib.frozen_of_heap k2 1; have K2 := Aside0.mk k2; have HB := Aside0.mk hb; clear d2 k2 hb cv))
    all_goals
      refine bodyPost_ret (results_list (rs := [.cell 4 94, .tmp 5]) rfl (by simp) (.cell w.heap.size 94 #[.string _, .pointer (some ⟨b, 0, none⟩)] (0, 0) _ rfl (lv_fin _ HB.out K2.out D2.out (Nat.le_refl _)).2.2 Tryd.underlying94 rfl (by kernel_rfl) (.tmp .nil))) rfl ?_
      refine ⟨b, ?_, (lv_fin _ HB.out K2.out D2.out (Nat.le_refl _)).1, (lv_fin _ HB.out K2.out D2.out (Nat.le_refl _)).2.1⟩
      unfold lvN
      simp only [*, if_true, Bool.false_eq_true, if_false]
      try rfl
set_option maxHeartbeats 4000000 in
set_option maxRecDepth 100000 in
theorem parseLV_post (n : ByteArray) (w : World) (z : Int) (h0 : n.size ≠ 0) (hn : n.size ≤ 40000) (hL : Laid w) (hp : Num.parse n.toList = some z) :
    Calls Tryd.prog 115 #[.string ⟨#[]⟩, .string n] w fun e w' => ∃ b, e = .returned (.tuple #[.agg #[.string ⟨#[112, 111, 115, 116]⟩, .pointer (some ⟨b, 0, none⟩)], .nilIface]) ∧ IsBig w' b z ∧ Below w.heap.size w w' := by
  have al := below_alloc (Below.refl w.heap.size w) (Obj.cells #[Value.string ⟨#[]⟩, .pointer none] 94)
  have AL := Aside0.mk al
  have K0 := Aside0.mk (blk_new w (Obj.cells #[Value.string ⟨#[]⟩, .pointer none] 94))
  have cv := conv_some n (w.alloc (Obj.cells #[Value.string ⟨#[]⟩, .pointer none] 94)) z hn (hL.below al) hp
  have en := beq_nil h0
  clear al hL hp
  go_enter Tryd.func115, Tryd.ntmps115
  go_wp2_with (first | (go_at_call 127; (with_reducible refine cv.mono ?_); rintro e w2 ⟨b, rfl, hb, d2⟩; have D2 := Aside0.mk (below_then AL.out AL.out.size d2); have k2 := (d2.block _ (blk_lt K0.out)).trans K0.out; have lt2 := blk_lt k2; have p0 := blk_cell k2 0; have p1 := blk_cell k2 1; have f0 := Lib.frozen_of_heap k2 0; have f1 := Lib.frozen_of_heap k2 1; have K2 := Aside0.mk k2; have HB := Aside0.mk hb; clear d2 k2 hb cv))
  refine bodyPost_ret (results_list (rs := [.cell 4 94, .tmp 5]) rfl (by simp) (.cell w.heap.size 94 #[.string ⟨#[112, 111, 115, 116]⟩, .pointer (some ⟨b, 0, none⟩)] (0, 0) _ rfl (lv_fin _ HB.out K2.out D2.out (Nat.le_refl _)).2.2 Tryd.underlying94 rfl (by kernel_rfl) (.tmp .nil))) rfl ?_
  exact ⟨b, rfl, (lv_fin _ HB.out K2.out D2.out (Nat.le_refl _)).1, (lv_fin _ HB.out K2.out D2.out (Nat.le_refl _)).2.1⟩
set_option maxRecDepth 100000 in
theorem parseLV_none (w : World) :
    Calls Tryd.prog 115 #[.string ⟨#[]⟩, .string ⟨#[]⟩] w fun e w' => e = .returned (.tuple #[.agg #[.string ⟨#[]⟩, .pointer none], .nilIface]) ∧ Below w.heap.size w w' := by
  have al := below_alloc (Below.refl w.heap.size w) (Obj.cells #[Value.string ⟨#[]⟩, .pointer none] 94)
  have k0 := blk_new w (Obj.cells #[Value.string ⟨#[]⟩, .pointer none] 94)
  have lt2 := blk_lt k0
  have p0 := blk_cell k0 0
  have p1 := blk_cell k0 1
  have f0 := Lib.frozen_of_heap k0 0
  have f1 := Lib.frozen_of_heap k0 1
  have AL := Aside0.mk al
  have K0 := Aside0.mk k0
  clear al k0
  go_enter Tryd.func115, Tryd.ntmps115
  go_wp2_with fail
  refine bodyPost_ret (results_list (rs := [.cell 4 94, .tmp 5]) rfl (by simp) (.cell w.heap.size 94 #[.string ⟨#[]⟩, .pointer none] (0, 0) _ rfl K0.out Tryd.underlying94 rfl (by kernel_rfl) (.tmp .nil))) rfl ?_
  exact ⟨rfl, AL.out⟩
end Go.Proofs.YtchbfjjeodnocaaDoor.Giv
