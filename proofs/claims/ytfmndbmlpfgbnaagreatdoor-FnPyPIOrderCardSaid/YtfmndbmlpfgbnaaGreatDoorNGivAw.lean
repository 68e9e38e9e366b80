/- Contract by hand: laws.pypiAwake: release 1 is older than release 2, and local version a than b. -/
import Derived.Test.YtfmndbmlpfgbnaaGreatDoorZNC
namespace Go.Proofs.YtfmndbmlpfgbnaaGreatDoor.Giv
open Go.RowKit Go.Proofs.YtfmndbmlpfgbnaaGreatDoorW.PrintWords Go.Proofs.YtfmndbmlpfgbnaaGreatDoorW.PrintLast Go.Proofs.YtfmndbmlpfgbnaaGreatDoor.Pk Go.Proofs.YtfmndbmlpfgbnaaGreatDoor.Ord Go.Proofs.YtfmndbmlpfgbnaaGreatDoor.QN
set_option linter.unusedVariables false
set_option linter.unusedSimpArgs false

theorem row_one {w : World} {h : Nat} {T : TypeId} {fz : Nat × Nat} (a : Bool) (b : ByteArray) (hh : w.heap[h]? = some (Obj.cells #[.bool a, .string b] T fz)) : Kd.C k23 w (some ⟨h, 0, none⟩) 1 [⟨a, b⟩] := by
  refine ⟨rfl, by decide, fun _ => ⟨_, rfl, ?_⟩⟩
  intro j p hj
  match j, hj with
  | 0, hj =>
    obtain rfl := Option.some.inj hj
    refine ⟨[.bool a, .string b], rfl, k23_mk w ⟨a, b⟩, ?_⟩
    intro i u hu
    match i, hu with
    | 0, hu => obtain rfl := Option.some.inj hu; exact (Lib.cell_of_heap hh _).trans rfl
    | 1, hu => obtain rfl := Option.some.inj hu; exact (Lib.cell_of_heap hh _).trans rfl
theorem row_text {w : World} {h : Nat} {T : TypeId} {fz : Nat × Nat} (b : ByteArray) (hh : w.heap[h]? = some (Obj.cells #[.string b] T fz)) : Kd.C Kd.string w (some ⟨h, 0, none⟩) 1 [b] := by
  refine ⟨rfl, by decide, fun _ => ⟨_, rfl, ?_⟩⟩
  intro j p hj
  match j, hj with
  | 0, hj =>
    obtain rfl := Option.some.inj hj
    refine ⟨[.string b], rfl, rfl, ?_⟩
    intro i u hu
    match i, hu with
    | 0, hu => obtain rfl := Option.some.inj hu; exact (Lib.cell_of_heap hh _).trans rfl
theorem bigs_one (a : Bool) (b : ByteArray) : impl_bigs.f 3 [(⟨a, b⟩ : S23)] = some [(⟨a, b⟩ : S56)] := by
  unfold impl_bigs.f
  simp [impl_bigs.l0, rd_T23, wrap64]
theorem awake_pad : padL cI 0 (zsOf [(⟨false, ⟨#[1]⟩⟩ : S56)]) (zsOf [(⟨false, ⟨#[2]⟩⟩ : S56)]) = -1 := by
  have e1 : zOf false (⟨#[1]⟩ : ByteArray) = 1 := by
    unfold zOf
    rw [show (⟨#[1]⟩ : ByteArray) = bs [1] from rfl, bs_toList]
    rfl
  have e2 : zOf false (⟨#[2]⟩ : ByteArray) = 2 := by
    unfold zOf
    rw [show (⟨#[2]⟩ : ByteArray) = bs [2] from rfl, bs_toList]
    rfl
  unfold zsOf
  simp only [List.map_cons, List.map_nil, e1, e2]
  rfl
theorem awake_lex : lexL pyC (tl [(⟨#[97]⟩ : ByteArray)]) (tl [(⟨#[98]⟩ : ByteArray)]) = -1 := by
  have e1 : (⟨#[97]⟩ : ByteArray).toList = [97] := by rw [show (⟨#[97]⟩ : ByteArray) = bs [97] from rfl, bs_toList]
  have e2 : (⟨#[98]⟩ : ByteArray).toList = [98] := by rw [show (⟨#[98]⟩ : ByteArray) = bs [98] from rfl, bs_toList]
  unfold tl
  simp only [List.map_cons, List.map_nil, e1, e2]
  rfl
set_option maxRecDepth 100000 in
set_option maxHeartbeats 8000000 in
theorem awake_calls (w : World) (hL : Laid w) :
    Calls Tryz.prog 6 #[] w fun e w' => e = .returned (.bool true) ∧ Below w.heap.size w w' := by
  have HL := Aside0.mk hL
  clear hL
  go_enter Tryz.func6, Tryz.ntmps6
  go_upto_region 3 with (first | (go_at_call 16; refine (laws_one.calls false ⟨#[1]⟩ _ rfl).mono ?_; rintro e w1 ⟨rfl, d1⟩; have D1 := Aside0.mk d1; clear d1; have ka_ : (((w1.alloc (Obj.cells #[.bool false, .string ⟨#[1]⟩] 23)).alloc (Obj.cells #[.string ⟨#[]⟩] 9)).alloc (Obj.cells #[.bool false, .string ⟨#[]⟩, .slice none 0 0, .bool false, .string ⟨#[]⟩, .bool false, .string ⟨#[]⟩, .bool false, .string ⟨#[]⟩, .bool false, .string ⟨#[]⟩, .bool false, .string ⟨#[]⟩, .bool false, .string ⟨#[]⟩, .slice none 0 0, .slice none 0 0] 29)).heap[w1.heap.size + 1 + 1]? = some (Obj.cells #[.bool false, .string ⟨#[]⟩, .slice none 0 0, .bool false, .string ⟨#[]⟩, .bool false, .string ⟨#[]⟩, .bool false, .string ⟨#[]⟩, .bool false, .string ⟨#[]⟩, .bool false, .string ⟨#[]⟩, .bool false, .string ⟨#[]⟩, .slice none 0 0, .slice none 0 0] 29 (0, 0)) := (by have := blk_new ((w1.alloc (Obj.cells #[.bool false, .string ⟨#[1]⟩] 23)).alloc (Obj.cells #[.string ⟨#[]⟩] 9)) (Obj.cells #[.bool false, .string ⟨#[]⟩, .slice none 0 0, .bool false, .string ⟨#[]⟩, .bool false, .string ⟨#[]⟩, .bool false, .string ⟨#[]⟩, .bool false, .string ⟨#[]⟩, .bool false, .string ⟨#[]⟩, .bool false, .string ⟨#[]⟩, .slice none 0 0, .slice none 0 0] 29); simpa using this); have xa0_ := blk_cell ka_ 0; have fa0_ := Lib.frozen_of_heap ka_ 0; have xa1_ := blk_cell ka_ 1; have fa1_ := Lib.frozen_of_heap ka_ 1; have xa2_ := blk_cell ka_ 2; have fa2_ := Lib.frozen_of_heap ka_ 2; have xa3_ := blk_cell ka_ 3; have fa3_ := Lib.frozen_of_heap ka_ 3; have xa4_ := blk_cell ka_ 4; have fa4_ := Lib.frozen_of_heap ka_ 4; have xa5_ := blk_cell ka_ 5; have fa5_ := Lib.frozen_of_heap ka_ 5; have xa6_ := blk_cell ka_ 6; have fa6_ := Lib.frozen_of_heap ka_ 6; have xa7_ := blk_cell ka_ 7; have fa7_ := Lib.frozen_of_heap ka_ 7; have xa8_ := blk_cell ka_ 8; have fa8_ := Lib.frozen_of_heap ka_ 8; have xa9_ := blk_cell ka_ 9; have fa9_ := Lib.frozen_of_heap ka_ 9; have xa10_ := blk_cell ka_ 10; have fa10_ := Lib.frozen_of_heap ka_ 10; have xa11_ := blk_cell ka_ 11; have fa11_ := Lib.frozen_of_heap ka_ 11; have xa12_ := blk_cell ka_ 12; have fa12_ := Lib.frozen_of_heap ka_ 12; have xa13_ := blk_cell ka_ 13; have fa13_ := Lib.frozen_of_heap ka_ 13; have xa14_ := blk_cell ka_ 14; have fa14_ := Lib.frozen_of_heap ka_ 14; have xa15_ := blk_cell ka_ 15; have fa15_ := Lib.frozen_of_heap ka_ 15; have xa16_ := blk_cell ka_ 16; have fa16_ := Lib.frozen_of_heap ka_ 16; have la_ := blk_lt ka_; clear ka_) | (go_at_call 17; refine (laws_two.calls false ⟨#[2]⟩ _ rfl).mono ?_; rintro e w2 ⟨rfl, d2⟩; have D2 := Aside0.mk d2; clear d2; have kb_ : (((w2.alloc (Obj.cells #[.bool false, .string ⟨#[2]⟩] 23)).alloc (Obj.cells #[.string ⟨#[]⟩] 9)).alloc (Obj.cells #[.bool false, .string ⟨#[]⟩, .slice none 0 0, .bool false, .string ⟨#[]⟩, .bool false, .string ⟨#[]⟩, .bool false, .string ⟨#[]⟩, .bool false, .string ⟨#[]⟩, .bool false, .string ⟨#[]⟩, .bool false, .string ⟨#[]⟩, .slice none 0 0, .slice none 0 0] 29)).heap[w2.heap.size + 1 + 1]? = some (Obj.cells #[.bool false, .string ⟨#[]⟩, .slice none 0 0, .bool false, .string ⟨#[]⟩, .bool false, .string ⟨#[]⟩, .bool false, .string ⟨#[]⟩, .bool false, .string ⟨#[]⟩, .bool false, .string ⟨#[]⟩, .bool false, .string ⟨#[]⟩, .slice none 0 0, .slice none 0 0] 29 (0, 0)) := (by have := blk_new ((w2.alloc (Obj.cells #[.bool false, .string ⟨#[2]⟩] 23)).alloc (Obj.cells #[.string ⟨#[]⟩] 9)) (Obj.cells #[.bool false, .string ⟨#[]⟩, .slice none 0 0, .bool false, .string ⟨#[]⟩, .bool false, .string ⟨#[]⟩, .bool false, .string ⟨#[]⟩, .bool false, .string ⟨#[]⟩, .bool false, .string ⟨#[]⟩, .bool false, .string ⟨#[]⟩, .slice none 0 0, .slice none 0 0] 29); simpa using this); have xb0_ := blk_cell kb_ 0; have fb0_ := Lib.frozen_of_heap kb_ 0; have xb1_ := blk_cell kb_ 1; have fb1_ := Lib.frozen_of_heap kb_ 1; have xb2_ := blk_cell kb_ 2; have fb2_ := Lib.frozen_of_heap kb_ 2; have xb3_ := blk_cell kb_ 3; have fb3_ := Lib.frozen_of_heap kb_ 3; have xb4_ := blk_cell kb_ 4; have fb4_ := Lib.frozen_of_heap kb_ 4; have xb5_ := blk_cell kb_ 5; have fb5_ := Lib.frozen_of_heap kb_ 5; have xb6_ := blk_cell kb_ 6; have fb6_ := Lib.frozen_of_heap kb_ 6; have xb7_ := blk_cell kb_ 7; have fb7_ := Lib.frozen_of_heap kb_ 7; have xb8_ := blk_cell kb_ 8; have fb8_ := Lib.frozen_of_heap kb_ 8; have xb9_ := blk_cell kb_ 9; have fb9_ := Lib.frozen_of_heap kb_ 9; have xb10_ := blk_cell kb_ 10; have fb10_ := Lib.frozen_of_heap kb_ 10; have xb11_ := blk_cell kb_ 11; have fb11_ := Lib.frozen_of_heap kb_ 11; have xb12_ := blk_cell kb_ 12; have fb12_ := Lib.frozen_of_heap kb_ 12; have xb13_ := blk_cell kb_ 13; have fb13_ := Lib.frozen_of_heap kb_ 13; have xb14_ := blk_cell kb_ 14; have fb14_ := Lib.frozen_of_heap kb_ 14; have xb15_ := blk_cell kb_ 15; have fb15_ := Lib.frozen_of_heap kb_ 15; have xb16_ := blk_cell kb_ 16; have fb16_ := Lib.frozen_of_heap kb_ 16; have lb_ := blk_lt kb_; clear kb_))
  clear xa0_ fa0_ xa1_ fa1_ xa2_ fa2_ xa3_ fa3_ xa4_ fa4_ xa5_ fa5_ xa6_ fa6_ xa7_ fa7_ xa8_ fa8_ xa9_ fa9_ xa10_ fa10_ xa11_ fa11_ xa12_ fa12_ xa13_ fa13_ xa14_ fa14_ xa15_ fa15_ xa16_ fa16_ xb0_ fb0_ xb1_ fb1_ xb2_ fb2_ xb3_ fb3_ xb4_ fb4_ xb5_ fb5_ xb6_ fb6_ xb7_ fb7_ xb8_ fb8_ xb9_ fb9_ xb10_ fb10_ xb11_ fb11_ xb12_ fb12_ xb13_ fb13_ xb14_ fb14_ xb15_ fb15_ xb16_ fb16_ la_ lb_
  have ha2 : (((w1.alloc (Obj.cells #[.bool false, .string ⟨#[1]⟩] 23)).alloc (Obj.cells #[.string ⟨#[]⟩] 9)).alloc (Obj.cells #[.bool false, .string ⟨#[]⟩, .slice (some ⟨w1.heap.size, 0, none⟩) 1 1, .bool false, .string ⟨#[]⟩, .bool false, .string ⟨#[]⟩, .bool false, .string ⟨#[]⟩, .bool false, .string ⟨#[]⟩, .bool false, .string ⟨#[]⟩, .bool false, .string ⟨#[]⟩, .slice (some ⟨w1.heap.size + 1, 0, none⟩) 1 1, .slice none 0 0] 29)).heap[w1.heap.size + 1 + 1]? = some (Obj.cells #[.bool false, .string ⟨#[]⟩, .slice (some ⟨w1.heap.size, 0, none⟩) 1 1, .bool false, .string ⟨#[]⟩, .bool false, .string ⟨#[]⟩, .bool false, .string ⟨#[]⟩, .bool false, .string ⟨#[]⟩, .bool false, .string ⟨#[]⟩, .bool false, .string ⟨#[]⟩, .slice (some ⟨w1.heap.size + 1, 0, none⟩) 1 1, .slice none 0 0] 29 (0, 0)) := by
    have := blk_new ((w1.alloc (Obj.cells #[.bool false, .string ⟨#[1]⟩] 23)).alloc (Obj.cells #[.string ⟨#[]⟩] 9)) (Obj.cells #[.bool false, .string ⟨#[]⟩, .slice (some ⟨w1.heap.size, 0, none⟩) 1 1, .bool false, .string ⟨#[]⟩, .bool false, .string ⟨#[]⟩, .bool false, .string ⟨#[]⟩, .bool false, .string ⟨#[]⟩, .bool false, .string ⟨#[]⟩, .bool false, .string ⟨#[]⟩, .slice (some ⟨w1.heap.size + 1, 0, none⟩) 1 1, .slice none 0 0] 29)
    simpa using this
  have ha0 : (((w1.alloc (Obj.cells #[.bool false, .string ⟨#[1]⟩] 23)).alloc (Obj.cells #[.string ⟨#[]⟩] 9)).alloc (Obj.cells #[.bool false, .string ⟨#[]⟩, .slice (some ⟨w1.heap.size, 0, none⟩) 1 1, .bool false, .string ⟨#[]⟩, .bool false, .string ⟨#[]⟩, .bool false, .string ⟨#[]⟩, .bool false, .string ⟨#[]⟩, .bool false, .string ⟨#[]⟩, .bool false, .string ⟨#[]⟩, .slice (some ⟨w1.heap.size + 1, 0, none⟩) 1 1, .slice none 0 0] 29)).heap[w1.heap.size]? = some (Obj.cells #[.bool false, .string ⟨#[1]⟩] 23 (0, 0)) := blk_alloc (blk_alloc (blk_new w1 _) _) _
  have ha1 : (((w1.alloc (Obj.cells #[.bool false, .string ⟨#[1]⟩] 23)).alloc (Obj.cells #[.string ⟨#[]⟩] 9)).alloc (Obj.cells #[.bool false, .string ⟨#[]⟩, .slice (some ⟨w1.heap.size, 0, none⟩) 1 1, .bool false, .string ⟨#[]⟩, .bool false, .string ⟨#[]⟩, .bool false, .string ⟨#[]⟩, .bool false, .string ⟨#[]⟩, .bool false, .string ⟨#[]⟩, .bool false, .string ⟨#[]⟩, .slice (some ⟨w1.heap.size + 1, 0, none⟩) 1 1, .slice none 0 0] 29)).heap[w1.heap.size + 1]? = some (Obj.cells #[.string ⟨#[]⟩] 9 (0, 0)) := by
    have := blk_alloc (blk_new (w1.alloc (Obj.cells #[.bool false, .string ⟨#[1]⟩] 23)) (Obj.cells #[.string ⟨#[]⟩] 9)) (Obj.cells #[.bool false, .string ⟨#[]⟩, .slice (some ⟨w1.heap.size, 0, none⟩) 1 1, .bool false, .string ⟨#[]⟩, .bool false, .string ⟨#[]⟩, .bool false, .string ⟨#[]⟩, .bool false, .string ⟨#[]⟩, .bool false, .string ⟨#[]⟩, .bool false, .string ⟨#[]⟩, .slice (some ⟨w1.heap.size + 1, 0, none⟩) 1 1, .slice none 0 0] 29)
    simpa using this
  have hb2 : (((w2.alloc (Obj.cells #[.bool false, .string ⟨#[2]⟩] 23)).alloc (Obj.cells #[.string ⟨#[]⟩] 9)).alloc (Obj.cells #[.bool false, .string ⟨#[]⟩, .slice (some ⟨w2.heap.size, 0, none⟩) 1 1, .bool false, .string ⟨#[]⟩, .bool false, .string ⟨#[]⟩, .bool false, .string ⟨#[]⟩, .bool false, .string ⟨#[]⟩, .bool false, .string ⟨#[]⟩, .bool false, .string ⟨#[]⟩, .slice (some ⟨w2.heap.size + 1, 0, none⟩) 1 1, .slice none 0 0] 29)).heap[w2.heap.size + 1 + 1]? = some (Obj.cells #[.bool false, .string ⟨#[]⟩, .slice (some ⟨w2.heap.size, 0, none⟩) 1 1, .bool false, .string ⟨#[]⟩, .bool false, .string ⟨#[]⟩, .bool false, .string ⟨#[]⟩, .bool false, .string ⟨#[]⟩, .bool false, .string ⟨#[]⟩, .bool false, .string ⟨#[]⟩, .slice (some ⟨w2.heap.size + 1, 0, none⟩) 1 1, .slice none 0 0] 29 (0, 0)) := by
    have := blk_new ((w2.alloc (Obj.cells #[.bool false, .string ⟨#[2]⟩] 23)).alloc (Obj.cells #[.string ⟨#[]⟩] 9)) (Obj.cells #[.bool false, .string ⟨#[]⟩, .slice (some ⟨w2.heap.size, 0, none⟩) 1 1, .bool false, .string ⟨#[]⟩, .bool false, .string ⟨#[]⟩, .bool false, .string ⟨#[]⟩, .bool false, .string ⟨#[]⟩, .bool false, .string ⟨#[]⟩, .bool false, .string ⟨#[]⟩, .slice (some ⟨w2.heap.size + 1, 0, none⟩) 1 1, .slice none 0 0] 29)
    simpa using this
  have hb0 : (((w2.alloc (Obj.cells #[.bool false, .string ⟨#[2]⟩] 23)).alloc (Obj.cells #[.string ⟨#[]⟩] 9)).alloc (Obj.cells #[.bool false, .string ⟨#[]⟩, .slice (some ⟨w2.heap.size, 0, none⟩) 1 1, .bool false, .string ⟨#[]⟩, .bool false, .string ⟨#[]⟩, .bool false, .string ⟨#[]⟩, .bool false, .string ⟨#[]⟩, .bool false, .string ⟨#[]⟩, .bool false, .string ⟨#[]⟩, .slice (some ⟨w2.heap.size + 1, 0, none⟩) 1 1, .slice none 0 0] 29)).heap[w2.heap.size]? = some (Obj.cells #[.bool false, .string ⟨#[2]⟩] 23 (0, 0)) := blk_alloc (blk_alloc (blk_new w2 _) _) _
  have hb1 : (((w2.alloc (Obj.cells #[.bool false, .string ⟨#[2]⟩] 23)).alloc (Obj.cells #[.string ⟨#[]⟩] 9)).alloc (Obj.cells #[.bool false, .string ⟨#[]⟩, .slice (some ⟨w2.heap.size, 0, none⟩) 1 1, .bool false, .string ⟨#[]⟩, .bool false, .string ⟨#[]⟩, .bool false, .string ⟨#[]⟩, .bool false, .string ⟨#[]⟩, .bool false, .string ⟨#[]⟩, .bool false, .string ⟨#[]⟩, .slice (some ⟨w2.heap.size + 1, 0, none⟩) 1 1, .slice none 0 0] 29)).heap[w2.heap.size + 1]? = some (Obj.cells #[.string ⟨#[]⟩] 9 (0, 0)) := by
    have := blk_alloc (blk_new (w2.alloc (Obj.cells #[.bool false, .string ⟨#[2]⟩] 23)) (Obj.cells #[.string ⟨#[]⟩] 9)) (Obj.cells #[.bool false, .string ⟨#[]⟩, .slice (some ⟨w2.heap.size, 0, none⟩) 1 1, .bool false, .string ⟨#[]⟩, .bool false, .string ⟨#[]⟩, .bool false, .string ⟨#[]⟩, .bool false, .string ⟨#[]⟩, .bool false, .string ⟨#[]⟩, .bool false, .string ⟨#[]⟩, .slice (some ⟨w2.heap.size + 1, 0, none⟩) 1 1, .slice none 0 0] 29)
    simpa using this
  have mv : ∀ (i : Nat) (o : Obj), (((w1.alloc (Obj.cells #[.bool false, .string ⟨#[1]⟩] 23)).alloc (Obj.cells #[.string ⟨#[]⟩] 9)).alloc (Obj.cells #[.bool false, .string ⟨#[]⟩, .slice (some ⟨w1.heap.size, 0, none⟩) 1 1, .bool false, .string ⟨#[]⟩, .bool false, .string ⟨#[]⟩, .bool false, .string ⟨#[]⟩, .bool false, .string ⟨#[]⟩, .bool false, .string ⟨#[]⟩, .bool false, .string ⟨#[]⟩, .slice (some ⟨w1.heap.size + 1, 0, none⟩) 1 1, .slice none 0 0] 29)).heap[i]? = some o → (((w2.alloc (Obj.cells #[.bool false, .string ⟨#[2]⟩] 23)).alloc (Obj.cells #[.string ⟨#[]⟩] 9)).alloc (Obj.cells #[.bool false, .string ⟨#[]⟩, .slice (some ⟨w2.heap.size, 0, none⟩) 1 1, .bool false, .string ⟨#[]⟩, .bool false, .string ⟨#[]⟩, .bool false, .string ⟨#[]⟩, .bool false, .string ⟨#[]⟩, .bool false, .string ⟨#[]⟩, .bool false, .string ⟨#[]⟩, .slice (some ⟨w2.heap.size + 1, 0, none⟩) 1 1, .slice none 0 0] 29)).heap[i]? = some o := fun i o h => blk_alloc (blk_alloc (blk_alloc ((D2.out.block _ (blk_lt h)).trans h) _) _) _
  replace ha0 := mv _ _ ha0
  replace ha1 := mv _ _ ha1
  replace ha2 := mv _ _ ha2
  have bw : Below w.heap.size w (((w2.alloc (Obj.cells #[.bool false, .string ⟨#[2]⟩] 23)).alloc (Obj.cells #[.string ⟨#[]⟩] 9)).alloc (Obj.cells #[.bool false, .string ⟨#[]⟩, .slice (some ⟨w2.heap.size, 0, none⟩) 1 1, .bool false, .string ⟨#[]⟩, .bool false, .string ⟨#[]⟩, .bool false, .string ⟨#[]⟩, .bool false, .string ⟨#[]⟩, .bool false, .string ⟨#[]⟩, .bool false, .string ⟨#[]⟩, .slice (some ⟨w2.heap.size + 1, 0, none⟩) 1 1, .slice none 0 0] 29)) := below_alloc (below_alloc (below_alloc (below_then (below_alloc (below_alloc (below_alloc D1.out _) _) _) (below_alloc (below_alloc (below_alloc D1.out _) _) _).size D2.out) _) _) _
  clear mv
  obtain ⟨W, eW⟩ : ∃ W, W = (((w2.alloc (Obj.cells #[.bool false, .string ⟨#[2]⟩] 23)).alloc (Obj.cells #[.string ⟨#[]⟩] 9)).alloc (Obj.cells #[.bool false, .string ⟨#[]⟩, .slice (some ⟨w2.heap.size, 0, none⟩) 1 1, .bool false, .string ⟨#[]⟩, .bool false, .string ⟨#[]⟩, .bool false, .string ⟨#[]⟩, .bool false, .string ⟨#[]⟩, .bool false, .string ⟨#[]⟩, .bool false, .string ⟨#[]⟩, .slice (some ⟨w2.heap.size + 1, 0, none⟩) 1 1, .slice none 0 0] 29)) := ⟨_, rfl⟩
  rw [← eW] at ha0 ha1 ha2 hb0 hb1 hb2 bw ⊢
  clear eW
  as_aux_lemma =>
    have cmp := implCompareR_calls (some ⟨w1.heap.size, 0, none⟩) (some ⟨w2.heap.size, 0, none⟩) (some ⟨w1.heap.size + 1, 0, none⟩) (some ⟨w2.heap.size + 1, 0, none⟩) 1 1 1 1 1 1 1 1 3 3 [(⟨false, ⟨#[1]⟩⟩ : S23)] [(⟨false, ⟨#[2]⟩⟩ : S23)] [(⟨false, ⟨#[1]⟩⟩ : S56)] [(⟨false, ⟨#[2]⟩⟩ : S56)] W rfl rfl (row_one _ _ ha0) (row_one _ _ hb0) (Nat.le_refl _) (Nat.le_refl _) (bigs_one _ _) (bigs_one _ _) (by decide) (by decide) (by intro x hx; obtain rfl := List.mem_singleton.1 hx; decide) (by intro x hx; obtain rfl := List.mem_singleton.1 hx; decide) (by rw [awake_pad]; decide)
    rw [awake_pad] at cmp
    have pl : ∀ w3 : World, Below w.heap.size w w3 → Calls Tryz.prog 18 #[.slice (some ⟨w3.heap.size, 0, none⟩) 1 1, .slice (some ⟨w3.heap.size + 1, 0, none⟩) 1 1] ((w3.alloc (Obj.cells #[.string ⟨#[97]⟩] 9)).alloc (Obj.cells #[.string ⟨#[98]⟩] 9)) fun e w' => e = .returned (.int .i64 (-1)) ∧ Below w.heap.size w w' := fun w3 d => by
      have g0 : ((w3.alloc (Obj.cells #[.string ⟨#[97]⟩] 9)).alloc (Obj.cells #[.string ⟨#[98]⟩] 9)).heap[w3.heap.size]? = some (Obj.cells #[.string ⟨#[97]⟩] 9 (0, 0)) := blk_alloc (blk_new w3 _) _
      have g1 : ((w3.alloc (Obj.cells #[.string ⟨#[97]⟩] 9)).alloc (Obj.cells #[.string ⟨#[98]⟩] 9)).heap[w3.heap.size + 1]? = some (Obj.cells #[.string ⟨#[98]⟩] 9 (0, 0)) := by
        have := blk_new (w3.alloc (Obj.cells #[.string ⟨#[97]⟩] 9)) (Obj.cells #[.string ⟨#[98]⟩] 9)
        simpa using this
      have d2 := below_alloc (below_alloc d (Obj.cells #[.string ⟨#[97]⟩] 9)) (Obj.cells #[.string ⟨#[98]⟩] 9)
      refine (impl_PyPILocal.calls (some ⟨w3.heap.size, 0, none⟩) 1 [⟨#[97]⟩] (some ⟨w3.heap.size + 1, 0, none⟩) 1 [⟨#[98]⟩] (-1) _ (row_text _ g0) (Nat.le_refl _) (row_text _ g1) (Nat.le_refl _) ?_ (HL.out.below d2)).mono ?_
      · unfold impl_PyPILocal.f
        rw [if_pos ⟨by decide, by decide⟩, awake_lex]
      · rintro e w' ⟨rfl, d3⟩
        exact ⟨rfl, below_then d2 d2.size d3⟩
    have xa0_ := blk_cell ha2 0
    have xb0_ := blk_cell hb2 0
    have xa1_ := blk_cell ha2 1
    have xb1_ := blk_cell hb2 1
    have xa2_ := blk_cell ha2 2
    have xb2_ := blk_cell hb2 2
    have xa3_ := blk_cell ha2 3
    have xb3_ := blk_cell hb2 3
    have xa4_ := blk_cell ha2 4
    have xb4_ := blk_cell hb2 4
    have xa5_ := blk_cell ha2 5
    have xb5_ := blk_cell hb2 5
    have xa6_ := blk_cell ha2 6
    have xb6_ := blk_cell hb2 6
    have xa7_ := blk_cell ha2 7
    have xb7_ := blk_cell hb2 7
    have xa8_ := blk_cell ha2 8
    have xb8_ := blk_cell hb2 8
    have xa9_ := blk_cell ha2 9
    have xb9_ := blk_cell hb2 9
    have xa10_ := blk_cell ha2 10
    have xb10_ := blk_cell hb2 10
    have xa11_ := blk_cell ha2 11
    have xb11_ := blk_cell hb2 11
    have xa12_ := blk_cell ha2 12
    have xb12_ := blk_cell hb2 12
    have xa13_ := blk_cell ha2 13
    have xb13_ := blk_cell hb2 13
    have xa14_ := blk_cell ha2 14
    have xb14_ := blk_cell hb2 14
    have xa15_ := blk_cell ha2 15
    have xb15_ := blk_cell hb2 15
    have xa16_ := blk_cell ha2 16
    have xb16_ := blk_cell hb2 16
    have BW := Aside0.mk bw
    clear ha0 ha1 ha2 hb0 hb1 hb2 bw
    go_wp2_with (first | (go_at_call 7; (with_reducible refine cmp.mono ?_); rintro e w3 ⟨rfl, d3⟩; have D3 := Aside0.mk (below_then BW.out BW.out.size d3); clear d3 cmp) | (go_at_call 18; (with_reducible refine (pl _ D3.out).mono ?_); rintro e w4 ⟨rfl, d4⟩; have D4 := Aside0.mk d4; clear d4))
    go_ret
    exact ⟨rfl, D4.out⟩
def laws_pypiAwake.f : Option Bool := some true
theorem laws_pypiAwake.calls (r : Bool) (w : World) (h : laws_pypiAwake.f = some r) (hL : Laid w) :
    Calls Tryz.prog 6 #[] w fun e w' => e = .returned (.bool r) ∧ Below w.heap.size w w' := by
  obtain rfl := Option.some.inj h
  exact awake_calls w hL
end Go.Proofs.YtfmndbmlpfgbnaaGreatDoor.Giv
