/- Contracts by hand: versions of CRAN: their numbers, how two compare. -/
import Derived.Test.YtchbfjjeodnocaaDoorMGivBg
import Derived.Test.YtchbfjjeodnocaaDoorZK
import Derived.Test.YtchbfjjeodnocaaDoorQCx
import Derived.Outline
namespace Go.Proofs.YtchbfjjeodnocaaDoor.Giv
open Go.RowKit Go.Proofs.YtchbfjjeodnocaaDoorW.PrintWords Go.Proofs.YtchbfjjeodnocaaDoorW.PrintLast Go.Proofs.YtchbfjjeodnocaaDoor.Pk Go.Proofs.YtchbfjjeodnocaaDoor.Ord
set_option linter.unusedVariables false
set_option linter.unusedSimpArgs false

/-- The numbers of texts; none: one is no number. -/
def numsOf : List ByteArray → Option (List Int)
  | [] => some []
  | x :: r => match Num.parse x.toList, numsOf r with
    | some z, some zs => some (z :: zs)
    | _, _ => none
theorem numsOf_snoc : ∀ (l : List ByteArray) (x : ByteArray) (zs : List Int), numsOf l = some zs → numsOf (l ++ [x]) = (Num.parse x.toList).map (fun z => zs ++ [z])
  | [], x, zs, h => by
    obtain rfl : zs = [] := by simpa [numsOf] using h.symm
    cases hp : Num.parse x.toList <;> simp [numsOf, hp]
  | y :: l, x, zs, h => by
    cases hy : Num.parse y.toList with
    | none => simp [numsOf, hy] at h
    | some z =>
      cases hl : numsOf l with
      | none => simp [numsOf, hy, hl] at h
      | some zs' =>
        have e : zs = z :: zs' := by simpa [numsOf, hy, hl] using h.symm
        subst e
        have ih := numsOf_snoc l x zs' hl
        rw [List.cons_append, numsOf, hy, ih]
        cases Num.parse x.toList <;> rfl
theorem numsOf_pre : ∀ (l m : List ByteArray), numsOf l = none → numsOf (l ++ m) = none
  | [], m, h => by simp [numsOf] at h
  | y :: l, m, h => by
    rw [List.cons_append, numsOf]
    cases hy : Num.parse y.toList with
    | none => rfl
    | some z =>
      cases hl : numsOf l with
      | none => rw [numsOf_pre l m hl]
      | some zs => simp [numsOf, hy, hl] at h
theorem numsOf_bad (ps : List ByteArray) (k : Nat) (hk : k < ps.length) (zs : List Int) (h : numsOf (ps.take k) = some zs) (hp : Num.parse (ps[k]'hk).toList = none) : numsOf ps = none := by
  have e := numsOf_snoc (ps.take k) (ps[k]'hk) zs h
  rw [hp, ← List.take_succ_eq_append_getElem hk] at e
  have := numsOf_pre _ (ps.drop (k + 1)) e
  rwa [List.take_append_drop] at this
theorem numsOf_len : ∀ (l : List ByteArray) (zs : List Int), numsOf l = some zs → zs.length = l.length
  | [], zs, h => by
    obtain rfl : zs = [] := by simpa [numsOf] using h.symm
    rfl
  | y :: l, zs, h => by
    cases hy : Num.parse y.toList with
    | none => simp [numsOf, hy] at h
    | some z =>
      cases hl : numsOf l with
      | none => simp [numsOf, hy, hl] at h
      | some zs' =>
        have e : zs = z :: zs' := by simpa [numsOf, hy, hl] using h.symm
        subst e
        simp [numsOf_len l zs' hl]
theorem ptrInfo : (Tryd.prog.info? 90).map (fun i => (i.zero, i.size, i.bytes)) = some (some (.pointer none), 1, 8) := by kernel_rfl
/-- What reading a version leaves. -/
def CrPost (w : World) (ps : List ByteArray) (e : Ending) (w' : World) : Prop :=
  Below w.heap.size w w' ∧ ((∃ zs v, numsOf ps = some zs ∧ e = .returned (.tuple #[.agg #[v], .nilIface]) ∧ BOwn w' w.heap.size v zs) ∨ (numsOf ps = none ∧ ∃ a, e = .returned (.tuple #[.agg #[.slice none 0 0], errv a])))
theorem cr_end {w : World} {tmps : Array Value} (v er : Value) {g : Nat} (hp : tmps.getD 2 undef = .pointer (some ⟨g, 0, none⟩)) (he : tmps.getD 3 undef = er) (hg : w.heap[g]? = some (.cells #[v] 110 (0, 0))) :
    (results Tryd.f86 tmps).run Tryd.prog w = .ok (.tuple #[.agg #[v], er]) w := by
  subst he
  exact results_list (rs := [.cell 2 110, .tmp 3]) rfl (by simp) (.cell g 110 #[v] (0, 0) _ hp hg Tryd.underlying110 rfl (by kernel_rfl) (.tmp .nil))
theorem comp_made (w : World) (n : Nat) (h : n ≤ 100000) (base : Nat) (hb : base ≤ w.heap.size) : BOwn (w.alloc (.cells (madeCells #[.pointer none] n) 90)) base (.slice (some ⟨w.heap.size, 0, none⟩) 0 n) [] := by
  obtain ⟨i, hi, hs⟩ := Option.map_eq_some_iff.1 ptrInfo
  have z1 : i.zero = some (.pointer none) := congrArg (fun p => p.1) hs
  have z2 : i.size = 1 := congrArg (fun p => p.2.1) hs
  have z3 : i.bytes = 8 := congrArg (fun p => p.2.2) hs
  obtain ⟨w', r, o, g⟩ := run_makeSlice_owned (P := Tryd.prog) (w := w) base 92 90 i (.pointer none) 1 Tryd.underlying92 hi z1 z2 .i64 .i64 n (by omega) (by rw [z3]; omega) (by unfold maxLen; omega) hb
  have mk := run_makeSlice (P := Tryd.prog) w 92 90 i (.pointer none) Tryd.underlying92 hi z1 .i64 .i64 (0 : Int) (n : Int) (by omega) (by omega) (by rw [z2]; omega) (by rw [z3]; omega) (by omega)
  rw [mk] at r
  rw [z2, Int.toNat_natCast, Nat.mul_one] at r
  have e : w' = w.alloc (.cells (madeCells #[.pointer none] n) 90) := by
    have := r
    simp only [Result.ok.injEq] at this
    exact this.2.symm
  rw [e] at o
  exact ⟨[], ⟨fun _ _ => trivial, [], o, Reps.none _ _⟩, Bigs.nil _⟩
set_option maxRecDepth 100000 in
set_option maxHeartbeats 4000000 in
theorem parseCran_calls (k0 : Nat) (s t : ByteArray) (ps : List ByteArray) (w : World) (hne : s.toList ≠ []) (h1 : QC.semantic_zzReplaceAll.f k0 s ⟨#[45]⟩ ⟨#[46]⟩ = some t) (h2 : QC.semantic_zzSplit.f k0 t ⟨#[46]⟩ = some ps) (hl : ps.length ≤ 100000) (hs : ∀ x ∈ ps, x.size ≤ 40000) (hL : Laid w) :
    Calls Tryd.prog 86 #[.string s] w (CrPost w ps) := by
  have e0 : s.toList.isEmpty = false := by cases h : s.toList with | nil => exact absurd h hne | cons => rfl
  have al := below_alloc (Below.refl w.heap.size w) (Obj.cells #[.slice none 0 0] 110)
  have AL := Aside0.mk al
  have K0 := Aside0.mk (blk_new w (Obj.cells #[.slice none 0 0] 110))
  have HL := Aside0.mk hL
  obtain ⟨i, hi, hs'⟩ := Option.map_eq_some_iff.1 ptrInfo
  have z1 : i.zero = some (.pointer none) := congrArg (fun p => p.1) hs'
  have z2 : i.size = 1 := congrArg (fun p => p.2.1) hs'
  have z3 : i.bytes = 8 := congrArg (fun p => p.2.2) hs'
  have mk : ∀ w' : World, (Instr.makeSlice 92 (.int .i64 0) (.int .i64 (ps.length : Int))).run Tryd.prog w' = .ok (.slice (some ⟨w'.heap.size, 0, none⟩) 0 ps.length) (w'.alloc (.cells (madeCells #[.pointer none] ps.length) 90)) := fun w' => by
    have := run_makeSlice (P := Tryd.prog) w' 92 90 i (.pointer none) Tryd.underlying92 hi z1 .i64 .i64 (0 : Int) (ps.length : Int) (by omega) (by omega) (by rw [z2]; omega) (by rw [z3]; omega) (by omega)
    rw [z2, Int.toNat_natCast, Nat.mul_one] at this
    exact this
  have c1 := fun w' => QC.semantic_zzReplaceAll.calls k0 s ⟨#[45]⟩ ⟨#[46]⟩ t w' h1
  have c2 := fun w' => QC.semantic_zzSplit.calls k0 t ⟨#[46]⟩ ps w' h2
  clear al h1 h2 hi z1 z2 z3 hs' hL
  go_enter Tryd.func86, Tryd.ntmps86
  go_wp2_with (first | (go_at_call 119; (with_reducible refine (c1 _).mono ?_); rintro e w1 ⟨rfl, d1⟩; have D1 := Aside0.mk (below_then AL.out AL.out.size d1); have K1 := Aside0.mk ((d1.block _ (blk_lt K0.out)).trans K0.out); clear d1) | (go_at_call 118; (with_reducible refine (c2 _).mono ?_); rintro e w2 ⟨v2, rfl, r2, d2⟩; obtain ⟨A, c, rfl, hc, hr⟩ := Kd.R_reads r2; have D2 := Aside0.mk (below_then D1.out D1.out.size d2); have K2 := Aside0.mk ((d2.block _ (blk_lt K1.out)).trans K1.out); have HR := Aside0.mk hr; have HC := Aside0.mk hc; clear d2 r2 hr hc))
  have W2 := Aside0.mk (show w.heap.size ≤ w2.heap.size from D2.out.size)
  go_loopw [5, 21] (fun v5 v21 wr => ∃ (k : Nat) (zs : List Int), v21 = .int .i64 k ∧ k ≤ ps.length ∧ numsOf (ps.take k) = some zs ∧ BOwn wr w2.heap.size v5 zs ∧ Below w2.heap.size w2 wr) (fun v5 v21 wr => ps.length - (intOf v21).toNat)
  case atStart => exact ⟨0, [], rfl, Nat.zero_le _, rfl, comp_made w2 ps.length hl _ (Nat.le_refl _), below_alloc (Below.refl _ _) _⟩
  case round =>
    obtain ⟨k, zs, rfl, hk, hz, hbo, hbw⟩ := hrel
    have HB := Aside0.mk hbo
    have BL := Aside0.mk hbw
    have BS := Aside0.mk hbw.size
    have BW := Aside0.mk (D2.out.trans (hbw.mono W2.out))
    have KR := Aside0.mk ((hbw.block _ (blk_lt K2.out)).trans K2.out)
    have HZ := Aside0.mk hz
    have lz := numsOf_len _ _ hz
    rw [List.length_take, Nat.min_eq_left hk] at lz
    by_cases hlt : k < ps.length
    · obtain ⟨ad, rfl, cx0⟩ := Kd.at_string HR.out (k : Int) (by omega) (by omega)
      rw [rdOf_nat _ _ k hlt, Int.toNat_natCast] at cx0
      have hsx := hs _ (List.getElem_mem hlt)
      have ns := numsOf_snoc (ps.take k) (ps[k]'hlt) zs hz
      rw [← List.take_succ_eq_append_getElem hlt] at ns
      have nbad := numsOf_bad ps k hlt zs hz
      have cx := pw_cell_below hbw cx0
      generalize ps[k]'hlt = x at *
      have wk : wrap64 ((k : Int) + 1) = ((k + 1 : Nat) : Int) := Pk.wr k (by omega)
      have f4 : (k : Int) < (ps.length : Int) := Int.ofNat_lt.2 hlt
      have KL := Aside0.mk hlt
      have LIM := Aside0.mk (show (zs.length + 1) * 8 ≤ 140737488355328 by omega)
      have LW := HL.out.below BW.out
      cases hp : Num.parse x.toList with
      | some z =>
        have ss := set_some (new_calls x wr hsx LW) hp
        rw [hp] at ns
        have NS := Aside0.mk (show numsOf (ps.take (k + 1)) = some (zs ++ [z]) from ns)
        clear hp ns nbad hz hbo hbw hlt hsx LW cx0 hk lz
        go_wp2_with (first | (go_at_call 120; (with_reducible refine ss.mono ?_); rintro e w3 ⟨rfl, q1, q2⟩; have B3 := (below_alloc (Below.refl wr.heap.size wr) (Obj.cells #[.bool false, .slice none 0 0] 152)).trans q1; have BL3 := Aside0.mk (below_then BL.out BS.out B3); have BS3 := Aside0.mk (Nat.le_trans BS.out B3.size); obtain ⟨qs, hq1, hq2⟩ := HB.out.below B3; have HQ1 := Aside0.mk hq1; have HQ2 := Aside0.mk hq2; have Q2 := Aside0.mk q2; have QL := Aside0.mk (show (qs.length + 1) * 8 ≤ 140737488355328 by rw [hq2.1]; exact LIM.out); clear q1 q2 B3 hq1 hq2) | ((with_reducible refine gate_builtin (b := .append) (xs := #[.tmp 35, .tmp 37]) rfl ?_); at_builtin; refine Kd.R_append ptrK (w0 := w2) w2.heap.size rfl (.tmp 35) (.tmp 37) 92 90 (.pointer none) 8 rfl Tryd.underlying92 ptrInfo rfl (by decide) (by omega) u5 qs wr.heap.size [.pointer (some ⟨wr.heap.size, 0, none⟩)] (fun _ => True) (fun _ => False) rfl rfl ?aP (fun _ hk => hk.elim) ?aF ?aO ?aB ?aS ?aL ?_; (case aP => exact rfl); (case aF => exact (fun _ _ => trivial)); (case aO => exact HQ1.out); (case aB => exact BL3.out); (case aS => exact BS3.out); (case aL => exact QL.out); intro v5 w5 ho hb hg hat; have HO := Aside0.mk (BOwn.more HQ1.out HQ2.out Q2.out ho hg); have BL5 := Aside0.mk hb; clear ho hb hg hat))
        refine ⟨⟨k + 1, _, by simp, KL.out, NS.out, HO.out, BL5.out⟩, by simp only [intOf]; have := KL.out; omega⟩
      | none =>
        have ss := set_none (new_calls x wr hsx LW) hp
        have NB := Aside0.mk (nbad hp)
        obtain ⟨ai, hi⟩ := HL.out.inv
        have gi := fun (w' : World) (h : Below w.heap.size w w') => pw_cell_below h hi
        clear hp ns nbad hz hbo hbw hlt hsx LW cx0 hk lz hi
        go_wp2_with (first | (go_at_call 120; (with_reducible refine ss.mono ?_); rintro e w3 ⟨rfl, q1⟩; have B3 := (below_alloc (Below.refl wr.heap.size wr) (Obj.cells #[.bool false, .slice none 0 0] 152)).trans q1; have BW3 := Aside0.mk (below_then BW.out BW.out.size B3); have pi := gi _ BW3.out; have pi2 := gi _ (BW3.out.setCell (p := ⟨w.heap.size, 0, none⟩) (Nat.le_refl _) (.slice none 0 0)); have k3 := (B3.block _ (blk_lt KR.out)).trans KR.out; have p0 := blk_cell k3 0; have f0 := Lib.frozen_of_heap k3 0; have K3 := Aside0.mk k3; clear q1 B3 k3))
        go_region
        all_goals
          go_wp2_with fail
          exact bodyPost_ret (cr_end (.slice none 0 0) (errv ai) rfl rfl (blk_put K3.out 0 _ rfl)) rfl ⟨Below.drew (BW3.out.setCell (Nat.le_refl _) _), .inr ⟨NB.out, _, rfl⟩⟩
    · have ek : k = ps.length := by omega
      rw [ek, List.take_length] at hz
      have HZ2 := Aside0.mk hz
      obtain ⟨A5, c5, rfl, _, _⟩ := hbo.slice
      have kr := KR.out
      have p0 := blk_cell kr 0
      have f0 := Lib.frozen_of_heap kr 0
      have f4 : ¬ (k : Int) < (ps.length : Int) := by omega
      clear hz hbw hlt ek hk lz kr hbo
      go_wp2_with fail
      exact bodyPost_ret (cr_end (.slice A5 zs.length c5) .nilIface rfl rfl (blk_put KR.out 0 _ rfl)) rfl ⟨BW.out.setCell (Nat.le_refl _) _, .inl ⟨zs, _, HZ2.out, rfl, (HB.out.put KR.out (by decide) (by decide) 0 _).lower W2.out⟩⟩
set_option maxRecDepth 100000 in
theorem parseCran_nil (w : World) :
    Calls Tryd.prog 86 #[.string ⟨#[]⟩] w fun e w' => e = .returned (.tuple #[.agg #[.slice none 0 0], .nilIface]) ∧ Below w.heap.size w w' := by
  have b1 := below_alloc (Below.refl w.heap.size w) (Obj.cells #[.slice none 0 0] 110)
  have hg := blk_new w (Obj.cells #[.slice none 0 0] 110)
  have B1 := Aside0.mk b1
  have HG := Aside0.mk hg
  clear b1 hg
  go_enter Tryd.func86, Tryd.ntmps86
  go_wp2_with fail
  exact bodyPost_ret (cr_end (.slice none 0 0) .nilIface rfl rfl HG.out) rfl ⟨rfl, B1.out⟩
/-- The numbers of a version; none within: it is none. -/
def crP (k : Nat) (s : ByteArray) : Option (Option (List Int)) := if s.toList = [] then some (some []) else ((QC.semantic_zzReplaceAll.f k s ⟨#[45]⟩ ⟨#[46]⟩).bind fun t => ((QC.semantic_zzSplit.f k t ⟨#[46]⟩).bind fun ps => (if fit ps = true then some (numsOf ps) else none)))
theorem crP_mono : ∀ s k, LeO (crP k s) (crP (k + 1) s) := by
  intro s k
  unfold crP
  split
  · exact LeO.refl _
  · exact LeO.bind (QC.semantic_zzReplaceAll.mono _ _ _ _) (fun _ => LeO.bind (QC.semantic_zzSplit.mono _ _ _) (fun _ => LeO.refl _))
theorem crP_len {k : Nat} {s : ByteArray} {zs : List Int} (h : crP k s = some (some zs)) : zs.length ≤ 100000 := by
  unfold crP at h
  split at h
  · obtain rfl : zs = [] := by simpa using h.symm
    simp
  · obtain ⟨t, _, h⟩ := Option.bind_eq_some_iff.1 h
    obtain ⟨ps, _, h⟩ := Option.bind_eq_some_iff.1 h
    split at h
    · next hf =>
      rw [numsOf_len _ _ (Option.some.inj h)]
      exact fit_len hf
    · exact absurd h (by simp)
theorem fit_all {l : List ByteArray} (h : fit l = true) : ∀ x ∈ l, x.size ≤ 40000 := by
  intro x hx
  obtain ⟨i, hi, rfl⟩ := List.mem_iff_getElem.1 hx
  have := fit_at h i (z := ⟨#[48]⟩) z48
  rw [List.getD_eq_getElem?_getD, List.getElem?_eq_getElem hi] at this
  exact this
theorem parse_ok (k : Nat) (s : ByteArray) (zs : List Int) (w : World) (h : crP k s = some (some zs)) (hL : Laid w) :
    Calls Tryd.prog 86 #[.string s] w fun e w' => ∃ A c, e = .returned (.tuple #[.agg #[.slice A zs.length c], .nilIface]) ∧ BRow w' A zs ∧ Below w.heap.size w w' := by
  unfold crP at h
  split at h
  · next he =>
    obtain rfl : zs = [] := by simpa using h.symm
    obtain rfl : s = ⟨#[]⟩ := bs_eq he
    refine (parseCran_nil w).mono ?_
    rintro e w' ⟨rfl, hb⟩
    exact ⟨none, 0, rfl, BRow.nil _, hb⟩
  · next he =>
    obtain ⟨t, h1, h⟩ := Option.bind_eq_some_iff.1 h
    obtain ⟨ps, h2, h⟩ := Option.bind_eq_some_iff.1 h
    split at h
    · next hf =>
      have h3 := Option.some.inj h
      refine (parseCran_calls k s t ps w he h1 h2 (fit_len hf) (fit_all hf) hL).mono ?_
      rintro e w' ⟨hb, ⟨zs', v, e1, rfl, ho⟩ | ⟨e1, _⟩⟩
      · rw [h3] at e1
        obtain rfl := Option.some.inj e1
        obtain ⟨A, c, rfl, _, hr⟩ := ho.slice
        exact ⟨A, c, rfl, hr, hb⟩
      · rw [h3] at e1
        exact absurd e1 (by simp)
    · exact absurd h (by simp)
theorem parse_err (k : Nat) (s : ByteArray) (w : World) (h : crP k s = some none) (hL : Laid w) :
    Calls Tryd.prog 86 #[.string s] w fun e w' => ∃ a, e = .returned (.tuple #[.agg #[.slice none 0 0], errv a]) ∧ Below w.heap.size w w' := by
  unfold crP at h
  split at h
  · simp at h
  · next he =>
    obtain ⟨t, h1, h⟩ := Option.bind_eq_some_iff.1 h
    obtain ⟨ps, h2, h⟩ := Option.bind_eq_some_iff.1 h
    split at h
    · next hf =>
      have h3 := Option.some.inj h
      refine (parseCran_calls k s t ps w he h1 h2 (fit_len hf) (fit_all hf) hL).mono ?_
      rintro e w' ⟨hb, ⟨zs', v, e1, _⟩ | ⟨_, a, rfl⟩⟩
      · rw [h3] at e1
        exact absurd e1 (by simp)
      · exact ⟨a, rfl, hb⟩
    · exact absurd h (by simp)
/-- Two versions compared: by their numbers, then by how many there are. -/
def crC (zs ys : List Int) : Int := if padL cI 0 zs ys = 0 then cI zs.length ys.length else padL cI 0 zs ys
set_option maxRecDepth 100000 in
set_option maxHeartbeats 2000000 in
theorem crCompare_calls (A1 A2 : Option Addr) (c1 c2 : Nat) (zs ys : List Int) (w : World) (h1 : BRow w A1 zs) (h2 : BRow w A2 ys) (l1 : zs.length ≤ 100000) (l2 : ys.length ≤ 100000) :
    Calls Tryd.prog 121 #[.agg #[.slice A1 zs.length c1], .agg #[.slice A2 ys.length c2]] w fun e w' => e = .returned (.int .i64 (crC zs ys)) ∧ Below w.heap.size w w' := by
  have b1 := below_alloc (Below.refl w.heap.size w) (Obj.cells #[.slice A1 zs.length c1] 110)
  have b2 := below_alloc b1 (Obj.cells #[.slice A2 ys.length c2] 110)
  have B2 := Aside0.mk b2
  have k0 := blk_new w (Obj.cells #[.slice A1 zs.length c1] 110)
  have k1 : ((w.alloc (Obj.cells #[.slice A1 zs.length c1] 110)).alloc (Obj.cells #[.slice A2 ys.length c2] 110)).heap[w.heap.size]? = some (Obj.cells #[.slice A1 zs.length c1] 110) := blk_alloc k0 _
  have m1 : ((w.alloc (Obj.cells #[.slice A1 zs.length c1] 110)).alloc (Obj.cells #[.slice A2 ys.length c2] 110)).heap[w.heap.size + 1]? = some (Obj.cells #[.slice A2 ys.length c2] 110) := by
    have := blk_new (w.alloc (Obj.cells #[.slice A1 zs.length c1] 110)) (Obj.cells #[.slice A2 ys.length c2] 110)
    simpa using this
  have cm := compCmp_calls w.heap.size 0 A1 A2 c1 c2 zs ys _ (blk_cell k1 0) (h1.below b2) (h2.below b2) (by omega) (by omega)
  have K1 := Aside0.mk k1
  have M1 := Aside0.mk m1
  have CE := Aside0.mk (show crC zs ys = if padL cI 0 zs ys = 0 then cI zs.length ys.length else padL cI 0 zs ys from rfl)
  clear b1 b2 k0 k1 m1 h1 h2 l1 l2
  generalize padL cI 0 zs ys = c at *
  generalize crC zs ys = r at *
  by_cases hc : c = 0
  · subst hc
    have CE2 := Aside0.mk (show r = cI zs.length ys.length by rw [CE.out, if_pos rfl])
    clear CE
    rcases Nat.lt_trichotomy zs.length ys.length with hl | hl | hl
    · have RV := Aside0.mk (show r = -1 by rw [CE2.out]; exact cI_neg.2 (by omega))
      have f1 : ((zs.length : Int) == (ys.length : Int)) = false := beq_eq_false_iff_ne.2 (by omega)
      have f2 : decide ((ys.length : Int) < (zs.length : Int)) = false := decide_eq_false (by omega)
      have f3 : ¬ ((zs.length : Int) > (ys.length : Int)) := by omega
      clear hl CE2
      go_enter Tryd.func121, Tryd.ntmps121
      go_wp2_with (first | (go_at_call 142; (with_reducible refine cm.mono ?_); rintro e w1 ⟨rfl, d1⟩; have D1 := Aside0.mk (below_then B2.out B2.out.size d1); have q0 := blk_cell ((d1.block _ (blk_lt K1.out)).trans K1.out) 0; have q1 := blk_cell ((d1.block _ (blk_lt M1.out)).trans M1.out) 0; clear d1))
      go_ret
      exact ⟨by rw [RV.out]; rfl, D1.out⟩
    · have RV := Aside0.mk (show r = 0 by rw [CE2.out]; exact cI_zero.2 (by omega))
      have f1 : ((zs.length : Int) == (ys.length : Int)) = true := beq_iff_eq.2 (by omega)
      clear hl CE2
      go_enter Tryd.func121, Tryd.ntmps121
      go_wp2_with (first | (go_at_call 142; (with_reducible refine cm.mono ?_); rintro e w1 ⟨rfl, d1⟩; have D1 := Aside0.mk (below_then B2.out B2.out.size d1); have q0 := blk_cell ((d1.block _ (blk_lt K1.out)).trans K1.out) 0; have q1 := blk_cell ((d1.block _ (blk_lt M1.out)).trans M1.out) 0; clear d1))
      go_ret
      exact ⟨by rw [RV.out]; rfl, D1.out⟩
    · have RV := Aside0.mk (show r = 1 by rw [CE2.out]; exact cI_pos.2 (by omega))
      have f1 : ((zs.length : Int) == (ys.length : Int)) = false := beq_eq_false_iff_ne.2 (by omega)
      have f2 : decide ((ys.length : Int) < (zs.length : Int)) = true := decide_eq_true (by omega)
      have f3 : ((zs.length : Int) > (ys.length : Int)) := by omega
      clear hl CE2
      go_enter Tryd.func121, Tryd.ntmps121
      go_wp2_with (first | (go_at_call 142; (with_reducible refine cm.mono ?_); rintro e w1 ⟨rfl, d1⟩; have D1 := Aside0.mk (below_then B2.out B2.out.size d1); have q0 := blk_cell ((d1.block _ (blk_lt K1.out)).trans K1.out) 0; have q1 := blk_cell ((d1.block _ (blk_lt M1.out)).trans M1.out) 0; clear d1))
      go_ret
      exact ⟨by rw [RV.out]; rfl, D1.out⟩
  · have RV := Aside0.mk (show r = c by rw [CE.out, if_neg hc])
    have nz : (c != 0) = true := bne_iff_ne.2 hc
    clear CE hc
    go_enter Tryd.func121, Tryd.ntmps121
    go_wp2_with (first | (go_at_call 142; (with_reducible refine cm.mono ?_); rintro e w1 ⟨rfl, d1⟩; have D1 := Aside0.mk (below_then B2.out B2.out.size d1); have q0 := blk_cell ((d1.block _ (blk_lt K1.out)).trans K1.out) 0; have q1 := blk_cell ((d1.block _ (blk_lt M1.out)).trans M1.out) 0; clear d1))
    go_ret
    exact ⟨by rw [RV.out]; rfl, D1.out⟩
set_option maxHeartbeats 1000000 in
theorem crIface_calls (A1 A2 : Option Addr) (n1 n2 c1 c2 : Nat) (r : Int) (w : World) (c : ∀ w', Below w.heap.size w w' → Calls Tryd.prog 121 #[.agg #[.slice A1 n1 c1], .agg #[.slice A2 n2 c2]] w' fun e w'' => e = .returned (.int .i64 r) ∧ Below w'.heap.size w' w'') :
    Calls Tryd.prog 87 #[.agg #[.slice A1 n1 c1], .iface 110 (.agg #[.slice A2 n2 c2])] w fun e w' => e = .returned (.tuple #[.int .i64 r, .nilIface]) ∧ Below w.heap.size w w' := by
  have hta := fun v w => run_assert_is Tryd.underlying110 155 v w
  have h1 := (Below.refl w.heap.size w).alloc (Nat.le_refl _) (Obj.cells #[Value.slice A1 n1 c1] 110)
  have h2 := h1.alloc h1.size (Obj.cells #[Value.slice A2 n2 c2] 110)
  have c' := c _ h2
  have H2 := Aside0.mk h2
  clear h1 h2 c
  go_enter Tryd.func87, Tryd.ntmps87
  go_wp2_with (first | (go_at_call 121; refine c'.mono ?_; rintro e w1 ⟨rfl, hb1⟩))
  go_ret2
  exact ⟨rfl, H2.out.trans (hb1.mono H2.out.size)⟩
set_option maxRecDepth 100000 in
set_option maxHeartbeats 2000000 in
theorem crStr_ok (k : Nat) (A1 : Option Addr) (c1 : Nat) (zs ys : List Int) (b : ByteArray) (w : World) (h1 : BRow w A1 zs) (l1 : zs.length ≤ 100000) (hb : crP k b = some (some ys)) (hL : Laid w) :
    Calls Tryd.prog 88 #[.agg #[.slice A1 zs.length c1], .string b] w fun e w' => e = .returned (.tuple #[.int .i64 (crC zs ys), .nilIface]) ∧ Below w.heap.size w w' := by
  have b1 := below_alloc (Below.refl w.heap.size w) (Obj.cells #[.slice A1 zs.length c1] 110)
  have B1 := Aside0.mk b1
  have K0 := Aside0.mk (blk_new w (Obj.cells #[.slice A1 zs.length c1] 110))
  have p1 := parse_ok k b ys _ hb (hL.below b1)
  have l2 := crP_len hb
  have c2 := fun (w' : World) (A2 : Option Addr) (c2 : Nat) (hb' : Below w.heap.size w w') (h2 : BRow w' A2 ys) => crCompare_calls A1 A2 c1 c2 zs ys w' (h1.below hb') h2 l1 l2
  clear b1 hL hb h1 l1 l2
  generalize crC zs ys = r at *
  go_enter Tryd.func88, Tryd.ntmps88
  go_wp2_with (first | (go_at_call 86; (with_reducible refine p1.mono ?_); rintro e w1 ⟨A2, cc, rfl, r1, d1⟩; have D1 := Aside0.mk (below_then B1.out B1.out.size d1); have q0 := blk_cell ((d1.block _ (blk_lt K0.out)).trans K0.out) 0; have lt0 := blk_lt ((d1.block _ (blk_lt K0.out)).trans K0.out); have R1 := Aside0.mk r1; clear r1 d1) | (go_at_call 121; (with_reducible refine (c2 _ _ _ (below_alloc D1.out _) (R1.out.below (below_alloc (Below.refl _ _) _))).mono ?_); rintro e w2 ⟨rfl, d2⟩; have D2 := Aside0.mk (below_then (below_alloc D1.out _) (below_alloc D1.out _).size d2); clear d2))
  go_ret2
  exact ⟨rfl, D2.out⟩
set_option maxRecDepth 100000 in
set_option maxHeartbeats 2000000 in
theorem crStr_err (k : Nat) (A1 : Option Addr) (c1 n1 : Nat) (b : ByteArray) (w : World) (hb : crP k b = some none) (hL : Laid w) :
    Calls Tryd.prog 88 #[.agg #[.slice A1 n1 c1], .string b] w fun e w' => ∃ a, e = .returned (.tuple #[.int .i64 0, errv a]) ∧ Below w.heap.size w w' := by
  have b1 := below_alloc (Below.refl w.heap.size w) (Obj.cells #[.slice A1 n1 c1] 110)
  have B1 := Aside0.mk b1
  have p1 := parse_err k b _ hb (hL.below b1)
  clear b1 hL hb
  go_enter Tryd.func88, Tryd.ntmps88
  go_wp2_with (first | (go_at_call 86; (with_reducible refine p1.mono ?_); rintro e w1 ⟨a, rfl, d1⟩; have D1 := Aside0.mk (below_then B1.out B1.out.size d1); clear d1))
  go_ret2
  exact ⟨_, rfl, below_alloc D1.out _⟩
/-- What the thin package answers of two versions. -/
def crR (k : Nat) (a b : ByteArray) : Option (Int × Bool) := (crP k a).bind fun x => ((crP k b).bind fun y => (match x, y with | some zs, some ys => some (crC zs ys, true) | _, _ => some (0, false)))
theorem crR_mono : ∀ a b k, LeO (crR k a b) (crR (k + 1) a b) := by
  intro a b k
  unfold crR
  exact LeO.bind (crP_mono _ _) (fun _ => LeO.bind (crP_mono _ _) (fun _ => LeO.refl _))
set_option maxRecDepth 100000 in
set_option maxHeartbeats 2000000 in
theorem ic_aerr (k : Nat) (a b : ByteArray) (w : World) (ha : crP k a = some none) (hL : Laid w) :
    Calls Tryd.prog 43 #[.string a, .string b] w fun e w' => e = .returned (.tuple #[.int .i64 0, .bool false]) ∧ Below w.heap.size w w' := by
  have p1 := parse_err k a w ha hL
  clear hL ha
  go_enter Tryd.func43, Tryd.ntmps43
  go_wp2_with (first | (go_at_call 86; (with_reducible refine p1.mono ?_); rintro e w1 ⟨a, rfl, d1⟩; have D1 := Aside0.mk d1; clear d1))
  go_ret2
  exact ⟨rfl, below_alloc D1.out _⟩
set_option maxRecDepth 100000 in
set_option maxHeartbeats 2000000 in
theorem ic_berr (k : Nat) (a b : ByteArray) (zs : List Int) (w : World) (ha : crP k a = some (some zs)) (hb : crP k b = some none) (hL : Laid w) :
    Calls Tryd.prog 43 #[.string a, .string b] w fun e w' => e = .returned (.tuple #[.int .i64 0, .bool false]) ∧ Below w.heap.size w w' := by
  have p1 := parse_ok k a zs w ha hL
  have p2 := fun (w' : World) (h : Below w.heap.size w w') => parse_err k b w' hb (hL.below h)
  clear hL ha hb
  go_enter Tryd.func43, Tryd.ntmps43
  go_wp2_with (first | (go_at_call 86; (with_reducible refine p1.mono ?_); rintro e w1 ⟨A1, c1, rfl, r1, d1⟩; have D1 := Aside0.mk d1; clear d1 r1) | (go_at_call 86; (with_reducible refine (p2 _ (below_alloc D1.out _)).mono ?_); rintro e w2 ⟨a, rfl, d2⟩; have D2 := Aside0.mk (below_then (below_alloc D1.out _) (below_alloc D1.out _).size d2); clear d2))
  go_ret2
  exact ⟨rfl, below_alloc D2.out _⟩
set_option maxRecDepth 100000 in
set_option maxHeartbeats 2000000 in
theorem ic_ok (k : Nat) (a b : ByteArray) (zs ys : List Int) (w : World) (ha : crP k a = some (some zs)) (hb : crP k b = some (some ys)) (hL : Laid w) :
    Calls Tryd.prog 43 #[.string a, .string b] w fun e w' => e = .returned (.tuple #[.int .i64 (crC zs ys), .bool true]) ∧ Below w.heap.size w w' := by
  have p1 := parse_ok k a zs w ha hL
  have p2 := fun (w' : World) (h : Below w.heap.size w w') => parse_ok k b ys w' hb (hL.below h)
  have l1 := crP_len ha
  have l2 := crP_len hb
  have ci := fun (w' : World) (A1 A2 : Option Addr) (c1 c2 : Nat) (h1 : BRow w' A1 zs) (h2 : BRow w' A2 ys) => crIface_calls A1 A2 zs.length ys.length c1 c2 (crC zs ys) w' (fun w3 hb3 => crCompare_calls A1 A2 c1 c2 zs ys w3 (h1.below hb3) (h2.below hb3) l1 l2)
  have hmi : ∀ x w, (Instr.makeInterface 110 x).run Tryd.prog w = .ok (.iface 110 x) w := fun x w => run_makeInterface w 110 x (by kernel_rfl)
  have hnn := fun w => run_nil_nil Tryd.underlying72 w
  clear hL ha hb l1 l2
  generalize crC zs ys = r at *
  go_enter Tryd.func43, Tryd.ntmps43
  go_wp2_with (first | (go_at_call 86; (with_reducible refine p1.mono ?_); rintro e w1 ⟨A1, c1, rfl, r1, d1⟩; have D1 := Aside0.mk d1; have K1 := Aside0.mk (blk_new w1 (Obj.cells #[.slice A1 zs.length c1] 110)); have R1 := Aside0.mk r1; clear d1 r1) | (go_at_call 86; (with_reducible refine (p2 _ (below_alloc D1.out _)).mono ?_); rintro e w2 ⟨A2, c2, rfl, r2, d2⟩; have D2 := Aside0.mk (below_then (below_alloc D1.out _) (below_alloc D1.out _).size d2); have q0 := blk_cell ((d2.block _ (blk_lt K1.out)).trans K1.out) 0; have lt0 := blk_lt ((d2.block _ (blk_lt K1.out)).trans K1.out); have R2 := Aside0.mk r2; have R12 := Aside0.mk ((R1.out.below (below_alloc (Below.refl _ _) (Obj.cells #[.slice A1 zs.length c1] 110))).below d2); clear d2 r2) | (go_at_call 87; (with_reducible refine (ci _ _ _ _ _ (R12.out.below (below_alloc (Below.refl _ _) _)) (R2.out.below (below_alloc (Below.refl _ _) _))).mono ?_); rintro e w3 ⟨rfl, d3⟩; have D3 := Aside0.mk (below_then (below_alloc D2.out _) (below_alloc D2.out _).size d3); clear d3))
  go_quiet (fail)
  go_wp2_with fail
  go_ret2
  exact ⟨rfl, bel_drewN D3.out _⟩
set_option maxRecDepth 100000 in
set_option maxHeartbeats 2000000 in
theorem it_aerr (k : Nat) (a b : ByteArray) (w : World) (ha : crP k a = some none) (hL : Laid w) :
    Calls Tryd.prog 44 #[.string a, .string b] w fun e w' => e = .returned (.tuple #[.int .i64 0, .bool false]) ∧ Below w.heap.size w w' := by
  have p1 := parse_err k a w ha hL
  clear hL ha
  go_enter Tryd.func44, Tryd.ntmps44
  go_wp2_with (first | (go_at_call 86; (with_reducible refine p1.mono ?_); rintro e w1 ⟨a, rfl, d1⟩; have D1 := Aside0.mk d1; clear d1))
  go_ret2
  exact ⟨rfl, below_alloc D1.out _⟩
set_option maxRecDepth 100000 in
set_option maxHeartbeats 2000000 in
theorem it_berr (k : Nat) (a b : ByteArray) (zs : List Int) (w : World) (ha : crP k a = some (some zs)) (hb : crP k b = some none) (hL : Laid w) :
    Calls Tryd.prog 44 #[.string a, .string b] w fun e w' => e = .returned (.tuple #[.int .i64 0, .bool false]) ∧ Below w.heap.size w w' := by
  have p1 := parse_ok k a zs w ha hL
  have p2 := fun (w' : World) (A1 : Option Addr) (c1 : Nat) (h : Below w.heap.size w w') => crStr_err k A1 c1 zs.length b w' hb (hL.below h)
  clear hL ha hb
  go_enter Tryd.func44, Tryd.ntmps44
  go_wp2_with (first | (go_at_call 86; (with_reducible refine p1.mono ?_); rintro e w1 ⟨A1, c1, rfl, r1, d1⟩; have D1 := Aside0.mk d1; clear d1 r1) | (go_at_call 88; (with_reducible refine (p2 _ _ _ (below_alloc D1.out _)).mono ?_); rintro e w2 ⟨a, rfl, d2⟩; have D2 := Aside0.mk (below_then (below_alloc D1.out _) (below_alloc D1.out _).size d2); clear d2))
  go_quiet (fail)
  go_wp2_with fail
  go_ret2
  exact ⟨rfl, bel_drewN D2.out _⟩
set_option maxRecDepth 100000 in
set_option maxHeartbeats 2000000 in
theorem it_ok (k : Nat) (a b : ByteArray) (zs ys : List Int) (w : World) (ha : crP k a = some (some zs)) (hb : crP k b = some (some ys)) (hL : Laid w) :
    Calls Tryd.prog 44 #[.string a, .string b] w fun e w' => e = .returned (.tuple #[.int .i64 (crC zs ys), .bool true]) ∧ Below w.heap.size w w' := by
  have p1 := parse_ok k a zs w ha hL
  have l1 := crP_len ha
  have p2 := fun (w' : World) (A1 : Option Addr) (c1 : Nat) (h : Below w.heap.size w w') (h1 : BRow w' A1 zs) => crStr_ok k A1 c1 zs ys b w' h1 l1 hb (hL.below h)
  have hnn := fun w => run_nil_nil Tryd.underlying72 w
  clear hL ha hb l1
  generalize crC zs ys = r at *
  go_enter Tryd.func44, Tryd.ntmps44
  go_wp2_with (first | (go_at_call 86; (with_reducible refine p1.mono ?_); rintro e w1 ⟨A1, c1, rfl, r1, d1⟩; have D1 := Aside0.mk d1; have R1 := Aside0.mk r1; clear d1 r1) | (go_at_call 88; (with_reducible refine (p2 _ _ _ (below_alloc D1.out _) (R1.out.below (below_alloc (Below.refl _ _) _))).mono ?_); rintro e w2 ⟨rfl, d2⟩; have D2 := Aside0.mk (below_then (below_alloc D1.out _) (below_alloc D1.out _).size d2); clear d2))
  go_quiet (fail)
  go_wp2_with fail
  go_ret2
  exact ⟨rfl, bel_drewN D2.out _⟩
def impl_CRANCompare.f (k : Nat) (a0 a1 : ByteArray) : Option (Int × Bool) := crR k a0 a1
theorem impl_CRANCompare.mono : ∀ a0 a1 k, LeO (impl_CRANCompare.f k a0 a1) (impl_CRANCompare.f (k + 1) a0 a1) := crR_mono
def impl_CRANCompareText.f (k : Nat) (a0 a1 : ByteArray) : Option (Int × Bool) := crR k a0 a1
theorem impl_CRANCompareText.mono : ∀ a0 a1 k, LeO (impl_CRANCompareText.f k a0 a1) (impl_CRANCompareText.f (k + 1) a0 a1) := crR_mono
theorem impl_CRANCompare.calls (k : Nat) (a0 a1 : ByteArray) (r1 : Int) (r2 : Bool) (w : World) (h : impl_CRANCompare.f k a0 a1 = some (r1, r2)) (hL : Laid w) :
    Calls Tryd.prog 43 #[.string a0, .string a1] w fun e w' => e = .returned (.tuple #[.int .i64 r1, .bool r2]) ∧ Below w.heap.size w w' := by
  have h : crR k a0 a1 = some (r1, r2) := h
  unfold crR at h
  obtain ⟨x, hx, h⟩ := Option.bind_eq_some_iff.1 h
  obtain ⟨y, hy, h⟩ := Option.bind_eq_some_iff.1 h
  cases x with
  | none =>
    have h := Option.some.inj h
    obtain ⟨rfl, rfl⟩ := Prod.mk.inj h
    exact ic_aerr k a0 a1 w hx hL
  | some zs =>
    cases y with
    | none =>
      have h := Option.some.inj h
      obtain ⟨rfl, rfl⟩ := Prod.mk.inj h
      exact ic_berr k a0 a1 zs w hx hy hL
    | some ys =>
      have h := Option.some.inj h
      obtain ⟨rfl, rfl⟩ := Prod.mk.inj h
      exact ic_ok k a0 a1 zs ys w hx hy hL
theorem impl_CRANCompareText.calls (k : Nat) (a0 a1 : ByteArray) (r1 : Int) (r2 : Bool) (w : World) (h : impl_CRANCompareText.f k a0 a1 = some (r1, r2)) (hL : Laid w) :
    Calls Tryd.prog 44 #[.string a0, .string a1] w fun e w' => e = .returned (.tuple #[.int .i64 r1, .bool r2]) ∧ Below w.heap.size w w' := by
  have h : crR k a0 a1 = some (r1, r2) := h
  unfold crR at h
  obtain ⟨x, hx, h⟩ := Option.bind_eq_some_iff.1 h
  obtain ⟨y, hy, h⟩ := Option.bind_eq_some_iff.1 h
  cases x with
  | none =>
    have h := Option.some.inj h
    obtain ⟨rfl, rfl⟩ := Prod.mk.inj h
    exact it_aerr k a0 a1 w hx hL
  | some zs =>
    cases y with
    | none =>
      have h := Option.some.inj h
      obtain ⟨rfl, rfl⟩ := Prod.mk.inj h
      exact it_berr k a0 a1 zs w hx hy hL
    | some ys =>
      have h := Option.some.inj h
      obtain ⟨rfl, rfl⟩ := Prod.mk.inj h
      exact it_ok k a0 a1 zs ys w hx hy hL
end Go.Proofs.YtchbfjjeodnocaaDoor.Giv
