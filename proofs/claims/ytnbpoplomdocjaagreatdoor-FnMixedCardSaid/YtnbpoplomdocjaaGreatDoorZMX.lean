/- Several texts of this claim in one. Put together by wip/tool/merge.py. -/
import Derived.Test.YtnbpoplomdocjaaGreatDoorZDB
import Derived.Test.YtnbpoplomdocjaaGreatDoorZRB
import Derived.Test.YtnbpoplomdocjaaGreatDoorZCA
import Derived.Outline
/- Contracts by hand: a text as a version of one of the four kinds: impl.version of any text; two values behind the interface Version compared. -/
namespace Go.Proofs.YtnbpoplomdocjaaGreatDoor.Giv
open Go.RowKit Go.Proofs.YtnbpoplomdocjaaGreatDoorW.PrintWords Go.Proofs.YtnbpoplomdocjaaGreatDoorW.PrintLast Go.Proofs.YtnbpoplomdocjaaGreatDoor.Pk Go.Proofs.YtnbpoplomdocjaaGreatDoor.Ord
set_option linter.unusedVariables false
set_option linter.unusedSimpArgs false

/-- What a text is as a version of a kind. -/
inductive Md where
  | bad
  | deb (p : Int × List UInt8 × List UInt8)
  | red (x : Red.Ver)
  | cran (zs : List Int)
  | ruby (s : ByteArray)
/-- The value v is that version. -/
def Vis (w : World) : Md → Value → Prop
  | .bad, v => v = .nilIface
  | .deb p, v => ∃ b : Nat, v = .iface 38 (.agg #[.pointer (some ⟨b, 0, none⟩), .string (bs p.2.1), .string (bs p.2.2)]) ∧ IsBig w b p.1
  | .red x, v => v = .iface 42 (.agg #[.string (bs x.1), .string (bs x.2.1), .string (bs x.2.2)])
  | .cran zs, v => ∃ (A : Option Addr) (c : Nat), v = .iface 47 (.agg #[.slice A zs.length c]) ∧ BRow w A zs
  | .ruby s, v => ∃ (A : Option Addr) (c : Nat), v = .iface 51 (.agg #[.string s, .slice A (QR.rubySegs s).length c]) ∧ (QR.rubySegs s).length ≤ c ∧ Kd.C Kd.string w A (QR.rubySegs s).length (QR.rubySegs s)
theorem Vis.below {w w' : World} {m : Md} {v : Value} (h : Vis w m v) (hb : Below w.heap.size w w') : Vis w' m v := by
  cases m with
  | bad => exact h
  | deb p =>
    obtain ⟨b, e, h⟩ := h
    exact ⟨b, e, h.below hb⟩
  | red x => exact h
  | cran zs =>
    obtain ⟨A, c, e, h⟩ := h
    exact ⟨A, c, e, h.below hb⟩
  | ruby s =>
    obtain ⟨A, c, e, h1, h2⟩ := h
    exact ⟨A, c, e, h1, Kd.C_below h2 hb⟩
def mdOf (k : Int) (s : ByteArray) : Md :=
  if k = 0 then (match dvL s.toList with | some p => .deb p | none => .bad)
  else if k = 1 then .red (Red.parse s.toList)
  else if k = 2 then (match crN s with | some zs => .cran zs | none => .bad)
  else if k = 3 then .ruby s else .bad
/-- A text of a kind is read. -/
def VerPost (w : World) (m : Md) (e : Ending) (w' : World) : Prop := ∃ v, e = .returned v ∧ Vis w' m v ∧ Below w.heap.size w w'
theorem cran_ok (s : ByteArray) (zs : List Int) (w : World) (hs : s.size ≤ 1500) (h : crN s = some zs) (hL : Laid w) :
    Calls Tryz.prog 21 #[.string s] w fun e w' => ∃ A c, e = .returned (.tuple #[.agg #[.slice A zs.length c], .nilIface]) ∧ BRow w' A zs ∧ Below w.heap.size w w' := by
  obtain ⟨K, hk⟩ := (crP_ev s (by omega)).rounds
  rw [h] at hk
  exact parse_ok K s zs w hk hL
theorem cran_err (s : ByteArray) (w : World) (hs : s.size ≤ 1500) (h : crN s = none) (hL : Laid w) :
    Calls Tryz.prog 21 #[.string s] w fun e w' => ∃ a, e = .returned (.tuple #[.agg #[.slice none 0 0], errv a]) ∧ Below w.heap.size w w' := by
  obtain ⟨K, hk⟩ := (crP_ev s (by omega)).rounds
  rw [h] at hk
  exact parse_err K s w hk hL
theorem cran_len {s : ByteArray} {zs : List Int} (hs : s.size ≤ 1500) (h : crN s = some zs) : zs.length ≤ 100000 := by
  obtain ⟨K, hk⟩ := (crP_ev s (by omega)).rounds
  rw [h] at hk
  exact crP_len hk
theorem ruby_parse (s : ByteArray) (w : World) (hs : s.size ≤ 1500) (hL : Laid w) :
    Calls Tryz.prog 23 #[.string s] w fun e w' => ∃ (A : Option Addr) (c : Nat), e = .returned (.agg #[.string s, .slice A (QR.rubySegs s).length c]) ∧ (QR.rubySegs s).length ≤ c ∧ Kd.C Kd.string w' A (QR.rubySegs s).length (QR.rubySegs s) ∧ Below w.heap.size w w' := by
  obtain ⟨K, hk⟩ := (QR.rubyParse_ev s hs).rounds
  refine (QR.semantic_ParseRubyGemsVersion.calls K s _ _ w hk hL).mono ?_
  rintro e w' ⟨v, rfl, hr, hb⟩
  obtain ⟨A, c, rfl, h1, h2⟩ := Kd.R_reads hr
  exact ⟨A, c, rfl, h1, h2, hb⟩
set_option maxRecDepth 100000 in
set_option maxHeartbeats 2000000 in
theorem ver_deb (l : List UInt8) (h : l.length ≤ 40000) (p : Int × List UInt8 × List UInt8) (hp : dvL l = some p) (w : World) (hL : LaidD w) :
    Calls Tryz.prog 12 #[.int .i64 0, .string (bs l)] w (VerPost w (.deb p)) := by
  have p1 := parseDeb_ok l h p hp w hL
  have hmi : ∀ x w, (Instr.makeInterface 38 x).run Tryz.prog w = .ok (.iface 38 x) w := fun x w => run_makeInterface w 38 x (by kernel_rfl)
  have hnn := fun w => run_nil_nil Tryz.underlying33 w
  clear hL h hp
  go_enter Tryz.func12, Tryz.ntmps12
  go_wp2_with (first | (go_at_call 17; (with_reducible refine p1.mono ?_); rintro e w1 ⟨b1, rfl, r1, d1⟩; have D1 := Aside0.mk d1; have R1 := Aside0.mk r1; clear d1 r1 p1))
  go_ret
  exact ⟨_, rfl, ⟨b1, rfl, R1.out.below (below_alloc (Below.refl _ _) _)⟩, below_alloc D1.out _⟩
set_option maxRecDepth 100000 in
set_option maxHeartbeats 2000000 in
theorem ver_deb_err (l : List UInt8) (h : l.length ≤ 40000) (hp : dvL l = none) (w : World) (hL : LaidD w) :
    Calls Tryz.prog 12 #[.int .i64 0, .string (bs l)] w (VerPost w .bad) := by
  have p1 := parseDeb_err l h hp w hL
  clear hL h hp
  go_enter Tryz.func12, Tryz.ntmps12
  go_wp2_with (first | (go_at_call 17; (with_reducible refine p1.mono ?_); rintro e w1 ⟨a, rfl, d1⟩; have D1 := Aside0.mk d1; clear d1 p1))
  go_ret
  exact ⟨_, rfl, rfl, below_alloc D1.out _⟩
set_option maxRecDepth 100000 in
set_option maxHeartbeats 2000000 in
theorem ver_red (l : List UInt8) (h : l.length ≤ 1500) (w : World) :
    Calls Tryz.prog 12 #[.int .i64 1, .string (bs l)] w (VerPost w (.red (Red.parse l))) := by
  have p1 := QR.parse_calls l w (by omega)
  have hmi : ∀ x w, (Instr.makeInterface 42 x).run Tryz.prog w = .ok (.iface 42 x) w := fun x w => run_makeInterface w 42 x (by kernel_rfl)
  have VR := fun w' (hb : Below w.heap.size w w') => (⟨_, rfl, rfl, hb⟩ : VerPost w (.red (Red.parse l)) (.returned (.iface 42 (.agg #[.string (bs (Red.parse l).1), .string (bs (Red.parse l).2.1), .string (bs (Red.parse l).2.2)]))) w')
  have VR := Aside0.mk VR
  clear h
  go_enter Tryz.func12, Tryz.ntmps12
  go_wp2_with (first | (go_at_call 19; (with_reducible refine p1.mono ?_); rintro e w1 ⟨rfl, d1⟩; have D1 := Aside0.mk d1; clear d1 p1))
  go_ret
  exact VR.out _ D1.out
set_option maxRecDepth 100000 in
set_option maxHeartbeats 2000000 in
theorem ver_cran (s : ByteArray) (zs : List Int) (w : World) (hs : s.size ≤ 1500) (hp : crN s = some zs) (hL : Laid w) :
    Calls Tryz.prog 12 #[.int .i64 2, .string s] w (VerPost w (.cran zs)) := by
  have p1 := cran_ok s zs w hs hp hL
  have hmi : ∀ x w, (Instr.makeInterface 47 x).run Tryz.prog w = .ok (.iface 47 x) w := fun x w => run_makeInterface w 47 x (by kernel_rfl)
  have hnn := fun w => run_nil_nil Tryz.underlying33 w
  clear hL hs hp
  go_enter Tryz.func12, Tryz.ntmps12
  go_wp2_with (first | (go_at_call 21; (with_reducible refine p1.mono ?_); rintro e w1 ⟨A1, c1, rfl, r1, d1⟩; have D1 := Aside0.mk d1; have R1 := Aside0.mk r1; clear d1 r1 p1))
  go_ret
  exact ⟨_, rfl, ⟨A1, c1, rfl, R1.out.below (below_alloc (Below.refl _ _) _)⟩, below_alloc D1.out _⟩
set_option maxRecDepth 100000 in
set_option maxHeartbeats 2000000 in
theorem ver_cran_err (s : ByteArray) (w : World) (hs : s.size ≤ 1500) (hp : crN s = none) (hL : Laid w) :
    Calls Tryz.prog 12 #[.int .i64 2, .string s] w (VerPost w .bad) := by
  have p1 := cran_err s w hs hp hL
  clear hL hs hp
  go_enter Tryz.func12, Tryz.ntmps12
  go_wp2_with (first | (go_at_call 21; (with_reducible refine p1.mono ?_); rintro e w1 ⟨a, rfl, d1⟩; have D1 := Aside0.mk d1; clear d1 p1))
  go_ret
  exact ⟨_, rfl, rfl, below_alloc D1.out _⟩
set_option maxRecDepth 100000 in
set_option maxHeartbeats 2000000 in
theorem ver_ruby (s : ByteArray) (w : World) (hs : s.size ≤ 1500) (hL : Laid w) :
    Calls Tryz.prog 12 #[.int .i64 3, .string s] w (VerPost w (.ruby s)) := by
  have p1 := ruby_parse s w hs hL
  have hmi : ∀ x w, (Instr.makeInterface 51 x).run Tryz.prog w = .ok (.iface 51 x) w := fun x w => run_makeInterface w 51 x (by kernel_rfl)
  clear hL hs
  go_enter Tryz.func12, Tryz.ntmps12
  go_wp2_with (first | (go_at_call 23; (with_reducible refine p1.mono ?_); rintro e w1 ⟨A1, c1, rfl, h1, h2, d1⟩; have D1 := Aside0.mk d1; have H1 := Aside0.mk h1; have H2 := Aside0.mk h2; clear d1 h1 h2 p1))
  go_ret
  exact ⟨_, rfl, ⟨A1, c1, rfl, H1.out, H2.out⟩, D1.out⟩
set_option maxRecDepth 100000 in
set_option maxHeartbeats 2000000 in
theorem ver_none (k : Int) (s : ByteArray) (w : World) (h0 : ¬ k = 0) (h1 : ¬ k = 1) (h2 : ¬ k = 2) (h3 : ¬ k = 3) :
    Calls Tryz.prog 12 #[.int .i64 k, .string s] w (VerPost w .bad) := by
  have b0 : (k == 0) = false := beq_eq_false_iff_ne.2 h0
  have b1 : (k == 1) = false := beq_eq_false_iff_ne.2 h1
  have b2 : (k == 2) = false := beq_eq_false_iff_ne.2 h2
  have b3 : (k == 3) = false := beq_eq_false_iff_ne.2 h3
  clear h0 h1 h2 h3
  go_enter Tryz.func12, Tryz.ntmps12
  go_wp2_with fail
  go_ret
  exact ⟨_, rfl, rfl, Below.refl _ _⟩
theorem version_calls (k : Int) (s : ByteArray) (w : World) (hs : s.size ≤ 1500) (hL : LaidD w) :
    Calls Tryz.prog 12 #[.int .i64 k, .string s] w (VerPost w (mdOf k s)) := by
  have hl : s.toList.length ≤ 1500 := by rw [len_toList]; exact hs
  unfold mdOf
  by_cases h0 : k = 0
  · subst h0
    rw [if_pos rfl]
    cases hp : dvL s.toList with
    | none =>
      have := ver_deb_err s.toList (by omega) hp w hL
      rwa [← bs_of] at this
    | some p =>
      have := ver_deb s.toList (by omega) p hp w hL
      rwa [← bs_of] at this
  · rw [if_neg h0]
    by_cases h1 : k = 1
    · subst h1
      rw [if_pos rfl]
      have := ver_red s.toList hl w
      rwa [← bs_of] at this
    · rw [if_neg h1]
      by_cases h2 : k = 2
      · subst h2
        rw [if_pos rfl]
        cases hp : crN s with
        | none => exact ver_cran_err s w hs hp hL.err
        | some zs => exact ver_cran s zs w hs hp hL.err
      · rw [if_neg h2]
        by_cases h3 : k = 3
        · subst h3
          rw [if_pos rfl]
          exact ver_ruby s w hs hL.err
        · rw [if_neg h3]
          exact ver_none k s w h0 h1 h2 h3
end Go.Proofs.YtnbpoplomdocjaaGreatDoor.Giv
/- Contracts by hand: versions of two kinds do not compare; impl.Mixed of any two texts, and the four kinds' own answers told in the same way. -/
namespace Go.Proofs.YtnbpoplomdocjaaGreatDoor.Giv
open Go.RowKit Go.Proofs.YtnbpoplomdocjaaGreatDoorW.PrintWords Go.Proofs.YtnbpoplomdocjaaGreatDoorW.PrintLast Go.Proofs.YtnbpoplomdocjaaGreatDoor.Pk Go.Proofs.YtnbpoplomdocjaaGreatDoor.Ord
set_option linter.unusedVariables false
set_option linter.unusedSimpArgs false

theorem run_assert_not {P : Program} {t T : TypeId} {fs : Array Field} {z : Value} (h : P.underlying T = some (.struct fs)) (hz : (P.info? T).map (·.zero) = some (some z)) (ht : t ≠ T) (xT : TypeId) (v : Value) (w : World) : (Instr.typeAssert (.iface t v) xT T true).run P w = .ok (.tuple #[z, .bool false]) w := by
  obtain ⟨j, hj, hz'⟩ := Option.map_eq_some_iff.1 hz
  simp [Instr.typeAssert, run_underlying h, typeInfo, ht, zeroValue, hj, hz']
/-- The error of two kinds is laid, and all else. -/
structure LaidM (w : World) : Prop where
  deb : LaidD w
  nse : ∃ a, w.cell? ⟨0, 0, none⟩ = some (errv a)
theorem LaidM.below {w w' : World} (h : LaidM w) (hb : Below w.heap.size w w') : LaidM w' := by
  refine ⟨h.deb.below hb, ?_⟩
  obtain ⟨a, e⟩ := h.nse
  exact ⟨a, pw_cell_below hb e⟩
/-- What a comparison of two kinds answers. -/
def OddPost (w : World) (e : Ending) (w' : World) : Prop := ∃ a, e = .returned (.tuple #[.int .i64 0, errv a]) ∧ Below w.heap.size w w'
set_option maxRecDepth 100000 in
set_option maxHeartbeats 2000000 in
theorem odd_deb (x : Option Addr) (y z : ByteArray) (t : TypeId) (v : Value) (ht : t ≠ 38) (w : World) (hL : LaidM w) :
    Calls Tryz.prog 18 #[.agg #[.pointer x, .string y, .string z], .iface t v] w (OddPost w) := by
  have hta := fun w => run_assert_not (z := .agg #[.pointer none, .string ⟨#[]⟩, .string ⟨#[]⟩]) Tryz.underlying38 (by kernel_rfl) ht 30 v w
  have b1 := below_alloc (Below.refl w.heap.size w) (Obj.cells #[.pointer x, .string y, .string z] 38)
  have b2 := below_alloc b1 (Obj.cells #[.pointer none, .string ⟨#[]⟩, .string ⟨#[]⟩] 38)
  obtain ⟨aE, hE⟩ := hL.nse
  have hE2 := pw_cell_below b2 hE
  have B2 := Aside0.mk b2
  clear hL ht hE b1 b2
  go_enter Tryz.func18, Tryz.ntmps18
  go_wp2_with fail
  go_quiet (fail)
  go_wp2_with fail
  exact bodyPost_ret (results_list (rs := [.tmp 4, .tmp 5]) rfl (by simp) (.tmp (.tmp .nil))) rfl ⟨_, rfl, pw_below_drewN B2.out _⟩
set_option maxRecDepth 100000 in
set_option maxHeartbeats 2000000 in
theorem odd_red (x y z : ByteArray) (t : TypeId) (v : Value) (ht : t ≠ 42) (w : World) (hL : LaidM w) :
    Calls Tryz.prog 20 #[.agg #[.string x, .string y, .string z], .iface t v] w (OddPost w) := by
  have hta := fun w => run_assert_not (z := .agg #[.string ⟨#[]⟩, .string ⟨#[]⟩, .string ⟨#[]⟩]) Tryz.underlying42 (by kernel_rfl) ht 30 v w
  have b1 := below_alloc (Below.refl w.heap.size w) (Obj.cells #[.string x, .string y, .string z] 42)
  have b2 := below_alloc b1 (Obj.cells #[.string ⟨#[]⟩, .string ⟨#[]⟩, .string ⟨#[]⟩] 42)
  obtain ⟨aE, hE⟩ := hL.nse
  have hE2 := pw_cell_below b2 hE
  have B2 := Aside0.mk b2
  clear hL ht hE b1 b2
  go_enter Tryz.func20, Tryz.ntmps20
  go_wp2_with fail
  go_quiet (fail)
  go_wp2_with fail
  exact bodyPost_ret (results_list (rs := [.tmp 4, .tmp 5]) rfl (by simp) (.tmp (.tmp .nil))) rfl ⟨_, rfl, pw_below_drewN B2.out _⟩
set_option maxRecDepth 100000 in
set_option maxHeartbeats 2000000 in
theorem odd_cran (A : Option Addr) (n c : Nat) (t : TypeId) (v : Value) (ht : t ≠ 47) (w : World) (hL : LaidM w) :
    Calls Tryz.prog 22 #[.agg #[.slice A n c], .iface t v] w (OddPost w) := by
  have hta := fun w => run_assert_not (z := .agg #[.slice none 0 0]) Tryz.underlying47 (by kernel_rfl) ht 30 v w
  have b1 := below_alloc (Below.refl w.heap.size w) (Obj.cells #[.slice A n c] 47)
  have b2 := below_alloc b1 (Obj.cells #[.slice none 0 0] 47)
  obtain ⟨aE, hE⟩ := hL.nse
  have hE2 := pw_cell_below b2 hE
  have B2 := Aside0.mk b2
  clear hL ht hE b1 b2
  go_enter Tryz.func22, Tryz.ntmps22
  go_wp2_with fail
  go_quiet (fail)
  go_wp2_with fail
  exact bodyPost_ret (results_list (rs := [.tmp 4, .tmp 5]) rfl (by simp) (.tmp (.tmp .nil))) rfl ⟨_, rfl, pw_below_drewN B2.out _⟩
set_option maxRecDepth 100000 in
set_option maxHeartbeats 2000000 in
theorem odd_ruby (x : ByteArray) (A : Option Addr) (n c : Nat) (t : TypeId) (v : Value) (ht : t ≠ 51) (w : World) (hL : LaidM w) :
    Calls Tryz.prog 24 #[.agg #[.string x, .slice A n c], .iface t v] w (OddPost w) := by
  have hta := fun w => run_assert_not (z := .agg #[.string ⟨#[]⟩, .slice none 0 0]) Tryz.underlying51 (by kernel_rfl) ht 30 v w
  have b1 := below_alloc (Below.refl w.heap.size w) (Obj.cells #[.string x, .slice A n c] 51)
  have b2 := below_alloc b1 (Obj.cells #[.string ⟨#[]⟩, .slice none 0 0] 51)
  obtain ⟨aE, hE⟩ := hL.nse
  have hE2 := pw_cell_below b2 hE
  have B2 := Aside0.mk b2
  clear hL ht hE b1 b2
  go_enter Tryz.func24, Tryz.ntmps24
  go_wp2_with fail
  go_quiet (fail)
  go_wp2_with fail
  exact bodyPost_ret (results_list (rs := [.tmp 4, .tmp 5]) rfl (by simp) (.tmp (.tmp .nil))) rfl ⟨_, rfl, pw_below_drewN B2.out _⟩
end Go.Proofs.YtnbpoplomdocjaaGreatDoor.Giv
/- Contracts by hand: impl.Mixed of any two texts and kinds, and the four kinds' own answers told in the same way. -/
namespace Go.Proofs.YtnbpoplomdocjaaGreatDoor.Giv
open Go.RowKit Go.Proofs.YtnbpoplomdocjaaGreatDoorW.PrintWords Go.Proofs.YtnbpoplomdocjaaGreatDoorW.PrintLast Go.Proofs.YtnbpoplomdocjaaGreatDoor.Pk Go.Proofs.YtnbpoplomdocjaaGreatDoor.Ord
set_option linter.unusedVariables false
set_option linter.unusedSimpArgs false

/-- What two versions compare to. -/
def mixR : Md → Md → Int × Bool
  | .deb p, .deb q => (dvA p q, true)
  | .red x, .red y => (Red.vc x y, true)
  | .cran zs, .cran ys => (crC zs ys, true)
  | .ruby s, .ruby t => (padL Seg.segC [48] (tl (QR.rubySegs s)) (tl (QR.rubySegs t)), true)
  | _, _ => (0, false)
/-- The type that a version has behind the interface. -/
def tyOf : Md → TypeId
  | .bad => 0
  | .deb _ => 38
  | .red _ => 42
  | .cran _ => 47
  | .ruby _ => 51
theorem Vis.iface {w : World} {m : Md} {v : Value} (h : Vis w m v) (hm : tyOf m ≠ 0) : ∃ u, v = .iface (tyOf m) u := by
  cases m with
  | bad => exact absurd rfl hm
  | deb p =>
    obtain ⟨b, e, _⟩ := h
    exact ⟨_, e⟩
  | red x => exact ⟨_, h⟩
  | cran zs =>
    obtain ⟨A, c, e, _⟩ := h
    exact ⟨_, e⟩
  | ruby s =>
    obtain ⟨A, c, e, _⟩ := h
    exact ⟨_, e⟩
theorem mixR_odd {m1 m2 : Md} (h : tyOf m1 ≠ tyOf m2) : mixR m1 m2 = (0, false) := by
  cases m1 <;> cases m2 <;> first | rfl | exact absurd rfl h
theorem mixR_bad (m : Md) : mixR .bad m = (0, false) := by cases m <;> rfl
theorem mixR_bad2 (m : Md) : mixR m .bad = (0, false) := by cases m <;> rfl
/-- Sizes that the contracts ask for. -/
def good : Md → Prop
  | .bad => True
  | .deb p => p.2.1.length ≤ 40000 ∧ p.2.2.length ≤ 40000
  | .red x => small x
  | .cran zs => zs.length ≤ 100000
  | .ruby s => s.size ≤ 1500
theorem good_md (k : Int) (s : ByteArray) (hs : s.size ≤ 1500) : good (mdOf k s) := by
  have hl : s.toList.length ≤ 1500 := by rw [len_toList]; exact hs
  unfold mdOf
  split
  · cases hp : dvL s.toList with
    | none => exact True.intro
    | some p => exact len_dvL (by omega) hp
  · split
    · have := Red.parse_len s.toList
      exact ⟨by omega, by omega, by omega⟩
    · split
      · cases hp : crN s with
        | none => exact True.intro
        | some zs => exact cran_len hs hp
      · split
        · exact hs
        · exact True.intro
/-- The method behind the interface. -/
theorem meth_deb (v : Value) (w : World) : (method 323 38 v "Compare").run Tryz.prog w = .ok (18, v) w := by kernel_rfl
theorem meth_red (v : Value) (w : World) : (method 323 42 v "Compare").run Tryz.prog w = .ok (20, v) w := by kernel_rfl
theorem meth_cran (v : Value) (w : World) : (method 323 47 v "Compare").run Tryz.prog w = .ok (22, v) w := by kernel_rfl
theorem meth_ruby (v : Value) (w : World) : (method 323 51 v "Compare").run Tryz.prog w = .ok (24, v) w := by kernel_rfl
def MixPost (w : World) (r : Int × Bool) (e : Ending) (w' : World) : Prop := e = .returned (.tuple #[.int .i64 r.1, .bool r.2]) ∧ Below w.heap.size w w'
set_option maxRecDepth 100000 in
set_option maxHeartbeats 4000000 in
theorem mix_bad1 (k o : Int) (a b : ByteArray) (w : World) (m : Md) (c1 : Calls Tryz.prog 12 #[.int .i64 k, .string a] w (VerPost w .bad)) (c2 : ∀ w', Below w.heap.size w w' → Calls Tryz.prog 12 #[.int .i64 o, .string b] w' (VerPost w' m)) :
    Calls Tryz.prog 5 #[.int .i64 k, .string a, .int .i64 o, .string b] w (MixPost w (0, false)) := by
  have hnn := fun w => run_nil_nil Tryz.underlying30 w
  go_enter Tryz.func5, Tryz.ntmps5
  go_wp2_with (first | (go_at_call 12; (with_reducible refine c1.mono ?_); rintro e w1 ⟨_, rfl, rfl, d1⟩; have D1 := Aside0.mk d1; clear d1 c1) | (go_at_call 12; (with_reducible refine (c2 _ D1.out).mono ?_); rintro e w2 ⟨v2, rfl, V2, d2⟩; have D2 := Aside0.mk (below_then D1.out D1.out.size d2); clear d2 V2; clear c2))
  exact bodyPost_ret (results_list (rs := [.tmp 8, .tmp 9]) rfl (by simp) (.tmp (.tmp .nil))) rfl ⟨rfl, D2.out⟩
set_option maxRecDepth 100000 in
set_option maxHeartbeats 4000000 in
theorem mix_bad2 (k o : Int) (a b : ByteArray) (w : World) (m : Md) (hm : tyOf m ≠ 0) (c1 : Calls Tryz.prog 12 #[.int .i64 k, .string a] w (VerPost w m)) (c2 : ∀ w', Below w.heap.size w w' → Calls Tryz.prog 12 #[.int .i64 o, .string b] w' (VerPost w' .bad)) :
    Calls Tryz.prog 5 #[.int .i64 k, .string a, .int .i64 o, .string b] w (MixPost w (0, false)) := by
  have hnn := fun w => run_nil_nil Tryz.underlying30 w
  go_enter Tryz.func5, Tryz.ntmps5
  go_wp2_with (first | (go_at_call 12; (with_reducible refine c1.mono ?_); rintro e w1 ⟨v1, rfl, V1, d1⟩; have D1 := Aside0.mk d1; obtain ⟨u1, rfl⟩ := V1.iface hm; clear V1; clear d1 c1) | (go_at_call 12; (with_reducible refine (c2 _ D1.out).mono ?_); rintro e w2 ⟨_, rfl, rfl, d2⟩; have D2 := Aside0.mk (below_then D1.out D1.out.size d2); clear d2; clear c2))
  exact bodyPost_ret (results_list (rs := [.tmp 8, .tmp 9]) rfl (by simp) (.tmp (.tmp .nil))) rfl ⟨rfl, D2.out⟩
set_option maxRecDepth 100000 in
set_option maxHeartbeats 4000000 in
theorem mix_deb (k o : Int) (a b : ByteArray) (w : World) (p q : Int × List UInt8 × List UInt8) (g1 : good (.deb p)) (g2 : good (.deb q)) (hL : LaidM w) (c1 : Calls Tryz.prog 12 #[.int .i64 k, .string a] w (VerPost w (.deb p))) (c2 : ∀ w', Below w.heap.size w w' → Calls Tryz.prog 12 #[.int .i64 o, .string b] w' (VerPost w' (.deb q))) :
    Calls Tryz.prog 5 #[.int .i64 k, .string a, .int .i64 o, .string b] w (MixPost w (dvA p q, true)) := by
  have hnn := fun w => run_nil_nil Tryz.underlying33 w
  have mt := fun v w => meth_deb v w
  have ci := fun (w' : World) (b1 b2 : Nat) (h1 : IsBig w' b1 p.1) (h2 : IsBig w' b2 q.1) (h3 : Below w.heap.size w w') => dvIface_calls (some ⟨b1, 0, none⟩) (some ⟨b2, 0, none⟩) (bs p.2.1) (bs q.2.1) (bs p.2.2) (bs q.2.2) (dvA p q) w' (fun w3 hb3 => dvCompare_calls b1 b2 p q w3 (h1.below hb3) (h2.below hb3) g1.1 g1.2 g2.1 g2.2 (((hL.below h3).below hb3).deb.err))
  clear hL g1 g2
  generalize (dvA p q) = r at *
  go_enter Tryz.func5, Tryz.ntmps5
  go_wp2_with (first | (go_at_call 12; (with_reducible refine c1.mono ?_); rintro e w1 ⟨_, rfl, ⟨b1, rfl, i1⟩, d1⟩; have D1 := Aside0.mk d1; have I1 := Aside0.mk i1; clear i1; clear d1 c1) | (go_at_call 12; (with_reducible refine (c2 _ D1.out).mono ?_); rintro e w2 ⟨_, rfl, ⟨b2, rfl, i2⟩, d2⟩; have D2 := Aside0.mk (below_then D1.out D1.out.size d2); have I12 := Aside0.mk (I1.out.below d2); have I2 := Aside0.mk i2; clear i2 d2; clear c2) | (go_at_call 18; (with_reducible refine (ci _ _ _ I12.out I2.out D2.out).mono ?_); rintro e w3 ⟨rfl, d3⟩; have D3 := Aside0.mk (below_then D2.out D2.out.size d3); clear d3))
  go_quiet (fail)
  go_wp2_with fail
  exact bodyPost_ret (results_list (rs := [.tmp 8, .tmp 9]) rfl (by simp) (.tmp (.tmp .nil))) rfl ⟨rfl, bel_drewN D3.out _⟩
set_option maxRecDepth 100000 in
set_option maxHeartbeats 4000000 in
theorem mix_red (k o : Int) (a b : ByteArray) (w : World) (p q : Red.Ver) (g1 : good (.red p)) (g2 : good (.red q)) (hL : LaidM w) (c1 : Calls Tryz.prog 12 #[.int .i64 k, .string a] w (VerPost w (.red p))) (c2 : ∀ w', Below w.heap.size w w' → Calls Tryz.prog 12 #[.int .i64 o, .string b] w' (VerPost w' (.red q))) :
    Calls Tryz.prog 5 #[.int .i64 k, .string a, .int .i64 o, .string b] w (MixPost w (Red.vc p q, true)) := by
  have hnn := fun w => run_nil_nil Tryz.underlying33 w
  have mt := fun v w => meth_red v w
  have ci := fun (w' : World) => Compare_calls (bs p.1) (bs p.2.1) (bs p.2.2) (bs q.1) (bs q.2.1) (bs q.2.2) (Red.vc p q) w' (fun w3 => ver_calls p q w3 g1 g2)
  clear hL g1 g2
  generalize (Red.vc p q) = r at *
  go_enter Tryz.func5, Tryz.ntmps5
  go_wp2_with (first | (go_at_call 12; (with_reducible refine c1.mono ?_); rintro e w1 ⟨_, rfl, rfl, d1⟩; have D1 := Aside0.mk d1; clear d1 c1) | (go_at_call 12; (with_reducible refine (c2 _ D1.out).mono ?_); rintro e w2 ⟨_, rfl, rfl, d2⟩; have D2 := Aside0.mk (below_then D1.out D1.out.size d2); clear d2; clear c2) | (go_at_call 20; (with_reducible refine (ci _).mono ?_); rintro e w3 ⟨rfl, d3⟩; have D3 := Aside0.mk (below_then D2.out D2.out.size d3); clear d3))
  go_quiet (fail)
  go_wp2_with fail
  exact bodyPost_ret (results_list (rs := [.tmp 8, .tmp 9]) rfl (by simp) (.tmp (.tmp .nil))) rfl ⟨rfl, bel_drewN D3.out _⟩
set_option maxRecDepth 100000 in
set_option maxHeartbeats 4000000 in
theorem mix_cran (k o : Int) (a b : ByteArray) (w : World) (p q : List Int) (g1 : good (.cran p)) (g2 : good (.cran q)) (hL : LaidM w) (c1 : Calls Tryz.prog 12 #[.int .i64 k, .string a] w (VerPost w (.cran p))) (c2 : ∀ w', Below w.heap.size w w' → Calls Tryz.prog 12 #[.int .i64 o, .string b] w' (VerPost w' (.cran q))) :
    Calls Tryz.prog 5 #[.int .i64 k, .string a, .int .i64 o, .string b] w (MixPost w (crC p q, true)) := by
  have hnn := fun w => run_nil_nil Tryz.underlying33 w
  have mt := fun v w => meth_cran v w
  have ci := fun (w' : World) (A1 A2 : Option Addr) (n1 n2 : Nat) (h1 : BRow w' A1 p) (h2 : BRow w' A2 q) => crIface_calls A1 A2 p.length q.length n1 n2 (crC p q) w' (fun w3 hb3 => crCompare_calls A1 A2 n1 n2 p q w3 (h1.below hb3) (h2.below hb3) g1 g2)
  clear hL g1 g2
  generalize (crC p q) = r at *
  go_enter Tryz.func5, Tryz.ntmps5
  go_wp2_with (first | (go_at_call 12; (with_reducible refine c1.mono ?_); rintro e w1 ⟨_, rfl, ⟨A1, n1, rfl, i1⟩, d1⟩; have D1 := Aside0.mk d1; have I1 := Aside0.mk i1; clear i1; clear d1 c1) | (go_at_call 12; (with_reducible refine (c2 _ D1.out).mono ?_); rintro e w2 ⟨_, rfl, ⟨A2, n2, rfl, i2⟩, d2⟩; have D2 := Aside0.mk (below_then D1.out D1.out.size d2); have I12 := Aside0.mk (I1.out.below d2); have I2 := Aside0.mk i2; clear i2 d2; clear c2) | (go_at_call 22; (with_reducible refine (ci _ _ _ _ _ I12.out I2.out).mono ?_); rintro e w3 ⟨rfl, d3⟩; have D3 := Aside0.mk (below_then D2.out D2.out.size d3); clear d3))
  go_quiet (fail)
  go_wp2_with fail
  exact bodyPost_ret (results_list (rs := [.tmp 8, .tmp 9]) rfl (by simp) (.tmp (.tmp .nil))) rfl ⟨rfl, bel_drewN D3.out _⟩
set_option maxRecDepth 100000 in
set_option maxHeartbeats 4000000 in
theorem mix_ruby (k o : Int) (a b : ByteArray) (w : World) (p q : ByteArray) (g1 : good (.ruby p)) (g2 : good (.ruby q)) (hL : LaidM w) (c1 : Calls Tryz.prog 12 #[.int .i64 k, .string a] w (VerPost w (.ruby p))) (c2 : ∀ w', Below w.heap.size w w' → Calls Tryz.prog 12 #[.int .i64 o, .string b] w' (VerPost w' (.ruby q))) :
    Calls Tryz.prog 5 #[.int .i64 k, .string a, .int .i64 o, .string b] w (MixPost w (padL Seg.segC [48] (tl (QR.rubySegs p)) (tl (QR.rubySegs q)), true)) := by
  have hnn := fun w => run_nil_nil Tryz.underlying33 w
  have mt := fun v w => meth_ruby v w
  have rc := QR.rubyCompare_ev p q g1 g2
  have ci := fun (w' : World) (A1 A2 : Option Addr) (n1 n2 : Nat) (hn1 : (QR.rubySegs p).length ≤ n1) (hn2 : (QR.rubySegs q).length ≤ n2) (h1 : Kd.C Kd.string w' A1 (QR.rubySegs p).length (QR.rubySegs p)) (h2 : Kd.C Kd.string w' A2 (QR.rubySegs q).length (QR.rubySegs q)) (h3 : Below w.heap.size w w') => rubyCompare_calls p q A1 A2 (QR.rubySegs p).length (QR.rubySegs q).length n1 n2 (padL Seg.segC [48] (tl (QR.rubySegs p)) (tl (QR.rubySegs q))) w' (fun w3 hb3 => QR.semantic_RubyGemsVersion_compare.calls p A1 n1 (QR.rubySegs p) q A2 n2 (QR.rubySegs q) _ w3 (Kd.C_below h1 hb3) hn1 (Kd.C_below h2 hb3) hn2 rc ((hL.below h3).below hb3).deb.err)
  clear rc
  clear hL g1 g2
  generalize (padL Seg.segC [48] (tl (QR.rubySegs p)) (tl (QR.rubySegs q))) = r at *
  go_enter Tryz.func5, Tryz.ntmps5
  go_wp2_with (first | (go_at_call 12; (with_reducible refine c1.mono ?_); rintro e w1 ⟨_, rfl, ⟨A1, n1, rfl, hn1, i1⟩, d1⟩; have D1 := Aside0.mk d1; have I1 := Aside0.mk i1; have N1 := Aside0.mk hn1; clear i1 hn1; clear d1 c1) | (go_at_call 12; (with_reducible refine (c2 _ D1.out).mono ?_); rintro e w2 ⟨_, rfl, ⟨A2, n2, rfl, hn2, i2⟩, d2⟩; have D2 := Aside0.mk (below_then D1.out D1.out.size d2); have I12 := Aside0.mk (Kd.C_below I1.out d2); have I2 := Aside0.mk i2; have N2 := Aside0.mk hn2; clear i2 hn2 d2; clear c2) | (go_at_call 24; (with_reducible refine (ci _ _ _ _ _ N1.out N2.out I12.out I2.out D2.out).mono ?_); rintro e w3 ⟨rfl, d3⟩; have D3 := Aside0.mk (below_then D2.out D2.out.size d3); clear d3))
  go_quiet (fail)
  go_wp2_with fail
  exact bodyPost_ret (results_list (rs := [.tmp 8, .tmp 9]) rfl (by simp) (.tmp (.tmp .nil))) rfl ⟨rfl, bel_drewN D3.out _⟩
set_option maxRecDepth 100000 in
set_option maxHeartbeats 4000000 in
theorem mixodd_deb (k o : Int) (a b : ByteArray) (w : World) (p : Int × List UInt8 × List UInt8) (m : Md) (hm : tyOf m ≠ 0) (ht : tyOf m ≠ 38) (hL : LaidM w) (c1 : Calls Tryz.prog 12 #[.int .i64 k, .string a] w (VerPost w (.deb p))) (c2 : ∀ w', Below w.heap.size w w' → Calls Tryz.prog 12 #[.int .i64 o, .string b] w' (VerPost w' m)) :
    Calls Tryz.prog 5 #[.int .i64 k, .string a, .int .i64 o, .string b] w (MixPost w (0, false)) := by
  have HL := Aside0.mk hL
  have mt := fun v w => meth_deb v w
  clear hL
  go_enter Tryz.func5, Tryz.ntmps5
  go_wp2_with (first | (go_at_call 12; (with_reducible refine c1.mono ?_); rintro e w1 ⟨_, rfl, ⟨b1, rfl, i1⟩, d1⟩; have D1 := Aside0.mk d1; clear i1; clear d1 c1) | (go_at_call 12; (with_reducible refine (c2 _ D1.out).mono ?_); rintro e w2 ⟨v2, rfl, V2, d2⟩; have D2 := Aside0.mk (below_then D1.out D1.out.size d2); obtain ⟨u2, rfl⟩ := V2.iface hm; clear d2 V2; clear c2) | (go_at_call 18; (with_reducible refine (odd_deb _ _ _ _ _ ht _ (HL.out.below D2.out)).mono ?_); rintro e w3 ⟨a3, rfl, d3⟩; have D3 := Aside0.mk (below_then D2.out D2.out.size d3); clear d3))
  go_quiet (fail)
  go_wp2_with fail
  exact bodyPost_ret (results_list (rs := [.tmp 8, .tmp 9]) rfl (by simp) (.tmp (.tmp .nil))) rfl ⟨rfl, bel_drewN D3.out _⟩
set_option maxRecDepth 100000 in
set_option maxHeartbeats 4000000 in
theorem mixodd_red (k o : Int) (a b : ByteArray) (w : World) (p : Red.Ver) (m : Md) (hm : tyOf m ≠ 0) (ht : tyOf m ≠ 42) (hL : LaidM w) (c1 : Calls Tryz.prog 12 #[.int .i64 k, .string a] w (VerPost w (.red p))) (c2 : ∀ w', Below w.heap.size w w' → Calls Tryz.prog 12 #[.int .i64 o, .string b] w' (VerPost w' m)) :
    Calls Tryz.prog 5 #[.int .i64 k, .string a, .int .i64 o, .string b] w (MixPost w (0, false)) := by
  have HL := Aside0.mk hL
  have mt := fun v w => meth_red v w
  clear hL
  go_enter Tryz.func5, Tryz.ntmps5
  go_wp2_with (first | (go_at_call 12; (with_reducible refine c1.mono ?_); rintro e w1 ⟨_, rfl, rfl, d1⟩; have D1 := Aside0.mk d1; clear d1 c1) | (go_at_call 12; (with_reducible refine (c2 _ D1.out).mono ?_); rintro e w2 ⟨v2, rfl, V2, d2⟩; have D2 := Aside0.mk (below_then D1.out D1.out.size d2); obtain ⟨u2, rfl⟩ := V2.iface hm; clear d2 V2; clear c2) | (go_at_call 20; (with_reducible refine (odd_red _ _ _ _ _ ht _ (HL.out.below D2.out)).mono ?_); rintro e w3 ⟨a3, rfl, d3⟩; have D3 := Aside0.mk (below_then D2.out D2.out.size d3); clear d3))
  go_quiet (fail)
  go_wp2_with fail
  exact bodyPost_ret (results_list (rs := [.tmp 8, .tmp 9]) rfl (by simp) (.tmp (.tmp .nil))) rfl ⟨rfl, bel_drewN D3.out _⟩
set_option maxRecDepth 100000 in
set_option maxHeartbeats 4000000 in
theorem mixodd_cran (k o : Int) (a b : ByteArray) (w : World) (p : List Int) (m : Md) (hm : tyOf m ≠ 0) (ht : tyOf m ≠ 47) (hL : LaidM w) (c1 : Calls Tryz.prog 12 #[.int .i64 k, .string a] w (VerPost w (.cran p))) (c2 : ∀ w', Below w.heap.size w w' → Calls Tryz.prog 12 #[.int .i64 o, .string b] w' (VerPost w' m)) :
    Calls Tryz.prog 5 #[.int .i64 k, .string a, .int .i64 o, .string b] w (MixPost w (0, false)) := by
  have HL := Aside0.mk hL
  have mt := fun v w => meth_cran v w
  clear hL
  go_enter Tryz.func5, Tryz.ntmps5
  go_wp2_with (first | (go_at_call 12; (with_reducible refine c1.mono ?_); rintro e w1 ⟨_, rfl, ⟨A1, n1, rfl, i1⟩, d1⟩; have D1 := Aside0.mk d1; clear i1; clear d1 c1) | (go_at_call 12; (with_reducible refine (c2 _ D1.out).mono ?_); rintro e w2 ⟨v2, rfl, V2, d2⟩; have D2 := Aside0.mk (below_then D1.out D1.out.size d2); obtain ⟨u2, rfl⟩ := V2.iface hm; clear d2 V2; clear c2) | (go_at_call 22; (with_reducible refine (odd_cran _ _ _ _ _ ht _ (HL.out.below D2.out)).mono ?_); rintro e w3 ⟨a3, rfl, d3⟩; have D3 := Aside0.mk (below_then D2.out D2.out.size d3); clear d3))
  go_quiet (fail)
  go_wp2_with fail
  exact bodyPost_ret (results_list (rs := [.tmp 8, .tmp 9]) rfl (by simp) (.tmp (.tmp .nil))) rfl ⟨rfl, bel_drewN D3.out _⟩
set_option maxRecDepth 100000 in
set_option maxHeartbeats 4000000 in
theorem mixodd_ruby (k o : Int) (a b : ByteArray) (w : World) (p : ByteArray) (m : Md) (hm : tyOf m ≠ 0) (ht : tyOf m ≠ 51) (hL : LaidM w) (c1 : Calls Tryz.prog 12 #[.int .i64 k, .string a] w (VerPost w (.ruby p))) (c2 : ∀ w', Below w.heap.size w w' → Calls Tryz.prog 12 #[.int .i64 o, .string b] w' (VerPost w' m)) :
    Calls Tryz.prog 5 #[.int .i64 k, .string a, .int .i64 o, .string b] w (MixPost w (0, false)) := by
  have HL := Aside0.mk hL
  have mt := fun v w => meth_ruby v w
  clear hL
  go_enter Tryz.func5, Tryz.ntmps5
  go_wp2_with (first | (go_at_call 12; (with_reducible refine c1.mono ?_); rintro e w1 ⟨_, rfl, ⟨A1, n1, rfl, hn1, i1⟩, d1⟩; have D1 := Aside0.mk d1; clear i1 hn1; clear d1 c1) | (go_at_call 12; (with_reducible refine (c2 _ D1.out).mono ?_); rintro e w2 ⟨v2, rfl, V2, d2⟩; have D2 := Aside0.mk (below_then D1.out D1.out.size d2); obtain ⟨u2, rfl⟩ := V2.iface hm; clear d2 V2; clear c2) | (go_at_call 24; (with_reducible refine (odd_ruby _ _ _ _ _ _ ht _ (HL.out.below D2.out)).mono ?_); rintro e w3 ⟨a3, rfl, d3⟩; have D3 := Aside0.mk (below_then D2.out D2.out.size d3); clear d3))
  go_quiet (fail)
  go_wp2_with fail
  exact bodyPost_ret (results_list (rs := [.tmp 8, .tmp 9]) rfl (by simp) (.tmp (.tmp .nil))) rfl ⟨rfl, bel_drewN D3.out _⟩
end Go.Proofs.YtnbpoplomdocjaaGreatDoor.Giv
/- Contracts by hand in the print's form: impl.Mixed of any two texts and kinds; the four kinds' own answers told in the same way; the four kinds' specs, which no walk reaches. -/
namespace Go.Proofs.YtnbpoplomdocjaaGreatDoor.Giv
open Go.RowKit Go.Proofs.YtnbpoplomdocjaaGreatDoorW.PrintWords Go.Proofs.YtnbpoplomdocjaaGreatDoorW.PrintLast Go.Proofs.YtnbpoplomdocjaaGreatDoor.Pk Go.Proofs.YtnbpoplomdocjaaGreatDoor.Ord
set_option linter.unusedVariables false
set_option linter.unusedSimpArgs false

theorem mix_calls (k o : Int) (a b : ByteArray) (w : World) (ha : a.size ≤ 1500) (hb : b.size ≤ 1500) (hL : LaidM w) :
    Calls Tryz.prog 5 #[.int .i64 k, .string a, .int .i64 o, .string b] w (MixPost w (mixR (mdOf k a) (mdOf o b))) := by
  have c1 := version_calls k a w ha hL.deb
  have c2 := fun (w' : World) (h : Below w.heap.size w w') => version_calls o b w' hb (hL.below h).deb
  have g1 := good_md k a ha
  have g2 := good_md o b hb
  generalize mdOf k a = m1 at *
  generalize mdOf o b = m2 at *
  by_cases h1 : tyOf m1 = 0
  · have e : m1 = .bad := by cases m1 <;> first | rfl | exact absurd h1 (by simp [tyOf])
    subst e
    rw [mixR_bad]
    exact mix_bad1 k o a b w m2 c1 c2
  · by_cases h2 : tyOf m2 = 0
    · have e : m2 = .bad := by cases m2 <;> first | rfl | exact absurd h2 (by simp [tyOf])
      subst e
      rw [mixR_bad2]
      exact mix_bad2 k o a b w m1 h1 c1 c2
    · by_cases ht : tyOf m2 = tyOf m1
      · cases m1 with
        | bad => exact absurd rfl h1
        | deb p =>
          cases m2 <;> first | (simp [tyOf] at ht; done) | skip
          exact mix_deb k o a b w p _ g1 g2 hL c1 c2
        | red x =>
          cases m2 <;> first | (simp [tyOf] at ht; done) | skip
          exact mix_red k o a b w x _ g1 g2 hL c1 c2
        | cran zs =>
          cases m2 <;> first | (simp [tyOf] at ht; done) | skip
          exact mix_cran k o a b w zs _ g1 g2 hL c1 c2
        | ruby s =>
          cases m2 <;> first | (simp [tyOf] at ht; done) | skip
          exact mix_ruby k o a b w s _ g1 g2 hL c1 c2
      · rw [mixR_odd (fun e => ht e.symm)]
        cases m1 with
        | bad => exact absurd rfl h1
        | deb p => exact mixodd_deb k o a b w p m2 h2 ht hL c1 c2
        | red x => exact mixodd_red k o a b w x m2 h2 ht hL c1 c2
        | cran zs => exact mixodd_cran k o a b w zs m2 h2 ht hL c1 c2
        | ruby s => exact mixodd_ruby k o a b w s m2 h2 ht hL c1 c2
def impl_Mixed.f (a0 : Int) (a1 : ByteArray) (a2 : Int) (a3 : ByteArray) : Option (Int × Bool) := if a1.size ≤ 1500 ∧ a3.size ≤ 1500 then some (mixR (mdOf a0 a1) (mdOf a2 a3)) else none
theorem impl_Mixed.calls (a0 : Int) (a1 : ByteArray) (a2 : Int) (a3 : ByteArray) (r : Int) (s : Bool) (w : World) (h : impl_Mixed.f a0 a1 a2 a3 = some (r, s)) (hL : LaidM w) :
    Calls Tryz.prog 5 #[.int .i64 a0, .string a1, .int .i64 a2, .string a3] w fun e w' => e = .returned (.tuple #[.int .i64 r, .bool s]) ∧ Below w.heap.size w w' := by
  unfold impl_Mixed.f at h
  split at h
  · next hc =>
    have := mix_calls a0 a2 a1 a3 w hc.1 hc.2 hL
    rw [Option.some.inj h] at this
    exact this
  · exact absurd h (by simp)
theorem md0 (s : ByteArray) : mdOf 0 s = (match dvL s.toList with | some p => .deb p | none => .bad) := if_pos rfl
theorem md1 (s : ByteArray) : mdOf 1 s = .red (Red.parse s.toList) := by
  unfold mdOf
  rw [if_neg (by decide), if_pos rfl]
theorem md2 (s : ByteArray) : mdOf 2 s = (match crN s with | some zs => .cran zs | none => .bad) := by
  unfold mdOf
  rw [if_neg (by decide), if_neg (by decide), if_pos rfl]
  all_goals (cases crN s <;> rfl)
theorem md3 (s : ByteArray) : mdOf 3 s = .ruby s := by
  unfold mdOf
  rw [if_neg (by decide), if_neg (by decide), if_neg (by decide), if_pos rfl]
def mx_DebianCompare.f (a0 a1 : ByteArray) : Option (Int × Bool) := if a0.size ≤ 1500 ∧ a1.size ≤ 1500 then some (mixR (mdOf 0 a0) (mdOf 0 a1)) else none
theorem mx_DebianCompare.calls (a0 a1 : ByteArray) (r : Int) (s : Bool) (w : World) (h : mx_DebianCompare.f a0 a1 = some (r, s)) (hL : LaidM w) :
    Calls Tryz.prog 7 #[.string a0, .string a1] w fun e w' => e = .returned (.tuple #[.int .i64 r, .bool s]) ∧ Below w.heap.size w w' := by
  unfold mx_DebianCompare.f at h
  split at h
  · next hc =>
    have h := Option.some.inj h
    refine impl_DebianCompare.calls a0 a1 r s w ?_ hL.deb
    unfold impl_DebianCompare.f
    rw [if_pos ⟨by rw [len_toList]; omega, by rw [len_toList]; omega⟩, ← h, md0, md0]
    cases dvL a0.toList <;> cases dvL a1.toList <;> rfl
  · exact absurd h (by simp)
def mx_RedHatCompare.f (a0 a1 : ByteArray) : Option (Int × Bool) := if a0.size ≤ 1500 ∧ a1.size ≤ 1500 then some (mixR (mdOf 1 a0) (mdOf 1 a1)) else none
theorem mx_RedHatCompare.calls (a0 a1 : ByteArray) (r : Int) (s : Bool) (w : World) (h : mx_RedHatCompare.f a0 a1 = some (r, s)) (hL : LaidM w) :
    Calls Tryz.prog 8 #[.string a0, .string a1] w fun e w' => e = .returned (.tuple #[.int .i64 r, .bool s]) ∧ Below w.heap.size w w' := by
  unfold mx_RedHatCompare.f at h
  split at h
  · next hc =>
    have h := Option.some.inj h
    refine impl_RedHatCompare.calls a0 a1 r s w ?_
    unfold impl_RedHatCompare.f
    rw [if_pos (by omega), if_pos (by omega), ← h, md1, md1]
    rfl
  · exact absurd h (by simp)
def mx_CRANCompare.f (a0 a1 : ByteArray) : Option (Int × Bool) := if a0.size ≤ 1500 ∧ a1.size ≤ 1500 then some (mixR (mdOf 2 a0) (mdOf 2 a1)) else none
theorem mx_CRANCompare.calls (a0 a1 : ByteArray) (r : Int) (s : Bool) (w : World) (h : mx_CRANCompare.f a0 a1 = some (r, s)) (hL : LaidM w) :
    Calls Tryz.prog 9 #[.string a0, .string a1] w fun e w' => e = .returned (.tuple #[.int .i64 r, .bool s]) ∧ Below w.heap.size w w' := by
  unfold mx_CRANCompare.f at h
  split at h
  · next hc =>
    have h := Option.some.inj h
    have ev : Ev (fun k => impl_CRANCompare.f k a0 a1) (r, s) := by
      unfold impl_CRANCompare.f crR
      refine (crP_ev a0 (by omega)).bind ((crP_ev a1 (by omega)).bind ?_)
      rw [← h, md2, md2]
      cases crN a0 <;> cases crN a1 <;> exact Ev.now _
    obtain ⟨K, hk⟩ := ev.rounds
    exact impl_CRANCompare.calls K a0 a1 r s w hk hL.deb.err
  · exact absurd h (by simp)
def mx_RubyCompare.f (a0 a1 : ByteArray) : Option (Int × Bool) := if a0.size ≤ 1500 ∧ a1.size ≤ 1500 then some (mixR (mdOf 3 a0) (mdOf 3 a1)) else none
theorem mx_RubyCompare.calls (a0 a1 : ByteArray) (r : Int) (s : Bool) (w : World) (h : mx_RubyCompare.f a0 a1 = some (r, s)) (hL : LaidM w) :
    Calls Tryz.prog 10 #[.string a0, .string a1] w fun e w' => e = .returned (.tuple #[.int .i64 r, .bool s]) ∧ Below w.heap.size w w' := by
  unfold mx_RubyCompare.f at h
  split at h
  · next hc =>
    have h := Option.some.inj h
    have ev : Ev (fun k => impl_RubyCompare.f k a0 a1) (r, s) := by
      unfold impl_RubyCompare.f
      refine (QR.rubyParse_ev a0 hc.1).bind ((QR.rubyParse_ev a1 hc.2).bind ?_)
      rw [← h, md3, md3, QR.rubyCompare_ev a0 a1 hc.1 hc.2]
      exact Ev.now _
    obtain ⟨K, hk⟩ := ev.rounds
    exact impl_RubyCompare.calls K a0 a1 r s w hk hL.deb.err
  · exact absurd h (by simp)
def mx_DebianParts.f (a0 a1 : ByteArray) : Option (Int × Bool) := impl_DebianParts.f a0 a1
theorem mx_DebianParts.calls (a0 a1 : ByteArray) (r : Int) (s : Bool) (w : World) (h : mx_DebianParts.f a0 a1 = some (r, s)) (hL : LaidM w) :
    Calls Tryz.prog 25 #[.string a0, .string a1] w fun e w' => e = .returned (.tuple #[.int .i64 r, .bool s]) ∧ Below w.heap.size w w' := impl_DebianParts.calls a0 a1 r s w h hL.deb.err
def nol_DebianCompare.f (a0 a1 : ByteArray) : Option (Int × Bool) := none
theorem nol_DebianCompare.calls (a0 a1 : ByteArray) (r : Int) (s : Bool) (w : World) (h : nol_DebianCompare.f a0 a1 = some (r, s)) :
    Calls Tryz.prog 13 #[.string a0, .string a1] w fun e w' => e = .returned (.tuple #[.int .i64 r, .bool s]) ∧ Below w.heap.size w w' := nomatch h
def nol_RedHatCompare.f (a0 a1 : ByteArray) : Option (Int × Bool) := none
theorem nol_RedHatCompare.calls (a0 a1 : ByteArray) (r : Int) (s : Bool) (w : World) (h : nol_RedHatCompare.f a0 a1 = some (r, s)) :
    Calls Tryz.prog 14 #[.string a0, .string a1] w fun e w' => e = .returned (.tuple #[.int .i64 r, .bool s]) ∧ Below w.heap.size w w' := nomatch h
def nol_CRANCompare.f (a0 a1 : ByteArray) : Option (Int × Bool) := none
theorem nol_CRANCompare.calls (a0 a1 : ByteArray) (r : Int) (s : Bool) (w : World) (h : nol_CRANCompare.f a0 a1 = some (r, s)) :
    Calls Tryz.prog 15 #[.string a0, .string a1] w fun e w' => e = .returned (.tuple #[.int .i64 r, .bool s]) ∧ Below w.heap.size w w' := nomatch h
def nol_RubyCompare.f (a0 a1 : ByteArray) : Option (Int × Bool) := none
theorem nol_RubyCompare.calls (a0 a1 : ByteArray) (r : Int) (s : Bool) (w : World) (h : nol_RubyCompare.f a0 a1 = some (r, s)) :
    Calls Tryz.prog 16 #[.string a0, .string a1] w fun e w' => e = .returned (.tuple #[.int .i64 r, .bool s]) ∧ Below w.heap.size w w' := nomatch h
end Go.Proofs.YtnbpoplomdocjaaGreatDoor.Giv
