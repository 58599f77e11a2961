import JvmDerived
import JvmDerived.Pilot.@@N@@Statement
import JvmDerived.Pilot.@@N@@Code
set_option linter.unusedVariables false
set_option linter.unusedSimpArgs false
@@BLOCK:NumsL.lean.txt@@
namespace Jvm.FP.Core
section OwnNum
/-! The quotient of two whole numbers, the second one positive, rounded. -/
theorem own_quot {i j : Int} {x y : Datum} (hx : Whole i x) (hy : Whole j y) (hj : 0 < j) :
    ∃ s, quotient b64 x y = roundRatio b64 s i.natAbs j.natAbs 0 ∧ (i ≠ 0 → s = decide (i < 0)) := by
  cases x with
  | nan => exact hx.elim
  | inf => exact hx.elim
  | fin s c q =>
  cases y with
  | nan => exact hy.elim
  | inf => exact hy.elim
  | fin t d r =>
    have hd : d ≠ 0 := fun h => by have := (whole_zero hy).mp h; omega
    have ht : t = false := by rw [whole_sign hy (by omega)]; simp; omega
    subst ht
    refine ⟨s != false, ?_, fun hi => ?_⟩
    · show (if d = 0 then (if c = 0 then Datum.nan else Datum.inf (s != false)) else roundRatio b64 (s != false) c d (q - r)) = _
      rw [if_neg hd]
      refine roundRatio_congr (by omega) (by omega) ?_
      have h1 := whole_natAbs hx
      have h2 := whole_natAbs hy
      have hp : 0 < 2 ^ q.toNat * 2 ^ (-r).toNat := Nat.mul_pos (Nat.two_pow_pos _) (Nat.two_pow_pos _)
      have he : 2 ^ (q - r - 0).toNat * 2 ^ (-q).toNat * 2 ^ r.toNat = 2 ^ (0 - (q - r)).toNat * 2 ^ q.toNat * 2 ^ (-r).toNat := by
        rw [← Nat.pow_add, ← Nat.pow_add, ← Nat.pow_add, ← Nat.pow_add]; congr 1; omega
      refine Nat.eq_of_mul_eq_mul_right hp ?_
      calc c * j.natAbs * 2 ^ (q - r - 0).toNat * (2 ^ q.toNat * 2 ^ (-r).toNat)
          = (c * 2 ^ q.toNat) * (j.natAbs * 2 ^ (-r).toNat) * 2 ^ (q - r - 0).toNat := by ac_rfl
        _ = (i.natAbs * 2 ^ (-q).toNat) * (d * 2 ^ r.toNat) * 2 ^ (q - r - 0).toNat := by rw [h1, h2]
        _ = i.natAbs * d * (2 ^ (q - r - 0).toNat * 2 ^ (-q).toNat * 2 ^ r.toNat) := by ac_rfl
        _ = i.natAbs * d * (2 ^ (0 - (q - r)).toNat * 2 ^ q.toNat * 2 ^ (-r).toNat) := by rw [he]
        _ = i.natAbs * d * 2 ^ (0 - (q - r)).toNat * (2 ^ q.toNat * 2 ^ (-r).toNat) := by ac_rfl
    · rw [whole_sign hx hi]; simp
theorem own_qmin : b64.qmin = -1074 := by decide +kernel
theorem own_z1 : zmag b64 (.fin false (2 ^ 52) (-52)) = 2 ^ 1074 := by decide +kernel
theorem own_zm : zmag b64 (.fin false ((2 ^ 24 - 1) * 2 ^ 29) (-53)) = (2 ^ 24 - 1) * 2 ^ 1050 := by decide +kernel
theorem own_zs : zmag b64 (.fin false (2 ^ 52) (-76)) = 2 ^ 1050 := by decide +kernel
theorem own_f1 : fits b64 (.fin false (2 ^ 52) (-52)) := by unfold fits; decide +kernel
theorem own_fm : fits b64 (.fin false ((2 ^ 24 - 1) * 2 ^ 29) (-53)) := by unfold fits; decide +kernel
theorem own_fs : fits b64 (.fin false (2 ^ 52) (-76)) := by unfold fits; decide +kernel
theorem own_in (A : Nat) : inUnits A 0 b64.qmin = A * 2 ^ 1074 := by
  unfold inUnits; rw [own_qmin, show (0 - (-1074 : Int)).toNat = 1074 from by decide]
theorem own_p0 : (2 : Nat) ^ (b64.qmin - b64.qmin).toNat = 1 := by rw [Int.sub_self]; rfl
theorem own_pw : (2 : Nat) ^ 1074 = 2 ^ 24 * 2 ^ 1050 := by decide +kernel
theorem own_le1 {s : Bool} {A B : Nat} (hB : 0 < B) (h : A ≤ B) : zmag b64 (roundRatio b64 s A B 0) ≤ 2 ^ 1074 := by
  have q := zmag_roundRatio_le good_b64 (s := s) (A := A) (B := B) (e := 0) (e0 := b64.qmin) (V := .fin false (2 ^ 52) (-52)) hB own_f1 Datum.noConfusion (Int.le_refl _) (by decide +kernel)
    (by rw [own_in, own_z1, own_p0, Nat.mul_one, Nat.mul_comm A]; exact Nat.mul_le_mul_left _ h)
  rw [own_z1] at q; exact q
theorem own_ge1 {s : Bool} {A B : Nat} (hB : 0 < B) (h : B ≤ A) : 2 ^ 1074 ≤ zmag b64 (roundRatio b64 s A B 0) := by
  have q := zmag_roundRatio_ge good_b64 (s := s) (A := A) (B := B) (e := 0) (e0 := b64.qmin) (V := .fin false (2 ^ 52) (-52)) hB own_f1 (Int.le_refl _) (by decide +kernel)
    (by rw [own_in, own_z1, own_p0, Nat.mul_one, Nat.mul_comm A]; exact Nat.mul_le_mul_left _ h)
  rw [own_z1] at q; exact q
theorem own_lt1 {s : Bool} {A B : Nat} (hB : B ≤ 2 ^ 24) (h : A < B) : zmag b64 (roundRatio b64 s A B 0) < 2 ^ 1074 := by
  have q := zmag_roundRatio_le good_b64 (s := s) (A := A) (B := B) (e := 0) (e0 := b64.qmin) (V := .fin false ((2 ^ 24 - 1) * 2 ^ 29) (-53)) (by omega) own_fm Datum.noConfusion (Int.le_refl _) (by decide +kernel)
    (by
      rw [own_in, own_zm, own_p0, Nat.mul_one, own_pw]
      have h1 : A * 2 ^ 24 ≤ (2 ^ 24 - 1) * B := by omega
      calc A * (2 ^ 24 * 2 ^ 1050) = A * 2 ^ 24 * 2 ^ 1050 := (Nat.mul_assoc _ _ _).symm
        _ ≤ (2 ^ 24 - 1) * B * 2 ^ 1050 := Nat.mul_le_mul_right _ h1
        _ = (2 ^ 24 - 1) * 2 ^ 1050 * B := Nat.mul_right_comm _ _ _)
  rw [own_zm] at q
  refine Nat.lt_of_le_of_lt q ?_
  rw [own_pw]
  exact Nat.mul_lt_mul_of_pos_right (by decide) (Nat.two_pow_pos _)
theorem own_pos {s : Bool} {A B : Nat} (h0 : 0 < B) (hB : B ≤ 2 ^ 24) (h : 0 < A) : 0 < zmag b64 (roundRatio b64 s A B 0) := by
  have q := zmag_roundRatio_ge good_b64 (s := s) (A := A) (B := B) (e := 0) (e0 := b64.qmin) (V := .fin false (2 ^ 52) (-76)) h0 own_fs (Int.le_refl _) (by decide +kernel)
    (by
      rw [own_in, own_zs, own_p0, Nat.mul_one, own_pw]
      have h1 : B ≤ A * 2 ^ 24 := by omega
      calc 2 ^ 1050 * B ≤ 2 ^ 1050 * (A * 2 ^ 24) := Nat.mul_le_mul_left _ h1
        _ = A * (2 ^ 24 * 2 ^ 1050) := by rw [Nat.mul_comm (2 ^ 1050), Nat.mul_assoc])
  rw [own_zs] at q
  exact Nat.lt_of_lt_of_le (Nat.two_pow_pos _) q
theorem own_zv1 : zval b64 (val64 FP.dconst1) = ((2 ^ 1074 : Nat) : Int) := by
  rw [show val64 FP.dconst1 = .fin false (2 ^ 52) (-52) from val64_dconst1]; unfold zval; rw [own_z1]; rfl
theorem own_zv0 : zval b64 (val64 FP.dconst0) = 0 := by
  rw [show val64 FP.dconst0 = .fin false 0 b64.qmin from val64_dconst0]; simp [zval, sgn, zmag, inUnits, signed]
theorem own_n1 : val64 FP.dconst1 ≠ .nan := by rw [show val64 FP.dconst1 = .fin false (2 ^ 52) (-52) from val64_dconst1]; exact Datum.noConfusion
theorem own_n0 : val64 FP.dconst0 ≠ .nan := by rw [show val64 FP.dconst0 = .fin false 0 b64.qmin from val64_dconst0]; exact Datum.noConfusion
/-- `Q` is the rounded quotient `i / j` -/
def OwnQ (Q : UInt64) (i j : Int) : Prop := ∃ s, val64 Q = roundRatio b64 s i.natAbs j.natAbs 0 ∧ (i ≠ 0 → s = decide (i < 0))
theorem OwnQ.no {Q : UInt64} {i j : Int} (h : OwnQ Q i j) : val64 Q ≠ .nan := by
  obtain ⟨s, h, -⟩ := h; rw [h]; exact roundRatio_ne_nan _ _ _ _ _
theorem OwnQ.noNaN {Q : UInt64} {i j : Int} (h : OwnQ Q i j) : Jvm.Free.Fl.NoNaN64 Q := by
  rw [Jvm.Free.Fl.noNaN64_no, ← Bool.not_eq_true, dIsNaN_iff]; exact h.no
theorem OwnQ.neg {Q : UInt64} {i j : Int} (h : OwnQ Q i j) : OwnQ (FP.dneg Q) (-i) j := by
  obtain ⟨s, h, hs⟩ := h
  refine ⟨!s, ?_, fun hi => ?_⟩
  · rw [Jvm.FP.val64_dneg, h, negate_roundRatio, Int.natAbs_neg]
  · rw [hs (by omega)]
    by_cases q : i < 0
    · rw [decide_eq_true q, decide_eq_false (show ¬ (-i < 0) by omega)]; rfl
    · rw [decide_eq_false q, decide_eq_true (show -i < 0 by omega)]; rfl
theorem own_ll {a b : UInt64} {i j : Int} (ha : DInt i a) (hb : DInt j b) (hj : 0 < j) : OwnQ (FP.ddiv a b) i j := by
  obtain ⟨s, h, hs⟩ := own_quot ha hb hj
  exact ⟨s, by rw [show val64 (FP.ddiv a b) = _ from val64_ddiv a b]; exact h, hs⟩
theorem OwnQ.neg0 {Q : UInt64} {i j : Int} (h : OwnQ Q i j) (h0 : 0 < j) (h1 : j ≤ 2 ^ 24) (hi : i < 0) : dcmp Q FP.dconst0 = some .lt := by
  obtain ⟨s, h, hs⟩ := id h
  refine dcmp_lt.mpr ⟨by rw [h]; exact roundRatio_ne_nan _ _ _ _ _, own_n0, ?_⟩
  have q := own_pos (s := s) (A := i.natAbs) (B := j.natAbs) (by omega) (by omega) (by omega)
  rw [own_zv0, h]; unfold zval; rw [sgn_roundRatio, hs (by omega)]
  simp only [hi, decide_true] at q ⊢
  rw [hs (by omega)] at q
  simp only [hi, decide_true] at q
  simp only [signed, if_true]
  omega
theorem OwnQ.ge0 {Q : UInt64} {i j : Int} (h : OwnQ Q i j) (hi : 0 ≤ i) : dcmp Q FP.dconst0 = some .gt ∨ dcmp Q FP.dconst0 = some .eq := by
  obtain ⟨s, h, hs⟩ := id h
  refine dcmp_ge.mpr ⟨by rw [h]; exact roundRatio_ne_nan _ _ _ _ _, own_n0, ?_⟩
  rw [own_zv0, h]
  by_cases q : i = 0
  · subst q
    show 0 ≤ zval b64 (.fin s 0 b64.qmin)
    cases s <;> simp [zval, sgn, zmag, inUnits, signed]
  · unfold zval; rw [sgn_roundRatio, hs q]
    have : ¬ i < 0 := by omega
    simp only [this, decide_false, signed]
    exact Int.natCast_nonneg _
theorem OwnQ.zv {Q : UInt64} {i j : Int} (h : OwnQ Q i j) (hi : 0 ≤ i) : ∃ s, zval b64 (val64 Q) = (zmag b64 (roundRatio b64 s i.natAbs j.natAbs 0) : Int) := by
  obtain ⟨s, h, hs⟩ := h
  refine ⟨s, ?_⟩
  rw [h]
  by_cases q : i = 0
  · subst q
    show zval b64 (.fin s 0 b64.qmin) = ((zmag b64 (.fin s 0 b64.qmin) : Nat) : Int)
    cases s <;> simp [zval, sgn, zmag, inUnits, signed]
  · unfold zval; rw [sgn_roundRatio, hs q]
    have : ¬ i < 0 := by omega
    simp only [this, decide_false, signed, Bool.false_eq_true, if_false]
theorem OwnQ.lt1 {Q : UInt64} {i j : Int} (h : OwnQ Q i j) (hi : 0 ≤ i) (hj : i < j) (h1 : j ≤ 2 ^ 24) : dcmp Q FP.dconst1 = some .lt := by
  obtain ⟨s, e⟩ := h.zv hi
  refine dcmp_lt.mpr ⟨h.no, own_n1, ?_⟩
  rw [own_zv1, e]
  exact Int.ofNat_lt.mpr (own_lt1 (by omega) (by omega))
theorem OwnQ.ge1 {Q : UInt64} {i j : Int} (h : OwnQ Q i j) (hi : 0 ≤ i) (h0 : 0 < j) (hj : j ≤ i) : dcmp Q FP.dconst1 = some .gt ∨ dcmp Q FP.dconst1 = some .eq := by
  obtain ⟨s, e⟩ := h.zv hi
  refine dcmp_ge.mpr ⟨h.no, own_n1, ?_⟩
  rw [own_zv1, e]
  exact Int.ofNat_le.mpr (own_ge1 (by omega) (by omega))
theorem OwnQ.le1 {Q : UInt64} {i j : Int} (h : OwnQ Q i j) (hi : 0 ≤ i) (h0 : 0 < j) (hj : i ≤ j) : dcmp Q FP.dconst1 = some .lt ∨ dcmp Q FP.dconst1 = some .eq := by
  obtain ⟨s, e⟩ := h.zv hi
  refine dcmp_le.mpr ⟨h.no, own_n1, ?_⟩
  rw [own_zv1, e]
  exact Int.ofNat_le.mpr (own_le1 (by omega) (by omega))
end OwnNum
end Jvm.FP.Core
namespace Jvm.Pilot.@@N@@
open Jvm Jvm.ClassFile Sem Op Lib Jvm.Free Jvm.Stand Jvm.LawKit Jvm.RoadKit Bundle Jvm.Pilot.@@N@@.Jvm.D
theorem d1_0 : decode prog_15_method_2_code 0 = .ok (.dload_n 0, 1) := by decide +kernel
theorem d1_1 : decode prog_15_method_2_code 1 = .ok (.dconst 0, 1) := by decide +kernel
theorem d1_2 : decode prog_15_method_2_code 2 = .ok (.dcmp .l, 1) := by decide +kernel
theorem d1_3 : decode prog_15_method_2_code 3 = .ok (.ifCond .lt 13, 3) := by decide +kernel
theorem d1_6 : decode prog_15_method_2_code 6 = .ok (.dload_n 0, 1) := by decide +kernel
theorem d1_7 : decode prog_15_method_2_code 7 = .ok (.dconst 1, 1) := by decide +kernel
theorem d1_8 : decode prog_15_method_2_code 8 = .ok (.dcmp .g, 1) := by decide +kernel
theorem d1_9 : decode prog_15_method_2_code 9 = .ok (.ifCond .ge 7, 3) := by decide +kernel
theorem d1_12 : decode prog_15_method_2_code 12 = .ok (.iconst 1, 1) := by decide +kernel
theorem d1_13 : decode prog_15_method_2_code 13 = .ok (.goto 4, 3) := by decide +kernel
theorem d1_16 : decode prog_15_method_2_code 16 = .ok (.iconst 0, 1) := by decide +kernel
theorem d1_17 : decode prog_15_method_2_code 17 = .ok (.ireturn, 1) := by decide +kernel
theorem pnL : plainName "com/example/kudos_for_datasets/kudosfordatasets/PageRankIsDampingPinLaw" = true := by first | (simp [plainName, overriddenIn]; done) | decide +kernel
theorem pnP : plainName "com/example/kudos_for_datasets/kudosfordatasets/PageRank" = true := by first | (simp [plainName, overriddenIn]; done) | decide +kernel
theorem pdD : parseMethodDescriptor "(D)Z" = some ⟨[.double], some .boolean⟩ := by decide +kernel
theorem ef0 (m : MethodId) (x0 x1 x2 : Int32) : entryFrame m #[(.int x0), (.int x1), (.int x2)] maxLocals = mkF m 0 #[.val (.int x0), .val (.int x1), .val (.int x2), .unset, .unset, .unset, .unset, .unset, .unset, .unset, .unset, .unset, .unset] [] := by first | (simp [entryFrame, mkF, argsToLocals, Value.category, maxLocals]; done) | rfl
theorem ef1 (m : MethodId) (x0 : UInt64) : entryFrame m #[(.double x0)] 2 = mkF m 0 #[.val (.double x0), .second] [] := by first | (simp [entryFrame, mkF, argsToLocals, Value.category]; done) | rfl
def own_cl (d : UInt64) : Int32 := cmpValue (FP.dcmp d FP.dconst0) .l
def own_cg (d : UInt64) : Int32 := cmpValue (FP.dcmp d FP.dconst1) .g
def OwnDmp (d : UInt64) (r : Int32) : Prop := (ifCond.holds .lt (own_cl d) = true ∧ r = 0) ∨ (ifCond.holds .lt (own_cl d) = false ∧ ifCond.holds .ge (own_cg d) = true ∧ r = 0) ∨ (ifCond.holds .lt (own_cl d) = false ∧ ifCond.holds .ge (own_cg d) = false ∧ r = 1)
theorem own_dmp {d : UInt64} {i j : Int} (h : FP.Core.OwnQ d i j) (h0 : 0 < j) (h1 : j ≤ 2 ^ 24) : (i < 0 → OwnDmp d 0) ∧ (0 ≤ i → j ≤ i → OwnDmp d 0) ∧ (0 ≤ i → i < j → OwnDmp d 1) := by
  refine ⟨fun hi => Or.inl ⟨?_, rfl⟩, fun hi hj => Or.inr (Or.inl ⟨?_, ?_, rfl⟩), fun hi hj => Or.inr (Or.inr ⟨?_, ?_, rfl⟩)⟩
  · unfold own_cl; rw [show FP.dcmp d FP.dconst0 = _ from h.neg0 h0 h1 hi]; decide
  · unfold own_cl; rcases h.ge0 hi with q | q <;> rw [show FP.dcmp d FP.dconst0 = _ from q] <;> decide
  · unfold own_cg; rcases h.ge1 hi h0 hj with q | q <;> rw [show FP.dcmp d FP.dconst1 = _ from q] <;> decide
  · unfold own_cl; rcases h.ge0 hi with q | q <;> rw [show FP.dcmp d FP.dconst0 = _ from q] <;> decide
  · unfold own_cg; rw [show FP.dcmp d FP.dconst1 = _ from h.lt1 hi hj h1]; decide
def QD (r : Int32) (h0 : Heap) (n0 : Nat) (v : Option Value) (h : Heap) (L : List Loc) : Prop := v = some (.int r) ∧ Fr n0 L ∧ h = h0
set_option maxRecDepth 65536 in
set_option maxHeartbeats 40000000 in
theorem rmD (l : Launch) (Z : State) (a0 : Array Value) (hw : ∀ d ∈ tables_1, d.before a0 Z = true) (ws : List Jvm.Cond) (d : UInt64) (r : Int32) (h0 : Heap) (n0 : Nat) (Z0 : n0 ≤ h0.size) (hres : OwnDmp d r) :
    MetFree l (⟨"com/example/kudos_for_datasets/kudosfordatasets/PageRank", "isDamping", "(D)Z"⟩ : MethodName) (head1 (Jvm.Cond.code (⟨"com/example/kudos_for_datasets/kudosfordatasets/PageRank", "isDamping", "(D)Z"⟩ : MethodName) prog_15_method_2_code 2 (some .boolean) :: ws) ({ frames := 0, cells := 0, slots := 0, locals := 0 } : Room)) (fun a U => a = #[(.double d)] ∧ Z.Warmed39 U.vm ∧ U.heap = h0) (fun _ _ _ _ _ => True) (fun _ U o U' => ∃ v L, o = .returned v ∧ QD r h0 n0 v U'.heap L ∧ FrameEnd U o U' L ({ frames := 0, cells := 0, slots := 0, locals := 0 } : Room).cells ({ frames := 0, cells := 0, slots := 0, locals := 0 } : Room).slots) := by
  refine MetFree.of_bodySF (plainFor_of_name pnP) hisR ?_
  intro p e s m args below meth c s₁ Bd hml0 hP hK
  obtain ⟨rfl, hZ, hh⟩ := hP
  have hx := Bd.exec
  have hby := Bd.bytes
  have hml : c.maxLocals = 2 := hml0
  have X0 : Stand p l e ({ frames := 0, cells := 0, slots := 0, locals := 0 } : Room) s m #[(.double d)] below meth c s₁ [] 0 0 := Stand.of_body Bd
  have e0 : s₁.heap = h0 := by rw [← hh, Bd.state]; rfl
  have N0 := Fr.nil n0
  have pre0 : ∀ t, Steps p.tables e below (s₁.setTop (mkF m 0 #[.val (.double d), .second] [])) t → Steps p.tables e below (s₁.setTop (entryFrame m #[(.double d)] 2)) t := fun t k => castTop (ef1 m d) k
  rcases hres with ⟨hc, rfl⟩ | ⟨hc, hg, rfl⟩ | ⟨hc, hg, rfl⟩
  · obtain ⟨fs, hr, hrun, hended, hW, hsame⟩ := X0.leave (v := some (.int (0 : Int32))) (fun h => by rw [Bd.returns] at h; cases h)
    refine ⟨_, _, pre0 _ ?_, hrun, hended, _, _, rfl, ?_, ⟨_, rfl⟩, hW, hsame.mono (by decide) (by decide)⟩
    · skip
      show Steps p.tables e below (s₁.setTop (mkF m 0 #[.val (.double d), .second] [])) _
      refine XS.dloadN X0.here hx rfl (hb hby d1_0) rfl ?_
      show Steps p.tables e below (s₁.setTop (mkF m 1 #[.val (.double d), .second] [(.double d)])) _
      refine XS.dconst0 X0.here hx rfl (v := FP.dconst0) (hb hby d1_1) rfl ?_
      show Steps p.tables e below (s₁.setTop (mkF m 2 #[.val (.double d), .second] [(.double FP.dconst0), (.double d)])) _
      refine XS.dcmpS X0.here hx rfl (x := d) (y := FP.dconst0) (v := (own_cl d)) (hb hby d1_2) rfl rfl ?_
      show Steps p.tables e below (s₁.setTop (mkF m 3 #[.val (.double d), .second] [(.int (own_cl d))])) _
      refine XS.ifYes X0.here hx rfl (pc0 := 3) (pc' := 16) rfl (hb hby d1_3) rfl hc (by decide) (by decide) ?_
      show Steps p.tables e below (s₁.setTop (mkF m 16 #[.val (.double d), .second] [])) _
      refine XS.iconst X0.here hx rfl (hb hby d1_16) ?_
      show Steps p.tables e below (s₁.setTop (mkF m 17 #[.val (.double d), .second] [(.int (0 : Int32))])) _
      exact retN X0 hx (t := .boolean) Bd.returns (by simp) (hb hby d1_17) hr
    · show QD _ h0 n0 _ s₁.heap _
      rw [e0]
      exact ⟨rfl, N0, rfl⟩
  · obtain ⟨fs, hr, hrun, hended, hW, hsame⟩ := X0.leave (v := some (.int (0 : Int32))) (fun h => by rw [Bd.returns] at h; cases h)
    refine ⟨_, _, pre0 _ ?_, hrun, hended, _, _, rfl, ?_, ⟨_, rfl⟩, hW, hsame.mono (by decide) (by decide)⟩
    · skip
      show Steps p.tables e below (s₁.setTop (mkF m 0 #[.val (.double d), .second] [])) _
      refine XS.dloadN X0.here hx rfl (hb hby d1_0) rfl ?_
      show Steps p.tables e below (s₁.setTop (mkF m 1 #[.val (.double d), .second] [(.double d)])) _
      refine XS.dconst0 X0.here hx rfl (v := FP.dconst0) (hb hby d1_1) rfl ?_
      show Steps p.tables e below (s₁.setTop (mkF m 2 #[.val (.double d), .second] [(.double FP.dconst0), (.double d)])) _
      refine XS.dcmpS X0.here hx rfl (x := d) (y := FP.dconst0) (v := (own_cl d)) (hb hby d1_2) rfl rfl ?_
      show Steps p.tables e below (s₁.setTop (mkF m 3 #[.val (.double d), .second] [(.int (own_cl d))])) _
      refine XS.ifNo X0.here hx rfl (hb hby d1_3) rfl hc ?_
      show Steps p.tables e below (s₁.setTop (mkF m 6 #[.val (.double d), .second] [])) _
      refine XS.dloadN X0.here hx rfl (hb hby d1_6) rfl ?_
      show Steps p.tables e below (s₁.setTop (mkF m 7 #[.val (.double d), .second] [(.double d)])) _
      refine XS.dconst1 X0.here hx rfl (v := FP.dconst1) (hb hby d1_7) rfl ?_
      show Steps p.tables e below (s₁.setTop (mkF m 8 #[.val (.double d), .second] [(.double FP.dconst1), (.double d)])) _
      refine XS.dcmpS X0.here hx rfl (x := d) (y := FP.dconst1) (v := (own_cg d)) (hb hby d1_8) rfl rfl ?_
      show Steps p.tables e below (s₁.setTop (mkF m 9 #[.val (.double d), .second] [(.int (own_cg d))])) _
      refine XS.ifYes X0.here hx rfl (pc0 := 9) (pc' := 16) rfl (hb hby d1_9) rfl hg (by decide) (by decide) ?_
      show Steps p.tables e below (s₁.setTop (mkF m 16 #[.val (.double d), .second] [])) _
      refine XS.iconst X0.here hx rfl (hb hby d1_16) ?_
      show Steps p.tables e below (s₁.setTop (mkF m 17 #[.val (.double d), .second] [(.int (0 : Int32))])) _
      exact retN X0 hx (t := .boolean) Bd.returns (by simp) (hb hby d1_17) hr
    · show QD _ h0 n0 _ s₁.heap _
      rw [e0]
      exact ⟨rfl, N0, rfl⟩
  · obtain ⟨fs, hr, hrun, hended, hW, hsame⟩ := X0.leave (v := some (.int (1 : Int32))) (fun h => by rw [Bd.returns] at h; cases h)
    refine ⟨_, _, pre0 _ ?_, hrun, hended, _, _, rfl, ?_, ⟨_, rfl⟩, hW, hsame.mono (by decide) (by decide)⟩
    · skip
      show Steps p.tables e below (s₁.setTop (mkF m 0 #[.val (.double d), .second] [])) _
      refine XS.dloadN X0.here hx rfl (hb hby d1_0) rfl ?_
      show Steps p.tables e below (s₁.setTop (mkF m 1 #[.val (.double d), .second] [(.double d)])) _
      refine XS.dconst0 X0.here hx rfl (v := FP.dconst0) (hb hby d1_1) rfl ?_
      show Steps p.tables e below (s₁.setTop (mkF m 2 #[.val (.double d), .second] [(.double FP.dconst0), (.double d)])) _
      refine XS.dcmpS X0.here hx rfl (x := d) (y := FP.dconst0) (v := (own_cl d)) (hb hby d1_2) rfl rfl ?_
      show Steps p.tables e below (s₁.setTop (mkF m 3 #[.val (.double d), .second] [(.int (own_cl d))])) _
      refine XS.ifNo X0.here hx rfl (hb hby d1_3) rfl hc ?_
      show Steps p.tables e below (s₁.setTop (mkF m 6 #[.val (.double d), .second] [])) _
      refine XS.dloadN X0.here hx rfl (hb hby d1_6) rfl ?_
      show Steps p.tables e below (s₁.setTop (mkF m 7 #[.val (.double d), .second] [(.double d)])) _
      refine XS.dconst1 X0.here hx rfl (v := FP.dconst1) (hb hby d1_7) rfl ?_
      show Steps p.tables e below (s₁.setTop (mkF m 8 #[.val (.double d), .second] [(.double FP.dconst1), (.double d)])) _
      refine XS.dcmpS X0.here hx rfl (x := d) (y := FP.dconst1) (v := (own_cg d)) (hb hby d1_8) rfl rfl ?_
      show Steps p.tables e below (s₁.setTop (mkF m 9 #[.val (.double d), .second] [(.int (own_cg d))])) _
      refine XS.ifNo X0.here hx rfl (hb hby d1_9) rfl hg ?_
      show Steps p.tables e below (s₁.setTop (mkF m 12 #[.val (.double d), .second] [])) _
      refine XS.iconst X0.here hx rfl (hb hby d1_12) ?_
      show Steps p.tables e below (s₁.setTop (mkF m 13 #[.val (.double d), .second] [(.int (1 : Int32))])) _
      refine XS.goto X0.here hx rfl (pc0 := 13) (pc' := 17) rfl (hb hby d1_13) (by decide) (by decide) ?_
      show Steps p.tables e below (s₁.setTop (mkF m 17 #[.val (.double d), .second] [(.int (1 : Int32))])) _
      exact retN X0 hx (t := .boolean) Bd.returns (by simp) (hb hby d1_17) hr
    · show QD _ h0 n0 _ s₁.heap _
      rw [e0]
      exact ⟨rfl, N0, rfl⟩
def own_b (p1 : Int32) : Int64 := ((p1 &&& (16777215 : Int32)).toInt64) + (1 : Int64)
theorem own_bb (p1 : Int32) : 0 < (own_b p1).toInt ∧ (own_b p1).toInt ≤ 2 ^ 24 := by
  have e : (p1 &&& (16777215 : Int32)).toInt = p1.toInt % 2 ^ 24 := Jvm.Kit.i32_mask p1 16777215 (by decide) (by decide)
  have e1 : (p1 &&& (16777215 : Int32)).toInt64.toInt = (p1 &&& (16777215 : Int32)).toInt := Jvm.Kit.i64_of_i32 _
  have e2 : (1 : Int64).toInt = 1 := by decide
  have e3 : (own_b p1).toInt = p1.toInt % 2 ^ 24 + 1 := by
    unfold own_b; rw [Jvm.Kit.i64_add (by omega) (by omega)]; omega
  omega
theorem own_n64 (p0 : Int32) : (-(p0.toInt64)).toInt = -p0.toInt := by
  have a := p0.toInt_lt; have b := p0.le_toInt
  have e : p0.toInt64.toInt = p0.toInt := Jvm.Kit.i64_of_i32 _
  rw [Jvm.Kit.i64_neg (by omega), e]
theorem own_q (p0 p1 : Int32) : FP.Core.OwnQ (FP.ddiv (FP.i2d p0) (FP.l2d (own_b p1))) p0.toInt (own_b p1).toInt := by
  have q := own_bb p1
  exact FP.Core.own_ll (FP.Core.i2d_int p0) (FP.Core.l2d_int (by omega)) q.1
def Q0 (v : Option Value) (n0 : Nat) (L : List Loc) : Prop := v = some (.int 1) ∧ Fr n0 L
set_option maxRecDepth 65536 in
set_option maxHeartbeats 40000000 in
theorem rm0 (l : Launch) (Z : State) (a0 : Array Value) (hw : ∀ d ∈ tables_1, d.before a0 Z = true) (ws : List Jvm.Cond) (p0 p1 p2 : Int32) (h0 : Heap) (n0 : Nat) (Z0 : n0 ≤ h0.size) :
    MetFree l x (head1 (Jvm.Cond.code x code maxLocals ret :: ws) room_1) (fun a U => a = #[(.int p0), (.int p1), (.int p2)] ∧ Z.Warmed39 U.vm ∧ U.heap = h0) (fun _ _ _ _ _ => True) (fun _ U o U' => ∃ v L, o = .returned v ∧ Q0 v n0 L ∧ FrameEnd U o U' L 0 0) := by
  refine MetFree.of_bodySF (plainFor_of_name pnL) hisR ?_
  intro p e s m args below meth c s₁ Bd hml0 hP hK
  obtain ⟨rfl, hZ, hh⟩ := hP
  have hx := Bd.exec
  have hby := Bd.bytes
  have hml : c.maxLocals = 13 := hml0
  have hown : s.vm.findClass "com/example/kudos_for_datasets/kudosfordatasets/PageRankIsDampingPinLaw" = some m.cls := findClass_of_methodNamed Bd.named
  have X0 : Stand p l e room_1 s m #[(.int p0), (.int p1), (.int p2)] below meth c s₁ [] 0 0 := Stand.of_body Bd
  have e0 : s₁.heap = h0 := by rw [← hh, Bd.state]; rfl
  have N0 := Fr.nil n0
  have pre0 : ∀ t, Steps p.tables e below (s₁.setTop (mkF m 0 #[.val (.int p0), .val (.int p1), .val (.int p2), .unset, .unset, .unset, .unset, .unset, .unset, .unset, .unset, .unset, .unset] [])) t → Steps p.tables e below (s₁.setTop (entryFrame m #[(.int p0), (.int p1), (.int p2)] maxLocals)) t := fun t k => castTop (ef0 m p0 p1 p2) k
  have hq := own_q p0 p1
  have hq' := hq.neg
  have hbb := own_bb p1
  have hz : (0 : Int64).toInt = 0 := by decide
  have e64 : p0.toInt64.toInt = p0.toInt := Jvm.Kit.i64_of_i32 _
  have n64 := own_n64 p0
  by_cases hf : (p2 &&& (1 : Int32)) = 0
  · have hi : (p0.toInt64).toInt = p0.toInt := e64
    have hd := own_dmp hq hbb.1 hbb.2
    by_cases hA : (p0.toInt64) < (0 : Int64)
    · obtain ⟨_, _, ⟨T1, L1, k1, n1⟩, -, X1, ⟨Lc1, hQ1, l1, y1, z1⟩, st1⟩ := Jvm.LawKit.callS X0 hx (y := (⟨"com/example/kudos_for_datasets/kudosfordatasets/PageRank", "isDamping", "(D)Z"⟩ : MethodName)) hown (mvT hZ (hw _ (List.mem_of_getElem? (i := 1) rfl))) (mvT hZ (hw _ (List.mem_of_getElem? (i := 2) rfl))) (mvT hZ (hw _ (List.mem_of_getElem? (i := 3) rfl))) (mvT hZ (hw _ (List.mem_of_getElem? (i := 4) rfl))) (by decide) (backOf (W := 0) (rmD l Z a0 hw [] (FP.ddiv (FP.i2d p0) (FP.l2d (own_b p1))) (0 : Int32) h0 n0 Z0 (hd.1 (by rw [Int64.lt_iff_toInt_lt] at hA; omega))) hZ (hw _ (List.mem_of_getElem? (i := 4) rfl)) (hw _ (List.mem_of_getElem? (i := 3) rfl)) (by decide) (by decide)) (g := (mkF m 81 #[.val (.int p0), .val (.int p1), .val (.int p2), .val (.long (own_b p1)), .second, .val (.int (0 : Int32)), .val (.long (p0.toInt64)), .second, .val (.double (FP.ddiv (FP.i2d p0) (FP.l2d (own_b p1)))), .second, .val (.double (FP.ddiv (FP.i2d p0) (FP.l2d (own_b p1)))), .second, .val (.int (0 : Int32))] [(.double (FP.ddiv (FP.i2d p0) (FP.l2d (own_b p1))))])) rfl (by rw [hml]; rfl) (argsL := [(.double (FP.ddiv (FP.i2d p0) (FP.l2d (own_b p1))))]) (rest := []) (lenOf pdD rfl) rfl (by show 2 * 0 + _ ≤ _; exact Nat.le_of_eq rfl) (hb hby at_81) (fun _ _ => ⟨rfl, e0, (by decide : 0 + 0 ≤ _), (by decide : 0 + 0 ≤ _)⟩)
      dsimp only [Pt.U, Pt.locs, Pt.cells, Pt.slots] at X1 l1 y1 z1 st1 hQ1
      subst l1 y1 z1
      obtain ⟨rfl, N1q, e1⟩ := hQ1
      have N1 := Fr.app N0 N1q
      obtain ⟨fs, hr, hrun, hended, hW, hsame⟩ := X1.leave (v := some (.int (1 : Int32))) (fun h => by rw [Bd.returns] at h; cases h)
      refine ⟨_, _, pre0 _ ?_, hrun, hended, _, _, rfl, ?_, ⟨_, rfl⟩, hW, hsame.mono (by decide) (by decide)⟩
      · skip
        show Steps p.tables e below (s₁.setTop (mkF m 0 #[.val (.int p0), .val (.int p1), .val (.int p2), .unset, .unset, .unset, .unset, .unset, .unset, .unset, .unset, .unset, .unset] [])) _
        refine XS.iloadN X0.here hx rfl (hb hby at_0) rfl ?_
        show Steps p.tables e below (s₁.setTop (mkF m 1 #[.val (.int p0), .val (.int p1), .val (.int p2), .unset, .unset, .unset, .unset, .unset, .unset, .unset, .unset, .unset, .unset] [(.int p1)])) _
        refine X0.ldcInt hx hown (mvT hZ (hw _ (List.mem_of_getElem? (i := 0) rfl))) (g := (mkF m 1 #[.val (.int p0), .val (.int p1), .val (.int p2), .unset, .unset, .unset, .unset, .unset, .unset, .unset, .unset, .unset, .unset] [(.int p1)])) rfl (hb hby at_1) _ ?_
        show Steps p.tables e below (s₁.setTop (mkF m 3 #[.val (.int p0), .val (.int p1), .val (.int p2), .unset, .unset, .unset, .unset, .unset, .unset, .unset, .unset, .unset, .unset] [(.int (16777215 : Int32)), (.int p1)])) _
        refine XS.iand X0.here hx rfl (hb hby at_3) rfl ?_
        show Steps p.tables e below (s₁.setTop (mkF m 4 #[.val (.int p0), .val (.int p1), .val (.int p2), .unset, .unset, .unset, .unset, .unset, .unset, .unset, .unset, .unset, .unset] [(.int (p1 &&& (16777215 : Int32)))])) _
        refine XS.i2l X0.here hx rfl (hb hby at_4) rfl ?_
        show Steps p.tables e below (s₁.setTop (mkF m 5 #[.val (.int p0), .val (.int p1), .val (.int p2), .unset, .unset, .unset, .unset, .unset, .unset, .unset, .unset, .unset, .unset] [(.long ((p1 &&& (16777215 : Int32)).toInt64))])) _
        refine XS.lconst X0.here hx rfl (hb hby at_5) ?_
        show Steps p.tables e below (s₁.setTop (mkF m 6 #[.val (.int p0), .val (.int p1), .val (.int p2), .unset, .unset, .unset, .unset, .unset, .unset, .unset, .unset, .unset, .unset] [(.long (1 : Int64)), (.long ((p1 &&& (16777215 : Int32)).toInt64))])) _
        refine XS.ladd X0.here hx rfl (hb hby at_6) rfl ?_
        show Steps p.tables e below (s₁.setTop (mkF m 7 #[.val (.int p0), .val (.int p1), .val (.int p2), .unset, .unset, .unset, .unset, .unset, .unset, .unset, .unset, .unset, .unset] [(.long (own_b p1))])) _
        refine XS.lstoreN X0.here hx rfl (hb hby at_7) rfl (l' := #[.val (.int p0), .val (.int p1), .val (.int p2), .val (.long (own_b p1)), .second, .unset, .unset, .unset, .unset, .unset, .unset, .unset, .unset]) rfl ?_
        show Steps p.tables e below (s₁.setTop (mkF m 8 #[.val (.int p0), .val (.int p1), .val (.int p2), .val (.long (own_b p1)), .second, .unset, .unset, .unset, .unset, .unset, .unset, .unset, .unset] [])) _
        refine XS.iloadN X0.here hx rfl (hb hby at_8) rfl ?_
        show Steps p.tables e below (s₁.setTop (mkF m 9 #[.val (.int p0), .val (.int p1), .val (.int p2), .val (.long (own_b p1)), .second, .unset, .unset, .unset, .unset, .unset, .unset, .unset, .unset] [(.int p2)])) _
        refine XS.iconst X0.here hx rfl (hb hby at_9) ?_
        show Steps p.tables e below (s₁.setTop (mkF m 10 #[.val (.int p0), .val (.int p1), .val (.int p2), .val (.long (own_b p1)), .second, .unset, .unset, .unset, .unset, .unset, .unset, .unset, .unset] [(.int (1 : Int32)), (.int p2)])) _
        refine XS.iand X0.here hx rfl (hb hby at_10) rfl ?_
        show Steps p.tables e below (s₁.setTop (mkF m 11 #[.val (.int p0), .val (.int p1), .val (.int p2), .val (.long (own_b p1)), .second, .unset, .unset, .unset, .unset, .unset, .unset, .unset, .unset] [(.int (p2 &&& (1 : Int32)))])) _
        refine XS.ifYes X0.here hx rfl (pc0 := 11) (pc' := 18) rfl (hb hby at_11) rfl ((if0 _ _).trans (teq hf).1) (by decide) (by decide) ?_
        show Steps p.tables e below (s₁.setTop (mkF m 18 #[.val (.int p0), .val (.int p1), .val (.int p2), .val (.long (own_b p1)), .second, .unset, .unset, .unset, .unset, .unset, .unset, .unset, .unset] [])) _
        refine XS.iconst X0.here hx rfl (hb hby at_18) ?_
        show Steps p.tables e below (s₁.setTop (mkF m 19 #[.val (.int p0), .val (.int p1), .val (.int p2), .val (.long (own_b p1)), .second, .unset, .unset, .unset, .unset, .unset, .unset, .unset, .unset] [(.int (0 : Int32))])) _
        refine XS.istore X0.here hx rfl (hb hby at_19) rfl (l' := #[.val (.int p0), .val (.int p1), .val (.int p2), .val (.long (own_b p1)), .second, .val (.int (0 : Int32)), .unset, .unset, .unset, .unset, .unset, .unset, .unset]) rfl ?_
        show Steps p.tables e below (s₁.setTop (mkF m 21 #[.val (.int p0), .val (.int p1), .val (.int p2), .val (.long (own_b p1)), .second, .val (.int (0 : Int32)), .unset, .unset, .unset, .unset, .unset, .unset, .unset] [])) _
        refine XS.iload X0.here hx rfl (hb hby at_21) rfl ?_
        show Steps p.tables e below (s₁.setTop (mkF m 23 #[.val (.int p0), .val (.int p1), .val (.int p2), .val (.long (own_b p1)), .second, .val (.int (0 : Int32)), .unset, .unset, .unset, .unset, .unset, .unset, .unset] [(.int (0 : Int32))])) _
        refine XS.ifYes X0.here hx rfl (pc0 := 23) (pc' := 32) rfl (hb hby at_23) rfl (by decide) (by decide) (by decide) ?_
        show Steps p.tables e below (s₁.setTop (mkF m 32 #[.val (.int p0), .val (.int p1), .val (.int p2), .val (.long (own_b p1)), .second, .val (.int (0 : Int32)), .unset, .unset, .unset, .unset, .unset, .unset, .unset] [])) _
        refine XS.iloadN X0.here hx rfl (hb hby at_32) rfl ?_
        show Steps p.tables e below (s₁.setTop (mkF m 33 #[.val (.int p0), .val (.int p1), .val (.int p2), .val (.long (own_b p1)), .second, .val (.int (0 : Int32)), .unset, .unset, .unset, .unset, .unset, .unset, .unset] [(.int p0)])) _
        refine XS.i2l X0.here hx rfl (hb hby at_33) rfl ?_
        show Steps p.tables e below (s₁.setTop (mkF m 34 #[.val (.int p0), .val (.int p1), .val (.int p2), .val (.long (own_b p1)), .second, .val (.int (0 : Int32)), .unset, .unset, .unset, .unset, .unset, .unset, .unset] [(.long (p0.toInt64))])) _
        refine XS.lstore X0.here hx rfl (hb hby at_34) rfl (l' := #[.val (.int p0), .val (.int p1), .val (.int p2), .val (.long (own_b p1)), .second, .val (.int (0 : Int32)), .val (.long (p0.toInt64)), .second, .unset, .unset, .unset, .unset, .unset]) rfl ?_
        show Steps p.tables e below (s₁.setTop (mkF m 36 #[.val (.int p0), .val (.int p1), .val (.int p2), .val (.long (own_b p1)), .second, .val (.int (0 : Int32)), .val (.long (p0.toInt64)), .second, .unset, .unset, .unset, .unset, .unset] [])) _
        refine XS.iloadN X0.here hx rfl (hb hby at_36) rfl ?_
        show Steps p.tables e below (s₁.setTop (mkF m 37 #[.val (.int p0), .val (.int p1), .val (.int p2), .val (.long (own_b p1)), .second, .val (.int (0 : Int32)), .val (.long (p0.toInt64)), .second, .unset, .unset, .unset, .unset, .unset] [(.int p0)])) _
        refine XS.i2dS X0.here hx rfl (v := (FP.i2d p0)) (hb hby at_37) rfl rfl ?_
        show Steps p.tables e below (s₁.setTop (mkF m 38 #[.val (.int p0), .val (.int p1), .val (.int p2), .val (.long (own_b p1)), .second, .val (.int (0 : Int32)), .val (.long (p0.toInt64)), .second, .unset, .unset, .unset, .unset, .unset] [(.double (FP.i2d p0))])) _
        refine XS.lloadN X0.here hx rfl (hb hby at_38) rfl ?_
        show Steps p.tables e below (s₁.setTop (mkF m 39 #[.val (.int p0), .val (.int p1), .val (.int p2), .val (.long (own_b p1)), .second, .val (.int (0 : Int32)), .val (.long (p0.toInt64)), .second, .unset, .unset, .unset, .unset, .unset] [(.long (own_b p1)), (.double (FP.i2d p0))])) _
        refine XS.l2dS X0.here hx rfl (v := (FP.l2d (own_b p1))) (hb hby at_39) rfl rfl ?_
        show Steps p.tables e below (s₁.setTop (mkF m 40 #[.val (.int p0), .val (.int p1), .val (.int p2), .val (.long (own_b p1)), .second, .val (.int (0 : Int32)), .val (.long (p0.toInt64)), .second, .unset, .unset, .unset, .unset, .unset] [(.double (FP.l2d (own_b p1))), (.double (FP.i2d p0))])) _
        refine XS.ddivS X0.here hx rfl (v := (FP.ddiv (FP.i2d p0) (FP.l2d (own_b p1)))) (hb hby at_40) rfl hq.noNaN rfl ?_
        show Steps p.tables e below (s₁.setTop (mkF m 41 #[.val (.int p0), .val (.int p1), .val (.int p2), .val (.long (own_b p1)), .second, .val (.int (0 : Int32)), .val (.long (p0.toInt64)), .second, .unset, .unset, .unset, .unset, .unset] [(.double (FP.ddiv (FP.i2d p0) (FP.l2d (own_b p1))))])) _
        refine XS.dstore X0.here hx rfl (hb hby at_41) rfl (l' := #[.val (.int p0), .val (.int p1), .val (.int p2), .val (.long (own_b p1)), .second, .val (.int (0 : Int32)), .val (.long (p0.toInt64)), .second, .val (.double (FP.ddiv (FP.i2d p0) (FP.l2d (own_b p1)))), .second, .unset, .unset, .unset]) rfl ?_
        show Steps p.tables e below (s₁.setTop (mkF m 43 #[.val (.int p0), .val (.int p1), .val (.int p2), .val (.long (own_b p1)), .second, .val (.int (0 : Int32)), .val (.long (p0.toInt64)), .second, .val (.double (FP.ddiv (FP.i2d p0) (FP.l2d (own_b p1)))), .second, .unset, .unset, .unset] [])) _
        refine XS.iload X0.here hx rfl (hb hby at_43) rfl ?_
        show Steps p.tables e below (s₁.setTop (mkF m 45 #[.val (.int p0), .val (.int p1), .val (.int p2), .val (.long (own_b p1)), .second, .val (.int (0 : Int32)), .val (.long (p0.toInt64)), .second, .val (.double (FP.ddiv (FP.i2d p0) (FP.l2d (own_b p1)))), .second, .unset, .unset, .unset] [(.int (0 : Int32))])) _
        refine XS.ifYes X0.here hx rfl (pc0 := 45) (pc' := 54) rfl (hb hby at_45) rfl (by decide) (by decide) (by decide) ?_
        show Steps p.tables e below (s₁.setTop (mkF m 54 #[.val (.int p0), .val (.int p1), .val (.int p2), .val (.long (own_b p1)), .second, .val (.int (0 : Int32)), .val (.long (p0.toInt64)), .second, .val (.double (FP.ddiv (FP.i2d p0) (FP.l2d (own_b p1)))), .second, .unset, .unset, .unset] [])) _
        refine XS.dload X0.here hx rfl (hb hby at_54) rfl ?_
        show Steps p.tables e below (s₁.setTop (mkF m 56 #[.val (.int p0), .val (.int p1), .val (.int p2), .val (.long (own_b p1)), .second, .val (.int (0 : Int32)), .val (.long (p0.toInt64)), .second, .val (.double (FP.ddiv (FP.i2d p0) (FP.l2d (own_b p1)))), .second, .unset, .unset, .unset] [(.double (FP.ddiv (FP.i2d p0) (FP.l2d (own_b p1))))])) _
        refine XS.dstore X0.here hx rfl (hb hby at_56) rfl (l' := #[.val (.int p0), .val (.int p1), .val (.int p2), .val (.long (own_b p1)), .second, .val (.int (0 : Int32)), .val (.long (p0.toInt64)), .second, .val (.double (FP.ddiv (FP.i2d p0) (FP.l2d (own_b p1)))), .second, .val (.double (FP.ddiv (FP.i2d p0) (FP.l2d (own_b p1)))), .second, .unset]) rfl ?_
        show Steps p.tables e below (s₁.setTop (mkF m 58 #[.val (.int p0), .val (.int p1), .val (.int p2), .val (.long (own_b p1)), .second, .val (.int (0 : Int32)), .val (.long (p0.toInt64)), .second, .val (.double (FP.ddiv (FP.i2d p0) (FP.l2d (own_b p1)))), .second, .val (.double (FP.ddiv (FP.i2d p0) (FP.l2d (own_b p1)))), .second, .unset] [])) _
        refine XS.lload X0.here hx rfl (hb hby at_58) rfl ?_
        show Steps p.tables e below (s₁.setTop (mkF m 60 #[.val (.int p0), .val (.int p1), .val (.int p2), .val (.long (own_b p1)), .second, .val (.int (0 : Int32)), .val (.long (p0.toInt64)), .second, .val (.double (FP.ddiv (FP.i2d p0) (FP.l2d (own_b p1)))), .second, .val (.double (FP.ddiv (FP.i2d p0) (FP.l2d (own_b p1)))), .second, .unset] [(.long (p0.toInt64))])) _
        refine XS.lconst X0.here hx rfl (hb hby at_60) ?_
        show Steps p.tables e below (s₁.setTop (mkF m 61 #[.val (.int p0), .val (.int p1), .val (.int p2), .val (.long (own_b p1)), .second, .val (.int (0 : Int32)), .val (.long (p0.toInt64)), .second, .val (.double (FP.ddiv (FP.i2d p0) (FP.l2d (own_b p1)))), .second, .val (.double (FP.ddiv (FP.i2d p0) (FP.l2d (own_b p1)))), .second, .unset] [(.long (0 : Int64)), (.long (p0.toInt64))])) _
        refine XS.lcmp X0.here hx rfl (hb hby at_61) rfl ?_
        show Steps p.tables e below (s₁.setTop (mkF m 62 #[.val (.int p0), .val (.int p1), .val (.int p2), .val (.long (own_b p1)), .second, .val (.int (0 : Int32)), .val (.long (p0.toInt64)), .second, .val (.double (FP.ddiv (FP.i2d p0) (FP.l2d (own_b p1)))), .second, .val (.double (FP.ddiv (FP.i2d p0) (FP.l2d (own_b p1)))), .second, .unset] [(.int (lcmpW (p0.toInt64) (0 : Int64)))])) _
        refine XS.ifYes X0.here hx rfl (pc0 := 62) (pc' := 76) rfl (hb hby at_62) rfl ((if0 _ _).trans (tlt ((lw_lt _ _).mpr hA)).1) (by decide) (by decide) ?_
        show Steps p.tables e below (s₁.setTop (mkF m 76 #[.val (.int p0), .val (.int p1), .val (.int p2), .val (.long (own_b p1)), .second, .val (.int (0 : Int32)), .val (.long (p0.toInt64)), .second, .val (.double (FP.ddiv (FP.i2d p0) (FP.l2d (own_b p1)))), .second, .val (.double (FP.ddiv (FP.i2d p0) (FP.l2d (own_b p1)))), .second, .unset] [])) _
        refine XS.iconst X0.here hx rfl (hb hby at_76) ?_
        show Steps p.tables e below (s₁.setTop (mkF m 77 #[.val (.int p0), .val (.int p1), .val (.int p2), .val (.long (own_b p1)), .second, .val (.int (0 : Int32)), .val (.long (p0.toInt64)), .second, .val (.double (FP.ddiv (FP.i2d p0) (FP.l2d (own_b p1)))), .second, .val (.double (FP.ddiv (FP.i2d p0) (FP.l2d (own_b p1)))), .second, .unset] [(.int (0 : Int32))])) _
        refine XS.istore X0.here hx rfl (hb hby at_77) rfl (l' := #[.val (.int p0), .val (.int p1), .val (.int p2), .val (.long (own_b p1)), .second, .val (.int (0 : Int32)), .val (.long (p0.toInt64)), .second, .val (.double (FP.ddiv (FP.i2d p0) (FP.l2d (own_b p1)))), .second, .val (.double (FP.ddiv (FP.i2d p0) (FP.l2d (own_b p1)))), .second, .val (.int (0 : Int32))]) rfl ?_
        show Steps p.tables e below (s₁.setTop (mkF m 79 #[.val (.int p0), .val (.int p1), .val (.int p2), .val (.long (own_b p1)), .second, .val (.int (0 : Int32)), .val (.long (p0.toInt64)), .second, .val (.double (FP.ddiv (FP.i2d p0) (FP.l2d (own_b p1)))), .second, .val (.double (FP.ddiv (FP.i2d p0) (FP.l2d (own_b p1)))), .second, .val (.int (0 : Int32))] [])) _
        refine XS.dload X0.here hx rfl (hb hby at_79) rfl ?_
        show Steps p.tables e below (s₁.setTop (mkF m 81 #[.val (.int p0), .val (.int p1), .val (.int p2), .val (.long (own_b p1)), .second, .val (.int (0 : Int32)), .val (.long (p0.toInt64)), .second, .val (.double (FP.ddiv (FP.i2d p0) (FP.l2d (own_b p1)))), .second, .val (.double (FP.ddiv (FP.i2d p0) (FP.l2d (own_b p1)))), .second, .val (.int (0 : Int32))] [(.double (FP.ddiv (FP.i2d p0) (FP.l2d (own_b p1))))])) _
        refine st1 _ ?_
        show Steps p.tables e below (T1.setTop (mkF m 84 #[.val (.int p0), .val (.int p1), .val (.int p2), .val (.long (own_b p1)), .second, .val (.int (0 : Int32)), .val (.long (p0.toInt64)), .second, .val (.double (FP.ddiv (FP.i2d p0) (FP.l2d (own_b p1)))), .second, .val (.double (FP.ddiv (FP.i2d p0) (FP.l2d (own_b p1)))), .second, .val (.int (0 : Int32))] [(.int (0 : Int32))])) _
        refine XS.iload X1.here hx rfl (hb hby at_84) rfl ?_
        show Steps p.tables e below (T1.setTop (mkF m 86 #[.val (.int p0), .val (.int p1), .val (.int p2), .val (.long (own_b p1)), .second, .val (.int (0 : Int32)), .val (.long (p0.toInt64)), .second, .val (.double (FP.ddiv (FP.i2d p0) (FP.l2d (own_b p1)))), .second, .val (.double (FP.ddiv (FP.i2d p0) (FP.l2d (own_b p1)))), .second, .val (.int (0 : Int32))] [(.int (0 : Int32)), (.int (0 : Int32))])) _
        refine XS.icmpNo X1.here hx rfl (hb hby at_86) rfl (by decide) ?_
        show Steps p.tables e below (T1.setTop (mkF m 89 #[.val (.int p0), .val (.int p1), .val (.int p2), .val (.long (own_b p1)), .second, .val (.int (0 : Int32)), .val (.long (p0.toInt64)), .second, .val (.double (FP.ddiv (FP.i2d p0) (FP.l2d (own_b p1)))), .second, .val (.double (FP.ddiv (FP.i2d p0) (FP.l2d (own_b p1)))), .second, .val (.int (0 : Int32))] [])) _
        refine XS.iconst X1.here hx rfl (hb hby at_89) ?_
        show Steps p.tables e below (T1.setTop (mkF m 90 #[.val (.int p0), .val (.int p1), .val (.int p2), .val (.long (own_b p1)), .second, .val (.int (0 : Int32)), .val (.long (p0.toInt64)), .second, .val (.double (FP.ddiv (FP.i2d p0) (FP.l2d (own_b p1)))), .second, .val (.double (FP.ddiv (FP.i2d p0) (FP.l2d (own_b p1)))), .second, .val (.int (0 : Int32))] [(.int (1 : Int32))])) _
        refine XS.goto X1.here hx rfl (pc0 := 90) (pc' := 94) rfl (hb hby at_90) (by decide) (by decide) ?_
        show Steps p.tables e below (T1.setTop (mkF m 94 #[.val (.int p0), .val (.int p1), .val (.int p2), .val (.long (own_b p1)), .second, .val (.int (0 : Int32)), .val (.long (p0.toInt64)), .second, .val (.double (FP.ddiv (FP.i2d p0) (FP.l2d (own_b p1)))), .second, .val (.double (FP.ddiv (FP.i2d p0) (FP.l2d (own_b p1)))), .second, .val (.int (0 : Int32))] [(.int (1 : Int32))])) _
        exact retN X1 hx (t := .boolean) Bd.returns (by simp) (hb hby at_94) hr
      · exact ⟨rfl, N1⟩
    · by_cases hB : (p0.toInt64) < own_b p1
      rotate_left
      · obtain ⟨_, _, ⟨T1, L1, k1, n1⟩, -, X1, ⟨Lc1, hQ1, l1, y1, z1⟩, st1⟩ := Jvm.LawKit.callS X0 hx (y := (⟨"com/example/kudos_for_datasets/kudosfordatasets/PageRank", "isDamping", "(D)Z"⟩ : MethodName)) hown (mvT hZ (hw _ (List.mem_of_getElem? (i := 1) rfl))) (mvT hZ (hw _ (List.mem_of_getElem? (i := 2) rfl))) (mvT hZ (hw _ (List.mem_of_getElem? (i := 3) rfl))) (mvT hZ (hw _ (List.mem_of_getElem? (i := 4) rfl))) (by decide) (backOf (W := 0) (rmD l Z a0 hw [] (FP.ddiv (FP.i2d p0) (FP.l2d (own_b p1))) (0 : Int32) h0 n0 Z0 (hd.2.1 (by rw [Int64.lt_iff_toInt_lt] at hA; omega) (by rw [Int64.lt_iff_toInt_lt] at hB; omega))) hZ (hw _ (List.mem_of_getElem? (i := 4) rfl)) (hw _ (List.mem_of_getElem? (i := 3) rfl)) (by decide) (by decide)) (g := (mkF m 81 #[.val (.int p0), .val (.int p1), .val (.int p2), .val (.long (own_b p1)), .second, .val (.int (0 : Int32)), .val (.long (p0.toInt64)), .second, .val (.double (FP.ddiv (FP.i2d p0) (FP.l2d (own_b p1)))), .second, .val (.double (FP.ddiv (FP.i2d p0) (FP.l2d (own_b p1)))), .second, .val (.int (0 : Int32))] [(.double (FP.ddiv (FP.i2d p0) (FP.l2d (own_b p1))))])) rfl (by rw [hml]; rfl) (argsL := [(.double (FP.ddiv (FP.i2d p0) (FP.l2d (own_b p1))))]) (rest := []) (lenOf pdD rfl) rfl (by show 2 * 0 + _ ≤ _; exact Nat.le_of_eq rfl) (hb hby at_81) (fun _ _ => ⟨rfl, e0, (by decide : 0 + 0 ≤ _), (by decide : 0 + 0 ≤ _)⟩)
        dsimp only [Pt.U, Pt.locs, Pt.cells, Pt.slots] at X1 l1 y1 z1 st1 hQ1
        subst l1 y1 z1
        obtain ⟨rfl, N1q, e1⟩ := hQ1
        have N1 := Fr.app N0 N1q
        obtain ⟨fs, hr, hrun, hended, hW, hsame⟩ := X1.leave (v := some (.int (1 : Int32))) (fun h => by rw [Bd.returns] at h; cases h)
        refine ⟨_, _, pre0 _ ?_, hrun, hended, _, _, rfl, ?_, ⟨_, rfl⟩, hW, hsame.mono (by decide) (by decide)⟩
        · skip
          show Steps p.tables e below (s₁.setTop (mkF m 0 #[.val (.int p0), .val (.int p1), .val (.int p2), .unset, .unset, .unset, .unset, .unset, .unset, .unset, .unset, .unset, .unset] [])) _
          refine XS.iloadN X0.here hx rfl (hb hby at_0) rfl ?_
          show Steps p.tables e below (s₁.setTop (mkF m 1 #[.val (.int p0), .val (.int p1), .val (.int p2), .unset, .unset, .unset, .unset, .unset, .unset, .unset, .unset, .unset, .unset] [(.int p1)])) _
          refine X0.ldcInt hx hown (mvT hZ (hw _ (List.mem_of_getElem? (i := 0) rfl))) (g := (mkF m 1 #[.val (.int p0), .val (.int p1), .val (.int p2), .unset, .unset, .unset, .unset, .unset, .unset, .unset, .unset, .unset, .unset] [(.int p1)])) rfl (hb hby at_1) _ ?_
          show Steps p.tables e below (s₁.setTop (mkF m 3 #[.val (.int p0), .val (.int p1), .val (.int p2), .unset, .unset, .unset, .unset, .unset, .unset, .unset, .unset, .unset, .unset] [(.int (16777215 : Int32)), (.int p1)])) _
          refine XS.iand X0.here hx rfl (hb hby at_3) rfl ?_
          show Steps p.tables e below (s₁.setTop (mkF m 4 #[.val (.int p0), .val (.int p1), .val (.int p2), .unset, .unset, .unset, .unset, .unset, .unset, .unset, .unset, .unset, .unset] [(.int (p1 &&& (16777215 : Int32)))])) _
          refine XS.i2l X0.here hx rfl (hb hby at_4) rfl ?_
          show Steps p.tables e below (s₁.setTop (mkF m 5 #[.val (.int p0), .val (.int p1), .val (.int p2), .unset, .unset, .unset, .unset, .unset, .unset, .unset, .unset, .unset, .unset] [(.long ((p1 &&& (16777215 : Int32)).toInt64))])) _
          refine XS.lconst X0.here hx rfl (hb hby at_5) ?_
          show Steps p.tables e below (s₁.setTop (mkF m 6 #[.val (.int p0), .val (.int p1), .val (.int p2), .unset, .unset, .unset, .unset, .unset, .unset, .unset, .unset, .unset, .unset] [(.long (1 : Int64)), (.long ((p1 &&& (16777215 : Int32)).toInt64))])) _
          refine XS.ladd X0.here hx rfl (hb hby at_6) rfl ?_
          show Steps p.tables e below (s₁.setTop (mkF m 7 #[.val (.int p0), .val (.int p1), .val (.int p2), .unset, .unset, .unset, .unset, .unset, .unset, .unset, .unset, .unset, .unset] [(.long (own_b p1))])) _
          refine XS.lstoreN X0.here hx rfl (hb hby at_7) rfl (l' := #[.val (.int p0), .val (.int p1), .val (.int p2), .val (.long (own_b p1)), .second, .unset, .unset, .unset, .unset, .unset, .unset, .unset, .unset]) rfl ?_
          show Steps p.tables e below (s₁.setTop (mkF m 8 #[.val (.int p0), .val (.int p1), .val (.int p2), .val (.long (own_b p1)), .second, .unset, .unset, .unset, .unset, .unset, .unset, .unset, .unset] [])) _
          refine XS.iloadN X0.here hx rfl (hb hby at_8) rfl ?_
          show Steps p.tables e below (s₁.setTop (mkF m 9 #[.val (.int p0), .val (.int p1), .val (.int p2), .val (.long (own_b p1)), .second, .unset, .unset, .unset, .unset, .unset, .unset, .unset, .unset] [(.int p2)])) _
          refine XS.iconst X0.here hx rfl (hb hby at_9) ?_
          show Steps p.tables e below (s₁.setTop (mkF m 10 #[.val (.int p0), .val (.int p1), .val (.int p2), .val (.long (own_b p1)), .second, .unset, .unset, .unset, .unset, .unset, .unset, .unset, .unset] [(.int (1 : Int32)), (.int p2)])) _
          refine XS.iand X0.here hx rfl (hb hby at_10) rfl ?_
          show Steps p.tables e below (s₁.setTop (mkF m 11 #[.val (.int p0), .val (.int p1), .val (.int p2), .val (.long (own_b p1)), .second, .unset, .unset, .unset, .unset, .unset, .unset, .unset, .unset] [(.int (p2 &&& (1 : Int32)))])) _
          refine XS.ifYes X0.here hx rfl (pc0 := 11) (pc' := 18) rfl (hb hby at_11) rfl ((if0 _ _).trans (teq hf).1) (by decide) (by decide) ?_
          show Steps p.tables e below (s₁.setTop (mkF m 18 #[.val (.int p0), .val (.int p1), .val (.int p2), .val (.long (own_b p1)), .second, .unset, .unset, .unset, .unset, .unset, .unset, .unset, .unset] [])) _
          refine XS.iconst X0.here hx rfl (hb hby at_18) ?_
          show Steps p.tables e below (s₁.setTop (mkF m 19 #[.val (.int p0), .val (.int p1), .val (.int p2), .val (.long (own_b p1)), .second, .unset, .unset, .unset, .unset, .unset, .unset, .unset, .unset] [(.int (0 : Int32))])) _
          refine XS.istore X0.here hx rfl (hb hby at_19) rfl (l' := #[.val (.int p0), .val (.int p1), .val (.int p2), .val (.long (own_b p1)), .second, .val (.int (0 : Int32)), .unset, .unset, .unset, .unset, .unset, .unset, .unset]) rfl ?_
          show Steps p.tables e below (s₁.setTop (mkF m 21 #[.val (.int p0), .val (.int p1), .val (.int p2), .val (.long (own_b p1)), .second, .val (.int (0 : Int32)), .unset, .unset, .unset, .unset, .unset, .unset, .unset] [])) _
          refine XS.iload X0.here hx rfl (hb hby at_21) rfl ?_
          show Steps p.tables e below (s₁.setTop (mkF m 23 #[.val (.int p0), .val (.int p1), .val (.int p2), .val (.long (own_b p1)), .second, .val (.int (0 : Int32)), .unset, .unset, .unset, .unset, .unset, .unset, .unset] [(.int (0 : Int32))])) _
          refine XS.ifYes X0.here hx rfl (pc0 := 23) (pc' := 32) rfl (hb hby at_23) rfl (by decide) (by decide) (by decide) ?_
          show Steps p.tables e below (s₁.setTop (mkF m 32 #[.val (.int p0), .val (.int p1), .val (.int p2), .val (.long (own_b p1)), .second, .val (.int (0 : Int32)), .unset, .unset, .unset, .unset, .unset, .unset, .unset] [])) _
          refine XS.iloadN X0.here hx rfl (hb hby at_32) rfl ?_
          show Steps p.tables e below (s₁.setTop (mkF m 33 #[.val (.int p0), .val (.int p1), .val (.int p2), .val (.long (own_b p1)), .second, .val (.int (0 : Int32)), .unset, .unset, .unset, .unset, .unset, .unset, .unset] [(.int p0)])) _
          refine XS.i2l X0.here hx rfl (hb hby at_33) rfl ?_
          show Steps p.tables e below (s₁.setTop (mkF m 34 #[.val (.int p0), .val (.int p1), .val (.int p2), .val (.long (own_b p1)), .second, .val (.int (0 : Int32)), .unset, .unset, .unset, .unset, .unset, .unset, .unset] [(.long (p0.toInt64))])) _
          refine XS.lstore X0.here hx rfl (hb hby at_34) rfl (l' := #[.val (.int p0), .val (.int p1), .val (.int p2), .val (.long (own_b p1)), .second, .val (.int (0 : Int32)), .val (.long (p0.toInt64)), .second, .unset, .unset, .unset, .unset, .unset]) rfl ?_
          show Steps p.tables e below (s₁.setTop (mkF m 36 #[.val (.int p0), .val (.int p1), .val (.int p2), .val (.long (own_b p1)), .second, .val (.int (0 : Int32)), .val (.long (p0.toInt64)), .second, .unset, .unset, .unset, .unset, .unset] [])) _
          refine XS.iloadN X0.here hx rfl (hb hby at_36) rfl ?_
          show Steps p.tables e below (s₁.setTop (mkF m 37 #[.val (.int p0), .val (.int p1), .val (.int p2), .val (.long (own_b p1)), .second, .val (.int (0 : Int32)), .val (.long (p0.toInt64)), .second, .unset, .unset, .unset, .unset, .unset] [(.int p0)])) _
          refine XS.i2dS X0.here hx rfl (v := (FP.i2d p0)) (hb hby at_37) rfl rfl ?_
          show Steps p.tables e below (s₁.setTop (mkF m 38 #[.val (.int p0), .val (.int p1), .val (.int p2), .val (.long (own_b p1)), .second, .val (.int (0 : Int32)), .val (.long (p0.toInt64)), .second, .unset, .unset, .unset, .unset, .unset] [(.double (FP.i2d p0))])) _
          refine XS.lloadN X0.here hx rfl (hb hby at_38) rfl ?_
          show Steps p.tables e below (s₁.setTop (mkF m 39 #[.val (.int p0), .val (.int p1), .val (.int p2), .val (.long (own_b p1)), .second, .val (.int (0 : Int32)), .val (.long (p0.toInt64)), .second, .unset, .unset, .unset, .unset, .unset] [(.long (own_b p1)), (.double (FP.i2d p0))])) _
          refine XS.l2dS X0.here hx rfl (v := (FP.l2d (own_b p1))) (hb hby at_39) rfl rfl ?_
          show Steps p.tables e below (s₁.setTop (mkF m 40 #[.val (.int p0), .val (.int p1), .val (.int p2), .val (.long (own_b p1)), .second, .val (.int (0 : Int32)), .val (.long (p0.toInt64)), .second, .unset, .unset, .unset, .unset, .unset] [(.double (FP.l2d (own_b p1))), (.double (FP.i2d p0))])) _
          refine XS.ddivS X0.here hx rfl (v := (FP.ddiv (FP.i2d p0) (FP.l2d (own_b p1)))) (hb hby at_40) rfl hq.noNaN rfl ?_
          show Steps p.tables e below (s₁.setTop (mkF m 41 #[.val (.int p0), .val (.int p1), .val (.int p2), .val (.long (own_b p1)), .second, .val (.int (0 : Int32)), .val (.long (p0.toInt64)), .second, .unset, .unset, .unset, .unset, .unset] [(.double (FP.ddiv (FP.i2d p0) (FP.l2d (own_b p1))))])) _
          refine XS.dstore X0.here hx rfl (hb hby at_41) rfl (l' := #[.val (.int p0), .val (.int p1), .val (.int p2), .val (.long (own_b p1)), .second, .val (.int (0 : Int32)), .val (.long (p0.toInt64)), .second, .val (.double (FP.ddiv (FP.i2d p0) (FP.l2d (own_b p1)))), .second, .unset, .unset, .unset]) rfl ?_
          show Steps p.tables e below (s₁.setTop (mkF m 43 #[.val (.int p0), .val (.int p1), .val (.int p2), .val (.long (own_b p1)), .second, .val (.int (0 : Int32)), .val (.long (p0.toInt64)), .second, .val (.double (FP.ddiv (FP.i2d p0) (FP.l2d (own_b p1)))), .second, .unset, .unset, .unset] [])) _
          refine XS.iload X0.here hx rfl (hb hby at_43) rfl ?_
          show Steps p.tables e below (s₁.setTop (mkF m 45 #[.val (.int p0), .val (.int p1), .val (.int p2), .val (.long (own_b p1)), .second, .val (.int (0 : Int32)), .val (.long (p0.toInt64)), .second, .val (.double (FP.ddiv (FP.i2d p0) (FP.l2d (own_b p1)))), .second, .unset, .unset, .unset] [(.int (0 : Int32))])) _
          refine XS.ifYes X0.here hx rfl (pc0 := 45) (pc' := 54) rfl (hb hby at_45) rfl (by decide) (by decide) (by decide) ?_
          show Steps p.tables e below (s₁.setTop (mkF m 54 #[.val (.int p0), .val (.int p1), .val (.int p2), .val (.long (own_b p1)), .second, .val (.int (0 : Int32)), .val (.long (p0.toInt64)), .second, .val (.double (FP.ddiv (FP.i2d p0) (FP.l2d (own_b p1)))), .second, .unset, .unset, .unset] [])) _
          refine XS.dload X0.here hx rfl (hb hby at_54) rfl ?_
          show Steps p.tables e below (s₁.setTop (mkF m 56 #[.val (.int p0), .val (.int p1), .val (.int p2), .val (.long (own_b p1)), .second, .val (.int (0 : Int32)), .val (.long (p0.toInt64)), .second, .val (.double (FP.ddiv (FP.i2d p0) (FP.l2d (own_b p1)))), .second, .unset, .unset, .unset] [(.double (FP.ddiv (FP.i2d p0) (FP.l2d (own_b p1))))])) _
          refine XS.dstore X0.here hx rfl (hb hby at_56) rfl (l' := #[.val (.int p0), .val (.int p1), .val (.int p2), .val (.long (own_b p1)), .second, .val (.int (0 : Int32)), .val (.long (p0.toInt64)), .second, .val (.double (FP.ddiv (FP.i2d p0) (FP.l2d (own_b p1)))), .second, .val (.double (FP.ddiv (FP.i2d p0) (FP.l2d (own_b p1)))), .second, .unset]) rfl ?_
          show Steps p.tables e below (s₁.setTop (mkF m 58 #[.val (.int p0), .val (.int p1), .val (.int p2), .val (.long (own_b p1)), .second, .val (.int (0 : Int32)), .val (.long (p0.toInt64)), .second, .val (.double (FP.ddiv (FP.i2d p0) (FP.l2d (own_b p1)))), .second, .val (.double (FP.ddiv (FP.i2d p0) (FP.l2d (own_b p1)))), .second, .unset] [])) _
          refine XS.lload X0.here hx rfl (hb hby at_58) rfl ?_
          show Steps p.tables e below (s₁.setTop (mkF m 60 #[.val (.int p0), .val (.int p1), .val (.int p2), .val (.long (own_b p1)), .second, .val (.int (0 : Int32)), .val (.long (p0.toInt64)), .second, .val (.double (FP.ddiv (FP.i2d p0) (FP.l2d (own_b p1)))), .second, .val (.double (FP.ddiv (FP.i2d p0) (FP.l2d (own_b p1)))), .second, .unset] [(.long (p0.toInt64))])) _
          refine XS.lconst X0.here hx rfl (hb hby at_60) ?_
          show Steps p.tables e below (s₁.setTop (mkF m 61 #[.val (.int p0), .val (.int p1), .val (.int p2), .val (.long (own_b p1)), .second, .val (.int (0 : Int32)), .val (.long (p0.toInt64)), .second, .val (.double (FP.ddiv (FP.i2d p0) (FP.l2d (own_b p1)))), .second, .val (.double (FP.ddiv (FP.i2d p0) (FP.l2d (own_b p1)))), .second, .unset] [(.long (0 : Int64)), (.long (p0.toInt64))])) _
          refine XS.lcmp X0.here hx rfl (hb hby at_61) rfl ?_
          show Steps p.tables e below (s₁.setTop (mkF m 62 #[.val (.int p0), .val (.int p1), .val (.int p2), .val (.long (own_b p1)), .second, .val (.int (0 : Int32)), .val (.long (p0.toInt64)), .second, .val (.double (FP.ddiv (FP.i2d p0) (FP.l2d (own_b p1)))), .second, .val (.double (FP.ddiv (FP.i2d p0) (FP.l2d (own_b p1)))), .second, .unset] [(.int (lcmpW (p0.toInt64) (0 : Int64)))])) _
          refine XS.ifNo X0.here hx rfl (hb hby at_62) rfl ((if0 _ _).trans (flt (fun q => hA ((lw_lt _ _).mp q))).1) ?_
          show Steps p.tables e below (s₁.setTop (mkF m 65 #[.val (.int p0), .val (.int p1), .val (.int p2), .val (.long (own_b p1)), .second, .val (.int (0 : Int32)), .val (.long (p0.toInt64)), .second, .val (.double (FP.ddiv (FP.i2d p0) (FP.l2d (own_b p1)))), .second, .val (.double (FP.ddiv (FP.i2d p0) (FP.l2d (own_b p1)))), .second, .unset] [])) _
          refine XS.lload X0.here hx rfl (hb hby at_65) rfl ?_
          show Steps p.tables e below (s₁.setTop (mkF m 67 #[.val (.int p0), .val (.int p1), .val (.int p2), .val (.long (own_b p1)), .second, .val (.int (0 : Int32)), .val (.long (p0.toInt64)), .second, .val (.double (FP.ddiv (FP.i2d p0) (FP.l2d (own_b p1)))), .second, .val (.double (FP.ddiv (FP.i2d p0) (FP.l2d (own_b p1)))), .second, .unset] [(.long (p0.toInt64))])) _
          refine XS.lloadN X0.here hx rfl (hb hby at_67) rfl ?_
          show Steps p.tables e below (s₁.setTop (mkF m 68 #[.val (.int p0), .val (.int p1), .val (.int p2), .val (.long (own_b p1)), .second, .val (.int (0 : Int32)), .val (.long (p0.toInt64)), .second, .val (.double (FP.ddiv (FP.i2d p0) (FP.l2d (own_b p1)))), .second, .val (.double (FP.ddiv (FP.i2d p0) (FP.l2d (own_b p1)))), .second, .unset] [(.long (own_b p1)), (.long (p0.toInt64))])) _
          refine XS.lcmp X0.here hx rfl (hb hby at_68) rfl ?_
          show Steps p.tables e below (s₁.setTop (mkF m 69 #[.val (.int p0), .val (.int p1), .val (.int p2), .val (.long (own_b p1)), .second, .val (.int (0 : Int32)), .val (.long (p0.toInt64)), .second, .val (.double (FP.ddiv (FP.i2d p0) (FP.l2d (own_b p1)))), .second, .val (.double (FP.ddiv (FP.i2d p0) (FP.l2d (own_b p1)))), .second, .unset] [(.int (lcmpW (p0.toInt64) (own_b p1)))])) _
          refine XS.ifYes X0.here hx rfl (pc0 := 69) (pc' := 76) rfl (hb hby at_69) rfl ((if0 _ _).trans (flt (fun q => hB ((lw_lt _ _).mp q))).2.1) (by decide) (by decide) ?_
          show Steps p.tables e below (s₁.setTop (mkF m 76 #[.val (.int p0), .val (.int p1), .val (.int p2), .val (.long (own_b p1)), .second, .val (.int (0 : Int32)), .val (.long (p0.toInt64)), .second, .val (.double (FP.ddiv (FP.i2d p0) (FP.l2d (own_b p1)))), .second, .val (.double (FP.ddiv (FP.i2d p0) (FP.l2d (own_b p1)))), .second, .unset] [])) _
          refine XS.iconst X0.here hx rfl (hb hby at_76) ?_
          show Steps p.tables e below (s₁.setTop (mkF m 77 #[.val (.int p0), .val (.int p1), .val (.int p2), .val (.long (own_b p1)), .second, .val (.int (0 : Int32)), .val (.long (p0.toInt64)), .second, .val (.double (FP.ddiv (FP.i2d p0) (FP.l2d (own_b p1)))), .second, .val (.double (FP.ddiv (FP.i2d p0) (FP.l2d (own_b p1)))), .second, .unset] [(.int (0 : Int32))])) _
          refine XS.istore X0.here hx rfl (hb hby at_77) rfl (l' := #[.val (.int p0), .val (.int p1), .val (.int p2), .val (.long (own_b p1)), .second, .val (.int (0 : Int32)), .val (.long (p0.toInt64)), .second, .val (.double (FP.ddiv (FP.i2d p0) (FP.l2d (own_b p1)))), .second, .val (.double (FP.ddiv (FP.i2d p0) (FP.l2d (own_b p1)))), .second, .val (.int (0 : Int32))]) rfl ?_
          show Steps p.tables e below (s₁.setTop (mkF m 79 #[.val (.int p0), .val (.int p1), .val (.int p2), .val (.long (own_b p1)), .second, .val (.int (0 : Int32)), .val (.long (p0.toInt64)), .second, .val (.double (FP.ddiv (FP.i2d p0) (FP.l2d (own_b p1)))), .second, .val (.double (FP.ddiv (FP.i2d p0) (FP.l2d (own_b p1)))), .second, .val (.int (0 : Int32))] [])) _
          refine XS.dload X0.here hx rfl (hb hby at_79) rfl ?_
          show Steps p.tables e below (s₁.setTop (mkF m 81 #[.val (.int p0), .val (.int p1), .val (.int p2), .val (.long (own_b p1)), .second, .val (.int (0 : Int32)), .val (.long (p0.toInt64)), .second, .val (.double (FP.ddiv (FP.i2d p0) (FP.l2d (own_b p1)))), .second, .val (.double (FP.ddiv (FP.i2d p0) (FP.l2d (own_b p1)))), .second, .val (.int (0 : Int32))] [(.double (FP.ddiv (FP.i2d p0) (FP.l2d (own_b p1))))])) _
          refine st1 _ ?_
          show Steps p.tables e below (T1.setTop (mkF m 84 #[.val (.int p0), .val (.int p1), .val (.int p2), .val (.long (own_b p1)), .second, .val (.int (0 : Int32)), .val (.long (p0.toInt64)), .second, .val (.double (FP.ddiv (FP.i2d p0) (FP.l2d (own_b p1)))), .second, .val (.double (FP.ddiv (FP.i2d p0) (FP.l2d (own_b p1)))), .second, .val (.int (0 : Int32))] [(.int (0 : Int32))])) _
          refine XS.iload X1.here hx rfl (hb hby at_84) rfl ?_
          show Steps p.tables e below (T1.setTop (mkF m 86 #[.val (.int p0), .val (.int p1), .val (.int p2), .val (.long (own_b p1)), .second, .val (.int (0 : Int32)), .val (.long (p0.toInt64)), .second, .val (.double (FP.ddiv (FP.i2d p0) (FP.l2d (own_b p1)))), .second, .val (.double (FP.ddiv (FP.i2d p0) (FP.l2d (own_b p1)))), .second, .val (.int (0 : Int32))] [(.int (0 : Int32)), (.int (0 : Int32))])) _
          refine XS.icmpNo X1.here hx rfl (hb hby at_86) rfl (by decide) ?_
          show Steps p.tables e below (T1.setTop (mkF m 89 #[.val (.int p0), .val (.int p1), .val (.int p2), .val (.long (own_b p1)), .second, .val (.int (0 : Int32)), .val (.long (p0.toInt64)), .second, .val (.double (FP.ddiv (FP.i2d p0) (FP.l2d (own_b p1)))), .second, .val (.double (FP.ddiv (FP.i2d p0) (FP.l2d (own_b p1)))), .second, .val (.int (0 : Int32))] [])) _
          refine XS.iconst X1.here hx rfl (hb hby at_89) ?_
          show Steps p.tables e below (T1.setTop (mkF m 90 #[.val (.int p0), .val (.int p1), .val (.int p2), .val (.long (own_b p1)), .second, .val (.int (0 : Int32)), .val (.long (p0.toInt64)), .second, .val (.double (FP.ddiv (FP.i2d p0) (FP.l2d (own_b p1)))), .second, .val (.double (FP.ddiv (FP.i2d p0) (FP.l2d (own_b p1)))), .second, .val (.int (0 : Int32))] [(.int (1 : Int32))])) _
          refine XS.goto X1.here hx rfl (pc0 := 90) (pc' := 94) rfl (hb hby at_90) (by decide) (by decide) ?_
          show Steps p.tables e below (T1.setTop (mkF m 94 #[.val (.int p0), .val (.int p1), .val (.int p2), .val (.long (own_b p1)), .second, .val (.int (0 : Int32)), .val (.long (p0.toInt64)), .second, .val (.double (FP.ddiv (FP.i2d p0) (FP.l2d (own_b p1)))), .second, .val (.double (FP.ddiv (FP.i2d p0) (FP.l2d (own_b p1)))), .second, .val (.int (0 : Int32))] [(.int (1 : Int32))])) _
          exact retN X1 hx (t := .boolean) Bd.returns (by simp) (hb hby at_94) hr
        · exact ⟨rfl, N1⟩
      · obtain ⟨_, _, ⟨T1, L1, k1, n1⟩, -, X1, ⟨Lc1, hQ1, l1, y1, z1⟩, st1⟩ := Jvm.LawKit.callS X0 hx (y := (⟨"com/example/kudos_for_datasets/kudosfordatasets/PageRank", "isDamping", "(D)Z"⟩ : MethodName)) hown (mvT hZ (hw _ (List.mem_of_getElem? (i := 1) rfl))) (mvT hZ (hw _ (List.mem_of_getElem? (i := 2) rfl))) (mvT hZ (hw _ (List.mem_of_getElem? (i := 3) rfl))) (mvT hZ (hw _ (List.mem_of_getElem? (i := 4) rfl))) (by decide) (backOf (W := 0) (rmD l Z a0 hw [] (FP.ddiv (FP.i2d p0) (FP.l2d (own_b p1))) (1 : Int32) h0 n0 Z0 (hd.2.2 (by rw [Int64.lt_iff_toInt_lt] at hA; omega) (by rw [Int64.lt_iff_toInt_lt] at hB; omega))) hZ (hw _ (List.mem_of_getElem? (i := 4) rfl)) (hw _ (List.mem_of_getElem? (i := 3) rfl)) (by decide) (by decide)) (g := (mkF m 81 #[.val (.int p0), .val (.int p1), .val (.int p2), .val (.long (own_b p1)), .second, .val (.int (0 : Int32)), .val (.long (p0.toInt64)), .second, .val (.double (FP.ddiv (FP.i2d p0) (FP.l2d (own_b p1)))), .second, .val (.double (FP.ddiv (FP.i2d p0) (FP.l2d (own_b p1)))), .second, .val (.int (1 : Int32))] [(.double (FP.ddiv (FP.i2d p0) (FP.l2d (own_b p1))))])) rfl (by rw [hml]; rfl) (argsL := [(.double (FP.ddiv (FP.i2d p0) (FP.l2d (own_b p1))))]) (rest := []) (lenOf pdD rfl) rfl (by show 2 * 0 + _ ≤ _; exact Nat.le_of_eq rfl) (hb hby at_81) (fun _ _ => ⟨rfl, e0, (by decide : 0 + 0 ≤ _), (by decide : 0 + 0 ≤ _)⟩)
        dsimp only [Pt.U, Pt.locs, Pt.cells, Pt.slots] at X1 l1 y1 z1 st1 hQ1
        subst l1 y1 z1
        obtain ⟨rfl, N1q, e1⟩ := hQ1
        have N1 := Fr.app N0 N1q
        obtain ⟨fs, hr, hrun, hended, hW, hsame⟩ := X1.leave (v := some (.int (1 : Int32))) (fun h => by rw [Bd.returns] at h; cases h)
        refine ⟨_, _, pre0 _ ?_, hrun, hended, _, _, rfl, ?_, ⟨_, rfl⟩, hW, hsame.mono (by decide) (by decide)⟩
        · skip
          show Steps p.tables e below (s₁.setTop (mkF m 0 #[.val (.int p0), .val (.int p1), .val (.int p2), .unset, .unset, .unset, .unset, .unset, .unset, .unset, .unset, .unset, .unset] [])) _
          refine XS.iloadN X0.here hx rfl (hb hby at_0) rfl ?_
          show Steps p.tables e below (s₁.setTop (mkF m 1 #[.val (.int p0), .val (.int p1), .val (.int p2), .unset, .unset, .unset, .unset, .unset, .unset, .unset, .unset, .unset, .unset] [(.int p1)])) _
          refine X0.ldcInt hx hown (mvT hZ (hw _ (List.mem_of_getElem? (i := 0) rfl))) (g := (mkF m 1 #[.val (.int p0), .val (.int p1), .val (.int p2), .unset, .unset, .unset, .unset, .unset, .unset, .unset, .unset, .unset, .unset] [(.int p1)])) rfl (hb hby at_1) _ ?_
          show Steps p.tables e below (s₁.setTop (mkF m 3 #[.val (.int p0), .val (.int p1), .val (.int p2), .unset, .unset, .unset, .unset, .unset, .unset, .unset, .unset, .unset, .unset] [(.int (16777215 : Int32)), (.int p1)])) _
          refine XS.iand X0.here hx rfl (hb hby at_3) rfl ?_
          show Steps p.tables e below (s₁.setTop (mkF m 4 #[.val (.int p0), .val (.int p1), .val (.int p2), .unset, .unset, .unset, .unset, .unset, .unset, .unset, .unset, .unset, .unset] [(.int (p1 &&& (16777215 : Int32)))])) _
          refine XS.i2l X0.here hx rfl (hb hby at_4) rfl ?_
          show Steps p.tables e below (s₁.setTop (mkF m 5 #[.val (.int p0), .val (.int p1), .val (.int p2), .unset, .unset, .unset, .unset, .unset, .unset, .unset, .unset, .unset, .unset] [(.long ((p1 &&& (16777215 : Int32)).toInt64))])) _
          refine XS.lconst X0.here hx rfl (hb hby at_5) ?_
          show Steps p.tables e below (s₁.setTop (mkF m 6 #[.val (.int p0), .val (.int p1), .val (.int p2), .unset, .unset, .unset, .unset, .unset, .unset, .unset, .unset, .unset, .unset] [(.long (1 : Int64)), (.long ((p1 &&& (16777215 : Int32)).toInt64))])) _
          refine XS.ladd X0.here hx rfl (hb hby at_6) rfl ?_
          show Steps p.tables e below (s₁.setTop (mkF m 7 #[.val (.int p0), .val (.int p1), .val (.int p2), .unset, .unset, .unset, .unset, .unset, .unset, .unset, .unset, .unset, .unset] [(.long (own_b p1))])) _
          refine XS.lstoreN X0.here hx rfl (hb hby at_7) rfl (l' := #[.val (.int p0), .val (.int p1), .val (.int p2), .val (.long (own_b p1)), .second, .unset, .unset, .unset, .unset, .unset, .unset, .unset, .unset]) rfl ?_
          show Steps p.tables e below (s₁.setTop (mkF m 8 #[.val (.int p0), .val (.int p1), .val (.int p2), .val (.long (own_b p1)), .second, .unset, .unset, .unset, .unset, .unset, .unset, .unset, .unset] [])) _
          refine XS.iloadN X0.here hx rfl (hb hby at_8) rfl ?_
          show Steps p.tables e below (s₁.setTop (mkF m 9 #[.val (.int p0), .val (.int p1), .val (.int p2), .val (.long (own_b p1)), .second, .unset, .unset, .unset, .unset, .unset, .unset, .unset, .unset] [(.int p2)])) _
          refine XS.iconst X0.here hx rfl (hb hby at_9) ?_
          show Steps p.tables e below (s₁.setTop (mkF m 10 #[.val (.int p0), .val (.int p1), .val (.int p2), .val (.long (own_b p1)), .second, .unset, .unset, .unset, .unset, .unset, .unset, .unset, .unset] [(.int (1 : Int32)), (.int p2)])) _
          refine XS.iand X0.here hx rfl (hb hby at_10) rfl ?_
          show Steps p.tables e below (s₁.setTop (mkF m 11 #[.val (.int p0), .val (.int p1), .val (.int p2), .val (.long (own_b p1)), .second, .unset, .unset, .unset, .unset, .unset, .unset, .unset, .unset] [(.int (p2 &&& (1 : Int32)))])) _
          refine XS.ifYes X0.here hx rfl (pc0 := 11) (pc' := 18) rfl (hb hby at_11) rfl ((if0 _ _).trans (teq hf).1) (by decide) (by decide) ?_
          show Steps p.tables e below (s₁.setTop (mkF m 18 #[.val (.int p0), .val (.int p1), .val (.int p2), .val (.long (own_b p1)), .second, .unset, .unset, .unset, .unset, .unset, .unset, .unset, .unset] [])) _
          refine XS.iconst X0.here hx rfl (hb hby at_18) ?_
          show Steps p.tables e below (s₁.setTop (mkF m 19 #[.val (.int p0), .val (.int p1), .val (.int p2), .val (.long (own_b p1)), .second, .unset, .unset, .unset, .unset, .unset, .unset, .unset, .unset] [(.int (0 : Int32))])) _
          refine XS.istore X0.here hx rfl (hb hby at_19) rfl (l' := #[.val (.int p0), .val (.int p1), .val (.int p2), .val (.long (own_b p1)), .second, .val (.int (0 : Int32)), .unset, .unset, .unset, .unset, .unset, .unset, .unset]) rfl ?_
          show Steps p.tables e below (s₁.setTop (mkF m 21 #[.val (.int p0), .val (.int p1), .val (.int p2), .val (.long (own_b p1)), .second, .val (.int (0 : Int32)), .unset, .unset, .unset, .unset, .unset, .unset, .unset] [])) _
          refine XS.iload X0.here hx rfl (hb hby at_21) rfl ?_
          show Steps p.tables e below (s₁.setTop (mkF m 23 #[.val (.int p0), .val (.int p1), .val (.int p2), .val (.long (own_b p1)), .second, .val (.int (0 : Int32)), .unset, .unset, .unset, .unset, .unset, .unset, .unset] [(.int (0 : Int32))])) _
          refine XS.ifYes X0.here hx rfl (pc0 := 23) (pc' := 32) rfl (hb hby at_23) rfl (by decide) (by decide) (by decide) ?_
          show Steps p.tables e below (s₁.setTop (mkF m 32 #[.val (.int p0), .val (.int p1), .val (.int p2), .val (.long (own_b p1)), .second, .val (.int (0 : Int32)), .unset, .unset, .unset, .unset, .unset, .unset, .unset] [])) _
          refine XS.iloadN X0.here hx rfl (hb hby at_32) rfl ?_
          show Steps p.tables e below (s₁.setTop (mkF m 33 #[.val (.int p0), .val (.int p1), .val (.int p2), .val (.long (own_b p1)), .second, .val (.int (0 : Int32)), .unset, .unset, .unset, .unset, .unset, .unset, .unset] [(.int p0)])) _
          refine XS.i2l X0.here hx rfl (hb hby at_33) rfl ?_
          show Steps p.tables e below (s₁.setTop (mkF m 34 #[.val (.int p0), .val (.int p1), .val (.int p2), .val (.long (own_b p1)), .second, .val (.int (0 : Int32)), .unset, .unset, .unset, .unset, .unset, .unset, .unset] [(.long (p0.toInt64))])) _
          refine XS.lstore X0.here hx rfl (hb hby at_34) rfl (l' := #[.val (.int p0), .val (.int p1), .val (.int p2), .val (.long (own_b p1)), .second, .val (.int (0 : Int32)), .val (.long (p0.toInt64)), .second, .unset, .unset, .unset, .unset, .unset]) rfl ?_
          show Steps p.tables e below (s₁.setTop (mkF m 36 #[.val (.int p0), .val (.int p1), .val (.int p2), .val (.long (own_b p1)), .second, .val (.int (0 : Int32)), .val (.long (p0.toInt64)), .second, .unset, .unset, .unset, .unset, .unset] [])) _
          refine XS.iloadN X0.here hx rfl (hb hby at_36) rfl ?_
          show Steps p.tables e below (s₁.setTop (mkF m 37 #[.val (.int p0), .val (.int p1), .val (.int p2), .val (.long (own_b p1)), .second, .val (.int (0 : Int32)), .val (.long (p0.toInt64)), .second, .unset, .unset, .unset, .unset, .unset] [(.int p0)])) _
          refine XS.i2dS X0.here hx rfl (v := (FP.i2d p0)) (hb hby at_37) rfl rfl ?_
          show Steps p.tables e below (s₁.setTop (mkF m 38 #[.val (.int p0), .val (.int p1), .val (.int p2), .val (.long (own_b p1)), .second, .val (.int (0 : Int32)), .val (.long (p0.toInt64)), .second, .unset, .unset, .unset, .unset, .unset] [(.double (FP.i2d p0))])) _
          refine XS.lloadN X0.here hx rfl (hb hby at_38) rfl ?_
          show Steps p.tables e below (s₁.setTop (mkF m 39 #[.val (.int p0), .val (.int p1), .val (.int p2), .val (.long (own_b p1)), .second, .val (.int (0 : Int32)), .val (.long (p0.toInt64)), .second, .unset, .unset, .unset, .unset, .unset] [(.long (own_b p1)), (.double (FP.i2d p0))])) _
          refine XS.l2dS X0.here hx rfl (v := (FP.l2d (own_b p1))) (hb hby at_39) rfl rfl ?_
          show Steps p.tables e below (s₁.setTop (mkF m 40 #[.val (.int p0), .val (.int p1), .val (.int p2), .val (.long (own_b p1)), .second, .val (.int (0 : Int32)), .val (.long (p0.toInt64)), .second, .unset, .unset, .unset, .unset, .unset] [(.double (FP.l2d (own_b p1))), (.double (FP.i2d p0))])) _
          refine XS.ddivS X0.here hx rfl (v := (FP.ddiv (FP.i2d p0) (FP.l2d (own_b p1)))) (hb hby at_40) rfl hq.noNaN rfl ?_
          show Steps p.tables e below (s₁.setTop (mkF m 41 #[.val (.int p0), .val (.int p1), .val (.int p2), .val (.long (own_b p1)), .second, .val (.int (0 : Int32)), .val (.long (p0.toInt64)), .second, .unset, .unset, .unset, .unset, .unset] [(.double (FP.ddiv (FP.i2d p0) (FP.l2d (own_b p1))))])) _
          refine XS.dstore X0.here hx rfl (hb hby at_41) rfl (l' := #[.val (.int p0), .val (.int p1), .val (.int p2), .val (.long (own_b p1)), .second, .val (.int (0 : Int32)), .val (.long (p0.toInt64)), .second, .val (.double (FP.ddiv (FP.i2d p0) (FP.l2d (own_b p1)))), .second, .unset, .unset, .unset]) rfl ?_
          show Steps p.tables e below (s₁.setTop (mkF m 43 #[.val (.int p0), .val (.int p1), .val (.int p2), .val (.long (own_b p1)), .second, .val (.int (0 : Int32)), .val (.long (p0.toInt64)), .second, .val (.double (FP.ddiv (FP.i2d p0) (FP.l2d (own_b p1)))), .second, .unset, .unset, .unset] [])) _
          refine XS.iload X0.here hx rfl (hb hby at_43) rfl ?_
          show Steps p.tables e below (s₁.setTop (mkF m 45 #[.val (.int p0), .val (.int p1), .val (.int p2), .val (.long (own_b p1)), .second, .val (.int (0 : Int32)), .val (.long (p0.toInt64)), .second, .val (.double (FP.ddiv (FP.i2d p0) (FP.l2d (own_b p1)))), .second, .unset, .unset, .unset] [(.int (0 : Int32))])) _
          refine XS.ifYes X0.here hx rfl (pc0 := 45) (pc' := 54) rfl (hb hby at_45) rfl (by decide) (by decide) (by decide) ?_
          show Steps p.tables e below (s₁.setTop (mkF m 54 #[.val (.int p0), .val (.int p1), .val (.int p2), .val (.long (own_b p1)), .second, .val (.int (0 : Int32)), .val (.long (p0.toInt64)), .second, .val (.double (FP.ddiv (FP.i2d p0) (FP.l2d (own_b p1)))), .second, .unset, .unset, .unset] [])) _
          refine XS.dload X0.here hx rfl (hb hby at_54) rfl ?_
          show Steps p.tables e below (s₁.setTop (mkF m 56 #[.val (.int p0), .val (.int p1), .val (.int p2), .val (.long (own_b p1)), .second, .val (.int (0 : Int32)), .val (.long (p0.toInt64)), .second, .val (.double (FP.ddiv (FP.i2d p0) (FP.l2d (own_b p1)))), .second, .unset, .unset, .unset] [(.double (FP.ddiv (FP.i2d p0) (FP.l2d (own_b p1))))])) _
          refine XS.dstore X0.here hx rfl (hb hby at_56) rfl (l' := #[.val (.int p0), .val (.int p1), .val (.int p2), .val (.long (own_b p1)), .second, .val (.int (0 : Int32)), .val (.long (p0.toInt64)), .second, .val (.double (FP.ddiv (FP.i2d p0) (FP.l2d (own_b p1)))), .second, .val (.double (FP.ddiv (FP.i2d p0) (FP.l2d (own_b p1)))), .second, .unset]) rfl ?_
          show Steps p.tables e below (s₁.setTop (mkF m 58 #[.val (.int p0), .val (.int p1), .val (.int p2), .val (.long (own_b p1)), .second, .val (.int (0 : Int32)), .val (.long (p0.toInt64)), .second, .val (.double (FP.ddiv (FP.i2d p0) (FP.l2d (own_b p1)))), .second, .val (.double (FP.ddiv (FP.i2d p0) (FP.l2d (own_b p1)))), .second, .unset] [])) _
          refine XS.lload X0.here hx rfl (hb hby at_58) rfl ?_
          show Steps p.tables e below (s₁.setTop (mkF m 60 #[.val (.int p0), .val (.int p1), .val (.int p2), .val (.long (own_b p1)), .second, .val (.int (0 : Int32)), .val (.long (p0.toInt64)), .second, .val (.double (FP.ddiv (FP.i2d p0) (FP.l2d (own_b p1)))), .second, .val (.double (FP.ddiv (FP.i2d p0) (FP.l2d (own_b p1)))), .second, .unset] [(.long (p0.toInt64))])) _
          refine XS.lconst X0.here hx rfl (hb hby at_60) ?_
          show Steps p.tables e below (s₁.setTop (mkF m 61 #[.val (.int p0), .val (.int p1), .val (.int p2), .val (.long (own_b p1)), .second, .val (.int (0 : Int32)), .val (.long (p0.toInt64)), .second, .val (.double (FP.ddiv (FP.i2d p0) (FP.l2d (own_b p1)))), .second, .val (.double (FP.ddiv (FP.i2d p0) (FP.l2d (own_b p1)))), .second, .unset] [(.long (0 : Int64)), (.long (p0.toInt64))])) _
          refine XS.lcmp X0.here hx rfl (hb hby at_61) rfl ?_
          show Steps p.tables e below (s₁.setTop (mkF m 62 #[.val (.int p0), .val (.int p1), .val (.int p2), .val (.long (own_b p1)), .second, .val (.int (0 : Int32)), .val (.long (p0.toInt64)), .second, .val (.double (FP.ddiv (FP.i2d p0) (FP.l2d (own_b p1)))), .second, .val (.double (FP.ddiv (FP.i2d p0) (FP.l2d (own_b p1)))), .second, .unset] [(.int (lcmpW (p0.toInt64) (0 : Int64)))])) _
          refine XS.ifNo X0.here hx rfl (hb hby at_62) rfl ((if0 _ _).trans (flt (fun q => hA ((lw_lt _ _).mp q))).1) ?_
          show Steps p.tables e below (s₁.setTop (mkF m 65 #[.val (.int p0), .val (.int p1), .val (.int p2), .val (.long (own_b p1)), .second, .val (.int (0 : Int32)), .val (.long (p0.toInt64)), .second, .val (.double (FP.ddiv (FP.i2d p0) (FP.l2d (own_b p1)))), .second, .val (.double (FP.ddiv (FP.i2d p0) (FP.l2d (own_b p1)))), .second, .unset] [])) _
          refine XS.lload X0.here hx rfl (hb hby at_65) rfl ?_
          show Steps p.tables e below (s₁.setTop (mkF m 67 #[.val (.int p0), .val (.int p1), .val (.int p2), .val (.long (own_b p1)), .second, .val (.int (0 : Int32)), .val (.long (p0.toInt64)), .second, .val (.double (FP.ddiv (FP.i2d p0) (FP.l2d (own_b p1)))), .second, .val (.double (FP.ddiv (FP.i2d p0) (FP.l2d (own_b p1)))), .second, .unset] [(.long (p0.toInt64))])) _
          refine XS.lloadN X0.here hx rfl (hb hby at_67) rfl ?_
          show Steps p.tables e below (s₁.setTop (mkF m 68 #[.val (.int p0), .val (.int p1), .val (.int p2), .val (.long (own_b p1)), .second, .val (.int (0 : Int32)), .val (.long (p0.toInt64)), .second, .val (.double (FP.ddiv (FP.i2d p0) (FP.l2d (own_b p1)))), .second, .val (.double (FP.ddiv (FP.i2d p0) (FP.l2d (own_b p1)))), .second, .unset] [(.long (own_b p1)), (.long (p0.toInt64))])) _
          refine XS.lcmp X0.here hx rfl (hb hby at_68) rfl ?_
          show Steps p.tables e below (s₁.setTop (mkF m 69 #[.val (.int p0), .val (.int p1), .val (.int p2), .val (.long (own_b p1)), .second, .val (.int (0 : Int32)), .val (.long (p0.toInt64)), .second, .val (.double (FP.ddiv (FP.i2d p0) (FP.l2d (own_b p1)))), .second, .val (.double (FP.ddiv (FP.i2d p0) (FP.l2d (own_b p1)))), .second, .unset] [(.int (lcmpW (p0.toInt64) (own_b p1)))])) _
          refine XS.ifNo X0.here hx rfl (hb hby at_69) rfl ((if0 _ _).trans (tlt ((lw_lt _ _).mpr hB)).2.1) ?_
          show Steps p.tables e below (s₁.setTop (mkF m 72 #[.val (.int p0), .val (.int p1), .val (.int p2), .val (.long (own_b p1)), .second, .val (.int (0 : Int32)), .val (.long (p0.toInt64)), .second, .val (.double (FP.ddiv (FP.i2d p0) (FP.l2d (own_b p1)))), .second, .val (.double (FP.ddiv (FP.i2d p0) (FP.l2d (own_b p1)))), .second, .unset] [])) _
          refine XS.iconst X0.here hx rfl (hb hby at_72) ?_
          show Steps p.tables e below (s₁.setTop (mkF m 73 #[.val (.int p0), .val (.int p1), .val (.int p2), .val (.long (own_b p1)), .second, .val (.int (0 : Int32)), .val (.long (p0.toInt64)), .second, .val (.double (FP.ddiv (FP.i2d p0) (FP.l2d (own_b p1)))), .second, .val (.double (FP.ddiv (FP.i2d p0) (FP.l2d (own_b p1)))), .second, .unset] [(.int (1 : Int32))])) _
          refine XS.goto X0.here hx rfl (pc0 := 73) (pc' := 77) rfl (hb hby at_73) (by decide) (by decide) ?_
          show Steps p.tables e below (s₁.setTop (mkF m 77 #[.val (.int p0), .val (.int p1), .val (.int p2), .val (.long (own_b p1)), .second, .val (.int (0 : Int32)), .val (.long (p0.toInt64)), .second, .val (.double (FP.ddiv (FP.i2d p0) (FP.l2d (own_b p1)))), .second, .val (.double (FP.ddiv (FP.i2d p0) (FP.l2d (own_b p1)))), .second, .unset] [(.int (1 : Int32))])) _
          refine XS.istore X0.here hx rfl (hb hby at_77) rfl (l' := #[.val (.int p0), .val (.int p1), .val (.int p2), .val (.long (own_b p1)), .second, .val (.int (0 : Int32)), .val (.long (p0.toInt64)), .second, .val (.double (FP.ddiv (FP.i2d p0) (FP.l2d (own_b p1)))), .second, .val (.double (FP.ddiv (FP.i2d p0) (FP.l2d (own_b p1)))), .second, .val (.int (1 : Int32))]) rfl ?_
          show Steps p.tables e below (s₁.setTop (mkF m 79 #[.val (.int p0), .val (.int p1), .val (.int p2), .val (.long (own_b p1)), .second, .val (.int (0 : Int32)), .val (.long (p0.toInt64)), .second, .val (.double (FP.ddiv (FP.i2d p0) (FP.l2d (own_b p1)))), .second, .val (.double (FP.ddiv (FP.i2d p0) (FP.l2d (own_b p1)))), .second, .val (.int (1 : Int32))] [])) _
          refine XS.dload X0.here hx rfl (hb hby at_79) rfl ?_
          show Steps p.tables e below (s₁.setTop (mkF m 81 #[.val (.int p0), .val (.int p1), .val (.int p2), .val (.long (own_b p1)), .second, .val (.int (0 : Int32)), .val (.long (p0.toInt64)), .second, .val (.double (FP.ddiv (FP.i2d p0) (FP.l2d (own_b p1)))), .second, .val (.double (FP.ddiv (FP.i2d p0) (FP.l2d (own_b p1)))), .second, .val (.int (1 : Int32))] [(.double (FP.ddiv (FP.i2d p0) (FP.l2d (own_b p1))))])) _
          refine st1 _ ?_
          show Steps p.tables e below (T1.setTop (mkF m 84 #[.val (.int p0), .val (.int p1), .val (.int p2), .val (.long (own_b p1)), .second, .val (.int (0 : Int32)), .val (.long (p0.toInt64)), .second, .val (.double (FP.ddiv (FP.i2d p0) (FP.l2d (own_b p1)))), .second, .val (.double (FP.ddiv (FP.i2d p0) (FP.l2d (own_b p1)))), .second, .val (.int (1 : Int32))] [(.int (1 : Int32))])) _
          refine XS.iload X1.here hx rfl (hb hby at_84) rfl ?_
          show Steps p.tables e below (T1.setTop (mkF m 86 #[.val (.int p0), .val (.int p1), .val (.int p2), .val (.long (own_b p1)), .second, .val (.int (0 : Int32)), .val (.long (p0.toInt64)), .second, .val (.double (FP.ddiv (FP.i2d p0) (FP.l2d (own_b p1)))), .second, .val (.double (FP.ddiv (FP.i2d p0) (FP.l2d (own_b p1)))), .second, .val (.int (1 : Int32))] [(.int (1 : Int32)), (.int (1 : Int32))])) _
          refine XS.icmpNo X1.here hx rfl (hb hby at_86) rfl (by decide) ?_
          show Steps p.tables e below (T1.setTop (mkF m 89 #[.val (.int p0), .val (.int p1), .val (.int p2), .val (.long (own_b p1)), .second, .val (.int (0 : Int32)), .val (.long (p0.toInt64)), .second, .val (.double (FP.ddiv (FP.i2d p0) (FP.l2d (own_b p1)))), .second, .val (.double (FP.ddiv (FP.i2d p0) (FP.l2d (own_b p1)))), .second, .val (.int (1 : Int32))] [])) _
          refine XS.iconst X1.here hx rfl (hb hby at_89) ?_
          show Steps p.tables e below (T1.setTop (mkF m 90 #[.val (.int p0), .val (.int p1), .val (.int p2), .val (.long (own_b p1)), .second, .val (.int (0 : Int32)), .val (.long (p0.toInt64)), .second, .val (.double (FP.ddiv (FP.i2d p0) (FP.l2d (own_b p1)))), .second, .val (.double (FP.ddiv (FP.i2d p0) (FP.l2d (own_b p1)))), .second, .val (.int (1 : Int32))] [(.int (1 : Int32))])) _
          refine XS.goto X1.here hx rfl (pc0 := 90) (pc' := 94) rfl (hb hby at_90) (by decide) (by decide) ?_
          show Steps p.tables e below (T1.setTop (mkF m 94 #[.val (.int p0), .val (.int p1), .val (.int p2), .val (.long (own_b p1)), .second, .val (.int (0 : Int32)), .val (.long (p0.toInt64)), .second, .val (.double (FP.ddiv (FP.i2d p0) (FP.l2d (own_b p1)))), .second, .val (.double (FP.ddiv (FP.i2d p0) (FP.l2d (own_b p1)))), .second, .val (.int (1 : Int32))] [(.int (1 : Int32))])) _
          exact retN X1 hx (t := .boolean) Bd.returns (by simp) (hb hby at_94) hr
        · exact ⟨rfl, N1⟩
  · have hi : (-(p0.toInt64)).toInt = -p0.toInt := n64
    have hd := own_dmp hq' hbb.1 hbb.2
    by_cases hA : (-(p0.toInt64)) < (0 : Int64)
    · obtain ⟨_, _, ⟨T1, L1, k1, n1⟩, -, X1, ⟨Lc1, hQ1, l1, y1, z1⟩, st1⟩ := Jvm.LawKit.callS X0 hx (y := (⟨"com/example/kudos_for_datasets/kudosfordatasets/PageRank", "isDamping", "(D)Z"⟩ : MethodName)) hown (mvT hZ (hw _ (List.mem_of_getElem? (i := 1) rfl))) (mvT hZ (hw _ (List.mem_of_getElem? (i := 2) rfl))) (mvT hZ (hw _ (List.mem_of_getElem? (i := 3) rfl))) (mvT hZ (hw _ (List.mem_of_getElem? (i := 4) rfl))) (by decide) (backOf (W := 0) (rmD l Z a0 hw [] (FP.dneg (FP.ddiv (FP.i2d p0) (FP.l2d (own_b p1)))) (0 : Int32) h0 n0 Z0 (hd.1 (by rw [Int64.lt_iff_toInt_lt] at hA; omega))) hZ (hw _ (List.mem_of_getElem? (i := 4) rfl)) (hw _ (List.mem_of_getElem? (i := 3) rfl)) (by decide) (by decide)) (g := (mkF m 81 #[.val (.int p0), .val (.int p1), .val (.int p2), .val (.long (own_b p1)), .second, .val (.int (1 : Int32)), .val (.long (-(p0.toInt64))), .second, .val (.double (FP.ddiv (FP.i2d p0) (FP.l2d (own_b p1)))), .second, .val (.double (FP.dneg (FP.ddiv (FP.i2d p0) (FP.l2d (own_b p1))))), .second, .val (.int (0 : Int32))] [(.double (FP.dneg (FP.ddiv (FP.i2d p0) (FP.l2d (own_b p1)))))])) rfl (by rw [hml]; rfl) (argsL := [(.double (FP.dneg (FP.ddiv (FP.i2d p0) (FP.l2d (own_b p1)))))]) (rest := []) (lenOf pdD rfl) rfl (by show 2 * 0 + _ ≤ _; exact Nat.le_of_eq rfl) (hb hby at_81) (fun _ _ => ⟨rfl, e0, (by decide : 0 + 0 ≤ _), (by decide : 0 + 0 ≤ _)⟩)
      dsimp only [Pt.U, Pt.locs, Pt.cells, Pt.slots] at X1 l1 y1 z1 st1 hQ1
      subst l1 y1 z1
      obtain ⟨rfl, N1q, e1⟩ := hQ1
      have N1 := Fr.app N0 N1q
      obtain ⟨fs, hr, hrun, hended, hW, hsame⟩ := X1.leave (v := some (.int (1 : Int32))) (fun h => by rw [Bd.returns] at h; cases h)
      refine ⟨_, _, pre0 _ ?_, hrun, hended, _, _, rfl, ?_, ⟨_, rfl⟩, hW, hsame.mono (by decide) (by decide)⟩
      · skip
        show Steps p.tables e below (s₁.setTop (mkF m 0 #[.val (.int p0), .val (.int p1), .val (.int p2), .unset, .unset, .unset, .unset, .unset, .unset, .unset, .unset, .unset, .unset] [])) _
        refine XS.iloadN X0.here hx rfl (hb hby at_0) rfl ?_
        show Steps p.tables e below (s₁.setTop (mkF m 1 #[.val (.int p0), .val (.int p1), .val (.int p2), .unset, .unset, .unset, .unset, .unset, .unset, .unset, .unset, .unset, .unset] [(.int p1)])) _
        refine X0.ldcInt hx hown (mvT hZ (hw _ (List.mem_of_getElem? (i := 0) rfl))) (g := (mkF m 1 #[.val (.int p0), .val (.int p1), .val (.int p2), .unset, .unset, .unset, .unset, .unset, .unset, .unset, .unset, .unset, .unset] [(.int p1)])) rfl (hb hby at_1) _ ?_
        show Steps p.tables e below (s₁.setTop (mkF m 3 #[.val (.int p0), .val (.int p1), .val (.int p2), .unset, .unset, .unset, .unset, .unset, .unset, .unset, .unset, .unset, .unset] [(.int (16777215 : Int32)), (.int p1)])) _
        refine XS.iand X0.here hx rfl (hb hby at_3) rfl ?_
        show Steps p.tables e below (s₁.setTop (mkF m 4 #[.val (.int p0), .val (.int p1), .val (.int p2), .unset, .unset, .unset, .unset, .unset, .unset, .unset, .unset, .unset, .unset] [(.int (p1 &&& (16777215 : Int32)))])) _
        refine XS.i2l X0.here hx rfl (hb hby at_4) rfl ?_
        show Steps p.tables e below (s₁.setTop (mkF m 5 #[.val (.int p0), .val (.int p1), .val (.int p2), .unset, .unset, .unset, .unset, .unset, .unset, .unset, .unset, .unset, .unset] [(.long ((p1 &&& (16777215 : Int32)).toInt64))])) _
        refine XS.lconst X0.here hx rfl (hb hby at_5) ?_
        show Steps p.tables e below (s₁.setTop (mkF m 6 #[.val (.int p0), .val (.int p1), .val (.int p2), .unset, .unset, .unset, .unset, .unset, .unset, .unset, .unset, .unset, .unset] [(.long (1 : Int64)), (.long ((p1 &&& (16777215 : Int32)).toInt64))])) _
        refine XS.ladd X0.here hx rfl (hb hby at_6) rfl ?_
        show Steps p.tables e below (s₁.setTop (mkF m 7 #[.val (.int p0), .val (.int p1), .val (.int p2), .unset, .unset, .unset, .unset, .unset, .unset, .unset, .unset, .unset, .unset] [(.long (own_b p1))])) _
        refine XS.lstoreN X0.here hx rfl (hb hby at_7) rfl (l' := #[.val (.int p0), .val (.int p1), .val (.int p2), .val (.long (own_b p1)), .second, .unset, .unset, .unset, .unset, .unset, .unset, .unset, .unset]) rfl ?_
        show Steps p.tables e below (s₁.setTop (mkF m 8 #[.val (.int p0), .val (.int p1), .val (.int p2), .val (.long (own_b p1)), .second, .unset, .unset, .unset, .unset, .unset, .unset, .unset, .unset] [])) _
        refine XS.iloadN X0.here hx rfl (hb hby at_8) rfl ?_
        show Steps p.tables e below (s₁.setTop (mkF m 9 #[.val (.int p0), .val (.int p1), .val (.int p2), .val (.long (own_b p1)), .second, .unset, .unset, .unset, .unset, .unset, .unset, .unset, .unset] [(.int p2)])) _
        refine XS.iconst X0.here hx rfl (hb hby at_9) ?_
        show Steps p.tables e below (s₁.setTop (mkF m 10 #[.val (.int p0), .val (.int p1), .val (.int p2), .val (.long (own_b p1)), .second, .unset, .unset, .unset, .unset, .unset, .unset, .unset, .unset] [(.int (1 : Int32)), (.int p2)])) _
        refine XS.iand X0.here hx rfl (hb hby at_10) rfl ?_
        show Steps p.tables e below (s₁.setTop (mkF m 11 #[.val (.int p0), .val (.int p1), .val (.int p2), .val (.long (own_b p1)), .second, .unset, .unset, .unset, .unset, .unset, .unset, .unset, .unset] [(.int (p2 &&& (1 : Int32)))])) _
        refine XS.ifNo X0.here hx rfl (hb hby at_11) rfl ((if0 _ _).trans (feq hf).1) ?_
        show Steps p.tables e below (s₁.setTop (mkF m 14 #[.val (.int p0), .val (.int p1), .val (.int p2), .val (.long (own_b p1)), .second, .unset, .unset, .unset, .unset, .unset, .unset, .unset, .unset] [])) _
        refine XS.iconst X0.here hx rfl (hb hby at_14) ?_
        show Steps p.tables e below (s₁.setTop (mkF m 15 #[.val (.int p0), .val (.int p1), .val (.int p2), .val (.long (own_b p1)), .second, .unset, .unset, .unset, .unset, .unset, .unset, .unset, .unset] [(.int (1 : Int32))])) _
        refine XS.goto X0.here hx rfl (pc0 := 15) (pc' := 19) rfl (hb hby at_15) (by decide) (by decide) ?_
        show Steps p.tables e below (s₁.setTop (mkF m 19 #[.val (.int p0), .val (.int p1), .val (.int p2), .val (.long (own_b p1)), .second, .unset, .unset, .unset, .unset, .unset, .unset, .unset, .unset] [(.int (1 : Int32))])) _
        refine XS.istore X0.here hx rfl (hb hby at_19) rfl (l' := #[.val (.int p0), .val (.int p1), .val (.int p2), .val (.long (own_b p1)), .second, .val (.int (1 : Int32)), .unset, .unset, .unset, .unset, .unset, .unset, .unset]) rfl ?_
        show Steps p.tables e below (s₁.setTop (mkF m 21 #[.val (.int p0), .val (.int p1), .val (.int p2), .val (.long (own_b p1)), .second, .val (.int (1 : Int32)), .unset, .unset, .unset, .unset, .unset, .unset, .unset] [])) _
        refine XS.iload X0.here hx rfl (hb hby at_21) rfl ?_
        show Steps p.tables e below (s₁.setTop (mkF m 23 #[.val (.int p0), .val (.int p1), .val (.int p2), .val (.long (own_b p1)), .second, .val (.int (1 : Int32)), .unset, .unset, .unset, .unset, .unset, .unset, .unset] [(.int (1 : Int32))])) _
        refine XS.ifNo X0.here hx rfl (hb hby at_23) rfl (by decide) ?_
        show Steps p.tables e below (s₁.setTop (mkF m 26 #[.val (.int p0), .val (.int p1), .val (.int p2), .val (.long (own_b p1)), .second, .val (.int (1 : Int32)), .unset, .unset, .unset, .unset, .unset, .unset, .unset] [])) _
        refine XS.iloadN X0.here hx rfl (hb hby at_26) rfl ?_
        show Steps p.tables e below (s₁.setTop (mkF m 27 #[.val (.int p0), .val (.int p1), .val (.int p2), .val (.long (own_b p1)), .second, .val (.int (1 : Int32)), .unset, .unset, .unset, .unset, .unset, .unset, .unset] [(.int p0)])) _
        refine XS.i2l X0.here hx rfl (hb hby at_27) rfl ?_
        show Steps p.tables e below (s₁.setTop (mkF m 28 #[.val (.int p0), .val (.int p1), .val (.int p2), .val (.long (own_b p1)), .second, .val (.int (1 : Int32)), .unset, .unset, .unset, .unset, .unset, .unset, .unset] [(.long (p0.toInt64))])) _
        refine XS.lneg X0.here hx rfl (hb hby at_28) rfl ?_
        show Steps p.tables e below (s₁.setTop (mkF m 29 #[.val (.int p0), .val (.int p1), .val (.int p2), .val (.long (own_b p1)), .second, .val (.int (1 : Int32)), .unset, .unset, .unset, .unset, .unset, .unset, .unset] [(.long (-(p0.toInt64)))])) _
        refine XS.goto X0.here hx rfl (pc0 := 29) (pc' := 34) rfl (hb hby at_29) (by decide) (by decide) ?_
        show Steps p.tables e below (s₁.setTop (mkF m 34 #[.val (.int p0), .val (.int p1), .val (.int p2), .val (.long (own_b p1)), .second, .val (.int (1 : Int32)), .unset, .unset, .unset, .unset, .unset, .unset, .unset] [(.long (-(p0.toInt64)))])) _
        refine XS.lstore X0.here hx rfl (hb hby at_34) rfl (l' := #[.val (.int p0), .val (.int p1), .val (.int p2), .val (.long (own_b p1)), .second, .val (.int (1 : Int32)), .val (.long (-(p0.toInt64))), .second, .unset, .unset, .unset, .unset, .unset]) rfl ?_
        show Steps p.tables e below (s₁.setTop (mkF m 36 #[.val (.int p0), .val (.int p1), .val (.int p2), .val (.long (own_b p1)), .second, .val (.int (1 : Int32)), .val (.long (-(p0.toInt64))), .second, .unset, .unset, .unset, .unset, .unset] [])) _
        refine XS.iloadN X0.here hx rfl (hb hby at_36) rfl ?_
        show Steps p.tables e below (s₁.setTop (mkF m 37 #[.val (.int p0), .val (.int p1), .val (.int p2), .val (.long (own_b p1)), .second, .val (.int (1 : Int32)), .val (.long (-(p0.toInt64))), .second, .unset, .unset, .unset, .unset, .unset] [(.int p0)])) _
        refine XS.i2dS X0.here hx rfl (v := (FP.i2d p0)) (hb hby at_37) rfl rfl ?_
        show Steps p.tables e below (s₁.setTop (mkF m 38 #[.val (.int p0), .val (.int p1), .val (.int p2), .val (.long (own_b p1)), .second, .val (.int (1 : Int32)), .val (.long (-(p0.toInt64))), .second, .unset, .unset, .unset, .unset, .unset] [(.double (FP.i2d p0))])) _
        refine XS.lloadN X0.here hx rfl (hb hby at_38) rfl ?_
        show Steps p.tables e below (s₁.setTop (mkF m 39 #[.val (.int p0), .val (.int p1), .val (.int p2), .val (.long (own_b p1)), .second, .val (.int (1 : Int32)), .val (.long (-(p0.toInt64))), .second, .unset, .unset, .unset, .unset, .unset] [(.long (own_b p1)), (.double (FP.i2d p0))])) _
        refine XS.l2dS X0.here hx rfl (v := (FP.l2d (own_b p1))) (hb hby at_39) rfl rfl ?_
        show Steps p.tables e below (s₁.setTop (mkF m 40 #[.val (.int p0), .val (.int p1), .val (.int p2), .val (.long (own_b p1)), .second, .val (.int (1 : Int32)), .val (.long (-(p0.toInt64))), .second, .unset, .unset, .unset, .unset, .unset] [(.double (FP.l2d (own_b p1))), (.double (FP.i2d p0))])) _
        refine XS.ddivS X0.here hx rfl (v := (FP.ddiv (FP.i2d p0) (FP.l2d (own_b p1)))) (hb hby at_40) rfl hq.noNaN rfl ?_
        show Steps p.tables e below (s₁.setTop (mkF m 41 #[.val (.int p0), .val (.int p1), .val (.int p2), .val (.long (own_b p1)), .second, .val (.int (1 : Int32)), .val (.long (-(p0.toInt64))), .second, .unset, .unset, .unset, .unset, .unset] [(.double (FP.ddiv (FP.i2d p0) (FP.l2d (own_b p1))))])) _
        refine XS.dstore X0.here hx rfl (hb hby at_41) rfl (l' := #[.val (.int p0), .val (.int p1), .val (.int p2), .val (.long (own_b p1)), .second, .val (.int (1 : Int32)), .val (.long (-(p0.toInt64))), .second, .val (.double (FP.ddiv (FP.i2d p0) (FP.l2d (own_b p1)))), .second, .unset, .unset, .unset]) rfl ?_
        show Steps p.tables e below (s₁.setTop (mkF m 43 #[.val (.int p0), .val (.int p1), .val (.int p2), .val (.long (own_b p1)), .second, .val (.int (1 : Int32)), .val (.long (-(p0.toInt64))), .second, .val (.double (FP.ddiv (FP.i2d p0) (FP.l2d (own_b p1)))), .second, .unset, .unset, .unset] [])) _
        refine XS.iload X0.here hx rfl (hb hby at_43) rfl ?_
        show Steps p.tables e below (s₁.setTop (mkF m 45 #[.val (.int p0), .val (.int p1), .val (.int p2), .val (.long (own_b p1)), .second, .val (.int (1 : Int32)), .val (.long (-(p0.toInt64))), .second, .val (.double (FP.ddiv (FP.i2d p0) (FP.l2d (own_b p1)))), .second, .unset, .unset, .unset] [(.int (1 : Int32))])) _
        refine XS.ifNo X0.here hx rfl (hb hby at_45) rfl (by decide) ?_
        show Steps p.tables e below (s₁.setTop (mkF m 48 #[.val (.int p0), .val (.int p1), .val (.int p2), .val (.long (own_b p1)), .second, .val (.int (1 : Int32)), .val (.long (-(p0.toInt64))), .second, .val (.double (FP.ddiv (FP.i2d p0) (FP.l2d (own_b p1)))), .second, .unset, .unset, .unset] [])) _
        refine XS.dload X0.here hx rfl (hb hby at_48) rfl ?_
        show Steps p.tables e below (s₁.setTop (mkF m 50 #[.val (.int p0), .val (.int p1), .val (.int p2), .val (.long (own_b p1)), .second, .val (.int (1 : Int32)), .val (.long (-(p0.toInt64))), .second, .val (.double (FP.ddiv (FP.i2d p0) (FP.l2d (own_b p1)))), .second, .unset, .unset, .unset] [(.double (FP.ddiv (FP.i2d p0) (FP.l2d (own_b p1))))])) _
        refine XS.dnegS X0.here hx rfl (v := (FP.dneg (FP.ddiv (FP.i2d p0) (FP.l2d (own_b p1))))) (hb hby at_50) rfl rfl ?_
        show Steps p.tables e below (s₁.setTop (mkF m 51 #[.val (.int p0), .val (.int p1), .val (.int p2), .val (.long (own_b p1)), .second, .val (.int (1 : Int32)), .val (.long (-(p0.toInt64))), .second, .val (.double (FP.ddiv (FP.i2d p0) (FP.l2d (own_b p1)))), .second, .unset, .unset, .unset] [(.double (FP.dneg (FP.ddiv (FP.i2d p0) (FP.l2d (own_b p1)))))])) _
        refine XS.goto X0.here hx rfl (pc0 := 51) (pc' := 56) rfl (hb hby at_51) (by decide) (by decide) ?_
        show Steps p.tables e below (s₁.setTop (mkF m 56 #[.val (.int p0), .val (.int p1), .val (.int p2), .val (.long (own_b p1)), .second, .val (.int (1 : Int32)), .val (.long (-(p0.toInt64))), .second, .val (.double (FP.ddiv (FP.i2d p0) (FP.l2d (own_b p1)))), .second, .unset, .unset, .unset] [(.double (FP.dneg (FP.ddiv (FP.i2d p0) (FP.l2d (own_b p1)))))])) _
        refine XS.dstore X0.here hx rfl (hb hby at_56) rfl (l' := #[.val (.int p0), .val (.int p1), .val (.int p2), .val (.long (own_b p1)), .second, .val (.int (1 : Int32)), .val (.long (-(p0.toInt64))), .second, .val (.double (FP.ddiv (FP.i2d p0) (FP.l2d (own_b p1)))), .second, .val (.double (FP.dneg (FP.ddiv (FP.i2d p0) (FP.l2d (own_b p1))))), .second, .unset]) rfl ?_
        show Steps p.tables e below (s₁.setTop (mkF m 58 #[.val (.int p0), .val (.int p1), .val (.int p2), .val (.long (own_b p1)), .second, .val (.int (1 : Int32)), .val (.long (-(p0.toInt64))), .second, .val (.double (FP.ddiv (FP.i2d p0) (FP.l2d (own_b p1)))), .second, .val (.double (FP.dneg (FP.ddiv (FP.i2d p0) (FP.l2d (own_b p1))))), .second, .unset] [])) _
        refine XS.lload X0.here hx rfl (hb hby at_58) rfl ?_
        show Steps p.tables e below (s₁.setTop (mkF m 60 #[.val (.int p0), .val (.int p1), .val (.int p2), .val (.long (own_b p1)), .second, .val (.int (1 : Int32)), .val (.long (-(p0.toInt64))), .second, .val (.double (FP.ddiv (FP.i2d p0) (FP.l2d (own_b p1)))), .second, .val (.double (FP.dneg (FP.ddiv (FP.i2d p0) (FP.l2d (own_b p1))))), .second, .unset] [(.long (-(p0.toInt64)))])) _
        refine XS.lconst X0.here hx rfl (hb hby at_60) ?_
        show Steps p.tables e below (s₁.setTop (mkF m 61 #[.val (.int p0), .val (.int p1), .val (.int p2), .val (.long (own_b p1)), .second, .val (.int (1 : Int32)), .val (.long (-(p0.toInt64))), .second, .val (.double (FP.ddiv (FP.i2d p0) (FP.l2d (own_b p1)))), .second, .val (.double (FP.dneg (FP.ddiv (FP.i2d p0) (FP.l2d (own_b p1))))), .second, .unset] [(.long (0 : Int64)), (.long (-(p0.toInt64)))])) _
        refine XS.lcmp X0.here hx rfl (hb hby at_61) rfl ?_
        show Steps p.tables e below (s₁.setTop (mkF m 62 #[.val (.int p0), .val (.int p1), .val (.int p2), .val (.long (own_b p1)), .second, .val (.int (1 : Int32)), .val (.long (-(p0.toInt64))), .second, .val (.double (FP.ddiv (FP.i2d p0) (FP.l2d (own_b p1)))), .second, .val (.double (FP.dneg (FP.ddiv (FP.i2d p0) (FP.l2d (own_b p1))))), .second, .unset] [(.int (lcmpW (-(p0.toInt64)) (0 : Int64)))])) _
        refine XS.ifYes X0.here hx rfl (pc0 := 62) (pc' := 76) rfl (hb hby at_62) rfl ((if0 _ _).trans (tlt ((lw_lt _ _).mpr hA)).1) (by decide) (by decide) ?_
        show Steps p.tables e below (s₁.setTop (mkF m 76 #[.val (.int p0), .val (.int p1), .val (.int p2), .val (.long (own_b p1)), .second, .val (.int (1 : Int32)), .val (.long (-(p0.toInt64))), .second, .val (.double (FP.ddiv (FP.i2d p0) (FP.l2d (own_b p1)))), .second, .val (.double (FP.dneg (FP.ddiv (FP.i2d p0) (FP.l2d (own_b p1))))), .second, .unset] [])) _
        refine XS.iconst X0.here hx rfl (hb hby at_76) ?_
        show Steps p.tables e below (s₁.setTop (mkF m 77 #[.val (.int p0), .val (.int p1), .val (.int p2), .val (.long (own_b p1)), .second, .val (.int (1 : Int32)), .val (.long (-(p0.toInt64))), .second, .val (.double (FP.ddiv (FP.i2d p0) (FP.l2d (own_b p1)))), .second, .val (.double (FP.dneg (FP.ddiv (FP.i2d p0) (FP.l2d (own_b p1))))), .second, .unset] [(.int (0 : Int32))])) _
        refine XS.istore X0.here hx rfl (hb hby at_77) rfl (l' := #[.val (.int p0), .val (.int p1), .val (.int p2), .val (.long (own_b p1)), .second, .val (.int (1 : Int32)), .val (.long (-(p0.toInt64))), .second, .val (.double (FP.ddiv (FP.i2d p0) (FP.l2d (own_b p1)))), .second, .val (.double (FP.dneg (FP.ddiv (FP.i2d p0) (FP.l2d (own_b p1))))), .second, .val (.int (0 : Int32))]) rfl ?_
        show Steps p.tables e below (s₁.setTop (mkF m 79 #[.val (.int p0), .val (.int p1), .val (.int p2), .val (.long (own_b p1)), .second, .val (.int (1 : Int32)), .val (.long (-(p0.toInt64))), .second, .val (.double (FP.ddiv (FP.i2d p0) (FP.l2d (own_b p1)))), .second, .val (.double (FP.dneg (FP.ddiv (FP.i2d p0) (FP.l2d (own_b p1))))), .second, .val (.int (0 : Int32))] [])) _
        refine XS.dload X0.here hx rfl (hb hby at_79) rfl ?_
        show Steps p.tables e below (s₁.setTop (mkF m 81 #[.val (.int p0), .val (.int p1), .val (.int p2), .val (.long (own_b p1)), .second, .val (.int (1 : Int32)), .val (.long (-(p0.toInt64))), .second, .val (.double (FP.ddiv (FP.i2d p0) (FP.l2d (own_b p1)))), .second, .val (.double (FP.dneg (FP.ddiv (FP.i2d p0) (FP.l2d (own_b p1))))), .second, .val (.int (0 : Int32))] [(.double (FP.dneg (FP.ddiv (FP.i2d p0) (FP.l2d (own_b p1)))))])) _
        refine st1 _ ?_
        show Steps p.tables e below (T1.setTop (mkF m 84 #[.val (.int p0), .val (.int p1), .val (.int p2), .val (.long (own_b p1)), .second, .val (.int (1 : Int32)), .val (.long (-(p0.toInt64))), .second, .val (.double (FP.ddiv (FP.i2d p0) (FP.l2d (own_b p1)))), .second, .val (.double (FP.dneg (FP.ddiv (FP.i2d p0) (FP.l2d (own_b p1))))), .second, .val (.int (0 : Int32))] [(.int (0 : Int32))])) _
        refine XS.iload X1.here hx rfl (hb hby at_84) rfl ?_
        show Steps p.tables e below (T1.setTop (mkF m 86 #[.val (.int p0), .val (.int p1), .val (.int p2), .val (.long (own_b p1)), .second, .val (.int (1 : Int32)), .val (.long (-(p0.toInt64))), .second, .val (.double (FP.ddiv (FP.i2d p0) (FP.l2d (own_b p1)))), .second, .val (.double (FP.dneg (FP.ddiv (FP.i2d p0) (FP.l2d (own_b p1))))), .second, .val (.int (0 : Int32))] [(.int (0 : Int32)), (.int (0 : Int32))])) _
        refine XS.icmpNo X1.here hx rfl (hb hby at_86) rfl (by decide) ?_
        show Steps p.tables e below (T1.setTop (mkF m 89 #[.val (.int p0), .val (.int p1), .val (.int p2), .val (.long (own_b p1)), .second, .val (.int (1 : Int32)), .val (.long (-(p0.toInt64))), .second, .val (.double (FP.ddiv (FP.i2d p0) (FP.l2d (own_b p1)))), .second, .val (.double (FP.dneg (FP.ddiv (FP.i2d p0) (FP.l2d (own_b p1))))), .second, .val (.int (0 : Int32))] [])) _
        refine XS.iconst X1.here hx rfl (hb hby at_89) ?_
        show Steps p.tables e below (T1.setTop (mkF m 90 #[.val (.int p0), .val (.int p1), .val (.int p2), .val (.long (own_b p1)), .second, .val (.int (1 : Int32)), .val (.long (-(p0.toInt64))), .second, .val (.double (FP.ddiv (FP.i2d p0) (FP.l2d (own_b p1)))), .second, .val (.double (FP.dneg (FP.ddiv (FP.i2d p0) (FP.l2d (own_b p1))))), .second, .val (.int (0 : Int32))] [(.int (1 : Int32))])) _
        refine XS.goto X1.here hx rfl (pc0 := 90) (pc' := 94) rfl (hb hby at_90) (by decide) (by decide) ?_
        show Steps p.tables e below (T1.setTop (mkF m 94 #[.val (.int p0), .val (.int p1), .val (.int p2), .val (.long (own_b p1)), .second, .val (.int (1 : Int32)), .val (.long (-(p0.toInt64))), .second, .val (.double (FP.ddiv (FP.i2d p0) (FP.l2d (own_b p1)))), .second, .val (.double (FP.dneg (FP.ddiv (FP.i2d p0) (FP.l2d (own_b p1))))), .second, .val (.int (0 : Int32))] [(.int (1 : Int32))])) _
        exact retN X1 hx (t := .boolean) Bd.returns (by simp) (hb hby at_94) hr
      · exact ⟨rfl, N1⟩
    · by_cases hB : (-(p0.toInt64)) < own_b p1
      rotate_left
      · obtain ⟨_, _, ⟨T1, L1, k1, n1⟩, -, X1, ⟨Lc1, hQ1, l1, y1, z1⟩, st1⟩ := Jvm.LawKit.callS X0 hx (y := (⟨"com/example/kudos_for_datasets/kudosfordatasets/PageRank", "isDamping", "(D)Z"⟩ : MethodName)) hown (mvT hZ (hw _ (List.mem_of_getElem? (i := 1) rfl))) (mvT hZ (hw _ (List.mem_of_getElem? (i := 2) rfl))) (mvT hZ (hw _ (List.mem_of_getElem? (i := 3) rfl))) (mvT hZ (hw _ (List.mem_of_getElem? (i := 4) rfl))) (by decide) (backOf (W := 0) (rmD l Z a0 hw [] (FP.dneg (FP.ddiv (FP.i2d p0) (FP.l2d (own_b p1)))) (0 : Int32) h0 n0 Z0 (hd.2.1 (by rw [Int64.lt_iff_toInt_lt] at hA; omega) (by rw [Int64.lt_iff_toInt_lt] at hB; omega))) hZ (hw _ (List.mem_of_getElem? (i := 4) rfl)) (hw _ (List.mem_of_getElem? (i := 3) rfl)) (by decide) (by decide)) (g := (mkF m 81 #[.val (.int p0), .val (.int p1), .val (.int p2), .val (.long (own_b p1)), .second, .val (.int (1 : Int32)), .val (.long (-(p0.toInt64))), .second, .val (.double (FP.ddiv (FP.i2d p0) (FP.l2d (own_b p1)))), .second, .val (.double (FP.dneg (FP.ddiv (FP.i2d p0) (FP.l2d (own_b p1))))), .second, .val (.int (0 : Int32))] [(.double (FP.dneg (FP.ddiv (FP.i2d p0) (FP.l2d (own_b p1)))))])) rfl (by rw [hml]; rfl) (argsL := [(.double (FP.dneg (FP.ddiv (FP.i2d p0) (FP.l2d (own_b p1)))))]) (rest := []) (lenOf pdD rfl) rfl (by show 2 * 0 + _ ≤ _; exact Nat.le_of_eq rfl) (hb hby at_81) (fun _ _ => ⟨rfl, e0, (by decide : 0 + 0 ≤ _), (by decide : 0 + 0 ≤ _)⟩)
        dsimp only [Pt.U, Pt.locs, Pt.cells, Pt.slots] at X1 l1 y1 z1 st1 hQ1
        subst l1 y1 z1
        obtain ⟨rfl, N1q, e1⟩ := hQ1
        have N1 := Fr.app N0 N1q
        obtain ⟨fs, hr, hrun, hended, hW, hsame⟩ := X1.leave (v := some (.int (1 : Int32))) (fun h => by rw [Bd.returns] at h; cases h)
        refine ⟨_, _, pre0 _ ?_, hrun, hended, _, _, rfl, ?_, ⟨_, rfl⟩, hW, hsame.mono (by decide) (by decide)⟩
        · skip
          show Steps p.tables e below (s₁.setTop (mkF m 0 #[.val (.int p0), .val (.int p1), .val (.int p2), .unset, .unset, .unset, .unset, .unset, .unset, .unset, .unset, .unset, .unset] [])) _
          refine XS.iloadN X0.here hx rfl (hb hby at_0) rfl ?_
          show Steps p.tables e below (s₁.setTop (mkF m 1 #[.val (.int p0), .val (.int p1), .val (.int p2), .unset, .unset, .unset, .unset, .unset, .unset, .unset, .unset, .unset, .unset] [(.int p1)])) _
          refine X0.ldcInt hx hown (mvT hZ (hw _ (List.mem_of_getElem? (i := 0) rfl))) (g := (mkF m 1 #[.val (.int p0), .val (.int p1), .val (.int p2), .unset, .unset, .unset, .unset, .unset, .unset, .unset, .unset, .unset, .unset] [(.int p1)])) rfl (hb hby at_1) _ ?_
          show Steps p.tables e below (s₁.setTop (mkF m 3 #[.val (.int p0), .val (.int p1), .val (.int p2), .unset, .unset, .unset, .unset, .unset, .unset, .unset, .unset, .unset, .unset] [(.int (16777215 : Int32)), (.int p1)])) _
          refine XS.iand X0.here hx rfl (hb hby at_3) rfl ?_
          show Steps p.tables e below (s₁.setTop (mkF m 4 #[.val (.int p0), .val (.int p1), .val (.int p2), .unset, .unset, .unset, .unset, .unset, .unset, .unset, .unset, .unset, .unset] [(.int (p1 &&& (16777215 : Int32)))])) _
          refine XS.i2l X0.here hx rfl (hb hby at_4) rfl ?_
          show Steps p.tables e below (s₁.setTop (mkF m 5 #[.val (.int p0), .val (.int p1), .val (.int p2), .unset, .unset, .unset, .unset, .unset, .unset, .unset, .unset, .unset, .unset] [(.long ((p1 &&& (16777215 : Int32)).toInt64))])) _
          refine XS.lconst X0.here hx rfl (hb hby at_5) ?_
          show Steps p.tables e below (s₁.setTop (mkF m 6 #[.val (.int p0), .val (.int p1), .val (.int p2), .unset, .unset, .unset, .unset, .unset, .unset, .unset, .unset, .unset, .unset] [(.long (1 : Int64)), (.long ((p1 &&& (16777215 : Int32)).toInt64))])) _
          refine XS.ladd X0.here hx rfl (hb hby at_6) rfl ?_
          show Steps p.tables e below (s₁.setTop (mkF m 7 #[.val (.int p0), .val (.int p1), .val (.int p2), .unset, .unset, .unset, .unset, .unset, .unset, .unset, .unset, .unset, .unset] [(.long (own_b p1))])) _
          refine XS.lstoreN X0.here hx rfl (hb hby at_7) rfl (l' := #[.val (.int p0), .val (.int p1), .val (.int p2), .val (.long (own_b p1)), .second, .unset, .unset, .unset, .unset, .unset, .unset, .unset, .unset]) rfl ?_
          show Steps p.tables e below (s₁.setTop (mkF m 8 #[.val (.int p0), .val (.int p1), .val (.int p2), .val (.long (own_b p1)), .second, .unset, .unset, .unset, .unset, .unset, .unset, .unset, .unset] [])) _
          refine XS.iloadN X0.here hx rfl (hb hby at_8) rfl ?_
          show Steps p.tables e below (s₁.setTop (mkF m 9 #[.val (.int p0), .val (.int p1), .val (.int p2), .val (.long (own_b p1)), .second, .unset, .unset, .unset, .unset, .unset, .unset, .unset, .unset] [(.int p2)])) _
          refine XS.iconst X0.here hx rfl (hb hby at_9) ?_
          show Steps p.tables e below (s₁.setTop (mkF m 10 #[.val (.int p0), .val (.int p1), .val (.int p2), .val (.long (own_b p1)), .second, .unset, .unset, .unset, .unset, .unset, .unset, .unset, .unset] [(.int (1 : Int32)), (.int p2)])) _
          refine XS.iand X0.here hx rfl (hb hby at_10) rfl ?_
          show Steps p.tables e below (s₁.setTop (mkF m 11 #[.val (.int p0), .val (.int p1), .val (.int p2), .val (.long (own_b p1)), .second, .unset, .unset, .unset, .unset, .unset, .unset, .unset, .unset] [(.int (p2 &&& (1 : Int32)))])) _
          refine XS.ifNo X0.here hx rfl (hb hby at_11) rfl ((if0 _ _).trans (feq hf).1) ?_
          show Steps p.tables e below (s₁.setTop (mkF m 14 #[.val (.int p0), .val (.int p1), .val (.int p2), .val (.long (own_b p1)), .second, .unset, .unset, .unset, .unset, .unset, .unset, .unset, .unset] [])) _
          refine XS.iconst X0.here hx rfl (hb hby at_14) ?_
          show Steps p.tables e below (s₁.setTop (mkF m 15 #[.val (.int p0), .val (.int p1), .val (.int p2), .val (.long (own_b p1)), .second, .unset, .unset, .unset, .unset, .unset, .unset, .unset, .unset] [(.int (1 : Int32))])) _
          refine XS.goto X0.here hx rfl (pc0 := 15) (pc' := 19) rfl (hb hby at_15) (by decide) (by decide) ?_
          show Steps p.tables e below (s₁.setTop (mkF m 19 #[.val (.int p0), .val (.int p1), .val (.int p2), .val (.long (own_b p1)), .second, .unset, .unset, .unset, .unset, .unset, .unset, .unset, .unset] [(.int (1 : Int32))])) _
          refine XS.istore X0.here hx rfl (hb hby at_19) rfl (l' := #[.val (.int p0), .val (.int p1), .val (.int p2), .val (.long (own_b p1)), .second, .val (.int (1 : Int32)), .unset, .unset, .unset, .unset, .unset, .unset, .unset]) rfl ?_
          show Steps p.tables e below (s₁.setTop (mkF m 21 #[.val (.int p0), .val (.int p1), .val (.int p2), .val (.long (own_b p1)), .second, .val (.int (1 : Int32)), .unset, .unset, .unset, .unset, .unset, .unset, .unset] [])) _
          refine XS.iload X0.here hx rfl (hb hby at_21) rfl ?_
          show Steps p.tables e below (s₁.setTop (mkF m 23 #[.val (.int p0), .val (.int p1), .val (.int p2), .val (.long (own_b p1)), .second, .val (.int (1 : Int32)), .unset, .unset, .unset, .unset, .unset, .unset, .unset] [(.int (1 : Int32))])) _
          refine XS.ifNo X0.here hx rfl (hb hby at_23) rfl (by decide) ?_
          show Steps p.tables e below (s₁.setTop (mkF m 26 #[.val (.int p0), .val (.int p1), .val (.int p2), .val (.long (own_b p1)), .second, .val (.int (1 : Int32)), .unset, .unset, .unset, .unset, .unset, .unset, .unset] [])) _
          refine XS.iloadN X0.here hx rfl (hb hby at_26) rfl ?_
          show Steps p.tables e below (s₁.setTop (mkF m 27 #[.val (.int p0), .val (.int p1), .val (.int p2), .val (.long (own_b p1)), .second, .val (.int (1 : Int32)), .unset, .unset, .unset, .unset, .unset, .unset, .unset] [(.int p0)])) _
          refine XS.i2l X0.here hx rfl (hb hby at_27) rfl ?_
          show Steps p.tables e below (s₁.setTop (mkF m 28 #[.val (.int p0), .val (.int p1), .val (.int p2), .val (.long (own_b p1)), .second, .val (.int (1 : Int32)), .unset, .unset, .unset, .unset, .unset, .unset, .unset] [(.long (p0.toInt64))])) _
          refine XS.lneg X0.here hx rfl (hb hby at_28) rfl ?_
          show Steps p.tables e below (s₁.setTop (mkF m 29 #[.val (.int p0), .val (.int p1), .val (.int p2), .val (.long (own_b p1)), .second, .val (.int (1 : Int32)), .unset, .unset, .unset, .unset, .unset, .unset, .unset] [(.long (-(p0.toInt64)))])) _
          refine XS.goto X0.here hx rfl (pc0 := 29) (pc' := 34) rfl (hb hby at_29) (by decide) (by decide) ?_
          show Steps p.tables e below (s₁.setTop (mkF m 34 #[.val (.int p0), .val (.int p1), .val (.int p2), .val (.long (own_b p1)), .second, .val (.int (1 : Int32)), .unset, .unset, .unset, .unset, .unset, .unset, .unset] [(.long (-(p0.toInt64)))])) _
          refine XS.lstore X0.here hx rfl (hb hby at_34) rfl (l' := #[.val (.int p0), .val (.int p1), .val (.int p2), .val (.long (own_b p1)), .second, .val (.int (1 : Int32)), .val (.long (-(p0.toInt64))), .second, .unset, .unset, .unset, .unset, .unset]) rfl ?_
          show Steps p.tables e below (s₁.setTop (mkF m 36 #[.val (.int p0), .val (.int p1), .val (.int p2), .val (.long (own_b p1)), .second, .val (.int (1 : Int32)), .val (.long (-(p0.toInt64))), .second, .unset, .unset, .unset, .unset, .unset] [])) _
          refine XS.iloadN X0.here hx rfl (hb hby at_36) rfl ?_
          show Steps p.tables e below (s₁.setTop (mkF m 37 #[.val (.int p0), .val (.int p1), .val (.int p2), .val (.long (own_b p1)), .second, .val (.int (1 : Int32)), .val (.long (-(p0.toInt64))), .second, .unset, .unset, .unset, .unset, .unset] [(.int p0)])) _
          refine XS.i2dS X0.here hx rfl (v := (FP.i2d p0)) (hb hby at_37) rfl rfl ?_
          show Steps p.tables e below (s₁.setTop (mkF m 38 #[.val (.int p0), .val (.int p1), .val (.int p2), .val (.long (own_b p1)), .second, .val (.int (1 : Int32)), .val (.long (-(p0.toInt64))), .second, .unset, .unset, .unset, .unset, .unset] [(.double (FP.i2d p0))])) _
          refine XS.lloadN X0.here hx rfl (hb hby at_38) rfl ?_
          show Steps p.tables e below (s₁.setTop (mkF m 39 #[.val (.int p0), .val (.int p1), .val (.int p2), .val (.long (own_b p1)), .second, .val (.int (1 : Int32)), .val (.long (-(p0.toInt64))), .second, .unset, .unset, .unset, .unset, .unset] [(.long (own_b p1)), (.double (FP.i2d p0))])) _
          refine XS.l2dS X0.here hx rfl (v := (FP.l2d (own_b p1))) (hb hby at_39) rfl rfl ?_
          show Steps p.tables e below (s₁.setTop (mkF m 40 #[.val (.int p0), .val (.int p1), .val (.int p2), .val (.long (own_b p1)), .second, .val (.int (1 : Int32)), .val (.long (-(p0.toInt64))), .second, .unset, .unset, .unset, .unset, .unset] [(.double (FP.l2d (own_b p1))), (.double (FP.i2d p0))])) _
          refine XS.ddivS X0.here hx rfl (v := (FP.ddiv (FP.i2d p0) (FP.l2d (own_b p1)))) (hb hby at_40) rfl hq.noNaN rfl ?_
          show Steps p.tables e below (s₁.setTop (mkF m 41 #[.val (.int p0), .val (.int p1), .val (.int p2), .val (.long (own_b p1)), .second, .val (.int (1 : Int32)), .val (.long (-(p0.toInt64))), .second, .unset, .unset, .unset, .unset, .unset] [(.double (FP.ddiv (FP.i2d p0) (FP.l2d (own_b p1))))])) _
          refine XS.dstore X0.here hx rfl (hb hby at_41) rfl (l' := #[.val (.int p0), .val (.int p1), .val (.int p2), .val (.long (own_b p1)), .second, .val (.int (1 : Int32)), .val (.long (-(p0.toInt64))), .second, .val (.double (FP.ddiv (FP.i2d p0) (FP.l2d (own_b p1)))), .second, .unset, .unset, .unset]) rfl ?_
          show Steps p.tables e below (s₁.setTop (mkF m 43 #[.val (.int p0), .val (.int p1), .val (.int p2), .val (.long (own_b p1)), .second, .val (.int (1 : Int32)), .val (.long (-(p0.toInt64))), .second, .val (.double (FP.ddiv (FP.i2d p0) (FP.l2d (own_b p1)))), .second, .unset, .unset, .unset] [])) _
          refine XS.iload X0.here hx rfl (hb hby at_43) rfl ?_
          show Steps p.tables e below (s₁.setTop (mkF m 45 #[.val (.int p0), .val (.int p1), .val (.int p2), .val (.long (own_b p1)), .second, .val (.int (1 : Int32)), .val (.long (-(p0.toInt64))), .second, .val (.double (FP.ddiv (FP.i2d p0) (FP.l2d (own_b p1)))), .second, .unset, .unset, .unset] [(.int (1 : Int32))])) _
          refine XS.ifNo X0.here hx rfl (hb hby at_45) rfl (by decide) ?_
          show Steps p.tables e below (s₁.setTop (mkF m 48 #[.val (.int p0), .val (.int p1), .val (.int p2), .val (.long (own_b p1)), .second, .val (.int (1 : Int32)), .val (.long (-(p0.toInt64))), .second, .val (.double (FP.ddiv (FP.i2d p0) (FP.l2d (own_b p1)))), .second, .unset, .unset, .unset] [])) _
          refine XS.dload X0.here hx rfl (hb hby at_48) rfl ?_
          show Steps p.tables e below (s₁.setTop (mkF m 50 #[.val (.int p0), .val (.int p1), .val (.int p2), .val (.long (own_b p1)), .second, .val (.int (1 : Int32)), .val (.long (-(p0.toInt64))), .second, .val (.double (FP.ddiv (FP.i2d p0) (FP.l2d (own_b p1)))), .second, .unset, .unset, .unset] [(.double (FP.ddiv (FP.i2d p0) (FP.l2d (own_b p1))))])) _
          refine XS.dnegS X0.here hx rfl (v := (FP.dneg (FP.ddiv (FP.i2d p0) (FP.l2d (own_b p1))))) (hb hby at_50) rfl rfl ?_
          show Steps p.tables e below (s₁.setTop (mkF m 51 #[.val (.int p0), .val (.int p1), .val (.int p2), .val (.long (own_b p1)), .second, .val (.int (1 : Int32)), .val (.long (-(p0.toInt64))), .second, .val (.double (FP.ddiv (FP.i2d p0) (FP.l2d (own_b p1)))), .second, .unset, .unset, .unset] [(.double (FP.dneg (FP.ddiv (FP.i2d p0) (FP.l2d (own_b p1)))))])) _
          refine XS.goto X0.here hx rfl (pc0 := 51) (pc' := 56) rfl (hb hby at_51) (by decide) (by decide) ?_
          show Steps p.tables e below (s₁.setTop (mkF m 56 #[.val (.int p0), .val (.int p1), .val (.int p2), .val (.long (own_b p1)), .second, .val (.int (1 : Int32)), .val (.long (-(p0.toInt64))), .second, .val (.double (FP.ddiv (FP.i2d p0) (FP.l2d (own_b p1)))), .second, .unset, .unset, .unset] [(.double (FP.dneg (FP.ddiv (FP.i2d p0) (FP.l2d (own_b p1)))))])) _
          refine XS.dstore X0.here hx rfl (hb hby at_56) rfl (l' := #[.val (.int p0), .val (.int p1), .val (.int p2), .val (.long (own_b p1)), .second, .val (.int (1 : Int32)), .val (.long (-(p0.toInt64))), .second, .val (.double (FP.ddiv (FP.i2d p0) (FP.l2d (own_b p1)))), .second, .val (.double (FP.dneg (FP.ddiv (FP.i2d p0) (FP.l2d (own_b p1))))), .second, .unset]) rfl ?_
          show Steps p.tables e below (s₁.setTop (mkF m 58 #[.val (.int p0), .val (.int p1), .val (.int p2), .val (.long (own_b p1)), .second, .val (.int (1 : Int32)), .val (.long (-(p0.toInt64))), .second, .val (.double (FP.ddiv (FP.i2d p0) (FP.l2d (own_b p1)))), .second, .val (.double (FP.dneg (FP.ddiv (FP.i2d p0) (FP.l2d (own_b p1))))), .second, .unset] [])) _
          refine XS.lload X0.here hx rfl (hb hby at_58) rfl ?_
          show Steps p.tables e below (s₁.setTop (mkF m 60 #[.val (.int p0), .val (.int p1), .val (.int p2), .val (.long (own_b p1)), .second, .val (.int (1 : Int32)), .val (.long (-(p0.toInt64))), .second, .val (.double (FP.ddiv (FP.i2d p0) (FP.l2d (own_b p1)))), .second, .val (.double (FP.dneg (FP.ddiv (FP.i2d p0) (FP.l2d (own_b p1))))), .second, .unset] [(.long (-(p0.toInt64)))])) _
          refine XS.lconst X0.here hx rfl (hb hby at_60) ?_
          show Steps p.tables e below (s₁.setTop (mkF m 61 #[.val (.int p0), .val (.int p1), .val (.int p2), .val (.long (own_b p1)), .second, .val (.int (1 : Int32)), .val (.long (-(p0.toInt64))), .second, .val (.double (FP.ddiv (FP.i2d p0) (FP.l2d (own_b p1)))), .second, .val (.double (FP.dneg (FP.ddiv (FP.i2d p0) (FP.l2d (own_b p1))))), .second, .unset] [(.long (0 : Int64)), (.long (-(p0.toInt64)))])) _
          refine XS.lcmp X0.here hx rfl (hb hby at_61) rfl ?_
          show Steps p.tables e below (s₁.setTop (mkF m 62 #[.val (.int p0), .val (.int p1), .val (.int p2), .val (.long (own_b p1)), .second, .val (.int (1 : Int32)), .val (.long (-(p0.toInt64))), .second, .val (.double (FP.ddiv (FP.i2d p0) (FP.l2d (own_b p1)))), .second, .val (.double (FP.dneg (FP.ddiv (FP.i2d p0) (FP.l2d (own_b p1))))), .second, .unset] [(.int (lcmpW (-(p0.toInt64)) (0 : Int64)))])) _
          refine XS.ifNo X0.here hx rfl (hb hby at_62) rfl ((if0 _ _).trans (flt (fun q => hA ((lw_lt _ _).mp q))).1) ?_
          show Steps p.tables e below (s₁.setTop (mkF m 65 #[.val (.int p0), .val (.int p1), .val (.int p2), .val (.long (own_b p1)), .second, .val (.int (1 : Int32)), .val (.long (-(p0.toInt64))), .second, .val (.double (FP.ddiv (FP.i2d p0) (FP.l2d (own_b p1)))), .second, .val (.double (FP.dneg (FP.ddiv (FP.i2d p0) (FP.l2d (own_b p1))))), .second, .unset] [])) _
          refine XS.lload X0.here hx rfl (hb hby at_65) rfl ?_
          show Steps p.tables e below (s₁.setTop (mkF m 67 #[.val (.int p0), .val (.int p1), .val (.int p2), .val (.long (own_b p1)), .second, .val (.int (1 : Int32)), .val (.long (-(p0.toInt64))), .second, .val (.double (FP.ddiv (FP.i2d p0) (FP.l2d (own_b p1)))), .second, .val (.double (FP.dneg (FP.ddiv (FP.i2d p0) (FP.l2d (own_b p1))))), .second, .unset] [(.long (-(p0.toInt64)))])) _
          refine XS.lloadN X0.here hx rfl (hb hby at_67) rfl ?_
          show Steps p.tables e below (s₁.setTop (mkF m 68 #[.val (.int p0), .val (.int p1), .val (.int p2), .val (.long (own_b p1)), .second, .val (.int (1 : Int32)), .val (.long (-(p0.toInt64))), .second, .val (.double (FP.ddiv (FP.i2d p0) (FP.l2d (own_b p1)))), .second, .val (.double (FP.dneg (FP.ddiv (FP.i2d p0) (FP.l2d (own_b p1))))), .second, .unset] [(.long (own_b p1)), (.long (-(p0.toInt64)))])) _
          refine XS.lcmp X0.here hx rfl (hb hby at_68) rfl ?_
          show Steps p.tables e below (s₁.setTop (mkF m 69 #[.val (.int p0), .val (.int p1), .val (.int p2), .val (.long (own_b p1)), .second, .val (.int (1 : Int32)), .val (.long (-(p0.toInt64))), .second, .val (.double (FP.ddiv (FP.i2d p0) (FP.l2d (own_b p1)))), .second, .val (.double (FP.dneg (FP.ddiv (FP.i2d p0) (FP.l2d (own_b p1))))), .second, .unset] [(.int (lcmpW (-(p0.toInt64)) (own_b p1)))])) _
          refine XS.ifYes X0.here hx rfl (pc0 := 69) (pc' := 76) rfl (hb hby at_69) rfl ((if0 _ _).trans (flt (fun q => hB ((lw_lt _ _).mp q))).2.1) (by decide) (by decide) ?_
          show Steps p.tables e below (s₁.setTop (mkF m 76 #[.val (.int p0), .val (.int p1), .val (.int p2), .val (.long (own_b p1)), .second, .val (.int (1 : Int32)), .val (.long (-(p0.toInt64))), .second, .val (.double (FP.ddiv (FP.i2d p0) (FP.l2d (own_b p1)))), .second, .val (.double (FP.dneg (FP.ddiv (FP.i2d p0) (FP.l2d (own_b p1))))), .second, .unset] [])) _
          refine XS.iconst X0.here hx rfl (hb hby at_76) ?_
          show Steps p.tables e below (s₁.setTop (mkF m 77 #[.val (.int p0), .val (.int p1), .val (.int p2), .val (.long (own_b p1)), .second, .val (.int (1 : Int32)), .val (.long (-(p0.toInt64))), .second, .val (.double (FP.ddiv (FP.i2d p0) (FP.l2d (own_b p1)))), .second, .val (.double (FP.dneg (FP.ddiv (FP.i2d p0) (FP.l2d (own_b p1))))), .second, .unset] [(.int (0 : Int32))])) _
          refine XS.istore X0.here hx rfl (hb hby at_77) rfl (l' := #[.val (.int p0), .val (.int p1), .val (.int p2), .val (.long (own_b p1)), .second, .val (.int (1 : Int32)), .val (.long (-(p0.toInt64))), .second, .val (.double (FP.ddiv (FP.i2d p0) (FP.l2d (own_b p1)))), .second, .val (.double (FP.dneg (FP.ddiv (FP.i2d p0) (FP.l2d (own_b p1))))), .second, .val (.int (0 : Int32))]) rfl ?_
          show Steps p.tables e below (s₁.setTop (mkF m 79 #[.val (.int p0), .val (.int p1), .val (.int p2), .val (.long (own_b p1)), .second, .val (.int (1 : Int32)), .val (.long (-(p0.toInt64))), .second, .val (.double (FP.ddiv (FP.i2d p0) (FP.l2d (own_b p1)))), .second, .val (.double (FP.dneg (FP.ddiv (FP.i2d p0) (FP.l2d (own_b p1))))), .second, .val (.int (0 : Int32))] [])) _
          refine XS.dload X0.here hx rfl (hb hby at_79) rfl ?_
          show Steps p.tables e below (s₁.setTop (mkF m 81 #[.val (.int p0), .val (.int p1), .val (.int p2), .val (.long (own_b p1)), .second, .val (.int (1 : Int32)), .val (.long (-(p0.toInt64))), .second, .val (.double (FP.ddiv (FP.i2d p0) (FP.l2d (own_b p1)))), .second, .val (.double (FP.dneg (FP.ddiv (FP.i2d p0) (FP.l2d (own_b p1))))), .second, .val (.int (0 : Int32))] [(.double (FP.dneg (FP.ddiv (FP.i2d p0) (FP.l2d (own_b p1)))))])) _
          refine st1 _ ?_
          show Steps p.tables e below (T1.setTop (mkF m 84 #[.val (.int p0), .val (.int p1), .val (.int p2), .val (.long (own_b p1)), .second, .val (.int (1 : Int32)), .val (.long (-(p0.toInt64))), .second, .val (.double (FP.ddiv (FP.i2d p0) (FP.l2d (own_b p1)))), .second, .val (.double (FP.dneg (FP.ddiv (FP.i2d p0) (FP.l2d (own_b p1))))), .second, .val (.int (0 : Int32))] [(.int (0 : Int32))])) _
          refine XS.iload X1.here hx rfl (hb hby at_84) rfl ?_
          show Steps p.tables e below (T1.setTop (mkF m 86 #[.val (.int p0), .val (.int p1), .val (.int p2), .val (.long (own_b p1)), .second, .val (.int (1 : Int32)), .val (.long (-(p0.toInt64))), .second, .val (.double (FP.ddiv (FP.i2d p0) (FP.l2d (own_b p1)))), .second, .val (.double (FP.dneg (FP.ddiv (FP.i2d p0) (FP.l2d (own_b p1))))), .second, .val (.int (0 : Int32))] [(.int (0 : Int32)), (.int (0 : Int32))])) _
          refine XS.icmpNo X1.here hx rfl (hb hby at_86) rfl (by decide) ?_
          show Steps p.tables e below (T1.setTop (mkF m 89 #[.val (.int p0), .val (.int p1), .val (.int p2), .val (.long (own_b p1)), .second, .val (.int (1 : Int32)), .val (.long (-(p0.toInt64))), .second, .val (.double (FP.ddiv (FP.i2d p0) (FP.l2d (own_b p1)))), .second, .val (.double (FP.dneg (FP.ddiv (FP.i2d p0) (FP.l2d (own_b p1))))), .second, .val (.int (0 : Int32))] [])) _
          refine XS.iconst X1.here hx rfl (hb hby at_89) ?_
          show Steps p.tables e below (T1.setTop (mkF m 90 #[.val (.int p0), .val (.int p1), .val (.int p2), .val (.long (own_b p1)), .second, .val (.int (1 : Int32)), .val (.long (-(p0.toInt64))), .second, .val (.double (FP.ddiv (FP.i2d p0) (FP.l2d (own_b p1)))), .second, .val (.double (FP.dneg (FP.ddiv (FP.i2d p0) (FP.l2d (own_b p1))))), .second, .val (.int (0 : Int32))] [(.int (1 : Int32))])) _
          refine XS.goto X1.here hx rfl (pc0 := 90) (pc' := 94) rfl (hb hby at_90) (by decide) (by decide) ?_
          show Steps p.tables e below (T1.setTop (mkF m 94 #[.val (.int p0), .val (.int p1), .val (.int p2), .val (.long (own_b p1)), .second, .val (.int (1 : Int32)), .val (.long (-(p0.toInt64))), .second, .val (.double (FP.ddiv (FP.i2d p0) (FP.l2d (own_b p1)))), .second, .val (.double (FP.dneg (FP.ddiv (FP.i2d p0) (FP.l2d (own_b p1))))), .second, .val (.int (0 : Int32))] [(.int (1 : Int32))])) _
          exact retN X1 hx (t := .boolean) Bd.returns (by simp) (hb hby at_94) hr
        · exact ⟨rfl, N1⟩
      · obtain ⟨_, _, ⟨T1, L1, k1, n1⟩, -, X1, ⟨Lc1, hQ1, l1, y1, z1⟩, st1⟩ := Jvm.LawKit.callS X0 hx (y := (⟨"com/example/kudos_for_datasets/kudosfordatasets/PageRank", "isDamping", "(D)Z"⟩ : MethodName)) hown (mvT hZ (hw _ (List.mem_of_getElem? (i := 1) rfl))) (mvT hZ (hw _ (List.mem_of_getElem? (i := 2) rfl))) (mvT hZ (hw _ (List.mem_of_getElem? (i := 3) rfl))) (mvT hZ (hw _ (List.mem_of_getElem? (i := 4) rfl))) (by decide) (backOf (W := 0) (rmD l Z a0 hw [] (FP.dneg (FP.ddiv (FP.i2d p0) (FP.l2d (own_b p1)))) (1 : Int32) h0 n0 Z0 (hd.2.2 (by rw [Int64.lt_iff_toInt_lt] at hA; omega) (by rw [Int64.lt_iff_toInt_lt] at hB; omega))) hZ (hw _ (List.mem_of_getElem? (i := 4) rfl)) (hw _ (List.mem_of_getElem? (i := 3) rfl)) (by decide) (by decide)) (g := (mkF m 81 #[.val (.int p0), .val (.int p1), .val (.int p2), .val (.long (own_b p1)), .second, .val (.int (1 : Int32)), .val (.long (-(p0.toInt64))), .second, .val (.double (FP.ddiv (FP.i2d p0) (FP.l2d (own_b p1)))), .second, .val (.double (FP.dneg (FP.ddiv (FP.i2d p0) (FP.l2d (own_b p1))))), .second, .val (.int (1 : Int32))] [(.double (FP.dneg (FP.ddiv (FP.i2d p0) (FP.l2d (own_b p1)))))])) rfl (by rw [hml]; rfl) (argsL := [(.double (FP.dneg (FP.ddiv (FP.i2d p0) (FP.l2d (own_b p1)))))]) (rest := []) (lenOf pdD rfl) rfl (by show 2 * 0 + _ ≤ _; exact Nat.le_of_eq rfl) (hb hby at_81) (fun _ _ => ⟨rfl, e0, (by decide : 0 + 0 ≤ _), (by decide : 0 + 0 ≤ _)⟩)
        dsimp only [Pt.U, Pt.locs, Pt.cells, Pt.slots] at X1 l1 y1 z1 st1 hQ1
        subst l1 y1 z1
        obtain ⟨rfl, N1q, e1⟩ := hQ1
        have N1 := Fr.app N0 N1q
        obtain ⟨fs, hr, hrun, hended, hW, hsame⟩ := X1.leave (v := some (.int (1 : Int32))) (fun h => by rw [Bd.returns] at h; cases h)
        refine ⟨_, _, pre0 _ ?_, hrun, hended, _, _, rfl, ?_, ⟨_, rfl⟩, hW, hsame.mono (by decide) (by decide)⟩
        · skip
          show Steps p.tables e below (s₁.setTop (mkF m 0 #[.val (.int p0), .val (.int p1), .val (.int p2), .unset, .unset, .unset, .unset, .unset, .unset, .unset, .unset, .unset, .unset] [])) _
          refine XS.iloadN X0.here hx rfl (hb hby at_0) rfl ?_
          show Steps p.tables e below (s₁.setTop (mkF m 1 #[.val (.int p0), .val (.int p1), .val (.int p2), .unset, .unset, .unset, .unset, .unset, .unset, .unset, .unset, .unset, .unset] [(.int p1)])) _
          refine X0.ldcInt hx hown (mvT hZ (hw _ (List.mem_of_getElem? (i := 0) rfl))) (g := (mkF m 1 #[.val (.int p0), .val (.int p1), .val (.int p2), .unset, .unset, .unset, .unset, .unset, .unset, .unset, .unset, .unset, .unset] [(.int p1)])) rfl (hb hby at_1) _ ?_
          show Steps p.tables e below (s₁.setTop (mkF m 3 #[.val (.int p0), .val (.int p1), .val (.int p2), .unset, .unset, .unset, .unset, .unset, .unset, .unset, .unset, .unset, .unset] [(.int (16777215 : Int32)), (.int p1)])) _
          refine XS.iand X0.here hx rfl (hb hby at_3) rfl ?_
          show Steps p.tables e below (s₁.setTop (mkF m 4 #[.val (.int p0), .val (.int p1), .val (.int p2), .unset, .unset, .unset, .unset, .unset, .unset, .unset, .unset, .unset, .unset] [(.int (p1 &&& (16777215 : Int32)))])) _
          refine XS.i2l X0.here hx rfl (hb hby at_4) rfl ?_
          show Steps p.tables e below (s₁.setTop (mkF m 5 #[.val (.int p0), .val (.int p1), .val (.int p2), .unset, .unset, .unset, .unset, .unset, .unset, .unset, .unset, .unset, .unset] [(.long ((p1 &&& (16777215 : Int32)).toInt64))])) _
          refine XS.lconst X0.here hx rfl (hb hby at_5) ?_
          show Steps p.tables e below (s₁.setTop (mkF m 6 #[.val (.int p0), .val (.int p1), .val (.int p2), .unset, .unset, .unset, .unset, .unset, .unset, .unset, .unset, .unset, .unset] [(.long (1 : Int64)), (.long ((p1 &&& (16777215 : Int32)).toInt64))])) _
          refine XS.ladd X0.here hx rfl (hb hby at_6) rfl ?_
          show Steps p.tables e below (s₁.setTop (mkF m 7 #[.val (.int p0), .val (.int p1), .val (.int p2), .unset, .unset, .unset, .unset, .unset, .unset, .unset, .unset, .unset, .unset] [(.long (own_b p1))])) _
          refine XS.lstoreN X0.here hx rfl (hb hby at_7) rfl (l' := #[.val (.int p0), .val (.int p1), .val (.int p2), .val (.long (own_b p1)), .second, .unset, .unset, .unset, .unset, .unset, .unset, .unset, .unset]) rfl ?_
          show Steps p.tables e below (s₁.setTop (mkF m 8 #[.val (.int p0), .val (.int p1), .val (.int p2), .val (.long (own_b p1)), .second, .unset, .unset, .unset, .unset, .unset, .unset, .unset, .unset] [])) _
          refine XS.iloadN X0.here hx rfl (hb hby at_8) rfl ?_
          show Steps p.tables e below (s₁.setTop (mkF m 9 #[.val (.int p0), .val (.int p1), .val (.int p2), .val (.long (own_b p1)), .second, .unset, .unset, .unset, .unset, .unset, .unset, .unset, .unset] [(.int p2)])) _
          refine XS.iconst X0.here hx rfl (hb hby at_9) ?_
          show Steps p.tables e below (s₁.setTop (mkF m 10 #[.val (.int p0), .val (.int p1), .val (.int p2), .val (.long (own_b p1)), .second, .unset, .unset, .unset, .unset, .unset, .unset, .unset, .unset] [(.int (1 : Int32)), (.int p2)])) _
          refine XS.iand X0.here hx rfl (hb hby at_10) rfl ?_
          show Steps p.tables e below (s₁.setTop (mkF m 11 #[.val (.int p0), .val (.int p1), .val (.int p2), .val (.long (own_b p1)), .second, .unset, .unset, .unset, .unset, .unset, .unset, .unset, .unset] [(.int (p2 &&& (1 : Int32)))])) _
          refine XS.ifNo X0.here hx rfl (hb hby at_11) rfl ((if0 _ _).trans (feq hf).1) ?_
          show Steps p.tables e below (s₁.setTop (mkF m 14 #[.val (.int p0), .val (.int p1), .val (.int p2), .val (.long (own_b p1)), .second, .unset, .unset, .unset, .unset, .unset, .unset, .unset, .unset] [])) _
          refine XS.iconst X0.here hx rfl (hb hby at_14) ?_
          show Steps p.tables e below (s₁.setTop (mkF m 15 #[.val (.int p0), .val (.int p1), .val (.int p2), .val (.long (own_b p1)), .second, .unset, .unset, .unset, .unset, .unset, .unset, .unset, .unset] [(.int (1 : Int32))])) _
          refine XS.goto X0.here hx rfl (pc0 := 15) (pc' := 19) rfl (hb hby at_15) (by decide) (by decide) ?_
          show Steps p.tables e below (s₁.setTop (mkF m 19 #[.val (.int p0), .val (.int p1), .val (.int p2), .val (.long (own_b p1)), .second, .unset, .unset, .unset, .unset, .unset, .unset, .unset, .unset] [(.int (1 : Int32))])) _
          refine XS.istore X0.here hx rfl (hb hby at_19) rfl (l' := #[.val (.int p0), .val (.int p1), .val (.int p2), .val (.long (own_b p1)), .second, .val (.int (1 : Int32)), .unset, .unset, .unset, .unset, .unset, .unset, .unset]) rfl ?_
          show Steps p.tables e below (s₁.setTop (mkF m 21 #[.val (.int p0), .val (.int p1), .val (.int p2), .val (.long (own_b p1)), .second, .val (.int (1 : Int32)), .unset, .unset, .unset, .unset, .unset, .unset, .unset] [])) _
          refine XS.iload X0.here hx rfl (hb hby at_21) rfl ?_
          show Steps p.tables e below (s₁.setTop (mkF m 23 #[.val (.int p0), .val (.int p1), .val (.int p2), .val (.long (own_b p1)), .second, .val (.int (1 : Int32)), .unset, .unset, .unset, .unset, .unset, .unset, .unset] [(.int (1 : Int32))])) _
          refine XS.ifNo X0.here hx rfl (hb hby at_23) rfl (by decide) ?_
          show Steps p.tables e below (s₁.setTop (mkF m 26 #[.val (.int p0), .val (.int p1), .val (.int p2), .val (.long (own_b p1)), .second, .val (.int (1 : Int32)), .unset, .unset, .unset, .unset, .unset, .unset, .unset] [])) _
          refine XS.iloadN X0.here hx rfl (hb hby at_26) rfl ?_
          show Steps p.tables e below (s₁.setTop (mkF m 27 #[.val (.int p0), .val (.int p1), .val (.int p2), .val (.long (own_b p1)), .second, .val (.int (1 : Int32)), .unset, .unset, .unset, .unset, .unset, .unset, .unset] [(.int p0)])) _
          refine XS.i2l X0.here hx rfl (hb hby at_27) rfl ?_
          show Steps p.tables e below (s₁.setTop (mkF m 28 #[.val (.int p0), .val (.int p1), .val (.int p2), .val (.long (own_b p1)), .second, .val (.int (1 : Int32)), .unset, .unset, .unset, .unset, .unset, .unset, .unset] [(.long (p0.toInt64))])) _
          refine XS.lneg X0.here hx rfl (hb hby at_28) rfl ?_
          show Steps p.tables e below (s₁.setTop (mkF m 29 #[.val (.int p0), .val (.int p1), .val (.int p2), .val (.long (own_b p1)), .second, .val (.int (1 : Int32)), .unset, .unset, .unset, .unset, .unset, .unset, .unset] [(.long (-(p0.toInt64)))])) _
          refine XS.goto X0.here hx rfl (pc0 := 29) (pc' := 34) rfl (hb hby at_29) (by decide) (by decide) ?_
          show Steps p.tables e below (s₁.setTop (mkF m 34 #[.val (.int p0), .val (.int p1), .val (.int p2), .val (.long (own_b p1)), .second, .val (.int (1 : Int32)), .unset, .unset, .unset, .unset, .unset, .unset, .unset] [(.long (-(p0.toInt64)))])) _
          refine XS.lstore X0.here hx rfl (hb hby at_34) rfl (l' := #[.val (.int p0), .val (.int p1), .val (.int p2), .val (.long (own_b p1)), .second, .val (.int (1 : Int32)), .val (.long (-(p0.toInt64))), .second, .unset, .unset, .unset, .unset, .unset]) rfl ?_
          show Steps p.tables e below (s₁.setTop (mkF m 36 #[.val (.int p0), .val (.int p1), .val (.int p2), .val (.long (own_b p1)), .second, .val (.int (1 : Int32)), .val (.long (-(p0.toInt64))), .second, .unset, .unset, .unset, .unset, .unset] [])) _
          refine XS.iloadN X0.here hx rfl (hb hby at_36) rfl ?_
          show Steps p.tables e below (s₁.setTop (mkF m 37 #[.val (.int p0), .val (.int p1), .val (.int p2), .val (.long (own_b p1)), .second, .val (.int (1 : Int32)), .val (.long (-(p0.toInt64))), .second, .unset, .unset, .unset, .unset, .unset] [(.int p0)])) _
          refine XS.i2dS X0.here hx rfl (v := (FP.i2d p0)) (hb hby at_37) rfl rfl ?_
          show Steps p.tables e below (s₁.setTop (mkF m 38 #[.val (.int p0), .val (.int p1), .val (.int p2), .val (.long (own_b p1)), .second, .val (.int (1 : Int32)), .val (.long (-(p0.toInt64))), .second, .unset, .unset, .unset, .unset, .unset] [(.double (FP.i2d p0))])) _
          refine XS.lloadN X0.here hx rfl (hb hby at_38) rfl ?_
          show Steps p.tables e below (s₁.setTop (mkF m 39 #[.val (.int p0), .val (.int p1), .val (.int p2), .val (.long (own_b p1)), .second, .val (.int (1 : Int32)), .val (.long (-(p0.toInt64))), .second, .unset, .unset, .unset, .unset, .unset] [(.long (own_b p1)), (.double (FP.i2d p0))])) _
          refine XS.l2dS X0.here hx rfl (v := (FP.l2d (own_b p1))) (hb hby at_39) rfl rfl ?_
          show Steps p.tables e below (s₁.setTop (mkF m 40 #[.val (.int p0), .val (.int p1), .val (.int p2), .val (.long (own_b p1)), .second, .val (.int (1 : Int32)), .val (.long (-(p0.toInt64))), .second, .unset, .unset, .unset, .unset, .unset] [(.double (FP.l2d (own_b p1))), (.double (FP.i2d p0))])) _
          refine XS.ddivS X0.here hx rfl (v := (FP.ddiv (FP.i2d p0) (FP.l2d (own_b p1)))) (hb hby at_40) rfl hq.noNaN rfl ?_
          show Steps p.tables e below (s₁.setTop (mkF m 41 #[.val (.int p0), .val (.int p1), .val (.int p2), .val (.long (own_b p1)), .second, .val (.int (1 : Int32)), .val (.long (-(p0.toInt64))), .second, .unset, .unset, .unset, .unset, .unset] [(.double (FP.ddiv (FP.i2d p0) (FP.l2d (own_b p1))))])) _
          refine XS.dstore X0.here hx rfl (hb hby at_41) rfl (l' := #[.val (.int p0), .val (.int p1), .val (.int p2), .val (.long (own_b p1)), .second, .val (.int (1 : Int32)), .val (.long (-(p0.toInt64))), .second, .val (.double (FP.ddiv (FP.i2d p0) (FP.l2d (own_b p1)))), .second, .unset, .unset, .unset]) rfl ?_
          show Steps p.tables e below (s₁.setTop (mkF m 43 #[.val (.int p0), .val (.int p1), .val (.int p2), .val (.long (own_b p1)), .second, .val (.int (1 : Int32)), .val (.long (-(p0.toInt64))), .second, .val (.double (FP.ddiv (FP.i2d p0) (FP.l2d (own_b p1)))), .second, .unset, .unset, .unset] [])) _
          refine XS.iload X0.here hx rfl (hb hby at_43) rfl ?_
          show Steps p.tables e below (s₁.setTop (mkF m 45 #[.val (.int p0), .val (.int p1), .val (.int p2), .val (.long (own_b p1)), .second, .val (.int (1 : Int32)), .val (.long (-(p0.toInt64))), .second, .val (.double (FP.ddiv (FP.i2d p0) (FP.l2d (own_b p1)))), .second, .unset, .unset, .unset] [(.int (1 : Int32))])) _
          refine XS.ifNo X0.here hx rfl (hb hby at_45) rfl (by decide) ?_
          show Steps p.tables e below (s₁.setTop (mkF m 48 #[.val (.int p0), .val (.int p1), .val (.int p2), .val (.long (own_b p1)), .second, .val (.int (1 : Int32)), .val (.long (-(p0.toInt64))), .second, .val (.double (FP.ddiv (FP.i2d p0) (FP.l2d (own_b p1)))), .second, .unset, .unset, .unset] [])) _
          refine XS.dload X0.here hx rfl (hb hby at_48) rfl ?_
          show Steps p.tables e below (s₁.setTop (mkF m 50 #[.val (.int p0), .val (.int p1), .val (.int p2), .val (.long (own_b p1)), .second, .val (.int (1 : Int32)), .val (.long (-(p0.toInt64))), .second, .val (.double (FP.ddiv (FP.i2d p0) (FP.l2d (own_b p1)))), .second, .unset, .unset, .unset] [(.double (FP.ddiv (FP.i2d p0) (FP.l2d (own_b p1))))])) _
          refine XS.dnegS X0.here hx rfl (v := (FP.dneg (FP.ddiv (FP.i2d p0) (FP.l2d (own_b p1))))) (hb hby at_50) rfl rfl ?_
          show Steps p.tables e below (s₁.setTop (mkF m 51 #[.val (.int p0), .val (.int p1), .val (.int p2), .val (.long (own_b p1)), .second, .val (.int (1 : Int32)), .val (.long (-(p0.toInt64))), .second, .val (.double (FP.ddiv (FP.i2d p0) (FP.l2d (own_b p1)))), .second, .unset, .unset, .unset] [(.double (FP.dneg (FP.ddiv (FP.i2d p0) (FP.l2d (own_b p1)))))])) _
          refine XS.goto X0.here hx rfl (pc0 := 51) (pc' := 56) rfl (hb hby at_51) (by decide) (by decide) ?_
          show Steps p.tables e below (s₁.setTop (mkF m 56 #[.val (.int p0), .val (.int p1), .val (.int p2), .val (.long (own_b p1)), .second, .val (.int (1 : Int32)), .val (.long (-(p0.toInt64))), .second, .val (.double (FP.ddiv (FP.i2d p0) (FP.l2d (own_b p1)))), .second, .unset, .unset, .unset] [(.double (FP.dneg (FP.ddiv (FP.i2d p0) (FP.l2d (own_b p1)))))])) _
          refine XS.dstore X0.here hx rfl (hb hby at_56) rfl (l' := #[.val (.int p0), .val (.int p1), .val (.int p2), .val (.long (own_b p1)), .second, .val (.int (1 : Int32)), .val (.long (-(p0.toInt64))), .second, .val (.double (FP.ddiv (FP.i2d p0) (FP.l2d (own_b p1)))), .second, .val (.double (FP.dneg (FP.ddiv (FP.i2d p0) (FP.l2d (own_b p1))))), .second, .unset]) rfl ?_
          show Steps p.tables e below (s₁.setTop (mkF m 58 #[.val (.int p0), .val (.int p1), .val (.int p2), .val (.long (own_b p1)), .second, .val (.int (1 : Int32)), .val (.long (-(p0.toInt64))), .second, .val (.double (FP.ddiv (FP.i2d p0) (FP.l2d (own_b p1)))), .second, .val (.double (FP.dneg (FP.ddiv (FP.i2d p0) (FP.l2d (own_b p1))))), .second, .unset] [])) _
          refine XS.lload X0.here hx rfl (hb hby at_58) rfl ?_
          show Steps p.tables e below (s₁.setTop (mkF m 60 #[.val (.int p0), .val (.int p1), .val (.int p2), .val (.long (own_b p1)), .second, .val (.int (1 : Int32)), .val (.long (-(p0.toInt64))), .second, .val (.double (FP.ddiv (FP.i2d p0) (FP.l2d (own_b p1)))), .second, .val (.double (FP.dneg (FP.ddiv (FP.i2d p0) (FP.l2d (own_b p1))))), .second, .unset] [(.long (-(p0.toInt64)))])) _
          refine XS.lconst X0.here hx rfl (hb hby at_60) ?_
          show Steps p.tables e below (s₁.setTop (mkF m 61 #[.val (.int p0), .val (.int p1), .val (.int p2), .val (.long (own_b p1)), .second, .val (.int (1 : Int32)), .val (.long (-(p0.toInt64))), .second, .val (.double (FP.ddiv (FP.i2d p0) (FP.l2d (own_b p1)))), .second, .val (.double (FP.dneg (FP.ddiv (FP.i2d p0) (FP.l2d (own_b p1))))), .second, .unset] [(.long (0 : Int64)), (.long (-(p0.toInt64)))])) _
          refine XS.lcmp X0.here hx rfl (hb hby at_61) rfl ?_
          show Steps p.tables e below (s₁.setTop (mkF m 62 #[.val (.int p0), .val (.int p1), .val (.int p2), .val (.long (own_b p1)), .second, .val (.int (1 : Int32)), .val (.long (-(p0.toInt64))), .second, .val (.double (FP.ddiv (FP.i2d p0) (FP.l2d (own_b p1)))), .second, .val (.double (FP.dneg (FP.ddiv (FP.i2d p0) (FP.l2d (own_b p1))))), .second, .unset] [(.int (lcmpW (-(p0.toInt64)) (0 : Int64)))])) _
          refine XS.ifNo X0.here hx rfl (hb hby at_62) rfl ((if0 _ _).trans (flt (fun q => hA ((lw_lt _ _).mp q))).1) ?_
          show Steps p.tables e below (s₁.setTop (mkF m 65 #[.val (.int p0), .val (.int p1), .val (.int p2), .val (.long (own_b p1)), .second, .val (.int (1 : Int32)), .val (.long (-(p0.toInt64))), .second, .val (.double (FP.ddiv (FP.i2d p0) (FP.l2d (own_b p1)))), .second, .val (.double (FP.dneg (FP.ddiv (FP.i2d p0) (FP.l2d (own_b p1))))), .second, .unset] [])) _
          refine XS.lload X0.here hx rfl (hb hby at_65) rfl ?_
          show Steps p.tables e below (s₁.setTop (mkF m 67 #[.val (.int p0), .val (.int p1), .val (.int p2), .val (.long (own_b p1)), .second, .val (.int (1 : Int32)), .val (.long (-(p0.toInt64))), .second, .val (.double (FP.ddiv (FP.i2d p0) (FP.l2d (own_b p1)))), .second, .val (.double (FP.dneg (FP.ddiv (FP.i2d p0) (FP.l2d (own_b p1))))), .second, .unset] [(.long (-(p0.toInt64)))])) _
          refine XS.lloadN X0.here hx rfl (hb hby at_67) rfl ?_
          show Steps p.tables e below (s₁.setTop (mkF m 68 #[.val (.int p0), .val (.int p1), .val (.int p2), .val (.long (own_b p1)), .second, .val (.int (1 : Int32)), .val (.long (-(p0.toInt64))), .second, .val (.double (FP.ddiv (FP.i2d p0) (FP.l2d (own_b p1)))), .second, .val (.double (FP.dneg (FP.ddiv (FP.i2d p0) (FP.l2d (own_b p1))))), .second, .unset] [(.long (own_b p1)), (.long (-(p0.toInt64)))])) _
          refine XS.lcmp X0.here hx rfl (hb hby at_68) rfl ?_
          show Steps p.tables e below (s₁.setTop (mkF m 69 #[.val (.int p0), .val (.int p1), .val (.int p2), .val (.long (own_b p1)), .second, .val (.int (1 : Int32)), .val (.long (-(p0.toInt64))), .second, .val (.double (FP.ddiv (FP.i2d p0) (FP.l2d (own_b p1)))), .second, .val (.double (FP.dneg (FP.ddiv (FP.i2d p0) (FP.l2d (own_b p1))))), .second, .unset] [(.int (lcmpW (-(p0.toInt64)) (own_b p1)))])) _
          refine XS.ifNo X0.here hx rfl (hb hby at_69) rfl ((if0 _ _).trans (tlt ((lw_lt _ _).mpr hB)).2.1) ?_
          show Steps p.tables e below (s₁.setTop (mkF m 72 #[.val (.int p0), .val (.int p1), .val (.int p2), .val (.long (own_b p1)), .second, .val (.int (1 : Int32)), .val (.long (-(p0.toInt64))), .second, .val (.double (FP.ddiv (FP.i2d p0) (FP.l2d (own_b p1)))), .second, .val (.double (FP.dneg (FP.ddiv (FP.i2d p0) (FP.l2d (own_b p1))))), .second, .unset] [])) _
          refine XS.iconst X0.here hx rfl (hb hby at_72) ?_
          show Steps p.tables e below (s₁.setTop (mkF m 73 #[.val (.int p0), .val (.int p1), .val (.int p2), .val (.long (own_b p1)), .second, .val (.int (1 : Int32)), .val (.long (-(p0.toInt64))), .second, .val (.double (FP.ddiv (FP.i2d p0) (FP.l2d (own_b p1)))), .second, .val (.double (FP.dneg (FP.ddiv (FP.i2d p0) (FP.l2d (own_b p1))))), .second, .unset] [(.int (1 : Int32))])) _
          refine XS.goto X0.here hx rfl (pc0 := 73) (pc' := 77) rfl (hb hby at_73) (by decide) (by decide) ?_
          show Steps p.tables e below (s₁.setTop (mkF m 77 #[.val (.int p0), .val (.int p1), .val (.int p2), .val (.long (own_b p1)), .second, .val (.int (1 : Int32)), .val (.long (-(p0.toInt64))), .second, .val (.double (FP.ddiv (FP.i2d p0) (FP.l2d (own_b p1)))), .second, .val (.double (FP.dneg (FP.ddiv (FP.i2d p0) (FP.l2d (own_b p1))))), .second, .unset] [(.int (1 : Int32))])) _
          refine XS.istore X0.here hx rfl (hb hby at_77) rfl (l' := #[.val (.int p0), .val (.int p1), .val (.int p2), .val (.long (own_b p1)), .second, .val (.int (1 : Int32)), .val (.long (-(p0.toInt64))), .second, .val (.double (FP.ddiv (FP.i2d p0) (FP.l2d (own_b p1)))), .second, .val (.double (FP.dneg (FP.ddiv (FP.i2d p0) (FP.l2d (own_b p1))))), .second, .val (.int (1 : Int32))]) rfl ?_
          show Steps p.tables e below (s₁.setTop (mkF m 79 #[.val (.int p0), .val (.int p1), .val (.int p2), .val (.long (own_b p1)), .second, .val (.int (1 : Int32)), .val (.long (-(p0.toInt64))), .second, .val (.double (FP.ddiv (FP.i2d p0) (FP.l2d (own_b p1)))), .second, .val (.double (FP.dneg (FP.ddiv (FP.i2d p0) (FP.l2d (own_b p1))))), .second, .val (.int (1 : Int32))] [])) _
          refine XS.dload X0.here hx rfl (hb hby at_79) rfl ?_
          show Steps p.tables e below (s₁.setTop (mkF m 81 #[.val (.int p0), .val (.int p1), .val (.int p2), .val (.long (own_b p1)), .second, .val (.int (1 : Int32)), .val (.long (-(p0.toInt64))), .second, .val (.double (FP.ddiv (FP.i2d p0) (FP.l2d (own_b p1)))), .second, .val (.double (FP.dneg (FP.ddiv (FP.i2d p0) (FP.l2d (own_b p1))))), .second, .val (.int (1 : Int32))] [(.double (FP.dneg (FP.ddiv (FP.i2d p0) (FP.l2d (own_b p1)))))])) _
          refine st1 _ ?_
          show Steps p.tables e below (T1.setTop (mkF m 84 #[.val (.int p0), .val (.int p1), .val (.int p2), .val (.long (own_b p1)), .second, .val (.int (1 : Int32)), .val (.long (-(p0.toInt64))), .second, .val (.double (FP.ddiv (FP.i2d p0) (FP.l2d (own_b p1)))), .second, .val (.double (FP.dneg (FP.ddiv (FP.i2d p0) (FP.l2d (own_b p1))))), .second, .val (.int (1 : Int32))] [(.int (1 : Int32))])) _
          refine XS.iload X1.here hx rfl (hb hby at_84) rfl ?_
          show Steps p.tables e below (T1.setTop (mkF m 86 #[.val (.int p0), .val (.int p1), .val (.int p2), .val (.long (own_b p1)), .second, .val (.int (1 : Int32)), .val (.long (-(p0.toInt64))), .second, .val (.double (FP.ddiv (FP.i2d p0) (FP.l2d (own_b p1)))), .second, .val (.double (FP.dneg (FP.ddiv (FP.i2d p0) (FP.l2d (own_b p1))))), .second, .val (.int (1 : Int32))] [(.int (1 : Int32)), (.int (1 : Int32))])) _
          refine XS.icmpNo X1.here hx rfl (hb hby at_86) rfl (by decide) ?_
          show Steps p.tables e below (T1.setTop (mkF m 89 #[.val (.int p0), .val (.int p1), .val (.int p2), .val (.long (own_b p1)), .second, .val (.int (1 : Int32)), .val (.long (-(p0.toInt64))), .second, .val (.double (FP.ddiv (FP.i2d p0) (FP.l2d (own_b p1)))), .second, .val (.double (FP.dneg (FP.ddiv (FP.i2d p0) (FP.l2d (own_b p1))))), .second, .val (.int (1 : Int32))] [])) _
          refine XS.iconst X1.here hx rfl (hb hby at_89) ?_
          show Steps p.tables e below (T1.setTop (mkF m 90 #[.val (.int p0), .val (.int p1), .val (.int p2), .val (.long (own_b p1)), .second, .val (.int (1 : Int32)), .val (.long (-(p0.toInt64))), .second, .val (.double (FP.ddiv (FP.i2d p0) (FP.l2d (own_b p1)))), .second, .val (.double (FP.dneg (FP.ddiv (FP.i2d p0) (FP.l2d (own_b p1))))), .second, .val (.int (1 : Int32))] [(.int (1 : Int32))])) _
          refine XS.goto X1.here hx rfl (pc0 := 90) (pc' := 94) rfl (hb hby at_90) (by decide) (by decide) ?_
          show Steps p.tables e below (T1.setTop (mkF m 94 #[.val (.int p0), .val (.int p1), .val (.int p2), .val (.long (own_b p1)), .second, .val (.int (1 : Int32)), .val (.long (-(p0.toInt64))), .second, .val (.double (FP.ddiv (FP.i2d p0) (FP.l2d (own_b p1)))), .second, .val (.double (FP.dneg (FP.ddiv (FP.i2d p0) (FP.l2d (own_b p1))))), .second, .val (.int (1 : Int32))] [(.int (1 : Int32))])) _
          exact retN X1 hx (t := .boolean) Bd.returns (by simp) (hb hby at_94) hr
        · exact ⟨rfl, N1⟩
set_option maxRecDepth 65536 in
set_option maxHeartbeats 40000000 in
theorem comes_1 {Post : Tables → Env → Array Value → State → Outcome → State → Prop} (hpost : ∀ tb e args s v u, (limb_1_1.after args s (.returned v) u = true ∧ limb_1_2.after args s (.returned v) u = true ∧ True) → FrameEnd s (.returned v) u (Jvm.fieldLocs frame_1_writes args s ++ Jvm.arrayLocs frame_1_arrays args s ++ Jvm.staticLocs frame_1_statics s) 0 0 → Post tb e args s (.returned v) u) :
    ArmFor flags0 classFile x code maxLocals ret World_1 tables_1 room_1 Calls_1 rest_1 Pre_1 Post := by
  intro l hfl _ _ p e ha hc hk s m args below hf hA hF happ hP
  obtain ⟨hcalls, hrest, hpre⟩ := hP
  obtain ⟨-, -, -, hnamed, -, -, -, hat⟩ := (Spec.applies_iff hf).mp happ
  obtain ⟨hg, hn⟩ := and_e (Cond.before_iff.mp (show (Jvm.Cond.and given_1 narrow_1).before args s = true from hpre))
  obtain ⟨h1, h2⟩ := and_e hg
  obtain ⟨h3, h4⟩ := and_e h2
  obtain ⟨h5, h6⟩ := and_e h4
  obtain ⟨w0, w1, w2, rfl⟩ : ∃ w0 w1 w2 : Value, args = #[w0, w1, w2] := by
    have hs : args.size = 3 := by simpa [Cond.value, given_1] using h1
    obtain ⟨L⟩ := args
    match L, hs with
    | [w0, w1, w2], _ => exact ⟨w0, w1, w2, rfl⟩
  have hw := fun d (hd : d ∈ tables_1) => atoms_spec (ws := Jvm.Cond.code x code maxLocals ret :: tables_1) hat d (List.mem_cons_of_mem _ hd)
  obtain ⟨i0, e0⟩ := is_v h3
  obtain rfl : w0 = (.int i0) := Option.some.inj e0
  obtain ⟨i1, e1⟩ := is_v h5
  obtain rfl : w1 = (.int i1) := Option.some.inj e1
  obtain ⟨i2, e2⟩ := is_v h6
  obtain rfl : w2 = (.int i2) := Option.some.inj e2
  obtain ⟨n, o, h1, h2, h3, _, L, rfl, ⟨rfl, N⟩, hq⟩ := rm0 l s _ hw tables_1 i0 i1 i2 s.heap s.heap.size (Nat.le_refl _) p e ha hc hk s m _ below hf ((Spec.applies_iff_loose hf).mp happ).1 ⟨rfl, State.Warmed39.refl s, rfl⟩ trivial
  refine ⟨n, _, h1, h2, h3, hpost _ _ _ _ _ _ ⟨Cond.after_iff.mpr rfl, Cond.after_iff.mpr (eq_i res_at (Term.int_eval (1)) rfl), trivial⟩ ⟨hq.1, hq.2.1, (hq.2.2.sift fun y hy => Or.inr (N y hy)).mono (by decide) (by decide)⟩⟩
theorem main_1_1 : Claimed_1_1 := comes_1 fun _ _ _ _ _ _ h hF => ⟨h.1, hF⟩
theorem main_1_2 : Claimed_1_2 := comes_1 fun _ _ _ _ _ _ h hF => ⟨h.2.1, hF⟩
end Jvm.Pilot.@@N@@
namespace Jvm.Pilot.@@N@@
open Jvm Jvm.ClassFile Sem Op Lib Jvm.Free Jvm.Stand Jvm.Pilot.@@N@@.Jvm.D
/-! MADE BY PROGRAM (witnessworld.py) out of the Statement's table words and the real class files: 9 classes; the members and pool entries that the words name. The judged class is class 1, her method 1. -/
namespace start1
open Jvm.ClassFile
def u (s : String) : CpInfo := .utf8 (stringToUtf16 s)
/-- a pool by its gaps: so many unusable entries, then the entry; so many at the end -/
def gap : Nat → List CpInfo → List CpInfo
  | 0, r => r
  | n + 1, r => .unusable :: gap n r
def poolList (es : List (Nat × CpInfo)) (last : Nat) : List CpInfo := es.foldr (fun e r => gap e.1 (e.2 :: r)) (gap last [])
def pool (es : List (Nat × CpInfo)) (last : Nat) : Array CpInfo := ⟨poolList es last⟩
def fileOf (pool : Array CpInfo) (this : Nat) (attrs : Array Attribute := #[]) (ms : Array MethodInfo := #[]) (fl : Nat := 33) (sup : Nat := 0) (ifs : Array Nat := #[]) (fds : Array FieldInfo := #[]) : ClassFile where
  minorVersion := 0
  majorVersion := 65
  constantPool := pool
  accessFlags := fl
  thisClass := this
  superClass := sup
  interfaces := ifs
  fields := fds
  methods := ms
  attributes := attrs
def plain (name : String) (sup : Option ClassId) : Class where
  name := name
  kind := .ordinary
  loader := none
  accessFlags := 33
  super := sup
  interfaces := #[]
  cf := none
  fields := #[]
  methods := #[]
  instanceTypes := #[]
  staticTypes := #[]
  resolved := #[]
  callSites := []
  init := .initialized
  statics := none
  mirror := none

def pool0 : Array CpInfo := pool [(5, u "<init>"), (0, u "()V"), (1, .class_ 10), (1, u "java/lang/Object")] 113

def k0m0 : Method := { name := "<init>", desc := "()V", sig := { parameters := [], returnType := none }, accessFlags := 1, code := none }
/-- java/lang/Object -/
def k0 : Class := { plain "java/lang/Object" none with
  accessFlags := 33
  interfaces := #[]
  cf := some (fileOf pool0 8 #[] #[{ accessFlags := 1, nameIndex := 5, descriptorIndex := 6, attributes := #[] }] 33 0 #[] #[])
  fields := #[]
  methods := #[k0m0]
  instanceTypes := #[]
  staticTypes := #[]
  resolved := Array.replicate 124 none
  statics := none }

def pool1 : Array CpInfo := pool [(2, .class_ 4), (1, u "java/lang/Object"), (0, u "<init>"), (0, u "()V"), (0, .integer 16777215), (0, .methodref 9 10), (0, .class_ 11), (0, .nameAndType 12 13), (0, u "com/example/kudos_for_datasets/kudosfordatasets/PageRank"), (0, u "isDamping"), (0, u "(D)Z"), (0, .class_ 15), (0, u "com/example/kudos_for_datasets/kudosfordatasets/PageRankIsDampingPinLaw"), (2, u "law"), (0, u "(III)Z")] 3

def k1m0 : Method := { name := "<init>", desc := "()V", sig := { parameters := [], returnType := none }, accessFlags := 1, code := none }
def k1c1 : Code := { maxStack := 4, maxLocals := 13, code := code, exceptionTable := #[], attributes := #[] }
def k1m1 : Method := { name := "law", desc := "(III)Z", sig := { parameters := [.int, .int, .int], returnType := some .boolean }, accessFlags := 9, code := some k1c1 }
/-- com/example/kudos_for_datasets/kudosfordatasets/PageRankIsDampingPinLaw -/
def k1 : Class := { plain "com/example/kudos_for_datasets/kudosfordatasets/PageRankIsDampingPinLaw" (some 0) with
  accessFlags := 49
  interfaces := #[]
  cf := some (fileOf pool1 14 #[] #[{ accessFlags := 1, nameIndex := 5, descriptorIndex := 6, attributes := #[] }, { accessFlags := 9, nameIndex := 18, descriptorIndex := 19, attributes := #[] }] 49 2 #[] #[])
  fields := #[]
  methods := #[k1m0, k1m1]
  instanceTypes := #[]
  staticTypes := #[]
  resolved := Array.replicate 23 none
  statics := none }

def pool2 : Array CpInfo := pool [(2, .class_ 4), (1, u "java/lang/Object"), (0, u "<init>"), (0, u "()V"), (10, .class_ 19), (1, u "com/example/kudos_for_datasets/kudosfordatasets/PageRank"), (14, u "isDamping"), (0, u "(D)Z"), (14, .class_ 52), (1, u "com/example/kudos_for_datasets/kudosfordatasets/PageRank$Flow"), (21, .class_ 76), (1, u "com/example/kudos_for_datasets/kudosfordatasets/PageRank$Iterated"), (105, u "DEFAULT_DAMPING"), (0, u "D"), (3, u "TOLERANCE"), (0, u "MOST_SOLVED"), (0, u "I")] 53

def k2m0 : Method := { name := "<init>", desc := "()V", sig := { parameters := [], returnType := none }, accessFlags := 2, code := none }
def k2c1 : Code := { maxStack := 4, maxLocals := 2, code := prog_15_method_2_code, exceptionTable := #[], attributes := #[] }
def k2m1 : Method := { name := "isDamping", desc := "(D)Z", sig := { parameters := [.double], returnType := some .boolean }, accessFlags := 9, code := some k2c1 }
/-- com/example/kudos_for_datasets/kudosfordatasets/PageRank -/
def k2 : Class := { plain "com/example/kudos_for_datasets/kudosfordatasets/PageRank" (some 0) with
  accessFlags := 33
  interfaces := #[]
  cf := some (fileOf pool2 17 #[.nestMembers #[74, 50]] #[{ accessFlags := 2, nameIndex := 5, descriptorIndex := 6, attributes := #[] }, { accessFlags := 9, nameIndex := 34, descriptorIndex := 35, attributes := #[] }] 33 2 #[] #[{ accessFlags := 25, nameIndex := 182, descriptorIndex := 183, attributes := #[] }, { accessFlags := 25, nameIndex := 187, descriptorIndex := 183, attributes := #[] }, { accessFlags := 26, nameIndex := 188, descriptorIndex := 189, attributes := #[] }])
  fields := #[{ name := "DEFAULT_DAMPING", type := .double, accessFlags := 25, slot := 0, constantValue := 0 }, { name := "TOLERANCE", type := .double, accessFlags := 25, slot := 1, constantValue := 0 }, { name := "MOST_SOLVED", type := .int, accessFlags := 26, slot := 2, constantValue := 0 }]
  methods := #[k2m0, k2m1]
  instanceTypes := #[]
  staticTypes := #[.double, .double, .int]
  resolved := Array.replicate 243 none
  statics := none }

def pool3 : Array CpInfo := pool [(1, u "java/lang/Cloneable"), (0, .class_ 1), (0, u "java/lang/Object"), (0, .class_ 3)] 3

/-- java/lang/Cloneable -/
def k3 : Class := { plain "java/lang/Cloneable" (some 0) with
  accessFlags := 1537
  interfaces := #[]
  cf := some (fileOf pool3 2 #[] #[] 1537 4 #[] #[])
  fields := #[]
  methods := #[]
  instanceTypes := #[]
  staticTypes := #[]
  resolved := Array.replicate 8 none
  statics := none }

def pool4 : Array CpInfo := pool [(1, u "java/io/Serializable"), (0, .class_ 1), (0, u "java/lang/Object"), (0, .class_ 3)] 3

/-- java/io/Serializable -/
def k4 : Class := { plain "java/io/Serializable" (some 0) with
  accessFlags := 1537
  interfaces := #[]
  cf := some (fileOf pool4 2 #[] #[] 1537 4 #[] #[])
  fields := #[]
  methods := #[]
  instanceTypes := #[]
  staticTypes := #[]
  resolved := Array.replicate 8 none
  statics := none }

/-- the primitive byte -/
def k5 : Class := { plain "byte" none with kind := .primitive 'B', accessFlags := 0x411 }
/-- [B -/
def k6 : Class := { plain "[B" (some 0) with kind := .array 5 .byte, interfaces := #[3, 4], accessFlags := 1041 }

/-- the primitive int -/
def k7 : Class := { plain "int" none with kind := .primitive 'I', accessFlags := 0x411 }
/-- [I -/
def k8 : Class := { plain "[I" (some 0) with kind := .array 7 .int, interfaces := #[3, 4], accessFlags := 1041 }

def heap : Heap := #[]
def classes : Array Class := #[k0, k1, k2, k3, k4, k5, k6, k7, k8]
def interned : List (Array UInt16 × Addr) := []
def slotsUsed : Nat := 0
def theMethod : MethodId := ⟨1, 1⟩
def args0 : Array Value := #[.int 5, .int 300, .int 1]
def aboutOver (below : List Frame) : State where
  vm := { classes := classes, interned := interned.toArray }
  heap := heap
  slotsUsed := slotsUsed
  threads := #[{ frames := .invoking theMethod args0 :: below }]
def below0 : List Frame := [.native { method := ⟨0, 0⟩, args := #[] }]
def about1 : State := aboutOver below0
def p0 : Program := .bare "" "" ""
def e0 : Env := launch0.env 0 0 0
theorem w_frames : about1.frames = Frame.invoking theMethod args0 :: below0 := rfl
set_option maxRecDepth 65536 in
theorem w_args : argsFit about1.vm theMethod args0 = true := by decide +kernel
set_option maxRecDepth 65536 in
theorem w_heap : heapFits about1 = true := by decide +kernel
set_option maxRecDepth 65536 in
theorem w_runnable : about1.curStatus? = some .runnable := by decide +kernel
set_option maxRecDepth 65536 in
theorem w_alone : about1.alone = true := by decide +kernel
set_option maxRecDepth 65536 in
theorem w_named : about1.methodNamed? x = some theMethod := by decide +kernel
set_option maxRecDepth 65536 in
theorem w_hears : about1.hears theMethod below0 = true := by decide +kernel
set_option maxRecDepth 65536 in
theorem w_ripe : about1.ripe theMethod args0 below0 = true := by decide +kernel
theorem w_running : about1.status = .running := rfl
set_option maxRecDepth 65536 in
theorem w_room : about1.hasRoom e0.platform room_1 = true :=
  launch0.hasRoom_least _ room_1 (by decide +kernel) (by decide +kernel) (by decide +kernel) (by decide +kernel) (by decide +kernel) (by decide +kernel)
theorem allAtoms_all (ts : List Jvm.Cond) (a : Array Jvm.Value) (st : Jvm.State) : (allAtoms ts).before a st = ts.all (fun c => c.before a st) := by
  induction ts with
  | nil => rfl
  | cons c t ih =>
    show (Jvm.Cond.and c (allAtoms t)).before a st = _
    rw [Jvm.Cond.before_and, ih, List.all_cons]
def words1 : List Jvm.Cond := Jvm.Cond.code x code maxLocals ret :: tables_1
/-- a 'code' word, met by the world's own term for the bytes: nothing is compared byte by byte -/
theorem code_word {y : MethodName} {bytes : ByteArray} {mx : Nat} {rt : Option FieldType} {a : Array Value} {s : State} {m : MethodId} {meth : Method} {c : Code} (h1 : s.methodNamed? y = some m) (h2 : s.vm.method? m = some meth) (h3 : meth.code = some c) (h4 : c.code = bytes)
    (h5 : (c.maxLocals == mx && c.exceptionTable.isEmpty && decide (c.maxStack ≤ mostOperands) && decide (meth.sig.returnType = rt) && !meth.locks && decide (parseMethodDescriptor y.desc = some meth.sig)) = true) : (Jvm.Cond.code y bytes mx rt).before a s = true := by
  simp only [Bool.and_eq_true, beq_iff_eq, Bool.not_eq_true', decide_eq_true_eq] at h5
  obtain ⟨⟨⟨⟨⟨g1, g2⟩, g3⟩, g4⟩, g5⟩, g6⟩ := h5
  simp [Cond.before, Cond.holds, Cond.value, h1, h2, h3, h4, g1, g2, g3, g4, g5, g6]
def isCode : Jvm.Cond → Bool
  | .code _ _ _ _ => true
  | _ => false
theorem all_split {L : List Jvm.Cond} {P : Jvm.Cond → Bool} (h1 : L.all (fun c => isCode c || P c) = true) (h2 : ∀ c ∈ L.filter isCode, P c = true) : L.all P = true := by
  refine List.all_eq_true.mpr fun c hc => ?_
  have h := List.all_eq_true.mp h1 c hc
  rcases Bool.eq_false_or_eq_true (isCode c) with hi | hi
  · exact h2 c (List.mem_filter.mpr ⟨hc, hi⟩)
  · simpa [hi] using h
set_option maxRecDepth 65536 in
theorem w_c0 : (Jvm.Cond.code x code maxLocals ret).before args0 about1 = true := code_word (m := ⟨1, 1⟩) (meth := k1m1) (c := k1c1) (by decide +kernel) rfl rfl rfl (by decide +kernel)
set_option maxRecDepth 65536 in
theorem w_c1 : (Jvm.Cond.code ({ cls := "com/example/kudos_for_datasets/kudosfordatasets/PageRank", name := "isDamping", desc := "(D)Z" } : Jvm.MethodName) prog_15_method_2_code (2 : Nat) (Option.some Jvm.ClassFile.FieldType.boolean)).before args0 about1 = true := code_word (m := ⟨2, 1⟩) (meth := k2m1) (c := k2c1) (by decide +kernel) rfl rfl rfl (by decide +kernel)
def codes1 : List Jvm.Cond := [Jvm.Cond.code x code maxLocals ret, Jvm.Cond.code ({ cls := "com/example/kudos_for_datasets/kudosfordatasets/PageRank", name := "isDamping", desc := "(D)Z" } : Jvm.MethodName) prog_15_method_2_code (2 : Nat) (Option.some Jvm.ClassFile.FieldType.boolean)]
set_option maxRecDepth 65536 in
theorem codes_eq : words1.filter isCode = codes1 := rfl
theorem w_codes : ∀ c ∈ words1.filter isCode, c.before args0 about1 = true := by
  rw [codes_eq]
  intro c hc
  simp only [codes1, List.mem_cons, List.not_mem_nil, or_false] at hc
  rcases hc with rfl | rfl
  · exact w_c0
  · exact w_c1
set_option maxRecDepth 65536 in
theorem w_t1 : words1.all (fun c => isCode c || c.before args0 about1) = true := by decide +kernel
theorem w_tables : (allAtoms (Jvm.Cond.code x code maxLocals ret :: tables_1)).before args0 about1 = true := by
  rw [allAtoms_all]
  show words1.all (fun c => c.before args0 about1) = true
  refine all_split ?_ w_codes
  rw [w_t1]
set_option maxRecDepth 65536 in
theorem w_case : (Jvm.Cond.and given_1 narrow_1).before args0 about1 = true := by decide +kernel
theorem w_applies : (headSpec (Jvm.Cond.code x code maxLocals ret :: tables_1) room_1).applies x e0.platform about1 = true :=
  (Spec.applies_iff w_frames).mpr ⟨w_running, w_runnable, w_alone, w_named, w_hears, w_ripe, w_room, w_tables⟩
theorem atStart : AtStart classFile x code maxLocals ret World_1 tables_1 room_1 Calls_1 rest_1 Pre_1 launch0 p0 e0 about1 theMethod args0 below0 :=
  ⟨lists_1, trivial, launch0.admits_env _ _ _, launch0.least_env, fairChoices_fair.cas, fairChoices_fair.clock, w_frames, w_args, w_heap, w_applies, trivial, trivial, w_case⟩
end start1
theorem witness_1 : WitnessClaimed_1 := ⟨start1.p0, start1.e0, start1.about1, start1.theMethod, start1.args0, start1.below0, start1.atStart⟩
end Jvm.Pilot.@@N@@
