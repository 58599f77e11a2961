import JvmDerived
import JvmDerived.Pilot.@@N@@Statement
import JvmDerived.Pilot.@@N@@Code
set_option linter.unusedVariables false
set_option linter.unusedSimpArgs false
namespace Jvm.Pilot.@@N@@
open Jvm Jvm.ClassFile Sem Op Lib Jvm.Free Jvm.Stand Jvm.LawKit Jvm.RoadKit Bundle Jvm.Pilot.@@N@@.Jvm.D
theorem d1_0 : decode prog_72_method_1_code 0 = .ok (.aload_n 0, 1) := by decide +kernel
theorem d1_1 : decode prog_72_method_1_code 1 = .ok (.invokespecial 1, 3) := by decide +kernel
theorem d1_4 : decode prog_72_method_1_code 4 = .ok (.aload_n 0, 1) := by decide +kernel
theorem d1_5 : decode prog_72_method_1_code 5 = .ok (.bipush 16, 2) := by decide +kernel
theorem d1_7 : decode prog_72_method_1_code 7 = .ok (.newarray .double, 2) := by decide +kernel
theorem d1_9 : decode prog_72_method_1_code 9 = .ok (.putfield 7, 3) := by decide +kernel
theorem d1_12 : decode prog_72_method_1_code 12 = .ok (.return_, 1) := by decide +kernel
theorem d3_0 : decode prog_72_method_2_code 0 = .ok (.aload_n 0, 1) := by decide +kernel
theorem d3_1 : decode prog_72_method_2_code 1 = .ok (.getfield 13, 3) := by decide +kernel
theorem d3_4 : decode prog_72_method_2_code 4 = .ok (.aload_n 0, 1) := by decide +kernel
theorem d3_5 : decode prog_72_method_2_code 5 = .ok (.getfield 7, 3) := by decide +kernel
theorem d3_8 : decode prog_72_method_2_code 8 = .ok (.arraylength, 1) := by decide +kernel
theorem d3_9 : decode prog_72_method_2_code 9 = .ok (.if_icmp .ne 64, 3) := by decide +kernel
theorem d3_73 : decode prog_72_method_2_code 73 = .ok (.aload_n 0, 1) := by decide +kernel
theorem d3_74 : decode prog_72_method_2_code 74 = .ok (.getfield 7, 3) := by decide +kernel
theorem d3_77 : decode prog_72_method_2_code 77 = .ok (.aload_n 0, 1) := by decide +kernel
theorem d3_78 : decode prog_72_method_2_code 78 = .ok (.getfield 17, 3) := by decide +kernel
theorem d3_81 : decode prog_72_method_2_code 81 = .ok (.aload_n 0, 1) := by decide +kernel
theorem d3_82 : decode prog_72_method_2_code 82 = .ok (.getfield 13, 3) := by decide +kernel
theorem d3_85 : decode prog_72_method_2_code 85 = .ok (.iadd, 1) := by decide +kernel
theorem d3_86 : decode prog_72_method_2_code 86 = .ok (.aload_n 0, 1) := by decide +kernel
theorem d3_87 : decode prog_72_method_2_code 87 = .ok (.getfield 7, 3) := by decide +kernel
theorem d3_90 : decode prog_72_method_2_code 90 = .ok (.arraylength, 1) := by decide +kernel
theorem d3_91 : decode prog_72_method_2_code 91 = .ok (.iconst 1, 1) := by decide +kernel
theorem d3_92 : decode prog_72_method_2_code 92 = .ok (.isub, 1) := by decide +kernel
theorem d3_93 : decode prog_72_method_2_code 93 = .ok (.iand, 1) := by decide +kernel
theorem d3_94 : decode prog_72_method_2_code 94 = .ok (.dload_n 1, 1) := by decide +kernel
theorem d3_95 : decode prog_72_method_2_code 95 = .ok (.dastore, 1) := by decide +kernel
theorem d3_96 : decode prog_72_method_2_code 96 = .ok (.aload_n 0, 1) := by decide +kernel
theorem d3_97 : decode prog_72_method_2_code 97 = .ok (.dup, 1) := by decide +kernel
theorem d3_98 : decode prog_72_method_2_code 98 = .ok (.getfield 13, 3) := by decide +kernel
theorem d3_101 : decode prog_72_method_2_code 101 = .ok (.iconst 1, 1) := by decide +kernel
theorem d3_102 : decode prog_72_method_2_code 102 = .ok (.iadd, 1) := by decide +kernel
theorem d3_103 : decode prog_72_method_2_code 103 = .ok (.putfield 13, 3) := by decide +kernel
theorem d3_106 : decode prog_72_method_2_code 106 = .ok (.return_, 1) := by decide +kernel
theorem d4_0 : decode prog_72_method_5_code 0 = .ok (.aload_n 0, 1) := by decide +kernel
theorem d4_1 : decode prog_72_method_5_code 1 = .ok (.invokevirtual 20, 3) := by decide +kernel
theorem d4_4 : decode prog_72_method_5_code 4 = .ok (.aload_n 0, 1) := by decide +kernel
theorem d4_5 : decode prog_72_method_5_code 5 = .ok (.aload_n 0, 1) := by decide +kernel
theorem d4_6 : decode prog_72_method_5_code 6 = .ok (.getfield 17, 3) := by decide +kernel
theorem d4_9 : decode prog_72_method_5_code 9 = .ok (.iconst 1, 1) := by decide +kernel
theorem d4_10 : decode prog_72_method_5_code 10 = .ok (.iadd, 1) := by decide +kernel
theorem d4_11 : decode prog_72_method_5_code 11 = .ok (.aload_n 0, 1) := by decide +kernel
theorem d4_12 : decode prog_72_method_5_code 12 = .ok (.getfield 7, 3) := by decide +kernel
theorem d4_15 : decode prog_72_method_5_code 15 = .ok (.arraylength, 1) := by decide +kernel
theorem d4_16 : decode prog_72_method_5_code 16 = .ok (.iconst 1, 1) := by decide +kernel
theorem d4_17 : decode prog_72_method_5_code 17 = .ok (.isub, 1) := by decide +kernel
theorem d4_18 : decode prog_72_method_5_code 18 = .ok (.iand, 1) := by decide +kernel
theorem d4_19 : decode prog_72_method_5_code 19 = .ok (.putfield 17, 3) := by decide +kernel
theorem d4_22 : decode prog_72_method_5_code 22 = .ok (.aload_n 0, 1) := by decide +kernel
theorem d4_23 : decode prog_72_method_5_code 23 = .ok (.dup, 1) := by decide +kernel
theorem d4_24 : decode prog_72_method_5_code 24 = .ok (.getfield 13, 3) := by decide +kernel
theorem d4_27 : decode prog_72_method_5_code 27 = .ok (.iconst 1, 1) := by decide +kernel
theorem d4_28 : decode prog_72_method_5_code 28 = .ok (.isub, 1) := by decide +kernel
theorem d4_29 : decode prog_72_method_5_code 29 = .ok (.putfield 13, 3) := by decide +kernel
theorem d4_32 : decode prog_72_method_5_code 32 = .ok (.return_, 1) := by decide +kernel
theorem d5_0 : decode prog_72_method_7_code 0 = .ok (.aload_n 0, 1) := by decide +kernel
theorem d5_1 : decode prog_72_method_7_code 1 = .ok (.getfield 13, 3) := by decide +kernel
theorem d5_4 : decode prog_72_method_7_code 4 = .ok (.ifCond .ne 13, 3) := by decide +kernel
theorem d5_17 : decode prog_72_method_7_code 17 = .ok (.return_, 1) := by decide +kernel
theorem d6_0 : decode prog_72_method_4_code 0 = .ok (.aload_n 0, 1) := by decide +kernel
theorem d6_1 : decode prog_72_method_4_code 1 = .ok (.invokevirtual 20, 3) := by decide +kernel
theorem d6_4 : decode prog_72_method_4_code 4 = .ok (.aload_n 0, 1) := by decide +kernel
theorem d6_5 : decode prog_72_method_4_code 5 = .ok (.getfield 7, 3) := by decide +kernel
theorem d6_8 : decode prog_72_method_4_code 8 = .ok (.aload_n 0, 1) := by decide +kernel
theorem d6_9 : decode prog_72_method_4_code 9 = .ok (.getfield 17, 3) := by decide +kernel
theorem d6_12 : decode prog_72_method_4_code 12 = .ok (.daload, 1) := by decide +kernel
theorem d6_13 : decode prog_72_method_4_code 13 = .ok (.dreturn, 1) := by decide +kernel
theorem d7_0 : decode prog_72_method_3_code 0 = .ok (.aload_n 0, 1) := by decide +kernel
theorem d7_1 : decode prog_72_method_3_code 1 = .ok (.getfield 13, 3) := by decide +kernel
theorem d7_4 : decode prog_72_method_3_code 4 = .ok (.ifCond .ne 7, 3) := by decide +kernel
theorem d7_7 : decode prog_72_method_3_code 7 = .ok (.iconst 1, 1) := by decide +kernel
theorem d7_8 : decode prog_72_method_3_code 8 = .ok (.goto 4, 3) := by decide +kernel
theorem d7_11 : decode prog_72_method_3_code 11 = .ok (.iconst 0, 1) := by decide +kernel
theorem d7_12 : decode prog_72_method_3_code 12 = .ok (.ireturn, 1) := by decide +kernel
theorem pnL : plainName "com/example/schie/schie/simulation/StartInstantsAddLastPinLaw" = true := by first | (simp [plainName, overriddenIn]; done) | decide +kernel
theorem pnC : plainName "com/example/schie/schie/simulation/StartInstants" = true := by first | (simp [plainName, overriddenIn]; done) | decide +kernel
theorem pdV : parseMethodDescriptor "()V" = some ⟨[], none⟩ := by decide +kernel
theorem pdD : parseMethodDescriptor "(D)V" = some ⟨[.double], none⟩ := by decide +kernel
theorem pdF : parseMethodDescriptor "()D" = some ⟨[], some .double⟩ := by decide +kernel
theorem pdZ : parseMethodDescriptor "()Z" = some ⟨[], some .boolean⟩ := by decide +kernel
theorem ef1 (m : MethodId) (x0 : Addr) : entryFrame m #[(.ref x0)] 1 = mkF m 0 #[.val (.ref x0)] [] := by first | (simp [entryFrame, mkF, argsToLocals, Value.category]; done) | rfl
theorem ef3 (m : MethodId) (x0 : Addr) (x1 : UInt64) : entryFrame m #[(.ref x0), (.double x1)] 5 = mkF m 0 #[.val (.ref x0), .val (.double x1), .second, .unset, .unset] [] := by first | (simp [entryFrame, mkF, argsToLocals, Value.category]; done) | rfl
theorem ef0 (m : MethodId) (x0 x1 x2 x3 : Int32) : entryFrame m #[(.int x0), (.int x1), (.int x2), (.int x3)] maxLocals = mkF m 0 #[.val (.int x0), .val (.int x1), .val (.int x2), .val (.int x3), .unset, .unset, .unset, .unset, .unset, .unset, .unset, .unset, .unset, .unset, .unset, .unset] [] := by first | (simp [entryFrame, mkF, argsToLocals, Value.category, maxLocals]; done) | rfl
/-- the object at a: its ring b of 16 doubles, where its first one lies, how many there are -/
def Rg (Z : State) (h : Heap) (a b : Addr) (k : ClassId) (hd sz : Int32) (vs : List Value) : Prop :=
  Exa Z h a "com/example/schie/schie/simulation/StartInstants" ∧ Fld Z h a "com/example/schie/schie/simulation/StartInstants" "instants" "[D" (.ref b) ∧ Fld Z h a "com/example/schie/schie/simulation/StartInstants" "head" "I" (.int hd) ∧ Fld Z h a "com/example/schie/schie/simulation/StartInstants" "size" "I" (.int sz) ∧ Arv Z h b k .double (16 : Int32) vs (.double 0) ∧ vs.length = 16 ∧ a ≠ b
def QI (Z : State) (a : Addr) (n0 : Nat) (v : Option Value) (h : Heap) (L : List Loc) : Prop := v = none ∧ Fr n0 L ∧ n0 ≤ h.size ∧ ∃ (b : Addr) (k : ClassId), n0 ≤ b ∧ Rg Z h a b k 0 0 (List.replicate 16 (.double 0))
def QS (h0 : Heap) (w : Option Value) (n0 : Nat) (v : Option Value) (h : Heap) (L : List Loc) : Prop := v = w ∧ Fr n0 L ∧ h = h0
def QR (Z : State) (a b : Addr) (k : ClassId) (hd sz : Int32) (vs : List Value) (n0 : Nat) (v : Option Value) (h : Heap) (L : List Loc) : Prop := v = none ∧ Fr n0 L ∧ n0 ≤ h.size ∧ Rg Z h a b k hd sz vs
def V3 (u0 u1 u2 : UInt64) : List Value := .double u0 :: .double u1 :: .double u2 :: List.replicate 13 (.double 0)
abbrev own_rq : MethodName := ⟨"com/example/schie/schie/simulation/StartInstants", "requireNoted", "()V"⟩
abbrev own_al : MethodName := ⟨"com/example/schie/schie/simulation/StartInstants", "addLast", "(D)V"⟩
theorem own_sel {s : State} {args : Array Value} (w1 : (Cond.selects "com/example/schie/schie/simulation/StartInstants" own_al own_al).before args s = true) (w2 : (Cond.instanceMethod own_rq).before args s = true) (w3 : (Cond.privateMethod own_rq).before args s = true) : (Cond.selects own_rq.cls own_rq own_rq).before args s = true := by
  obtain ⟨c2, r2, m2, q1, q2, q3, q4, kP, hkP, hkPi⟩ := Cond.selects_spec w1
  have hc : s.vm.findClass "com/example/schie/schie/simulation/StartInstants" = some m2.cls := findClass_of_methodNamed q3
  exact Jvm.Stand.selects_self_of_private (y := own_rq) hc hkP hkPi (Cond.privateMethod_at w3) w2 (by decide)
section OwnNe
variable {Z : State} {a0 : Array Value}
theorem own_ne_hs (hw : ∀ d ∈ tables_1, d.before a0 Z = true) : RoadKit.slotOf Z "com/example/schie/schie/simulation/StartInstants" "head" "I" ≠ RoadKit.slotOf Z "com/example/schie/schie/simulation/StartInstants" "size" "I" := slot_ne (Or.inl (hw _ (List.mem_of_getElem? (i := 20) rfl))) (Or.inl (hw _ (List.mem_of_getElem? (i := 18) rfl))) (by decide) (t := .int) (t' := .int) (by decide) (by decide)
theorem own_ne_is (hw : ∀ d ∈ tables_1, d.before a0 Z = true) : RoadKit.slotOf Z "com/example/schie/schie/simulation/StartInstants" "instants" "[D" ≠ RoadKit.slotOf Z "com/example/schie/schie/simulation/StartInstants" "size" "I" := slot_ne (Or.inl (hw _ (List.mem_of_getElem? (i := 11) rfl))) (Or.inl (hw _ (List.mem_of_getElem? (i := 18) rfl))) (by decide) (t := (.array .double)) (t' := .int) (by decide) (by decide)
theorem own_ne_ih (hw : ∀ d ∈ tables_1, d.before a0 Z = true) : RoadKit.slotOf Z "com/example/schie/schie/simulation/StartInstants" "instants" "[D" ≠ RoadKit.slotOf Z "com/example/schie/schie/simulation/StartInstants" "head" "I" := slot_ne (Or.inl (hw _ (List.mem_of_getElem? (i := 11) rfl))) (Or.inl (hw _ (List.mem_of_getElem? (i := 20) rfl))) (by decide) (t := (.array .double)) (t' := .int) (by decide) (by decide)
end OwnNe
set_option maxRecDepth 65536 in
set_option maxHeartbeats 40000000 in
theorem rmI (l : Launch) (Z : State) (a0 : Array Value) (hw : ∀ d ∈ tables_1, d.before a0 Z = true) (ws : List Jvm.Cond) (a : Addr) (h0 : Heap) (n0 : Nat) (Z0 : n0 ≤ h0.size) (E : Exa Z h0 a "com/example/schie/schie/simulation/StartInstants") (F1 : Fld Z h0 a "com/example/schie/schie/simulation/StartInstants" "instants" "[D" .null) (F2 : Fld Z h0 a "com/example/schie/schie/simulation/StartInstants" "head" "I" (.int (0 : Int32))) (F3 : Fld Z h0 a "com/example/schie/schie/simulation/StartInstants" "size" "I" (.int (0 : Int32))) (ga : n0 ≤ a) :
    MetFree l (⟨"com/example/schie/schie/simulation/StartInstants", "<init>", "()V"⟩ : MethodName) (head1 (Jvm.Cond.code (⟨"com/example/schie/schie/simulation/StartInstants", "<init>", "()V"⟩ : MethodName) prog_72_method_1_code 1 none :: ws) ({ frames := 1, cells := 1, slots := 16, locals := 12 } : Room)) (fun aa U => aa = #[(.ref a)] ∧ Z.Warmed39 U.vm ∧ U.heap = h0) (fun _ _ _ _ _ => True) (fun _ U o U' => ∃ rv RL, o = .returned rv ∧ QI Z a n0 rv U'.heap RL ∧ FrameEnd U o U' RL ({ frames := 1, cells := 1, slots := 16, locals := 12 } : Room).cells ({ frames := 1, cells := 1, slots := 16, locals := 12 } : Room).slots) := by
  refine MetFree.of_bodySF (plainFor_of_name pnC) hisR ?_
  intro p e s m args below meth c s₁ Bd hml0 hP hK
  obtain ⟨rfl, hZ, hh⟩ := hP
  have hx := Bd.exec
  have hby := Bd.bytes
  have hml : c.maxLocals = 1 := hml0
  have hown : s.vm.findClass "com/example/schie/schie/simulation/StartInstants" = some m.cls := findClass_of_methodNamed Bd.named
  have hnm := (name_of_methodNamed Bd.named Bd.method).1
  have X0 : Stand p l e ({ frames := 1, cells := 1, slots := 16, locals := 12 } : Room) s m #[(.ref a)] below meth c s₁ [] 0 0 := Stand.of_body Bd
  have e0 : s₁.heap = h0 := by rw [← hh, Bd.state]; rfl
  have N0 := Fr.nil n0
  have pre0 : ∀ t, Steps p.tables e below (s₁.setTop (mkF m 0 #[.val (.ref a)] [])) t → Steps p.tables e below (s₁.setTop (entryFrame m #[(.ref a)] 1)) t := fun t kk => castTop (ef1 m a) kk
  obtain ⟨T1, X1, e1, st1⟩ := initO X0 hx hZ hown (hw _ (List.mem_of_getElem? (i := 6) rfl)) (hw _ (List.mem_of_getElem? (i := 7) rfl)) (hw _ (List.mem_of_getElem? (i := 8) rfl)) e0 (g := (mkF m 1 #[.val (.ref a)] [(.ref a)])) rfl (by rw [hml]; rfl) rfl (hb hby d1_1) (by decide) (W := 0) (by show 2 * 0 + _ ≤ _; exact Nat.le_of_eq rfl) (by decide)
  obtain ⟨T2, h2, k2, X2, e2, E2, A2, st2⟩ := newP X1 hx hZ (hw _ (List.mem_of_getElem? (i := 9) rfl)) e1 (g := (mkF m 7 #[.val (.ref a)] [(.int (16 : Int32)), (.ref a)])) rfl (hb hby d1_7) rfl (by decide) (cap := 16) (by decide) (by decide) (by decide) (by decide)
  obtain ⟨b2, g2⟩ : ∃ z, z = h0.size := ⟨_, rfl⟩
  rw [← g2] at A2 st2
  have V0 : Arv Z h2 b2 k2 .double (16 : Int32) (List.replicate 16 (.double 0)) (.double 0) := (Arv.new A2 (by decide)).pad (pad_rep [] (.double 0) 16)
  have gb : n0 ≤ b2 := Nat.le_trans Z0 (Nat.le_of_eq g2.symm)
  have hab : a ≠ b2 := Nat.ne_of_lt (Nat.lt_of_lt_of_le E.lt (Nat.le_of_eq g2.symm))
  obtain ⟨T3, h3, X3, e3, W3, st3⟩ := putF X2 hx hZ hown (host := "") (Or.inl (hw _ (List.mem_of_getElem? (i := 10) rfl))) Via.refl e2 (F1.ext E2) (E.ext E2) (Or.inl (hw _ (List.mem_of_getElem? (i := 11) rfl))) (hw _ (List.mem_of_getElem? (i := 1) rfl)) (ty := (.array .double)) (by decide) rfl rfl (g := (mkF m 9 #[.val (.ref a)] [(.ref b2), (.ref a)])) rfl rfl (hb hby d1_9)
  have N3 := Fr.snoc X3 N0 ga
  obtain ⟨fs, hr, hrun, hended, hW, hsame⟩ := X3.leave (v := none) (fun _ => rfl)
  refine ⟨_, _, pre0 _ ?_, hrun, hended, _, _, rfl, ?_, ⟨_, rfl⟩, hW, hsame.mono (by decide) (by decide)⟩
  · skip
    show Steps p.tables e below (s₁.setTop (mkF m 0 #[.val (.ref a)] [])) _
    refine XS.aloadN X0.here hx rfl (hb hby d1_0) rfl rfl ?_
    show Steps p.tables e below (s₁.setTop (mkF m 1 #[.val (.ref a)] [(.ref a)])) _
    refine st1 _ ?_
    show Steps p.tables e below (T1.setTop (mkF m 4 #[.val (.ref a)] [])) _
    refine XS.aloadN X1.here hx rfl (hb hby d1_4) rfl rfl ?_
    show Steps p.tables e below (T1.setTop (mkF m 5 #[.val (.ref a)] [(.ref a)])) _
    refine XS.bipush X1.here hx rfl (hb hby d1_5) ?_
    show Steps p.tables e below (T1.setTop (mkF m 7 #[.val (.ref a)] [(.int (16 : Int32)), (.ref a)])) _
    refine st2 _ ?_
    show Steps p.tables e below (T2.setTop (mkF m 9 #[.val (.ref a)] [(.ref b2), (.ref a)])) _
    refine st3 _ ?_
    show Steps p.tables e below (T3.setTop (mkF m 12 #[.val (.ref a)] [])) _
    exact X3.returnOut hx Bd.returns (hb hby d1_12) hr
  · show QI Z a n0 _ T3.heap _
    rw [e3]
    exact ⟨rfl, N3, Nat.le_trans (Nat.le_trans Z0 E2.1) (Nat.le_of_eq W3.size.symm), b2, k2, gb, (E.ext E2).wr W3, (F1.ext E2).same W3, (F2.ext E2).other W3 (Or.inr (own_ne_ih hw).symm), (F3.ext E2).other W3 (Or.inr (own_ne_is hw).symm), V0.other W3 hab.symm, rfl, hab⟩
set_option maxRecDepth 65536 in
set_option maxHeartbeats 40000000 in
theorem rmN (l : Launch) (Z : State) (a0 : Array Value) (hw : ∀ d ∈ tables_1, d.before a0 Z = true) (ws : List Jvm.Cond) (a : Addr) (sz : Int32) (h0 : Heap) (n0 : Nat) (Z0 : n0 ≤ h0.size) (F : Fld Z h0 a "com/example/schie/schie/simulation/StartInstants" "size" "I" (.int sz)) (hz : ¬ sz = 0) :
    MetFree l (⟨"com/example/schie/schie/simulation/StartInstants", "requireNoted", "()V"⟩ : MethodName) (head1 (Jvm.Cond.code (⟨"com/example/schie/schie/simulation/StartInstants", "requireNoted", "()V"⟩ : MethodName) prog_72_method_7_code 1 none :: ws) ({ frames := 0, cells := 0, slots := 0, locals := 0 } : Room)) (fun aa U => aa = #[(.ref a)] ∧ Z.Warmed39 U.vm ∧ U.heap = h0) (fun _ _ _ _ _ => True) (fun _ U o U' => ∃ rv RL, o = .returned rv ∧ QS h0 none n0 rv U'.heap RL ∧ FrameEnd U o U' RL ({ frames := 0, cells := 0, slots := 0, locals := 0 } : Room).cells ({ frames := 0, cells := 0, slots := 0, locals := 0 } : Room).slots) := by
  refine MetFree.of_bodySF (plainFor_of_name pnC) hisR ?_
  intro p e s m args below meth c s₁ Bd hml0 hP hK
  obtain ⟨rfl, hZ, hh⟩ := hP
  have hx := Bd.exec
  have hby := Bd.bytes
  have hml : c.maxLocals = 1 := hml0
  have hown : s.vm.findClass "com/example/schie/schie/simulation/StartInstants" = some m.cls := findClass_of_methodNamed Bd.named
  have hnm := (name_of_methodNamed Bd.named Bd.method).1
  have X0 : Stand p l e ({ frames := 0, cells := 0, slots := 0, locals := 0 } : Room) s m #[(.ref a)] below meth c s₁ [] 0 0 := Stand.of_body Bd
  have e0 : s₁.heap = h0 := by rw [← hh, Bd.state]; rfl
  have N0 := Fr.nil n0
  have pre0 : ∀ t, Steps p.tables e below (s₁.setTop (mkF m 0 #[.val (.ref a)] [])) t → Steps p.tables e below (s₁.setTop (entryFrame m #[(.ref a)] 1)) t := fun t kk => castTop (ef1 m a) kk
  obtain ⟨T1, X1, e1, st1⟩ := getF X0 hx hZ hown (host := "") (Or.inl (hw _ (List.mem_of_getElem? (i := 17) rfl))) Via.refl e0 F (g := (mkF m 1 #[.val (.ref a)] [(.ref a)])) rfl rfl (hb hby d5_1)
  obtain ⟨fs, hr, hrun, hended, hW, hsame⟩ := X1.leave (v := none) (fun _ => rfl)
  refine ⟨_, _, pre0 _ ?_, hrun, hended, _, _, rfl, ?_, ⟨_, rfl⟩, hW, hsame.mono (by decide) (by decide)⟩
  · skip
    show Steps p.tables e below (s₁.setTop (mkF m 0 #[.val (.ref a)] [])) _
    refine XS.aloadN X0.here hx rfl (hb hby d5_0) rfl rfl ?_
    show Steps p.tables e below (s₁.setTop (mkF m 1 #[.val (.ref a)] [(.ref a)])) _
    refine st1 _ ?_
    show Steps p.tables e below (T1.setTop (mkF m 4 #[.val (.ref a)] [(.int sz)])) _
    refine XS.ifYes X1.here hx rfl (pc0 := 4) (pc' := 17) rfl (hb hby d5_4) rfl ((if0 _ _).trans (feq hz).2) (by decide) (by decide) ?_
    show Steps p.tables e below (T1.setTop (mkF m 17 #[.val (.ref a)] [])) _
    exact X1.returnOut hx Bd.returns (hb hby d5_17) hr
  · show QS h0 none n0 _ T1.heap _
    rw [e1]
    exact ⟨rfl, N0, rfl⟩
set_option maxRecDepth 65536 in
set_option maxHeartbeats 40000000 in
theorem rmE (l : Launch) (Z : State) (a0 : Array Value) (hw : ∀ d ∈ tables_1, d.before a0 Z = true) (ws : List Jvm.Cond) (a : Addr) (sz r : Int32) (h0 : Heap) (n0 : Nat) (Z0 : n0 ≤ h0.size) (F : Fld Z h0 a "com/example/schie/schie/simulation/StartInstants" "size" "I" (.int sz)) (hres : (¬ sz = 0 ∧ r = 0) ∨ (sz = 0 ∧ r = 1)) :
    MetFree l (⟨"com/example/schie/schie/simulation/StartInstants", "isEmpty", "()Z"⟩ : MethodName) (head1 (Jvm.Cond.code (⟨"com/example/schie/schie/simulation/StartInstants", "isEmpty", "()Z"⟩ : MethodName) prog_72_method_3_code 1 (some .boolean) :: ws) ({ frames := 0, cells := 0, slots := 0, locals := 0 } : Room)) (fun aa U => aa = #[(.ref a)] ∧ Z.Warmed39 U.vm ∧ U.heap = h0) (fun _ _ _ _ _ => True) (fun _ U o U' => ∃ rv RL, o = .returned rv ∧ QS h0 (some (.int r)) n0 rv U'.heap RL ∧ FrameEnd U o U' RL ({ frames := 0, cells := 0, slots := 0, locals := 0 } : Room).cells ({ frames := 0, cells := 0, slots := 0, locals := 0 } : Room).slots) := by
  refine MetFree.of_bodySF (plainFor_of_name pnC) hisR ?_
  intro p e s m args below meth c s₁ Bd hml0 hP hK
  obtain ⟨rfl, hZ, hh⟩ := hP
  have hx := Bd.exec
  have hby := Bd.bytes
  have hml : c.maxLocals = 1 := hml0
  have hown : s.vm.findClass "com/example/schie/schie/simulation/StartInstants" = some m.cls := findClass_of_methodNamed Bd.named
  have hnm := (name_of_methodNamed Bd.named Bd.method).1
  have X0 : Stand p l e ({ frames := 0, cells := 0, slots := 0, locals := 0 } : Room) s m #[(.ref a)] below meth c s₁ [] 0 0 := Stand.of_body Bd
  have e0 : s₁.heap = h0 := by rw [← hh, Bd.state]; rfl
  have N0 := Fr.nil n0
  have pre0 : ∀ t, Steps p.tables e below (s₁.setTop (mkF m 0 #[.val (.ref a)] [])) t → Steps p.tables e below (s₁.setTop (entryFrame m #[(.ref a)] 1)) t := fun t kk => castTop (ef1 m a) kk
  rcases hres with ⟨hz, rfl⟩ | ⟨hz, rfl⟩
  · skip
    obtain ⟨T1, X1, e1, st1⟩ := getF X0 hx hZ hown (host := "") (Or.inl (hw _ (List.mem_of_getElem? (i := 17) rfl))) Via.refl e0 F (g := (mkF m 1 #[.val (.ref a)] [(.ref a)])) rfl rfl (hb hby d7_1)
    obtain ⟨fs, hr, hrun, hended, hW, hsame⟩ := X1.leave (v := some (.int (0 : Int32))) (fun h => by rw [Bd.returns] at h; cases h)
    refine ⟨_, _, pre0 _ ?_, hrun, hended, _, _, rfl, ?_, ⟨_, rfl⟩, hW, hsame.mono (by decide) (by decide)⟩
    · skip
      show Steps p.tables e below (s₁.setTop (mkF m 0 #[.val (.ref a)] [])) _
      refine XS.aloadN X0.here hx rfl (hb hby d7_0) rfl rfl ?_
      show Steps p.tables e below (s₁.setTop (mkF m 1 #[.val (.ref a)] [(.ref a)])) _
      refine st1 _ ?_
      show Steps p.tables e below (T1.setTop (mkF m 4 #[.val (.ref a)] [(.int sz)])) _
      refine XS.ifYes X1.here hx rfl (pc0 := 4) (pc' := 11) rfl (hb hby d7_4) rfl ((if0 _ _).trans (feq hz).2) (by decide) (by decide) ?_
      show Steps p.tables e below (T1.setTop (mkF m 11 #[.val (.ref a)] [])) _
      refine XS.iconst X1.here hx rfl (hb hby d7_11) ?_
      show Steps p.tables e below (T1.setTop (mkF m 12 #[.val (.ref a)] [(.int (0 : Int32))])) _
      exact retN X1 hx (t := .boolean) Bd.returns (by simp) (hb hby d7_12) hr
    · show QS h0 _ n0 _ T1.heap _
      rw [e1]
      exact ⟨rfl, N0, rfl⟩
  · skip
    obtain ⟨T1, X1, e1, st1⟩ := getF X0 hx hZ hown (host := "") (Or.inl (hw _ (List.mem_of_getElem? (i := 17) rfl))) Via.refl e0 F (g := (mkF m 1 #[.val (.ref a)] [(.ref a)])) rfl rfl (hb hby d7_1)
    obtain ⟨fs, hr, hrun, hended, hW, hsame⟩ := X1.leave (v := some (.int (1 : Int32))) (fun h => by rw [Bd.returns] at h; cases h)
    refine ⟨_, _, pre0 _ ?_, hrun, hended, _, _, rfl, ?_, ⟨_, rfl⟩, hW, hsame.mono (by decide) (by decide)⟩
    · skip
      show Steps p.tables e below (s₁.setTop (mkF m 0 #[.val (.ref a)] [])) _
      refine XS.aloadN X0.here hx rfl (hb hby d7_0) rfl rfl ?_
      show Steps p.tables e below (s₁.setTop (mkF m 1 #[.val (.ref a)] [(.ref a)])) _
      refine st1 _ ?_
      show Steps p.tables e below (T1.setTop (mkF m 4 #[.val (.ref a)] [(.int sz)])) _
      refine XS.ifNo X1.here hx rfl (hb hby d7_4) rfl ((if0 _ _).trans (teq hz).2) ?_
      show Steps p.tables e below (T1.setTop (mkF m 7 #[.val (.ref a)] [])) _
      refine XS.iconst X1.here hx rfl (hb hby d7_7) ?_
      show Steps p.tables e below (T1.setTop (mkF m 8 #[.val (.ref a)] [(.int (1 : Int32))])) _
      refine XS.goto X1.here hx rfl (pc0 := 8) (pc' := 12) rfl (hb hby d7_8) (by decide) (by decide) ?_
      show Steps p.tables e below (T1.setTop (mkF m 12 #[.val (.ref a)] [(.int (1 : Int32))])) _
      exact retN X1 hx (t := .boolean) Bd.returns (by simp) (hb hby d7_12) hr
    · show QS h0 _ n0 _ T1.heap _
      rw [e1]
      exact ⟨rfl, N0, rfl⟩
set_option maxRecDepth 65536 in
set_option maxHeartbeats 40000000 in
theorem rmF (l : Launch) (Z : State) (a0 : Array Value) (hw : ∀ d ∈ tables_1, d.before a0 Z = true) (ws : List Jvm.Cond) (a b : Addr) (k : ClassId) (hd sz : Int32) (vs : List Value) (w : UInt64) (h0 : Heap) (n0 : Nat) (Z0 : n0 ≤ h0.size) (hR : Rg Z h0 a b k hd sz vs) (hz : ¬ sz = 0) (hi : ¬ hd < 0 ∧ hd < (16 : Int32)) (hv : vs.getD hd.toNatClampNeg (.double 0) = .double w) :
    MetFree l (⟨"com/example/schie/schie/simulation/StartInstants", "first", "()D"⟩ : MethodName) (head1 (Jvm.Cond.code (⟨"com/example/schie/schie/simulation/StartInstants", "first", "()D"⟩ : MethodName) prog_72_method_4_code 1 (some .double) :: ws) ({ frames := 1, cells := 0, slots := 0, locals := 12 } : Room)) (fun aa U => aa = #[(.ref a)] ∧ Z.Warmed39 U.vm ∧ U.heap = h0) (fun _ _ _ _ _ => True) (fun _ U o U' => ∃ rv RL, o = .returned rv ∧ QS h0 (some (.double w)) n0 rv U'.heap RL ∧ FrameEnd U o U' RL ({ frames := 1, cells := 0, slots := 0, locals := 12 } : Room).cells ({ frames := 1, cells := 0, slots := 0, locals := 12 } : Room).slots) := by
  refine MetFree.of_bodySF (plainFor_of_name pnC) hisR ?_
  intro p e s m args below meth c s₁ Bd hml0 hP hK
  obtain ⟨rfl, hZ, hh⟩ := hP
  have hx := Bd.exec
  have hby := Bd.bytes
  have hml : c.maxLocals = 1 := hml0
  have hown : s.vm.findClass "com/example/schie/schie/simulation/StartInstants" = some m.cls := findClass_of_methodNamed Bd.named
  have hnm := (name_of_methodNamed Bd.named Bd.method).1
  have X0 : Stand p l e ({ frames := 1, cells := 0, slots := 0, locals := 12 } : Room) s m #[(.ref a)] below meth c s₁ [] 0 0 := Stand.of_body Bd
  have e0 : s₁.heap = h0 := by rw [← hh, Bd.state]; rfl
  have N0 := Fr.nil n0
  have pre0 : ∀ t, Steps p.tables e below (s₁.setTop (mkF m 0 #[.val (.ref a)] [])) t → Steps p.tables e below (s₁.setTop (entryFrame m #[(.ref a)] 1)) t := fun t kk => castTop (ef1 m a) kk
  obtain ⟨E, F1, F2, F3, V, hlen, hab⟩ := hR
  obtain ⟨cl, Ar, qk, Sz, Nz, Hs, Gs⟩ := id V
  obtain ⟨cq1, q1, q1'⟩ := E.cell
  obtain ⟨_, _, ⟨T1, L1, k1, n1⟩, -, X1, ⟨Lc1, hQ1, l1, y1, z1⟩, st1⟩ := X0.privateBack hx (y := (⟨"com/example/schie/schie/simulation/StartInstants", "requireNoted", "()V"⟩ : MethodName)) hown (mvT hZ (hw _ (List.mem_of_getElem? (i := 26) rfl))) (mvT hZ (hw _ (List.mem_of_getElem? (i := 27) rfl))) (own_sel (mvT hZ (hw _ (List.mem_of_getElem? (i := 15) rfl))) (mvT hZ (hw _ (List.mem_of_getElem? (i := 27) rfl))) (mvP hZ (hw _ (List.mem_of_getElem? (i := 28) rfl)))) (Cond.privateMethod_at (mvP hZ (hw _ (List.mem_of_getElem? (i := 28) rfl)) (args := #[]))) (mvT hZ (hw _ (List.mem_of_getElem? (i := 29) rfl))) (by decide) (backOf (W := 0) (rmN l Z a0 hw [] a sz h0 n0 Z0 F3 hz) hZ (hw _ (List.mem_of_getElem? (i := 29) rfl)) (hw _ (List.mem_of_getElem? (i := 2) rfl)) (by decide) (by decide)) (g := (mkF m 1 #[.val (.ref a)] [(.ref a)])) rfl (by rw [hml]; rfl) (Steps.refl _) (a := a) (by rw [e0]; exact q1) q1' (argsL := []) (rest := []) (lenOf pdV rfl) rfl (by show 2 * 0 + _ ≤ _; exact Nat.le_of_eq rfl) (hb hby d6_1) (fun _ _ => ⟨rfl, e0, (by decide : 0 + 0 ≤ _), (by decide : 0 + 0 ≤ _)⟩)
  dsimp only [Pt.U, Pt.locs, Pt.cells, Pt.slots] at X1 l1 y1 z1 st1 hQ1
  subst l1 y1 z1
  obtain ⟨rfl, N1q, hh1⟩ := hQ1
  have N1 := Fr.app N0 N1q
  rw [← hh1] at E F1 F2 F3 Ar
  obtain ⟨T2, X2, e2, st2⟩ := getF X1 hx hZ hown (host := "") (Or.inl (hw _ (List.mem_of_getElem? (i := 10) rfl))) Via.refl rfl F1 (g := (mkF m 5 #[.val (.ref a)] [(.ref a)])) rfl rfl (hb hby d6_5)
  obtain ⟨T3, X3, e3, st3⟩ := getF X2 hx hZ hown (host := "") (Or.inl (hw _ (List.mem_of_getElem? (i := 19) rfl))) Via.refl e2 F2 (g := (mkF m 9 #[.val (.ref a)] [(.ref a), (.ref b)])) rfl rfl (hb hby d6_9)
  have hin := inb_of Sz hi
  have hat : cl.slots[hd.toNatClampNeg]? = some (.double w) := by rw [Hs _ (Nat.lt_of_not_le fun z => hin (Or.inr z)), hv]
  obtain ⟨fs, hr, hrun, hended, hW, hsame⟩ := X3.leave (v := some (.double w)) (fun h => by rw [Bd.returns] at h; cases h)
  refine ⟨_, _, pre0 _ ?_, hrun, hended, _, _, rfl, ?_, ⟨_, rfl⟩, hW, hsame.mono (by decide) (by decide)⟩
  · skip
    show Steps p.tables e below (s₁.setTop (mkF m 0 #[.val (.ref a)] [])) _
    refine XS.aloadN X0.here hx rfl (hb hby d6_0) rfl rfl ?_
    show Steps p.tables e below (s₁.setTop (mkF m 1 #[.val (.ref a)] [(.ref a)])) _
    refine st1.trans ?_
    show Steps p.tables e below (T1.setTop (mkF m 4 #[.val (.ref a)] [])) _
    refine XS.aloadN X1.here hx rfl (hb hby d6_4) rfl rfl ?_
    show Steps p.tables e below (T1.setTop (mkF m 5 #[.val (.ref a)] [(.ref a)])) _
    refine st2 _ ?_
    show Steps p.tables e below (T2.setTop (mkF m 8 #[.val (.ref a)] [(.ref b)])) _
    refine XS.aloadN X2.here hx rfl (hb hby d6_8) rfl rfl ?_
    show Steps p.tables e below (T2.setTop (mkF m 9 #[.val (.ref a)] [(.ref a), (.ref b)])) _
    refine st3 _ ?_
    show Steps p.tables e below (T3.setTop (mkF m 12 #[.val (.ref a)] [(.int hd), (.ref b)])) _
    refine X3.daload hx (j := hd) (v := (.double w)) (by rw [e3]; exact Ar.1) (State.isArrayOf_alike hZ.alike Ar.2.1) Ar.2.2 hin hat (g := (mkF m 12 #[.val (.ref a)] [(.int hd), (.ref b)])) rfl rfl (hb hby d6_12) _ ?_
    show Steps p.tables e below (T3.setTop (mkF m 13 #[.val (.ref a)] [(.double w)])) _
    exact retOut X3 hx Bd.returns rfl (Or.inr (Or.inr (Or.inl ⟨rfl, rfl, _, rfl⟩))) (hb hby d6_13) hr
  · show QS h0 _ n0 _ T3.heap _
    rw [e3, hh1]
    exact ⟨rfl, N1, rfl⟩
set_option maxRecDepth 65536 in
set_option maxHeartbeats 40000000 in
theorem rmR (l : Launch) (Z : State) (a0 : Array Value) (hw : ∀ d ∈ tables_1, d.before a0 Z = true) (ws : List Jvm.Cond) (a b : Addr) (k : ClassId) (hd sz hd' sz' : Int32) (vs : List Value) (h0 : Heap) (n0 : Nat) (Z0 : n0 ≤ h0.size) (hR : Rg Z h0 a b k hd sz vs) (hz : ¬ sz = 0) (ga : n0 ≤ a) (h1 : (hd + (1 : Int32)) &&& ((16 : Int32) - (1 : Int32)) = hd') (h2 : sz - (1 : Int32) = sz') :
    MetFree l (⟨"com/example/schie/schie/simulation/StartInstants", "removeFirst", "()V"⟩ : MethodName) (head1 (Jvm.Cond.code (⟨"com/example/schie/schie/simulation/StartInstants", "removeFirst", "()V"⟩ : MethodName) prog_72_method_5_code 1 none :: ws) ({ frames := 1, cells := 0, slots := 0, locals := 12 } : Room)) (fun aa U => aa = #[(.ref a)] ∧ Z.Warmed39 U.vm ∧ U.heap = h0) (fun _ _ _ _ _ => True) (fun _ U o U' => ∃ rv RL, o = .returned rv ∧ QR Z a b k hd' sz' vs n0 rv U'.heap RL ∧ FrameEnd U o U' RL ({ frames := 1, cells := 0, slots := 0, locals := 12 } : Room).cells ({ frames := 1, cells := 0, slots := 0, locals := 12 } : Room).slots) := by
  refine MetFree.of_bodySF (plainFor_of_name pnC) hisR ?_
  intro p e s m args below meth c s₁ Bd hml0 hP hK
  obtain ⟨rfl, hZ, hh⟩ := hP
  have hx := Bd.exec
  have hby := Bd.bytes
  have hml : c.maxLocals = 1 := hml0
  have hown : s.vm.findClass "com/example/schie/schie/simulation/StartInstants" = some m.cls := findClass_of_methodNamed Bd.named
  have hnm := (name_of_methodNamed Bd.named Bd.method).1
  have X0 : Stand p l e ({ frames := 1, cells := 0, slots := 0, locals := 12 } : Room) s m #[(.ref a)] below meth c s₁ [] 0 0 := Stand.of_body Bd
  have e0 : s₁.heap = h0 := by rw [← hh, Bd.state]; rfl
  have N0 := Fr.nil n0
  have pre0 : ∀ t, Steps p.tables e below (s₁.setTop (mkF m 0 #[.val (.ref a)] [])) t → Steps p.tables e below (s₁.setTop (entryFrame m #[(.ref a)] 1)) t := fun t kk => castTop (ef1 m a) kk
  obtain ⟨E, F1, F2, F3, V, hlen, hab⟩ := hR
  obtain ⟨cl, Ar, qk, Sz, Nz, Hs, Gs⟩ := id V
  obtain ⟨cq1, q1, q1'⟩ := E.cell
  obtain ⟨_, _, ⟨T1, L1, k1, n1⟩, -, X1, ⟨Lc1, hQ1, l1, y1, z1⟩, st1⟩ := X0.privateBack hx (y := (⟨"com/example/schie/schie/simulation/StartInstants", "requireNoted", "()V"⟩ : MethodName)) hown (mvT hZ (hw _ (List.mem_of_getElem? (i := 26) rfl))) (mvT hZ (hw _ (List.mem_of_getElem? (i := 27) rfl))) (own_sel (mvT hZ (hw _ (List.mem_of_getElem? (i := 15) rfl))) (mvT hZ (hw _ (List.mem_of_getElem? (i := 27) rfl))) (mvP hZ (hw _ (List.mem_of_getElem? (i := 28) rfl)))) (Cond.privateMethod_at (mvP hZ (hw _ (List.mem_of_getElem? (i := 28) rfl)) (args := #[]))) (mvT hZ (hw _ (List.mem_of_getElem? (i := 29) rfl))) (by decide) (backOf (W := 0) (rmN l Z a0 hw [] a sz h0 n0 Z0 F3 hz) hZ (hw _ (List.mem_of_getElem? (i := 29) rfl)) (hw _ (List.mem_of_getElem? (i := 2) rfl)) (by decide) (by decide)) (g := (mkF m 1 #[.val (.ref a)] [(.ref a)])) rfl (by rw [hml]; rfl) (Steps.refl _) (a := a) (by rw [e0]; exact q1) q1' (argsL := []) (rest := []) (lenOf pdV rfl) rfl (by show 2 * 0 + _ ≤ _; exact Nat.le_of_eq rfl) (hb hby d4_1) (fun _ _ => ⟨rfl, e0, (by decide : 0 + 0 ≤ _), (by decide : 0 + 0 ≤ _)⟩)
  dsimp only [Pt.U, Pt.locs, Pt.cells, Pt.slots] at X1 l1 y1 z1 st1 hQ1
  subst l1 y1 z1
  obtain ⟨rfl, N1q, hh1⟩ := hQ1
  have N1 := Fr.app N0 N1q
  rw [← hh1] at E F1 F2 F3 Ar V Z0
  obtain ⟨T2, X2, e2, st2⟩ := getF X1 hx hZ hown (host := "") (Or.inl (hw _ (List.mem_of_getElem? (i := 19) rfl))) Via.refl rfl F2 (g := (mkF m 6 #[.val (.ref a)] [(.ref a), (.ref a)])) rfl rfl (hb hby d4_6)
  obtain ⟨T3, X3, e3, st3⟩ := getF X2 hx hZ hown (host := "") (Or.inl (hw _ (List.mem_of_getElem? (i := 10) rfl))) Via.refl e2 F1 (g := (mkF m 12 #[.val (.ref a)] [(.ref a), (.int (hd + (1 : Int32))), (.ref a)])) rfl rfl (hb hby d4_12)
  obtain ⟨T4, h4, X4, e4, W4, st4⟩ := putF X3 hx hZ hown (host := "") (Or.inl (hw _ (List.mem_of_getElem? (i := 19) rfl))) Via.refl e3 F2 E (Or.inl (hw _ (List.mem_of_getElem? (i := 20) rfl))) (hw _ (List.mem_of_getElem? (i := 1) rfl)) (ty := .int) (by decide) rfl rfl (g := (mkF m 19 #[.val (.ref a)] [(.int ((hd + (1 : Int32)) &&& ((16 : Int32) - (1 : Int32)))), (.ref a)])) rfl rfl (hb hby d4_19)
  have N4 := Fr.snoc X4 N1 ga
  obtain ⟨T5, X5, e5, st5⟩ := getF X4 hx hZ hown (host := "") (Or.inl (hw _ (List.mem_of_getElem? (i := 17) rfl))) Via.refl e4 (F3.other W4 (Or.inr (own_ne_hs hw).symm)) (g := (mkF m 24 #[.val (.ref a)] [(.ref a), (.ref a)])) rfl rfl (hb hby d4_24)
  obtain ⟨T6, h6, X6, e6, W6, st6⟩ := putF X5 hx hZ hown (host := "") (Or.inl (hw _ (List.mem_of_getElem? (i := 17) rfl))) Via.refl e5 (F3.other W4 (Or.inr (own_ne_hs hw).symm)) (E.wr W4) (Or.inl (hw _ (List.mem_of_getElem? (i := 18) rfl))) (hw _ (List.mem_of_getElem? (i := 1) rfl)) (ty := .int) (by decide) rfl rfl (g := (mkF m 29 #[.val (.ref a)] [(.int (sz - (1 : Int32))), (.ref a)])) rfl rfl (hb hby d4_29)
  have N6 := Fr.snoc X6 N4 ga
  obtain ⟨fs, hr, hrun, hended, hW, hsame⟩ := X6.leave (v := none) (fun _ => rfl)
  refine ⟨_, _, pre0 _ ?_, hrun, hended, _, _, rfl, ?_, ⟨_, rfl⟩, hW, hsame.mono (by decide) (by decide)⟩
  · skip
    show Steps p.tables e below (s₁.setTop (mkF m 0 #[.val (.ref a)] [])) _
    refine XS.aloadN X0.here hx rfl (hb hby d4_0) rfl rfl ?_
    show Steps p.tables e below (s₁.setTop (mkF m 1 #[.val (.ref a)] [(.ref a)])) _
    refine st1.trans ?_
    show Steps p.tables e below (T1.setTop (mkF m 4 #[.val (.ref a)] [])) _
    refine XS.aloadN X1.here hx rfl (hb hby d4_4) rfl rfl ?_
    show Steps p.tables e below (T1.setTop (mkF m 5 #[.val (.ref a)] [(.ref a)])) _
    refine XS.aloadN X1.here hx rfl (hb hby d4_5) rfl rfl ?_
    show Steps p.tables e below (T1.setTop (mkF m 6 #[.val (.ref a)] [(.ref a), (.ref a)])) _
    refine st2 _ ?_
    show Steps p.tables e below (T2.setTop (mkF m 9 #[.val (.ref a)] [(.int hd), (.ref a)])) _
    refine XS.iconst X2.here hx rfl (hb hby d4_9) ?_
    show Steps p.tables e below (T2.setTop (mkF m 10 #[.val (.ref a)] [(.int (1 : Int32)), (.int hd), (.ref a)])) _
    refine XS.iadd X2.here hx rfl (hb hby d4_10) rfl ?_
    show Steps p.tables e below (T2.setTop (mkF m 11 #[.val (.ref a)] [(.int (hd + (1 : Int32))), (.ref a)])) _
    refine XS.aloadN X2.here hx rfl (hb hby d4_11) rfl rfl ?_
    show Steps p.tables e below (T2.setTop (mkF m 12 #[.val (.ref a)] [(.ref a), (.int (hd + (1 : Int32))), (.ref a)])) _
    refine st3 _ ?_
    show Steps p.tables e below (T3.setTop (mkF m 15 #[.val (.ref a)] [(.ref b), (.int (hd + (1 : Int32))), (.ref a)])) _
    refine X3.arraylength hx (by rw [e3]; exact Ar.1) (State.isArrayOf_alike hZ.alike Ar.2.1) (g := (mkF m 15 #[.val (.ref a)] [(.ref b), (.int (hd + (1 : Int32))), (.ref a)])) rfl rfl (hb hby d4_15) _ ?_
    rw [len_of Sz Nz]
    show Steps p.tables e below (T3.setTop (mkF m 16 #[.val (.ref a)] [(.int (16 : Int32)), (.int (hd + (1 : Int32))), (.ref a)])) _
    refine XS.iconst X3.here hx rfl (hb hby d4_16) ?_
    show Steps p.tables e below (T3.setTop (mkF m 17 #[.val (.ref a)] [(.int (1 : Int32)), (.int (16 : Int32)), (.int (hd + (1 : Int32))), (.ref a)])) _
    refine XS.isub X3.here hx rfl (hb hby d4_17) rfl ?_
    show Steps p.tables e below (T3.setTop (mkF m 18 #[.val (.ref a)] [(.int ((16 : Int32) - (1 : Int32))), (.int (hd + (1 : Int32))), (.ref a)])) _
    refine XS.iand X3.here hx rfl (hb hby d4_18) rfl ?_
    show Steps p.tables e below (T3.setTop (mkF m 19 #[.val (.ref a)] [(.int ((hd + (1 : Int32)) &&& ((16 : Int32) - (1 : Int32)))), (.ref a)])) _
    refine st4 _ ?_
    show Steps p.tables e below (T4.setTop (mkF m 22 #[.val (.ref a)] [])) _
    refine XS.aloadN X4.here hx rfl (hb hby d4_22) rfl rfl ?_
    show Steps p.tables e below (T4.setTop (mkF m 23 #[.val (.ref a)] [(.ref a)])) _
    refine XS.dup X4.here hx rfl (hb hby d4_23) rfl rfl ?_
    show Steps p.tables e below (T4.setTop (mkF m 24 #[.val (.ref a)] [(.ref a), (.ref a)])) _
    refine st5 _ ?_
    show Steps p.tables e below (T5.setTop (mkF m 27 #[.val (.ref a)] [(.int sz), (.ref a)])) _
    refine XS.iconst X5.here hx rfl (hb hby d4_27) ?_
    show Steps p.tables e below (T5.setTop (mkF m 28 #[.val (.ref a)] [(.int (1 : Int32)), (.int sz), (.ref a)])) _
    refine XS.isub X5.here hx rfl (hb hby d4_28) rfl ?_
    show Steps p.tables e below (T5.setTop (mkF m 29 #[.val (.ref a)] [(.int (sz - (1 : Int32))), (.ref a)])) _
    refine st6 _ ?_
    show Steps p.tables e below (T6.setTop (mkF m 32 #[.val (.ref a)] [])) _
    exact X6.returnOut hx Bd.returns (hb hby d4_32) hr
  · show QR Z a b k hd' sz' vs n0 _ T6.heap _
    rw [e6]
    subst h1 h2
    exact ⟨rfl, N6, Nat.le_trans Z0 (Nat.le_of_eq (W6.size.trans W4.size).symm), (E.wr W4).wr W6, (F1.other W4 (Or.inr (own_ne_ih hw))).other W6 (Or.inr (own_ne_is hw)), (F2.same W4).other W6 (Or.inr (own_ne_hs hw)), (F3.other W4 (Or.inr (own_ne_hs hw).symm)).same W6, (V.other W4 hab.symm).other W6 hab.symm, hlen, hab⟩
set_option maxRecDepth 65536 in
set_option maxHeartbeats 40000000 in
theorem rmA (l : Launch) (Z : State) (a0 : Array Value) (hw : ∀ d ∈ tables_1, d.before a0 Z = true) (ws : List Jvm.Cond) (a b : Addr) (k : ClassId) (hd sz sz' : Int32) (vs vs' : List Value) (i : Nat) (x : UInt64) (h0 : Heap) (n0 : Nat) (Z0 : n0 ≤ h0.size) (hR : Rg Z h0 a b k hd sz vs) (hs : ¬ sz = (16 : Int32)) (ga : n0 ≤ a) (gb : n0 ≤ b) (hj : ¬ ((hd + sz) &&& ((16 : Int32) - (1 : Int32))) < 0 ∧ ((hd + sz) &&& ((16 : Int32) - (1 : Int32))) < (16 : Int32)) (hi : ((hd + sz) &&& ((16 : Int32) - (1 : Int32))).toNatClampNeg = i) (h1 : vs.set i (.double x) = vs') (h2 : sz + (1 : Int32) = sz') (hi16 : i < 16) :
    MetFree l (⟨"com/example/schie/schie/simulation/StartInstants", "addLast", "(D)V"⟩ : MethodName) (head1 (Jvm.Cond.code (⟨"com/example/schie/schie/simulation/StartInstants", "addLast", "(D)V"⟩ : MethodName) prog_72_method_2_code 5 none :: ws) ({ frames := 0, cells := 0, slots := 0, locals := 0 } : Room)) (fun aa U => aa = #[(.ref a), (.double x)] ∧ Z.Warmed39 U.vm ∧ U.heap = h0) (fun _ _ _ _ _ => True) (fun _ U o U' => ∃ rv RL, o = .returned rv ∧ QR Z a b k hd sz' vs' n0 rv U'.heap RL ∧ FrameEnd U o U' RL ({ frames := 0, cells := 0, slots := 0, locals := 0 } : Room).cells ({ frames := 0, cells := 0, slots := 0, locals := 0 } : Room).slots) := by
  refine MetFree.of_bodySF (plainFor_of_name pnC) hisR ?_
  intro p e s m args below meth c s₁ Bd hml0 hP hK
  obtain ⟨rfl, hZ, hh⟩ := hP
  have hx := Bd.exec
  have hby := Bd.bytes
  have hml : c.maxLocals = 5 := hml0
  have hown : s.vm.findClass "com/example/schie/schie/simulation/StartInstants" = some m.cls := findClass_of_methodNamed Bd.named
  have hnm := (name_of_methodNamed Bd.named Bd.method).1
  have X0 : Stand p l e ({ frames := 0, cells := 0, slots := 0, locals := 0 } : Room) s m #[(.ref a), (.double x)] below meth c s₁ [] 0 0 := Stand.of_body Bd
  have e0 : s₁.heap = h0 := by rw [← hh, Bd.state]; rfl
  have N0 := Fr.nil n0
  have pre0 : ∀ t, Steps p.tables e below (s₁.setTop (mkF m 0 #[.val (.ref a), .val (.double x), .second, .unset, .unset] [])) t → Steps p.tables e below (s₁.setTop (entryFrame m #[(.ref a), (.double x)] 5)) t := fun t kk => castTop (ef3 m a x) kk
  obtain ⟨E, F1, F2, F3, V, hlen, hab⟩ := hR
  obtain ⟨cl, Ar, qk, Sz, Nz, Hs, Gs⟩ := id V
  obtain ⟨T1, X1, e1, st1⟩ := getF X0 hx hZ hown (host := "") (Or.inl (hw _ (List.mem_of_getElem? (i := 17) rfl))) Via.refl e0 F3 (g := (mkF m 1 #[.val (.ref a), .val (.double x), .second, .unset, .unset] [(.ref a)])) rfl rfl (hb hby d3_1)
  obtain ⟨T2, X2, e2, st2⟩ := getF X1 hx hZ hown (host := "") (Or.inl (hw _ (List.mem_of_getElem? (i := 10) rfl))) Via.refl e1 F1 (g := (mkF m 5 #[.val (.ref a), .val (.double x), .second, .unset, .unset] [(.ref a), (.int sz)])) rfl rfl (hb hby d3_5)
  obtain ⟨T3, X3, e3, st3⟩ := getF X2 hx hZ hown (host := "") (Or.inl (hw _ (List.mem_of_getElem? (i := 10) rfl))) Via.refl e2 F1 (g := (mkF m 74 #[.val (.ref a), .val (.double x), .second, .unset, .unset] [(.ref a)])) rfl rfl (hb hby d3_74)
  obtain ⟨T4, X4, e4, st4⟩ := getF X3 hx hZ hown (host := "") (Or.inl (hw _ (List.mem_of_getElem? (i := 19) rfl))) Via.refl e3 F2 (g := (mkF m 78 #[.val (.ref a), .val (.double x), .second, .unset, .unset] [(.ref a), (.ref b)])) rfl rfl (hb hby d3_78)
  obtain ⟨T5, X5, e5, st5⟩ := getF X4 hx hZ hown (host := "") (Or.inl (hw _ (List.mem_of_getElem? (i := 17) rfl))) Via.refl e4 F3 (g := (mkF m 82 #[.val (.ref a), .val (.double x), .second, .unset, .unset] [(.ref a), (.int hd), (.ref b)])) rfl rfl (hb hby d3_82)
  obtain ⟨T6, X6, e6, st6⟩ := getF X5 hx hZ hown (host := "") (Or.inl (hw _ (List.mem_of_getElem? (i := 10) rfl))) Via.refl e5 F1 (g := (mkF m 87 #[.val (.ref a), .val (.double x), .second, .unset, .unset] [(.ref a), (.int (hd + sz)), (.ref b)])) rfl rfl (hb hby d3_87)
  obtain ⟨T7, h7, X7, e7, W7, st7⟩ := stD X6 hx hZ e6 Ar (j := ((hd + sz) &&& ((16 : Int32) - (1 : Int32)))) (inb_of Sz hj) (g := (mkF m 95 #[.val (.ref a), .val (.double x), .second, .unset, .unset] [(.double x), (.int ((hd + sz) &&& ((16 : Int32) - (1 : Int32)))), (.ref b)])) rfl rfl (hb hby d3_95)
  have N7 := Fr.snoc X7 N0 gb
  have V1 := Arv.set Ar qk Sz Nz Hs Gs (v := .double x) rfl W7 i hi (by rw [hlen]; exact hi16)
  obtain ⟨T8, X8, e8, st8⟩ := getF X7 hx hZ hown (host := "") (Or.inl (hw _ (List.mem_of_getElem? (i := 17) rfl))) Via.refl e7 (F3.other W7 (Or.inl hab)) (g := (mkF m 98 #[.val (.ref a), .val (.double x), .second, .unset, .unset] [(.ref a), (.ref a)])) rfl rfl (hb hby d3_98)
  obtain ⟨T9, h9, X9, e9, W9, st9⟩ := putF X8 hx hZ hown (host := "") (Or.inl (hw _ (List.mem_of_getElem? (i := 17) rfl))) Via.refl e8 (F3.other W7 (Or.inl hab)) (E.wr W7) (Or.inl (hw _ (List.mem_of_getElem? (i := 18) rfl))) (hw _ (List.mem_of_getElem? (i := 1) rfl)) (ty := .int) (by decide) rfl rfl (g := (mkF m 103 #[.val (.ref a), .val (.double x), .second, .unset, .unset] [(.int (sz + (1 : Int32))), (.ref a)])) rfl rfl (hb hby d3_103)
  have N9 := Fr.snoc X9 N7 ga
  obtain ⟨fs, hr, hrun, hended, hW, hsame⟩ := X9.leave (v := none) (fun _ => rfl)
  refine ⟨_, _, pre0 _ ?_, hrun, hended, _, _, rfl, ?_, ⟨_, rfl⟩, hW, hsame.mono (by decide) (by decide)⟩
  · skip
    show Steps p.tables e below (s₁.setTop (mkF m 0 #[.val (.ref a), .val (.double x), .second, .unset, .unset] [])) _
    refine XS.aloadN X0.here hx rfl (hb hby d3_0) rfl rfl ?_
    show Steps p.tables e below (s₁.setTop (mkF m 1 #[.val (.ref a), .val (.double x), .second, .unset, .unset] [(.ref a)])) _
    refine st1 _ ?_
    show Steps p.tables e below (T1.setTop (mkF m 4 #[.val (.ref a), .val (.double x), .second, .unset, .unset] [(.int sz)])) _
    refine XS.aloadN X1.here hx rfl (hb hby d3_4) rfl rfl ?_
    show Steps p.tables e below (T1.setTop (mkF m 5 #[.val (.ref a), .val (.double x), .second, .unset, .unset] [(.ref a), (.int sz)])) _
    refine st2 _ ?_
    show Steps p.tables e below (T2.setTop (mkF m 8 #[.val (.ref a), .val (.double x), .second, .unset, .unset] [(.ref b), (.int sz)])) _
    refine X2.arraylength hx (by rw [e2]; exact Ar.1) (State.isArrayOf_alike hZ.alike Ar.2.1) (g := (mkF m 8 #[.val (.ref a), .val (.double x), .second, .unset, .unset] [(.ref b), (.int sz)])) rfl rfl (hb hby d3_8) _ ?_
    rw [len_of Sz Nz]
    show Steps p.tables e below (T2.setTop (mkF m 9 #[.val (.ref a), .val (.double x), .second, .unset, .unset] [(.int (16 : Int32)), (.int sz)])) _
    refine XS.icmpYes X2.here hx rfl (pc0 := 9) (pc' := 73) rfl (hb hby d3_9) rfl (feq hs).2 (by decide) (by decide) ?_
    show Steps p.tables e below (T2.setTop (mkF m 73 #[.val (.ref a), .val (.double x), .second, .unset, .unset] [])) _
    refine XS.aloadN X2.here hx rfl (hb hby d3_73) rfl rfl ?_
    show Steps p.tables e below (T2.setTop (mkF m 74 #[.val (.ref a), .val (.double x), .second, .unset, .unset] [(.ref a)])) _
    refine st3 _ ?_
    show Steps p.tables e below (T3.setTop (mkF m 77 #[.val (.ref a), .val (.double x), .second, .unset, .unset] [(.ref b)])) _
    refine XS.aloadN X3.here hx rfl (hb hby d3_77) rfl rfl ?_
    show Steps p.tables e below (T3.setTop (mkF m 78 #[.val (.ref a), .val (.double x), .second, .unset, .unset] [(.ref a), (.ref b)])) _
    refine st4 _ ?_
    show Steps p.tables e below (T4.setTop (mkF m 81 #[.val (.ref a), .val (.double x), .second, .unset, .unset] [(.int hd), (.ref b)])) _
    refine XS.aloadN X4.here hx rfl (hb hby d3_81) rfl rfl ?_
    show Steps p.tables e below (T4.setTop (mkF m 82 #[.val (.ref a), .val (.double x), .second, .unset, .unset] [(.ref a), (.int hd), (.ref b)])) _
    refine st5 _ ?_
    show Steps p.tables e below (T5.setTop (mkF m 85 #[.val (.ref a), .val (.double x), .second, .unset, .unset] [(.int sz), (.int hd), (.ref b)])) _
    refine XS.iadd X5.here hx rfl (hb hby d3_85) rfl ?_
    show Steps p.tables e below (T5.setTop (mkF m 86 #[.val (.ref a), .val (.double x), .second, .unset, .unset] [(.int (hd + sz)), (.ref b)])) _
    refine XS.aloadN X5.here hx rfl (hb hby d3_86) rfl rfl ?_
    show Steps p.tables e below (T5.setTop (mkF m 87 #[.val (.ref a), .val (.double x), .second, .unset, .unset] [(.ref a), (.int (hd + sz)), (.ref b)])) _
    refine st6 _ ?_
    show Steps p.tables e below (T6.setTop (mkF m 90 #[.val (.ref a), .val (.double x), .second, .unset, .unset] [(.ref b), (.int (hd + sz)), (.ref b)])) _
    refine X6.arraylength hx (by rw [e6]; exact Ar.1) (State.isArrayOf_alike hZ.alike Ar.2.1) (g := (mkF m 90 #[.val (.ref a), .val (.double x), .second, .unset, .unset] [(.ref b), (.int (hd + sz)), (.ref b)])) rfl rfl (hb hby d3_90) _ ?_
    rw [len_of Sz Nz]
    show Steps p.tables e below (T6.setTop (mkF m 91 #[.val (.ref a), .val (.double x), .second, .unset, .unset] [(.int (16 : Int32)), (.int (hd + sz)), (.ref b)])) _
    refine XS.iconst X6.here hx rfl (hb hby d3_91) ?_
    show Steps p.tables e below (T6.setTop (mkF m 92 #[.val (.ref a), .val (.double x), .second, .unset, .unset] [(.int (1 : Int32)), (.int (16 : Int32)), (.int (hd + sz)), (.ref b)])) _
    refine XS.isub X6.here hx rfl (hb hby d3_92) rfl ?_
    show Steps p.tables e below (T6.setTop (mkF m 93 #[.val (.ref a), .val (.double x), .second, .unset, .unset] [(.int ((16 : Int32) - (1 : Int32))), (.int (hd + sz)), (.ref b)])) _
    refine XS.iand X6.here hx rfl (hb hby d3_93) rfl ?_
    show Steps p.tables e below (T6.setTop (mkF m 94 #[.val (.ref a), .val (.double x), .second, .unset, .unset] [(.int ((hd + sz) &&& ((16 : Int32) - (1 : Int32)))), (.ref b)])) _
    refine XS.dloadN X6.here hx rfl (hb hby d3_94) rfl ?_
    show Steps p.tables e below (T6.setTop (mkF m 95 #[.val (.ref a), .val (.double x), .second, .unset, .unset] [(.double x), (.int ((hd + sz) &&& ((16 : Int32) - (1 : Int32)))), (.ref b)])) _
    refine st7 _ ?_
    show Steps p.tables e below (T7.setTop (mkF m 96 #[.val (.ref a), .val (.double x), .second, .unset, .unset] [])) _
    refine XS.aloadN X7.here hx rfl (hb hby d3_96) rfl rfl ?_
    show Steps p.tables e below (T7.setTop (mkF m 97 #[.val (.ref a), .val (.double x), .second, .unset, .unset] [(.ref a)])) _
    refine XS.dup X7.here hx rfl (hb hby d3_97) rfl rfl ?_
    show Steps p.tables e below (T7.setTop (mkF m 98 #[.val (.ref a), .val (.double x), .second, .unset, .unset] [(.ref a), (.ref a)])) _
    refine st8 _ ?_
    show Steps p.tables e below (T8.setTop (mkF m 101 #[.val (.ref a), .val (.double x), .second, .unset, .unset] [(.int sz), (.ref a)])) _
    refine XS.iconst X8.here hx rfl (hb hby d3_101) ?_
    show Steps p.tables e below (T8.setTop (mkF m 102 #[.val (.ref a), .val (.double x), .second, .unset, .unset] [(.int (1 : Int32)), (.int sz), (.ref a)])) _
    refine XS.iadd X8.here hx rfl (hb hby d3_102) rfl ?_
    show Steps p.tables e below (T8.setTop (mkF m 103 #[.val (.ref a), .val (.double x), .second, .unset, .unset] [(.int (sz + (1 : Int32))), (.ref a)])) _
    refine st9 _ ?_
    show Steps p.tables e below (T9.setTop (mkF m 106 #[.val (.ref a), .val (.double x), .second, .unset, .unset] [])) _
    exact X9.returnOut hx Bd.returns (hb hby d3_106) hr
  · show QR Z a b k hd sz' vs' n0 _ T9.heap _
    rw [e9]
    subst h1 h2
    exact ⟨rfl, N9, Nat.le_trans Z0 (Nat.le_of_eq (W9.size.trans W7.size).symm), (E.wr W7).wr W9, (F1.other W7 (Or.inl hab)).other W9 (Or.inr (own_ne_is hw)), (F2.other W7 (Or.inl hab)).other W9 (Or.inr (own_ne_hs hw)), (F3.other W7 (Or.inl hab)).same W9, V1.other W9 hab.symm, by rw [List.length_set]; exact hlen, hab⟩
def Q0 (v : Option Value) (n0 : Nat) (L : List Loc) : Prop := v = some (.int 1) ∧ Fr n0 L
set_option maxRecDepth 65536 in
set_option maxHeartbeats 40000000 in
theorem rm0 (l : Launch) (Z : State) (a0 : Array Value) (hw : ∀ d ∈ tables_1, d.before a0 Z = true) (ws : List Jvm.Cond) (p0 : Int32) (p1 : Int32) (p2 : Int32) (p3 : Int32) (h0 : Heap) (n0 : Nat) (Z0 : n0 ≤ h0.size) :
    MetFree l x (head1 (Jvm.Cond.code x code maxLocals ret :: ws) room_1) (fun a U => a = #[(.int p0), (.int p1), (.int p2), (.int p3)] ∧ Z.Warmed39 U.vm ∧ U.heap = h0) (fun _ _ _ _ _ => True) (fun _ U o U' => ∃ v L, o = .returned v ∧ Q0 v n0 L ∧ FrameEnd U o U' L 16 128) := by
  refine MetFree.of_bodySF (plainFor_of_name pnL) hisR ?_
  intro p e s m args below meth c s₁ Bd hml0 hP hK
  obtain ⟨rfl, hZ, hh⟩ := hP
  have hx := Bd.exec
  have hby := Bd.bytes
  have hml : c.maxLocals = 16 := hml0
  have hown : s.vm.findClass "com/example/schie/schie/simulation/StartInstantsAddLastPinLaw" = some m.cls := findClass_of_methodNamed Bd.named
  have X0 : Stand p l e room_1 s m #[(.int p0), (.int p1), (.int p2), (.int p3)] below meth c s₁ [] 0 0 := Stand.of_body Bd
  have e0 : s₁.heap = h0 := by rw [← hh, Bd.state]; rfl
  have N0 := Fr.nil n0
  have pre0 : ∀ t, Steps p.tables e below (s₁.setTop (mkF m 0 #[.val (.int p0), .val (.int p1), .val (.int p2), .val (.int p3), .unset, .unset, .unset, .unset, .unset, .unset, .unset, .unset, .unset, .unset, .unset, .unset] [])) t → Steps p.tables e below (s₁.setTop (entryFrame m #[(.int p0), (.int p1), (.int p2), (.int p3)] maxLocals)) t := fun t k => castTop (ef0 m p0 p1 p2 p3) k
  by_cases hf : (p3 &&& (1 : Int32)) = 0
  · skip
    obtain ⟨T1, h1, X1, e1, E1, A1, D1, -, st1⟩ := newO X0 hx hZ hown (hw _ (List.mem_of_getElem? (i := 0) rfl)) (hw _ (List.mem_of_getElem? (i := 1) rfl)) (hw _ (List.mem_of_getElem? (i := 2) rfl)) e0 (g := (mkF m 25 #[.val (.int p0), .val (.int p1), .val (.int p2), .val (.int p3), .val (.double (FP.i2d p0)), .second, .val (.double (FP.i2d p1)), .second, .val (.double (FP.i2d p2)), .second, .val (.int (0 : Int32)), .unset, .unset, .unset, .unset, .unset] [])) rfl (hb hby at_25) (by decide) (by decide)
    obtain ⟨a, ga0⟩ : ∃ z, z = h0.size := ⟨_, rfl⟩
    rw [← ga0] at A1 D1 st1
    have ga : n0 ≤ a := Nat.le_trans Z0 (Nat.le_of_eq ga0.symm)
    obtain ⟨_, _, ⟨T2, L2, k2, n2⟩, -, X2, ⟨Lc2, hQ2, l2, y2, z2⟩, st2⟩ := X1.specialBack hx (y := (⟨"com/example/schie/schie/simulation/StartInstants", "<init>", "()V"⟩ : MethodName)) rfl hown (mvT hZ (hw _ (List.mem_of_getElem? (i := 3) rfl))) (mvT hZ (hw _ (List.mem_of_getElem? (i := 4) rfl))) (mvT hZ (hw _ (List.mem_of_getElem? (i := 5) rfl))) (by decide) (backOf (W := 1) (rmI l Z a0 hw [] a h1 n0 (Nat.le_trans Z0 E1.1) A1 (D1 (Or.inl (hw _ (List.mem_of_getElem? (i := 11) rfl))) (ty := (.array .double)) (by decide)) (D1 (Or.inl (hw _ (List.mem_of_getElem? (i := 20) rfl))) (ty := .int) (by decide)) (D1 (Or.inl (hw _ (List.mem_of_getElem? (i := 18) rfl))) (ty := .int) (by decide)) ga) hZ (hw _ (List.mem_of_getElem? (i := 5) rfl)) (hw _ (List.mem_of_getElem? (i := 2) rfl)) (by decide) (by decide)) (g := (mkF m 29 #[.val (.int p0), .val (.int p1), .val (.int p2), .val (.int p3), .val (.double (FP.i2d p0)), .second, .val (.double (FP.i2d p1)), .second, .val (.double (FP.i2d p2)), .second, .val (.int (0 : Int32)), .unset, .unset, .unset, .unset, .unset] [(.ref a), (.ref a)])) rfl (by rw [hml]; rfl) (Steps.refl _) (a := a) (argsL := []) (rest := [(.ref a)]) (lenOf pdV rfl) rfl (by show 2 * 0 + _ ≤ _; exact Nat.le_of_eq rfl) (hb hby at_29) (fun _ _ => ⟨rfl, e1, (by decide : 1 + 1 ≤ _), (by decide : 3 + 16 ≤ _)⟩)
    dsimp only [Pt.U, Pt.locs, Pt.cells, Pt.slots] at X2 l2 y2 z2 st2 hQ2
    subst l2 y2 z2
    obtain ⟨rfl, N2q, zz2, b, k, gb, gR2⟩ := hQ2
    have N2 := Fr.app N0 N2q
    have gR2 : Rg Z T2.heap a b k 0 0 (V3 0 0 0) := gR2
    obtain ⟨cq3, kq3, q3a, q3b, q3c⟩ := isOf hZ rfl gR2.1
    obtain ⟨_, _, ⟨T3, L3, k3, n3⟩, -, X3, ⟨Lc3, hQ3, l3, y3, z3⟩, st3⟩ := X2.virtualBack hx (y := (⟨"com/example/schie/schie/simulation/StartInstants", "addLast", "(D)V"⟩ : MethodName)) (z := (⟨"com/example/schie/schie/simulation/StartInstants", "addLast", "(D)V"⟩ : MethodName)) hown (mvT hZ (hw _ (List.mem_of_getElem? (i := 12) rfl))) (mvT hZ (hw _ (List.mem_of_getElem? (i := 13) rfl))) (notFace_of_selects (args := #[]) (mvT hZ (hw _ (List.mem_of_getElem? (i := 15) rfl)))) (mvT hZ (hw _ (List.mem_of_getElem? (i := 15) rfl))) (mvT hZ (hw _ (List.mem_of_getElem? (i := 14) rfl))) (by decide) (backOf (W := 0) (rmA l Z a0 hw [] a b k (0 : Int32) (0 : Int32) (1 : Int32) (V3 0 0 0) (V3 (FP.i2d p0) 0 0) 0 (FP.i2d p0) T2.heap n0 zz2 gR2 (by decide) ga gb (by decide) (by decide) rfl (by decide) (by decide)) hZ (hw _ (List.mem_of_getElem? (i := 16) rfl)) (hw _ (List.mem_of_getElem? (i := 2) rfl)) (by decide) (by decide)) q3a q3c (g := (mkF m 38 #[.val (.int p0), .val (.int p1), .val (.int p2), .val (.int p3), .val (.double (FP.i2d p0)), .second, .val (.double (FP.i2d p1)), .second, .val (.double (FP.i2d p2)), .second, .val (.int (0 : Int32)), .val (.ref a), .unset, .unset, .unset, .unset] [(.double (FP.i2d p0)), (.ref a)])) rfl (by rw [hml]; rfl) (Steps.refl _) (argsL := [(.double (FP.i2d p0))]) (rest := []) (lenOf pdD rfl) rfl (by show 2 * 0 + _ ≤ _; exact Nat.le_of_eq rfl) (hb hby at_38) (fun _ _ => ⟨rfl, rfl, (by decide : 2 + 0 ≤ _), (by decide : 19 + 0 ≤ _)⟩)
    dsimp only [Pt.U, Pt.locs, Pt.cells, Pt.slots] at X3 l3 y3 z3 st3 hQ3
    subst l3 y3 z3
    obtain ⟨rfl, N3q, zz3, gR3⟩ := hQ3
    have N3 := Fr.app N2 N3q
    obtain ⟨cq4, kq4, q4a, q4b, q4c⟩ := isOf hZ rfl gR3.1
    obtain ⟨_, _, ⟨T4, L4, k4, n4⟩, -, X4, ⟨Lc4, hQ4, l4, y4, z4⟩, st4⟩ := X3.virtualBack hx (y := (⟨"com/example/schie/schie/simulation/StartInstants", "addLast", "(D)V"⟩ : MethodName)) (z := (⟨"com/example/schie/schie/simulation/StartInstants", "addLast", "(D)V"⟩ : MethodName)) hown (mvT hZ (hw _ (List.mem_of_getElem? (i := 12) rfl))) (mvT hZ (hw _ (List.mem_of_getElem? (i := 13) rfl))) (notFace_of_selects (args := #[]) (mvT hZ (hw _ (List.mem_of_getElem? (i := 15) rfl)))) (mvT hZ (hw _ (List.mem_of_getElem? (i := 15) rfl))) (mvT hZ (hw _ (List.mem_of_getElem? (i := 14) rfl))) (by decide) (backOf (W := 0) (rmA l Z a0 hw [] a b k (0 : Int32) (1 : Int32) (2 : Int32) (V3 (FP.i2d p0) 0 0) (V3 (FP.i2d p0) (FP.i2d p1) 0) 1 (FP.i2d p1) T3.heap n0 zz3 gR3 (by decide) ga gb (by decide) (by decide) rfl (by decide) (by decide)) hZ (hw _ (List.mem_of_getElem? (i := 16) rfl)) (hw _ (List.mem_of_getElem? (i := 2) rfl)) (by decide) (by decide)) q4a q4c (g := (mkF m 55 #[.val (.int p0), .val (.int p1), .val (.int p2), .val (.int p3), .val (.double (FP.i2d p0)), .second, .val (.double (FP.i2d p1)), .second, .val (.double (FP.i2d p2)), .second, .val (.int (0 : Int32)), .val (.ref a), .unset, .unset, .unset, .unset] [(.double (FP.i2d p1)), (.ref a)])) rfl (by rw [hml]; rfl) (Steps.refl _) (argsL := [(.double (FP.i2d p1))]) (rest := []) (lenOf pdD rfl) rfl (by show 2 * 0 + _ ≤ _; exact Nat.le_of_eq rfl) (hb hby at_55) (fun _ _ => ⟨rfl, rfl, (by decide : 2 + 0 ≤ _), (by decide : 19 + 0 ≤ _)⟩)
    dsimp only [Pt.U, Pt.locs, Pt.cells, Pt.slots] at X4 l4 y4 z4 st4 hQ4
    subst l4 y4 z4
    obtain ⟨rfl, N4q, zz4, gR4⟩ := hQ4
    have N4 := Fr.app N3 N4q
    obtain ⟨cq5, kq5, q5a, q5b, q5c⟩ := isOf hZ rfl gR4.1
    obtain ⟨_, _, ⟨T5, L5, k5, n5⟩, -, X5, ⟨Lc5, hQ5, l5, y5, z5⟩, st5⟩ := X4.virtualBack hx (y := (⟨"com/example/schie/schie/simulation/StartInstants", "addLast", "(D)V"⟩ : MethodName)) (z := (⟨"com/example/schie/schie/simulation/StartInstants", "addLast", "(D)V"⟩ : MethodName)) hown (mvT hZ (hw _ (List.mem_of_getElem? (i := 12) rfl))) (mvT hZ (hw _ (List.mem_of_getElem? (i := 13) rfl))) (notFace_of_selects (args := #[]) (mvT hZ (hw _ (List.mem_of_getElem? (i := 15) rfl)))) (mvT hZ (hw _ (List.mem_of_getElem? (i := 15) rfl))) (mvT hZ (hw _ (List.mem_of_getElem? (i := 14) rfl))) (by decide) (backOf (W := 0) (rmA l Z a0 hw [] a b k (0 : Int32) (2 : Int32) (3 : Int32) (V3 (FP.i2d p0) (FP.i2d p1) 0) (V3 (FP.i2d p0) (FP.i2d p1) (FP.i2d p2)) 2 (FP.i2d p2) T4.heap n0 zz4 gR4 (by decide) ga gb (by decide) (by decide) rfl (by decide) (by decide)) hZ (hw _ (List.mem_of_getElem? (i := 16) rfl)) (hw _ (List.mem_of_getElem? (i := 2) rfl)) (by decide) (by decide)) q5a q5c (g := (mkF m 62 #[.val (.int p0), .val (.int p1), .val (.int p2), .val (.int p3), .val (.double (FP.i2d p0)), .second, .val (.double (FP.i2d p1)), .second, .val (.double (FP.i2d p2)), .second, .val (.int (0 : Int32)), .val (.ref a), .unset, .unset, .unset, .unset] [(.double (FP.i2d p2)), (.ref a)])) rfl (by rw [hml]; rfl) (Steps.refl _) (argsL := [(.double (FP.i2d p2))]) (rest := []) (lenOf pdD rfl) rfl (by show 2 * 0 + _ ≤ _; exact Nat.le_of_eq rfl) (hb hby at_62) (fun _ _ => ⟨rfl, rfl, (by decide : 2 + 0 ≤ _), (by decide : 19 + 0 ≤ _)⟩)
    dsimp only [Pt.U, Pt.locs, Pt.cells, Pt.slots] at X5 l5 y5 z5 st5 hQ5
    subst l5 y5 z5
    obtain ⟨rfl, N5q, zz5, gR5⟩ := hQ5
    have N5 := Fr.app N4 N5q
    obtain ⟨cq6, kq6, q6a, q6b, q6c⟩ := isOf hZ rfl gR5.1
    obtain ⟨_, _, ⟨T6, L6, k6, n6⟩, -, X6, ⟨Lc6, hQ6, l6, y6, z6⟩, st6⟩ := X5.virtualBack hx (y := (⟨"com/example/schie/schie/simulation/StartInstants", "first", "()D"⟩ : MethodName)) (z := (⟨"com/example/schie/schie/simulation/StartInstants", "first", "()D"⟩ : MethodName)) hown (mvT hZ (hw _ (List.mem_of_getElem? (i := 30) rfl))) (mvT hZ (hw _ (List.mem_of_getElem? (i := 31) rfl))) (notFace_of_selects (args := #[]) (mvT hZ (hw _ (List.mem_of_getElem? (i := 33) rfl)))) (mvT hZ (hw _ (List.mem_of_getElem? (i := 33) rfl))) (mvT hZ (hw _ (List.mem_of_getElem? (i := 32) rfl))) (by decide) (backOf (W := 0) (rmF l Z a0 hw [] a b k (0 : Int32) (3 : Int32) (V3 (FP.i2d p0) (FP.i2d p1) (FP.i2d p2)) (FP.i2d p0) T5.heap n0 zz5 gR5 (by decide) (by decide) rfl) hZ (hw _ (List.mem_of_getElem? (i := 34) rfl)) (hw _ (List.mem_of_getElem? (i := 2) rfl)) (by decide) (by decide)) q6a q6c (g := (mkF m 67 #[.val (.int p0), .val (.int p1), .val (.int p2), .val (.int p3), .val (.double (FP.i2d p0)), .second, .val (.double (FP.i2d p1)), .second, .val (.double (FP.i2d p2)), .second, .val (.int (0 : Int32)), .val (.ref a), .unset, .unset, .unset, .unset] [(.ref a)])) rfl (by rw [hml]; rfl) (Steps.refl _) (argsL := []) (rest := []) (lenOf pdF rfl) rfl (by show 2 * 0 + _ ≤ _; exact Nat.le_of_eq rfl) (hb hby at_67) (fun _ _ => ⟨rfl, rfl, (by decide : 2 + 0 ≤ _), (by decide : 19 + 0 ≤ _)⟩)
    dsimp only [Pt.U, Pt.locs, Pt.cells, Pt.slots] at X6 l6 y6 z6 st6 hQ6
    subst l6 y6 z6
    obtain ⟨rfl, N6q, hh6⟩ := hQ6
    have N6 := Fr.app N5 N6q
    have zz6 : n0 ≤ T6.heap.size := by rw [hh6]; exact zz5
    have gR6 : Rg Z T6.heap a b k (0 : Int32) (3 : Int32) (V3 (FP.i2d p0) (FP.i2d p1) (FP.i2d p2)) := by rw [hh6]; exact gR5
    obtain ⟨cq7, kq7, q7a, q7b, q7c⟩ := isOf hZ rfl gR6.1
    obtain ⟨_, _, ⟨T7, L7, k7, n7⟩, -, X7, ⟨Lc7, hQ7, l7, y7, z7⟩, st7⟩ := X6.virtualBack hx (y := (⟨"com/example/schie/schie/simulation/StartInstants", "removeFirst", "()V"⟩ : MethodName)) (z := (⟨"com/example/schie/schie/simulation/StartInstants", "removeFirst", "()V"⟩ : MethodName)) hown (mvT hZ (hw _ (List.mem_of_getElem? (i := 21) rfl))) (mvT hZ (hw _ (List.mem_of_getElem? (i := 22) rfl))) (notFace_of_selects (args := #[]) (mvT hZ (hw _ (List.mem_of_getElem? (i := 24) rfl)))) (mvT hZ (hw _ (List.mem_of_getElem? (i := 24) rfl))) (mvT hZ (hw _ (List.mem_of_getElem? (i := 23) rfl))) (by decide) (backOf (W := 0) (rmR l Z a0 hw [] a b k (0 : Int32) (3 : Int32) (1 : Int32) (2 : Int32) (V3 (FP.i2d p0) (FP.i2d p1) (FP.i2d p2)) T6.heap n0 zz6 gR6 (by decide) ga (by decide) (by decide)) hZ (hw _ (List.mem_of_getElem? (i := 25) rfl)) (hw _ (List.mem_of_getElem? (i := 2) rfl)) (by decide) (by decide)) q7a q7c (g := (mkF m 74 #[.val (.int p0), .val (.int p1), .val (.int p2), .val (.int p3), .val (.double (FP.i2d p0)), .second, .val (.double (FP.i2d p1)), .second, .val (.double (FP.i2d p2)), .second, .val (.int (0 : Int32)), .val (.ref a), .val (.double (FP.i2d p0)), .second, .unset, .unset] [(.ref a)])) rfl (by rw [hml]; rfl) (Steps.refl _) (argsL := []) (rest := []) (lenOf pdV rfl) rfl (by show 2 * 0 + _ ≤ _; exact Nat.le_of_eq rfl) (hb hby at_74) (fun _ _ => ⟨rfl, rfl, (by decide : 2 + 0 ≤ _), (by decide : 19 + 0 ≤ _)⟩)
    dsimp only [Pt.U, Pt.locs, Pt.cells, Pt.slots] at X7 l7 y7 z7 st7 hQ7
    subst l7 y7 z7
    obtain ⟨rfl, N7q, zz7, gR7⟩ := hQ7
    have N7 := Fr.app N6 N7q
    obtain ⟨cq8, kq8, q8a, q8b, q8c⟩ := isOf hZ rfl gR7.1
    obtain ⟨_, _, ⟨T8, L8, k8, n8⟩, -, X8, ⟨Lc8, hQ8, l8, y8, z8⟩, st8⟩ := X7.virtualBack hx (y := (⟨"com/example/schie/schie/simulation/StartInstants", "first", "()D"⟩ : MethodName)) (z := (⟨"com/example/schie/schie/simulation/StartInstants", "first", "()D"⟩ : MethodName)) hown (mvT hZ (hw _ (List.mem_of_getElem? (i := 30) rfl))) (mvT hZ (hw _ (List.mem_of_getElem? (i := 31) rfl))) (notFace_of_selects (args := #[]) (mvT hZ (hw _ (List.mem_of_getElem? (i := 33) rfl)))) (mvT hZ (hw _ (List.mem_of_getElem? (i := 33) rfl))) (mvT hZ (hw _ (List.mem_of_getElem? (i := 32) rfl))) (by decide) (backOf (W := 0) (rmF l Z a0 hw [] a b k (1 : Int32) (2 : Int32) (V3 (FP.i2d p0) (FP.i2d p1) (FP.i2d p2)) (FP.i2d p1) T7.heap n0 zz7 gR7 (by decide) (by decide) rfl) hZ (hw _ (List.mem_of_getElem? (i := 34) rfl)) (hw _ (List.mem_of_getElem? (i := 2) rfl)) (by decide) (by decide)) q8a q8c (g := (mkF m 79 #[.val (.int p0), .val (.int p1), .val (.int p2), .val (.int p3), .val (.double (FP.i2d p0)), .second, .val (.double (FP.i2d p1)), .second, .val (.double (FP.i2d p2)), .second, .val (.int (0 : Int32)), .val (.ref a), .val (.double (FP.i2d p0)), .second, .unset, .unset] [(.ref a)])) rfl (by rw [hml]; rfl) (Steps.refl _) (argsL := []) (rest := []) (lenOf pdF rfl) rfl (by show 2 * 0 + _ ≤ _; exact Nat.le_of_eq rfl) (hb hby at_79) (fun _ _ => ⟨rfl, rfl, (by decide : 2 + 0 ≤ _), (by decide : 19 + 0 ≤ _)⟩)
    dsimp only [Pt.U, Pt.locs, Pt.cells, Pt.slots] at X8 l8 y8 z8 st8 hQ8
    subst l8 y8 z8
    obtain ⟨rfl, N8q, hh8⟩ := hQ8
    have N8 := Fr.app N7 N8q
    have zz8 : n0 ≤ T8.heap.size := by rw [hh8]; exact zz7
    have gR8 : Rg Z T8.heap a b k (1 : Int32) (2 : Int32) (V3 (FP.i2d p0) (FP.i2d p1) (FP.i2d p2)) := by rw [hh8]; exact gR7
    obtain ⟨cq9, kq9, q9a, q9b, q9c⟩ := isOf hZ rfl gR8.1
    obtain ⟨_, _, ⟨T9, L9, k9, n9⟩, -, X9, ⟨Lc9, hQ9, l9, y9, z9⟩, st9⟩ := X8.virtualBack hx (y := (⟨"com/example/schie/schie/simulation/StartInstants", "removeFirst", "()V"⟩ : MethodName)) (z := (⟨"com/example/schie/schie/simulation/StartInstants", "removeFirst", "()V"⟩ : MethodName)) hown (mvT hZ (hw _ (List.mem_of_getElem? (i := 21) rfl))) (mvT hZ (hw _ (List.mem_of_getElem? (i := 22) rfl))) (notFace_of_selects (args := #[]) (mvT hZ (hw _ (List.mem_of_getElem? (i := 24) rfl)))) (mvT hZ (hw _ (List.mem_of_getElem? (i := 24) rfl))) (mvT hZ (hw _ (List.mem_of_getElem? (i := 23) rfl))) (by decide) (backOf (W := 0) (rmR l Z a0 hw [] a b k (1 : Int32) (2 : Int32) (2 : Int32) (1 : Int32) (V3 (FP.i2d p0) (FP.i2d p1) (FP.i2d p2)) T8.heap n0 zz8 gR8 (by decide) ga (by decide) (by decide)) hZ (hw _ (List.mem_of_getElem? (i := 25) rfl)) (hw _ (List.mem_of_getElem? (i := 2) rfl)) (by decide) (by decide)) q9a q9c (g := (mkF m 86 #[.val (.int p0), .val (.int p1), .val (.int p2), .val (.int p3), .val (.double (FP.i2d p0)), .second, .val (.double (FP.i2d p1)), .second, .val (.double (FP.i2d p2)), .second, .val (.int (0 : Int32)), .val (.ref a), .val (.double (FP.i2d p0)), .second, .val (.double (FP.i2d p1)), .second] [(.ref a)])) rfl (by rw [hml]; rfl) (Steps.refl _) (argsL := []) (rest := []) (lenOf pdV rfl) rfl (by show 2 * 0 + _ ≤ _; exact Nat.le_of_eq rfl) (hb hby at_86) (fun _ _ => ⟨rfl, rfl, (by decide : 2 + 0 ≤ _), (by decide : 19 + 0 ≤ _)⟩)
    dsimp only [Pt.U, Pt.locs, Pt.cells, Pt.slots] at X9 l9 y9 z9 st9 hQ9
    subst l9 y9 z9
    obtain ⟨rfl, N9q, zz9, gR9⟩ := hQ9
    have N9 := Fr.app N8 N9q
    obtain ⟨cq10, kq10, q10a, q10b, q10c⟩ := isOf hZ rfl gR9.1
    obtain ⟨_, _, ⟨T10, L10, k10, n10⟩, -, X10, ⟨Lc10, hQ10, l10, y10, z10⟩, st10⟩ := X9.virtualBack hx (y := (⟨"com/example/schie/schie/simulation/StartInstants", "isEmpty", "()Z"⟩ : MethodName)) (z := (⟨"com/example/schie/schie/simulation/StartInstants", "isEmpty", "()Z"⟩ : MethodName)) hown (mvT hZ (hw _ (List.mem_of_getElem? (i := 35) rfl))) (mvT hZ (hw _ (List.mem_of_getElem? (i := 36) rfl))) (notFace_of_selects (args := #[]) (mvT hZ (hw _ (List.mem_of_getElem? (i := 38) rfl)))) (mvT hZ (hw _ (List.mem_of_getElem? (i := 38) rfl))) (mvT hZ (hw _ (List.mem_of_getElem? (i := 37) rfl))) (by decide) (backOf (W := 0) (rmE l Z a0 hw [] a (1 : Int32) (0 : Int32) T9.heap n0 zz9 gR9.2.2.2.1 (Or.inl ⟨by decide, rfl⟩)) hZ (hw _ (List.mem_of_getElem? (i := 39) rfl)) (hw _ (List.mem_of_getElem? (i := 2) rfl)) (by decide) (by decide)) q10a q10c (g := (mkF m 144 #[.val (.int p0), .val (.int p1), .val (.int p2), .val (.int p3), .val (.double (FP.i2d p0)), .second, .val (.double (FP.i2d p1)), .second, .val (.double (FP.i2d p2)), .second, .val (.int (0 : Int32)), .val (.ref a), .val (.double (FP.i2d p0)), .second, .val (.double (FP.i2d p1)), .second] [(.ref a)])) rfl (by rw [hml]; rfl) (Steps.refl _) (argsL := []) (rest := []) (lenOf pdZ rfl) rfl (by show 2 * 0 + _ ≤ _; exact Nat.le_of_eq rfl) (hb hby at_144) (fun _ _ => ⟨rfl, rfl, (by decide : 2 + 0 ≤ _), (by decide : 19 + 0 ≤ _)⟩)
    dsimp only [Pt.U, Pt.locs, Pt.cells, Pt.slots] at X10 l10 y10 z10 st10 hQ10
    subst l10 y10 z10
    obtain ⟨rfl, N10q, hh10⟩ := hQ10
    have N10 := Fr.app N9 N10q
    have zz10 : n0 ≤ T10.heap.size := by rw [hh10]; exact zz9
    have gR10 : Rg Z T10.heap a b k (2 : Int32) (1 : Int32) (V3 (FP.i2d p0) (FP.i2d p1) (FP.i2d p2)) := by rw [hh10]; exact gR9
    obtain ⟨cq11, kq11, q11a, q11b, q11c⟩ := isOf hZ rfl gR10.1
    obtain ⟨_, _, ⟨T11, L11, k11, n11⟩, -, X11, ⟨Lc11, hQ11, l11, y11, z11⟩, st11⟩ := X10.virtualBack hx (y := (⟨"com/example/schie/schie/simulation/StartInstants", "first", "()D"⟩ : MethodName)) (z := (⟨"com/example/schie/schie/simulation/StartInstants", "first", "()D"⟩ : MethodName)) hown (mvT hZ (hw _ (List.mem_of_getElem? (i := 30) rfl))) (mvT hZ (hw _ (List.mem_of_getElem? (i := 31) rfl))) (notFace_of_selects (args := #[]) (mvT hZ (hw _ (List.mem_of_getElem? (i := 33) rfl)))) (mvT hZ (hw _ (List.mem_of_getElem? (i := 33) rfl))) (mvT hZ (hw _ (List.mem_of_getElem? (i := 32) rfl))) (by decide) (backOf (W := 0) (rmF l Z a0 hw [] a b k (2 : Int32) (1 : Int32) (V3 (FP.i2d p0) (FP.i2d p1) (FP.i2d p2)) (FP.i2d p2) T10.heap n0 zz10 gR10 (by decide) (by decide) rfl) hZ (hw _ (List.mem_of_getElem? (i := 34) rfl)) (hw _ (List.mem_of_getElem? (i := 2) rfl)) (by decide) (by decide)) q11a q11c (g := (mkF m 154 #[.val (.int p0), .val (.int p1), .val (.int p2), .val (.int p3), .val (.double (FP.i2d p0)), .second, .val (.double (FP.i2d p1)), .second, .val (.double (FP.i2d p2)), .second, .val (.int (0 : Int32)), .val (.ref a), .val (.double (FP.i2d p0)), .second, .val (.double (FP.i2d p1)), .second] [(.ref a)])) rfl (by rw [hml]; rfl) (Steps.refl _) (argsL := []) (rest := []) (lenOf pdF rfl) rfl (by show 2 * 0 + _ ≤ _; exact Nat.le_of_eq rfl) (hb hby at_154) (fun _ _ => ⟨rfl, rfl, (by decide : 2 + 0 ≤ _), (by decide : 19 + 0 ≤ _)⟩)
    dsimp only [Pt.U, Pt.locs, Pt.cells, Pt.slots] at X11 l11 y11 z11 st11 hQ11
    subst l11 y11 z11
    obtain ⟨rfl, N11q, hh11⟩ := hQ11
    have N11 := Fr.app N10 N11q
    have zz11 : n0 ≤ T11.heap.size := by rw [hh11]; exact zz10
    have gR11 : Rg Z T11.heap a b k (2 : Int32) (1 : Int32) (V3 (FP.i2d p0) (FP.i2d p1) (FP.i2d p2)) := by rw [hh11]; exact gR10
    obtain ⟨fs, hr, hrun, hended, hW, hsame⟩ := X11.leave (v := some (.int (1 : Int32))) (fun h => by rw [Bd.returns] at h; cases h)
    refine ⟨_, _, pre0 _ ?_, hrun, hended, _, _, rfl, ?_, ⟨_, rfl⟩, hW, hsame.mono (by decide) (by decide)⟩
    · skip
      show Steps p.tables e below (s₁.setTop (mkF m 0 #[.val (.int p0), .val (.int p1), .val (.int p2), .val (.int p3), .unset, .unset, .unset, .unset, .unset, .unset, .unset, .unset, .unset, .unset, .unset, .unset] [])) _
      refine XS.iloadN X0.here hx rfl (hb hby at_0) rfl ?_
      show Steps p.tables e below (s₁.setTop (mkF m 1 #[.val (.int p0), .val (.int p1), .val (.int p2), .val (.int p3), .unset, .unset, .unset, .unset, .unset, .unset, .unset, .unset, .unset, .unset, .unset, .unset] [(.int p0)])) _
      refine XS.i2dS X0.here hx rfl (v := (FP.i2d p0)) (hb hby at_1) rfl rfl ?_
      show Steps p.tables e below (s₁.setTop (mkF m 2 #[.val (.int p0), .val (.int p1), .val (.int p2), .val (.int p3), .unset, .unset, .unset, .unset, .unset, .unset, .unset, .unset, .unset, .unset, .unset, .unset] [(.double (FP.i2d p0))])) _
      refine XS.dstore X0.here hx rfl (hb hby at_2) rfl (l' := #[.val (.int p0), .val (.int p1), .val (.int p2), .val (.int p3), .val (.double (FP.i2d p0)), .second, .unset, .unset, .unset, .unset, .unset, .unset, .unset, .unset, .unset, .unset]) rfl ?_
      show Steps p.tables e below (s₁.setTop (mkF m 4 #[.val (.int p0), .val (.int p1), .val (.int p2), .val (.int p3), .val (.double (FP.i2d p0)), .second, .unset, .unset, .unset, .unset, .unset, .unset, .unset, .unset, .unset, .unset] [])) _
      refine XS.iloadN X0.here hx rfl (hb hby at_4) rfl ?_
      show Steps p.tables e below (s₁.setTop (mkF m 5 #[.val (.int p0), .val (.int p1), .val (.int p2), .val (.int p3), .val (.double (FP.i2d p0)), .second, .unset, .unset, .unset, .unset, .unset, .unset, .unset, .unset, .unset, .unset] [(.int p1)])) _
      refine XS.i2dS X0.here hx rfl (v := (FP.i2d p1)) (hb hby at_5) rfl rfl ?_
      show Steps p.tables e below (s₁.setTop (mkF m 6 #[.val (.int p0), .val (.int p1), .val (.int p2), .val (.int p3), .val (.double (FP.i2d p0)), .second, .unset, .unset, .unset, .unset, .unset, .unset, .unset, .unset, .unset, .unset] [(.double (FP.i2d p1))])) _
      refine XS.dstore X0.here hx rfl (hb hby at_6) rfl (l' := #[.val (.int p0), .val (.int p1), .val (.int p2), .val (.int p3), .val (.double (FP.i2d p0)), .second, .val (.double (FP.i2d p1)), .second, .unset, .unset, .unset, .unset, .unset, .unset, .unset, .unset]) rfl ?_
      show Steps p.tables e below (s₁.setTop (mkF m 8 #[.val (.int p0), .val (.int p1), .val (.int p2), .val (.int p3), .val (.double (FP.i2d p0)), .second, .val (.double (FP.i2d p1)), .second, .unset, .unset, .unset, .unset, .unset, .unset, .unset, .unset] [])) _
      refine XS.iloadN X0.here hx rfl (hb hby at_8) rfl ?_
      show Steps p.tables e below (s₁.setTop (mkF m 9 #[.val (.int p0), .val (.int p1), .val (.int p2), .val (.int p3), .val (.double (FP.i2d p0)), .second, .val (.double (FP.i2d p1)), .second, .unset, .unset, .unset, .unset, .unset, .unset, .unset, .unset] [(.int p2)])) _
      refine XS.i2dS X0.here hx rfl (v := (FP.i2d p2)) (hb hby at_9) rfl rfl ?_
      show Steps p.tables e below (s₁.setTop (mkF m 10 #[.val (.int p0), .val (.int p1), .val (.int p2), .val (.int p3), .val (.double (FP.i2d p0)), .second, .val (.double (FP.i2d p1)), .second, .unset, .unset, .unset, .unset, .unset, .unset, .unset, .unset] [(.double (FP.i2d p2))])) _
      refine XS.dstore X0.here hx rfl (hb hby at_10) rfl (l' := #[.val (.int p0), .val (.int p1), .val (.int p2), .val (.int p3), .val (.double (FP.i2d p0)), .second, .val (.double (FP.i2d p1)), .second, .val (.double (FP.i2d p2)), .second, .unset, .unset, .unset, .unset, .unset, .unset]) rfl ?_
      show Steps p.tables e below (s₁.setTop (mkF m 12 #[.val (.int p0), .val (.int p1), .val (.int p2), .val (.int p3), .val (.double (FP.i2d p0)), .second, .val (.double (FP.i2d p1)), .second, .val (.double (FP.i2d p2)), .second, .unset, .unset, .unset, .unset, .unset, .unset] [])) _
      refine XS.iloadN X0.here hx rfl (hb hby at_12) rfl ?_
      show Steps p.tables e below (s₁.setTop (mkF m 13 #[.val (.int p0), .val (.int p1), .val (.int p2), .val (.int p3), .val (.double (FP.i2d p0)), .second, .val (.double (FP.i2d p1)), .second, .val (.double (FP.i2d p2)), .second, .unset, .unset, .unset, .unset, .unset, .unset] [(.int p3)])) _
      refine XS.iconst X0.here hx rfl (hb hby at_13) ?_
      show Steps p.tables e below (s₁.setTop (mkF m 14 #[.val (.int p0), .val (.int p1), .val (.int p2), .val (.int p3), .val (.double (FP.i2d p0)), .second, .val (.double (FP.i2d p1)), .second, .val (.double (FP.i2d p2)), .second, .unset, .unset, .unset, .unset, .unset, .unset] [(.int (1 : Int32)), (.int p3)])) _
      refine XS.iand X0.here hx rfl (hb hby at_14) rfl ?_
      show Steps p.tables e below (s₁.setTop (mkF m 15 #[.val (.int p0), .val (.int p1), .val (.int p2), .val (.int p3), .val (.double (FP.i2d p0)), .second, .val (.double (FP.i2d p1)), .second, .val (.double (FP.i2d p2)), .second, .unset, .unset, .unset, .unset, .unset, .unset] [(.int (p3 &&& (1 : Int32)))])) _
      refine XS.ifYes X0.here hx rfl (pc0 := 15) (pc' := 22) rfl (hb hby at_15) rfl ((if0 _ _).trans (teq hf).1) (by decide) (by decide) ?_
      show Steps p.tables e below (s₁.setTop (mkF m 22 #[.val (.int p0), .val (.int p1), .val (.int p2), .val (.int p3), .val (.double (FP.i2d p0)), .second, .val (.double (FP.i2d p1)), .second, .val (.double (FP.i2d p2)), .second, .unset, .unset, .unset, .unset, .unset, .unset] [])) _
      refine XS.iconst X0.here hx rfl (hb hby at_22) ?_
      show Steps p.tables e below (s₁.setTop (mkF m 23 #[.val (.int p0), .val (.int p1), .val (.int p2), .val (.int p3), .val (.double (FP.i2d p0)), .second, .val (.double (FP.i2d p1)), .second, .val (.double (FP.i2d p2)), .second, .unset, .unset, .unset, .unset, .unset, .unset] [(.int (0 : Int32))])) _
      refine XS.istore X0.here hx rfl (hb hby at_23) rfl (l' := #[.val (.int p0), .val (.int p1), .val (.int p2), .val (.int p3), .val (.double (FP.i2d p0)), .second, .val (.double (FP.i2d p1)), .second, .val (.double (FP.i2d p2)), .second, .val (.int (0 : Int32)), .unset, .unset, .unset, .unset, .unset]) rfl ?_
      show Steps p.tables e below (s₁.setTop (mkF m 25 #[.val (.int p0), .val (.int p1), .val (.int p2), .val (.int p3), .val (.double (FP.i2d p0)), .second, .val (.double (FP.i2d p1)), .second, .val (.double (FP.i2d p2)), .second, .val (.int (0 : Int32)), .unset, .unset, .unset, .unset, .unset] [])) _
      refine st1 _ ?_
      show Steps p.tables e below (T1.setTop (mkF m 28 #[.val (.int p0), .val (.int p1), .val (.int p2), .val (.int p3), .val (.double (FP.i2d p0)), .second, .val (.double (FP.i2d p1)), .second, .val (.double (FP.i2d p2)), .second, .val (.int (0 : Int32)), .unset, .unset, .unset, .unset, .unset] [(.ref a)])) _
      refine XS.dup X1.here hx rfl (hb hby at_28) rfl rfl ?_
      show Steps p.tables e below (T1.setTop (mkF m 29 #[.val (.int p0), .val (.int p1), .val (.int p2), .val (.int p3), .val (.double (FP.i2d p0)), .second, .val (.double (FP.i2d p1)), .second, .val (.double (FP.i2d p2)), .second, .val (.int (0 : Int32)), .unset, .unset, .unset, .unset, .unset] [(.ref a), (.ref a)])) _
      refine st2.trans ?_
      show Steps p.tables e below (T2.setTop (mkF m 32 #[.val (.int p0), .val (.int p1), .val (.int p2), .val (.int p3), .val (.double (FP.i2d p0)), .second, .val (.double (FP.i2d p1)), .second, .val (.double (FP.i2d p2)), .second, .val (.int (0 : Int32)), .unset, .unset, .unset, .unset, .unset] [(.ref a)])) _
      refine XS.astore X2.here hx rfl (hb hby at_32) rfl rfl (l' := #[.val (.int p0), .val (.int p1), .val (.int p2), .val (.int p3), .val (.double (FP.i2d p0)), .second, .val (.double (FP.i2d p1)), .second, .val (.double (FP.i2d p2)), .second, .val (.int (0 : Int32)), .val (.ref a), .unset, .unset, .unset, .unset]) rfl ?_
      show Steps p.tables e below (T2.setTop (mkF m 34 #[.val (.int p0), .val (.int p1), .val (.int p2), .val (.int p3), .val (.double (FP.i2d p0)), .second, .val (.double (FP.i2d p1)), .second, .val (.double (FP.i2d p2)), .second, .val (.int (0 : Int32)), .val (.ref a), .unset, .unset, .unset, .unset] [])) _
      refine XS.aload X2.here hx rfl (hb hby at_34) rfl rfl ?_
      show Steps p.tables e below (T2.setTop (mkF m 36 #[.val (.int p0), .val (.int p1), .val (.int p2), .val (.int p3), .val (.double (FP.i2d p0)), .second, .val (.double (FP.i2d p1)), .second, .val (.double (FP.i2d p2)), .second, .val (.int (0 : Int32)), .val (.ref a), .unset, .unset, .unset, .unset] [(.ref a)])) _
      refine XS.dload X2.here hx rfl (hb hby at_36) rfl ?_
      show Steps p.tables e below (T2.setTop (mkF m 38 #[.val (.int p0), .val (.int p1), .val (.int p2), .val (.int p3), .val (.double (FP.i2d p0)), .second, .val (.double (FP.i2d p1)), .second, .val (.double (FP.i2d p2)), .second, .val (.int (0 : Int32)), .val (.ref a), .unset, .unset, .unset, .unset] [(.double (FP.i2d p0)), (.ref a)])) _
      refine st3.trans ?_
      show Steps p.tables e below (T3.setTop (mkF m 41 #[.val (.int p0), .val (.int p1), .val (.int p2), .val (.int p3), .val (.double (FP.i2d p0)), .second, .val (.double (FP.i2d p1)), .second, .val (.double (FP.i2d p2)), .second, .val (.int (0 : Int32)), .val (.ref a), .unset, .unset, .unset, .unset] [])) _
      refine XS.iload X3.here hx rfl (hb hby at_41) rfl ?_
      show Steps p.tables e below (T3.setTop (mkF m 43 #[.val (.int p0), .val (.int p1), .val (.int p2), .val (.int p3), .val (.double (FP.i2d p0)), .second, .val (.double (FP.i2d p1)), .second, .val (.double (FP.i2d p2)), .second, .val (.int (0 : Int32)), .val (.ref a), .unset, .unset, .unset, .unset] [(.int (0 : Int32))])) _
      refine XS.ifYes X3.here hx rfl (pc0 := 43) (pc' := 51) rfl (hb hby at_43) rfl (by decide) (by decide) (by decide) ?_
      show Steps p.tables e below (T3.setTop (mkF m 51 #[.val (.int p0), .val (.int p1), .val (.int p2), .val (.int p3), .val (.double (FP.i2d p0)), .second, .val (.double (FP.i2d p1)), .second, .val (.double (FP.i2d p2)), .second, .val (.int (0 : Int32)), .val (.ref a), .unset, .unset, .unset, .unset] [])) _
      refine XS.aload X3.here hx rfl (hb hby at_51) rfl rfl ?_
      show Steps p.tables e below (T3.setTop (mkF m 53 #[.val (.int p0), .val (.int p1), .val (.int p2), .val (.int p3), .val (.double (FP.i2d p0)), .second, .val (.double (FP.i2d p1)), .second, .val (.double (FP.i2d p2)), .second, .val (.int (0 : Int32)), .val (.ref a), .unset, .unset, .unset, .unset] [(.ref a)])) _
      refine XS.dload X3.here hx rfl (hb hby at_53) rfl ?_
      show Steps p.tables e below (T3.setTop (mkF m 55 #[.val (.int p0), .val (.int p1), .val (.int p2), .val (.int p3), .val (.double (FP.i2d p0)), .second, .val (.double (FP.i2d p1)), .second, .val (.double (FP.i2d p2)), .second, .val (.int (0 : Int32)), .val (.ref a), .unset, .unset, .unset, .unset] [(.double (FP.i2d p1)), (.ref a)])) _
      refine st4.trans ?_
      show Steps p.tables e below (T4.setTop (mkF m 58 #[.val (.int p0), .val (.int p1), .val (.int p2), .val (.int p3), .val (.double (FP.i2d p0)), .second, .val (.double (FP.i2d p1)), .second, .val (.double (FP.i2d p2)), .second, .val (.int (0 : Int32)), .val (.ref a), .unset, .unset, .unset, .unset] [])) _
      refine XS.aload X4.here hx rfl (hb hby at_58) rfl rfl ?_
      show Steps p.tables e below (T4.setTop (mkF m 60 #[.val (.int p0), .val (.int p1), .val (.int p2), .val (.int p3), .val (.double (FP.i2d p0)), .second, .val (.double (FP.i2d p1)), .second, .val (.double (FP.i2d p2)), .second, .val (.int (0 : Int32)), .val (.ref a), .unset, .unset, .unset, .unset] [(.ref a)])) _
      refine XS.dload X4.here hx rfl (hb hby at_60) rfl ?_
      show Steps p.tables e below (T4.setTop (mkF m 62 #[.val (.int p0), .val (.int p1), .val (.int p2), .val (.int p3), .val (.double (FP.i2d p0)), .second, .val (.double (FP.i2d p1)), .second, .val (.double (FP.i2d p2)), .second, .val (.int (0 : Int32)), .val (.ref a), .unset, .unset, .unset, .unset] [(.double (FP.i2d p2)), (.ref a)])) _
      refine st5.trans ?_
      show Steps p.tables e below (T5.setTop (mkF m 65 #[.val (.int p0), .val (.int p1), .val (.int p2), .val (.int p3), .val (.double (FP.i2d p0)), .second, .val (.double (FP.i2d p1)), .second, .val (.double (FP.i2d p2)), .second, .val (.int (0 : Int32)), .val (.ref a), .unset, .unset, .unset, .unset] [])) _
      refine XS.aload X5.here hx rfl (hb hby at_65) rfl rfl ?_
      show Steps p.tables e below (T5.setTop (mkF m 67 #[.val (.int p0), .val (.int p1), .val (.int p2), .val (.int p3), .val (.double (FP.i2d p0)), .second, .val (.double (FP.i2d p1)), .second, .val (.double (FP.i2d p2)), .second, .val (.int (0 : Int32)), .val (.ref a), .unset, .unset, .unset, .unset] [(.ref a)])) _
      refine st6.trans ?_
      show Steps p.tables e below (T6.setTop (mkF m 70 #[.val (.int p0), .val (.int p1), .val (.int p2), .val (.int p3), .val (.double (FP.i2d p0)), .second, .val (.double (FP.i2d p1)), .second, .val (.double (FP.i2d p2)), .second, .val (.int (0 : Int32)), .val (.ref a), .unset, .unset, .unset, .unset] [(.double (FP.i2d p0))])) _
      refine XS.dstore X6.here hx rfl (hb hby at_70) rfl (l' := #[.val (.int p0), .val (.int p1), .val (.int p2), .val (.int p3), .val (.double (FP.i2d p0)), .second, .val (.double (FP.i2d p1)), .second, .val (.double (FP.i2d p2)), .second, .val (.int (0 : Int32)), .val (.ref a), .val (.double (FP.i2d p0)), .second, .unset, .unset]) rfl ?_
      show Steps p.tables e below (T6.setTop (mkF m 72 #[.val (.int p0), .val (.int p1), .val (.int p2), .val (.int p3), .val (.double (FP.i2d p0)), .second, .val (.double (FP.i2d p1)), .second, .val (.double (FP.i2d p2)), .second, .val (.int (0 : Int32)), .val (.ref a), .val (.double (FP.i2d p0)), .second, .unset, .unset] [])) _
      refine XS.aload X6.here hx rfl (hb hby at_72) rfl rfl ?_
      show Steps p.tables e below (T6.setTop (mkF m 74 #[.val (.int p0), .val (.int p1), .val (.int p2), .val (.int p3), .val (.double (FP.i2d p0)), .second, .val (.double (FP.i2d p1)), .second, .val (.double (FP.i2d p2)), .second, .val (.int (0 : Int32)), .val (.ref a), .val (.double (FP.i2d p0)), .second, .unset, .unset] [(.ref a)])) _
      refine st7.trans ?_
      show Steps p.tables e below (T7.setTop (mkF m 77 #[.val (.int p0), .val (.int p1), .val (.int p2), .val (.int p3), .val (.double (FP.i2d p0)), .second, .val (.double (FP.i2d p1)), .second, .val (.double (FP.i2d p2)), .second, .val (.int (0 : Int32)), .val (.ref a), .val (.double (FP.i2d p0)), .second, .unset, .unset] [])) _
      refine XS.aload X7.here hx rfl (hb hby at_77) rfl rfl ?_
      show Steps p.tables e below (T7.setTop (mkF m 79 #[.val (.int p0), .val (.int p1), .val (.int p2), .val (.int p3), .val (.double (FP.i2d p0)), .second, .val (.double (FP.i2d p1)), .second, .val (.double (FP.i2d p2)), .second, .val (.int (0 : Int32)), .val (.ref a), .val (.double (FP.i2d p0)), .second, .unset, .unset] [(.ref a)])) _
      refine st8.trans ?_
      show Steps p.tables e below (T8.setTop (mkF m 82 #[.val (.int p0), .val (.int p1), .val (.int p2), .val (.int p3), .val (.double (FP.i2d p0)), .second, .val (.double (FP.i2d p1)), .second, .val (.double (FP.i2d p2)), .second, .val (.int (0 : Int32)), .val (.ref a), .val (.double (FP.i2d p0)), .second, .unset, .unset] [(.double (FP.i2d p1))])) _
      refine XS.dstore X8.here hx rfl (hb hby at_82) rfl (l' := #[.val (.int p0), .val (.int p1), .val (.int p2), .val (.int p3), .val (.double (FP.i2d p0)), .second, .val (.double (FP.i2d p1)), .second, .val (.double (FP.i2d p2)), .second, .val (.int (0 : Int32)), .val (.ref a), .val (.double (FP.i2d p0)), .second, .val (.double (FP.i2d p1)), .second]) rfl ?_
      show Steps p.tables e below (T8.setTop (mkF m 84 #[.val (.int p0), .val (.int p1), .val (.int p2), .val (.int p3), .val (.double (FP.i2d p0)), .second, .val (.double (FP.i2d p1)), .second, .val (.double (FP.i2d p2)), .second, .val (.int (0 : Int32)), .val (.ref a), .val (.double (FP.i2d p0)), .second, .val (.double (FP.i2d p1)), .second] [])) _
      refine XS.aload X8.here hx rfl (hb hby at_84) rfl rfl ?_
      show Steps p.tables e below (T8.setTop (mkF m 86 #[.val (.int p0), .val (.int p1), .val (.int p2), .val (.int p3), .val (.double (FP.i2d p0)), .second, .val (.double (FP.i2d p1)), .second, .val (.double (FP.i2d p2)), .second, .val (.int (0 : Int32)), .val (.ref a), .val (.double (FP.i2d p0)), .second, .val (.double (FP.i2d p1)), .second] [(.ref a)])) _
      refine st9.trans ?_
      show Steps p.tables e below (T9.setTop (mkF m 89 #[.val (.int p0), .val (.int p1), .val (.int p2), .val (.int p3), .val (.double (FP.i2d p0)), .second, .val (.double (FP.i2d p1)), .second, .val (.double (FP.i2d p2)), .second, .val (.int (0 : Int32)), .val (.ref a), .val (.double (FP.i2d p0)), .second, .val (.double (FP.i2d p1)), .second] [])) _
      refine XS.iload X9.here hx rfl (hb hby at_89) rfl ?_
      show Steps p.tables e below (T9.setTop (mkF m 91 #[.val (.int p0), .val (.int p1), .val (.int p2), .val (.int p3), .val (.double (FP.i2d p0)), .second, .val (.double (FP.i2d p1)), .second, .val (.double (FP.i2d p2)), .second, .val (.int (0 : Int32)), .val (.ref a), .val (.double (FP.i2d p0)), .second, .val (.double (FP.i2d p1)), .second] [(.int (0 : Int32))])) _
      refine XS.ifYes X9.here hx rfl (pc0 := 91) (pc' := 124) rfl (hb hby at_91) rfl (by decide) (by decide) (by decide) ?_
      show Steps p.tables e below (T9.setTop (mkF m 124 #[.val (.int p0), .val (.int p1), .val (.int p2), .val (.int p3), .val (.double (FP.i2d p0)), .second, .val (.double (FP.i2d p1)), .second, .val (.double (FP.i2d p2)), .second, .val (.int (0 : Int32)), .val (.ref a), .val (.double (FP.i2d p0)), .second, .val (.double (FP.i2d p1)), .second] [])) _
      refine XS.dload X9.here hx rfl (hb hby at_124) rfl ?_
      show Steps p.tables e below (T9.setTop (mkF m 126 #[.val (.int p0), .val (.int p1), .val (.int p2), .val (.int p3), .val (.double (FP.i2d p0)), .second, .val (.double (FP.i2d p1)), .second, .val (.double (FP.i2d p2)), .second, .val (.int (0 : Int32)), .val (.ref a), .val (.double (FP.i2d p0)), .second, .val (.double (FP.i2d p1)), .second] [(.double (FP.i2d p0))])) _
      refine XS.dload X9.here hx rfl (hb hby at_126) rfl ?_
      show Steps p.tables e below (T9.setTop (mkF m 128 #[.val (.int p0), .val (.int p1), .val (.int p2), .val (.int p3), .val (.double (FP.i2d p0)), .second, .val (.double (FP.i2d p1)), .second, .val (.double (FP.i2d p2)), .second, .val (.int (0 : Int32)), .val (.ref a), .val (.double (FP.i2d p0)), .second, .val (.double (FP.i2d p1)), .second] [(.double (FP.i2d p0)), (.double (FP.i2d p0))])) _
      refine XS.dcmpS X9.here hx rfl (x := (FP.i2d p0)) (y := (FP.i2d p0)) (v := (0 : Int32)) (hb hby at_128) rfl (dcmpV_self (Jvm.Free.Fl.i2d_fin p0).noNaN .l) ?_
      show Steps p.tables e below (T9.setTop (mkF m 129 #[.val (.int p0), .val (.int p1), .val (.int p2), .val (.int p3), .val (.double (FP.i2d p0)), .second, .val (.double (FP.i2d p1)), .second, .val (.double (FP.i2d p2)), .second, .val (.int (0 : Int32)), .val (.ref a), .val (.double (FP.i2d p0)), .second, .val (.double (FP.i2d p1)), .second] [(.int (0 : Int32))])) _
      refine XS.ifNo X9.here hx rfl (hb hby at_129) rfl (by decide) ?_
      show Steps p.tables e below (T9.setTop (mkF m 132 #[.val (.int p0), .val (.int p1), .val (.int p2), .val (.int p3), .val (.double (FP.i2d p0)), .second, .val (.double (FP.i2d p1)), .second, .val (.double (FP.i2d p2)), .second, .val (.int (0 : Int32)), .val (.ref a), .val (.double (FP.i2d p0)), .second, .val (.double (FP.i2d p1)), .second] [])) _
      refine XS.dload X9.here hx rfl (hb hby at_132) rfl ?_
      show Steps p.tables e below (T9.setTop (mkF m 134 #[.val (.int p0), .val (.int p1), .val (.int p2), .val (.int p3), .val (.double (FP.i2d p0)), .second, .val (.double (FP.i2d p1)), .second, .val (.double (FP.i2d p2)), .second, .val (.int (0 : Int32)), .val (.ref a), .val (.double (FP.i2d p0)), .second, .val (.double (FP.i2d p1)), .second] [(.double (FP.i2d p1))])) _
      refine XS.dload X9.here hx rfl (hb hby at_134) rfl ?_
      show Steps p.tables e below (T9.setTop (mkF m 136 #[.val (.int p0), .val (.int p1), .val (.int p2), .val (.int p3), .val (.double (FP.i2d p0)), .second, .val (.double (FP.i2d p1)), .second, .val (.double (FP.i2d p2)), .second, .val (.int (0 : Int32)), .val (.ref a), .val (.double (FP.i2d p0)), .second, .val (.double (FP.i2d p1)), .second] [(.double (FP.i2d p1)), (.double (FP.i2d p1))])) _
      refine XS.dcmpS X9.here hx rfl (x := (FP.i2d p1)) (y := (FP.i2d p1)) (v := (0 : Int32)) (hb hby at_136) rfl (dcmpV_self (Jvm.Free.Fl.i2d_fin p1).noNaN .l) ?_
      show Steps p.tables e below (T9.setTop (mkF m 137 #[.val (.int p0), .val (.int p1), .val (.int p2), .val (.int p3), .val (.double (FP.i2d p0)), .second, .val (.double (FP.i2d p1)), .second, .val (.double (FP.i2d p2)), .second, .val (.int (0 : Int32)), .val (.ref a), .val (.double (FP.i2d p0)), .second, .val (.double (FP.i2d p1)), .second] [(.int (0 : Int32))])) _
      refine XS.ifYes X9.here hx rfl (pc0 := 137) (pc' := 142) rfl (hb hby at_137) rfl (by decide) (by decide) (by decide) ?_
      show Steps p.tables e below (T9.setTop (mkF m 142 #[.val (.int p0), .val (.int p1), .val (.int p2), .val (.int p3), .val (.double (FP.i2d p0)), .second, .val (.double (FP.i2d p1)), .second, .val (.double (FP.i2d p2)), .second, .val (.int (0 : Int32)), .val (.ref a), .val (.double (FP.i2d p0)), .second, .val (.double (FP.i2d p1)), .second] [])) _
      refine XS.aload X9.here hx rfl (hb hby at_142) rfl rfl ?_
      show Steps p.tables e below (T9.setTop (mkF m 144 #[.val (.int p0), .val (.int p1), .val (.int p2), .val (.int p3), .val (.double (FP.i2d p0)), .second, .val (.double (FP.i2d p1)), .second, .val (.double (FP.i2d p2)), .second, .val (.int (0 : Int32)), .val (.ref a), .val (.double (FP.i2d p0)), .second, .val (.double (FP.i2d p1)), .second] [(.ref a)])) _
      refine st10.trans ?_
      show Steps p.tables e below (T10.setTop (mkF m 147 #[.val (.int p0), .val (.int p1), .val (.int p2), .val (.int p3), .val (.double (FP.i2d p0)), .second, .val (.double (FP.i2d p1)), .second, .val (.double (FP.i2d p2)), .second, .val (.int (0 : Int32)), .val (.ref a), .val (.double (FP.i2d p0)), .second, .val (.double (FP.i2d p1)), .second] [(.int (0 : Int32))])) _
      refine XS.ifYes X10.here hx rfl (pc0 := 147) (pc' := 152) rfl (hb hby at_147) rfl (by decide) (by decide) (by decide) ?_
      show Steps p.tables e below (T10.setTop (mkF m 152 #[.val (.int p0), .val (.int p1), .val (.int p2), .val (.int p3), .val (.double (FP.i2d p0)), .second, .val (.double (FP.i2d p1)), .second, .val (.double (FP.i2d p2)), .second, .val (.int (0 : Int32)), .val (.ref a), .val (.double (FP.i2d p0)), .second, .val (.double (FP.i2d p1)), .second] [])) _
      refine XS.aload X10.here hx rfl (hb hby at_152) rfl rfl ?_
      show Steps p.tables e below (T10.setTop (mkF m 154 #[.val (.int p0), .val (.int p1), .val (.int p2), .val (.int p3), .val (.double (FP.i2d p0)), .second, .val (.double (FP.i2d p1)), .second, .val (.double (FP.i2d p2)), .second, .val (.int (0 : Int32)), .val (.ref a), .val (.double (FP.i2d p0)), .second, .val (.double (FP.i2d p1)), .second] [(.ref a)])) _
      refine st11.trans ?_
      show Steps p.tables e below (T11.setTop (mkF m 157 #[.val (.int p0), .val (.int p1), .val (.int p2), .val (.int p3), .val (.double (FP.i2d p0)), .second, .val (.double (FP.i2d p1)), .second, .val (.double (FP.i2d p2)), .second, .val (.int (0 : Int32)), .val (.ref a), .val (.double (FP.i2d p0)), .second, .val (.double (FP.i2d p1)), .second] [(.double (FP.i2d p2))])) _
      refine XS.dload X11.here hx rfl (hb hby at_157) rfl ?_
      show Steps p.tables e below (T11.setTop (mkF m 159 #[.val (.int p0), .val (.int p1), .val (.int p2), .val (.int p3), .val (.double (FP.i2d p0)), .second, .val (.double (FP.i2d p1)), .second, .val (.double (FP.i2d p2)), .second, .val (.int (0 : Int32)), .val (.ref a), .val (.double (FP.i2d p0)), .second, .val (.double (FP.i2d p1)), .second] [(.double (FP.i2d p2)), (.double (FP.i2d p2))])) _
      refine XS.dcmpS X11.here hx rfl (x := (FP.i2d p2)) (y := (FP.i2d p2)) (v := (0 : Int32)) (hb hby at_159) rfl (dcmpV_self (Jvm.Free.Fl.i2d_fin p2).noNaN .l) ?_
      show Steps p.tables e below (T11.setTop (mkF m 160 #[.val (.int p0), .val (.int p1), .val (.int p2), .val (.int p3), .val (.double (FP.i2d p0)), .second, .val (.double (FP.i2d p1)), .second, .val (.double (FP.i2d p2)), .second, .val (.int (0 : Int32)), .val (.ref a), .val (.double (FP.i2d p0)), .second, .val (.double (FP.i2d p1)), .second] [(.int (0 : Int32))])) _
      refine XS.ifNo X11.here hx rfl (hb hby at_160) rfl (by decide) ?_
      show Steps p.tables e below (T11.setTop (mkF m 163 #[.val (.int p0), .val (.int p1), .val (.int p2), .val (.int p3), .val (.double (FP.i2d p0)), .second, .val (.double (FP.i2d p1)), .second, .val (.double (FP.i2d p2)), .second, .val (.int (0 : Int32)), .val (.ref a), .val (.double (FP.i2d p0)), .second, .val (.double (FP.i2d p1)), .second] [])) _
      refine XS.iconst X11.here hx rfl (hb hby at_163) ?_
      show Steps p.tables e below (T11.setTop (mkF m 164 #[.val (.int p0), .val (.int p1), .val (.int p2), .val (.int p3), .val (.double (FP.i2d p0)), .second, .val (.double (FP.i2d p1)), .second, .val (.double (FP.i2d p2)), .second, .val (.int (0 : Int32)), .val (.ref a), .val (.double (FP.i2d p0)), .second, .val (.double (FP.i2d p1)), .second] [(.int (1 : Int32))])) _
      refine XS.goto X11.here hx rfl (pc0 := 164) (pc' := 168) rfl (hb hby at_164) (by decide) (by decide) ?_
      show Steps p.tables e below (T11.setTop (mkF m 168 #[.val (.int p0), .val (.int p1), .val (.int p2), .val (.int p3), .val (.double (FP.i2d p0)), .second, .val (.double (FP.i2d p1)), .second, .val (.double (FP.i2d p2)), .second, .val (.int (0 : Int32)), .val (.ref a), .val (.double (FP.i2d p0)), .second, .val (.double (FP.i2d p1)), .second] [(.int (1 : Int32))])) _
      exact retN X11 hx (t := .boolean) Bd.returns (by simp) (hb hby at_168) hr
    · exact ⟨rfl, N11⟩
  · skip
    obtain ⟨T1, h1, X1, e1, E1, A1, D1, -, st1⟩ := newO X0 hx hZ hown (hw _ (List.mem_of_getElem? (i := 0) rfl)) (hw _ (List.mem_of_getElem? (i := 1) rfl)) (hw _ (List.mem_of_getElem? (i := 2) rfl)) e0 (g := (mkF m 25 #[.val (.int p0), .val (.int p1), .val (.int p2), .val (.int p3), .val (.double (FP.i2d p0)), .second, .val (.double (FP.i2d p1)), .second, .val (.double (FP.i2d p2)), .second, .val (.int (1 : Int32)), .unset, .unset, .unset, .unset, .unset] [])) rfl (hb hby at_25) (by decide) (by decide)
    obtain ⟨a, ga0⟩ : ∃ z, z = h0.size := ⟨_, rfl⟩
    rw [← ga0] at A1 D1 st1
    have ga : n0 ≤ a := Nat.le_trans Z0 (Nat.le_of_eq ga0.symm)
    obtain ⟨_, _, ⟨T2, L2, k2, n2⟩, -, X2, ⟨Lc2, hQ2, l2, y2, z2⟩, st2⟩ := X1.specialBack hx (y := (⟨"com/example/schie/schie/simulation/StartInstants", "<init>", "()V"⟩ : MethodName)) rfl hown (mvT hZ (hw _ (List.mem_of_getElem? (i := 3) rfl))) (mvT hZ (hw _ (List.mem_of_getElem? (i := 4) rfl))) (mvT hZ (hw _ (List.mem_of_getElem? (i := 5) rfl))) (by decide) (backOf (W := 1) (rmI l Z a0 hw [] a h1 n0 (Nat.le_trans Z0 E1.1) A1 (D1 (Or.inl (hw _ (List.mem_of_getElem? (i := 11) rfl))) (ty := (.array .double)) (by decide)) (D1 (Or.inl (hw _ (List.mem_of_getElem? (i := 20) rfl))) (ty := .int) (by decide)) (D1 (Or.inl (hw _ (List.mem_of_getElem? (i := 18) rfl))) (ty := .int) (by decide)) ga) hZ (hw _ (List.mem_of_getElem? (i := 5) rfl)) (hw _ (List.mem_of_getElem? (i := 2) rfl)) (by decide) (by decide)) (g := (mkF m 29 #[.val (.int p0), .val (.int p1), .val (.int p2), .val (.int p3), .val (.double (FP.i2d p0)), .second, .val (.double (FP.i2d p1)), .second, .val (.double (FP.i2d p2)), .second, .val (.int (1 : Int32)), .unset, .unset, .unset, .unset, .unset] [(.ref a), (.ref a)])) rfl (by rw [hml]; rfl) (Steps.refl _) (a := a) (argsL := []) (rest := [(.ref a)]) (lenOf pdV rfl) rfl (by show 2 * 0 + _ ≤ _; exact Nat.le_of_eq rfl) (hb hby at_29) (fun _ _ => ⟨rfl, e1, (by decide : 1 + 1 ≤ _), (by decide : 3 + 16 ≤ _)⟩)
    dsimp only [Pt.U, Pt.locs, Pt.cells, Pt.slots] at X2 l2 y2 z2 st2 hQ2
    subst l2 y2 z2
    obtain ⟨rfl, N2q, zz2, b, k, gb, gR2⟩ := hQ2
    have N2 := Fr.app N0 N2q
    have gR2 : Rg Z T2.heap a b k 0 0 (V3 0 0 0) := gR2
    obtain ⟨cq3, kq3, q3a, q3b, q3c⟩ := isOf hZ rfl gR2.1
    obtain ⟨_, _, ⟨T3, L3, k3, n3⟩, -, X3, ⟨Lc3, hQ3, l3, y3, z3⟩, st3⟩ := X2.virtualBack hx (y := (⟨"com/example/schie/schie/simulation/StartInstants", "addLast", "(D)V"⟩ : MethodName)) (z := (⟨"com/example/schie/schie/simulation/StartInstants", "addLast", "(D)V"⟩ : MethodName)) hown (mvT hZ (hw _ (List.mem_of_getElem? (i := 12) rfl))) (mvT hZ (hw _ (List.mem_of_getElem? (i := 13) rfl))) (notFace_of_selects (args := #[]) (mvT hZ (hw _ (List.mem_of_getElem? (i := 15) rfl)))) (mvT hZ (hw _ (List.mem_of_getElem? (i := 15) rfl))) (mvT hZ (hw _ (List.mem_of_getElem? (i := 14) rfl))) (by decide) (backOf (W := 0) (rmA l Z a0 hw [] a b k (0 : Int32) (0 : Int32) (1 : Int32) (V3 0 0 0) (V3 (FP.i2d p0) 0 0) 0 (FP.i2d p0) T2.heap n0 zz2 gR2 (by decide) ga gb (by decide) (by decide) rfl (by decide) (by decide)) hZ (hw _ (List.mem_of_getElem? (i := 16) rfl)) (hw _ (List.mem_of_getElem? (i := 2) rfl)) (by decide) (by decide)) q3a q3c (g := (mkF m 38 #[.val (.int p0), .val (.int p1), .val (.int p2), .val (.int p3), .val (.double (FP.i2d p0)), .second, .val (.double (FP.i2d p1)), .second, .val (.double (FP.i2d p2)), .second, .val (.int (1 : Int32)), .val (.ref a), .unset, .unset, .unset, .unset] [(.double (FP.i2d p0)), (.ref a)])) rfl (by rw [hml]; rfl) (Steps.refl _) (argsL := [(.double (FP.i2d p0))]) (rest := []) (lenOf pdD rfl) rfl (by show 2 * 0 + _ ≤ _; exact Nat.le_of_eq rfl) (hb hby at_38) (fun _ _ => ⟨rfl, rfl, (by decide : 2 + 0 ≤ _), (by decide : 19 + 0 ≤ _)⟩)
    dsimp only [Pt.U, Pt.locs, Pt.cells, Pt.slots] at X3 l3 y3 z3 st3 hQ3
    subst l3 y3 z3
    obtain ⟨rfl, N3q, zz3, gR3⟩ := hQ3
    have N3 := Fr.app N2 N3q
    obtain ⟨cq4, kq4, q4a, q4b, q4c⟩ := isOf hZ rfl gR3.1
    obtain ⟨_, _, ⟨T4, L4, k4, n4⟩, -, X4, ⟨Lc4, hQ4, l4, y4, z4⟩, st4⟩ := X3.virtualBack hx (y := (⟨"com/example/schie/schie/simulation/StartInstants", "removeFirst", "()V"⟩ : MethodName)) (z := (⟨"com/example/schie/schie/simulation/StartInstants", "removeFirst", "()V"⟩ : MethodName)) hown (mvT hZ (hw _ (List.mem_of_getElem? (i := 21) rfl))) (mvT hZ (hw _ (List.mem_of_getElem? (i := 22) rfl))) (notFace_of_selects (args := #[]) (mvT hZ (hw _ (List.mem_of_getElem? (i := 24) rfl)))) (mvT hZ (hw _ (List.mem_of_getElem? (i := 24) rfl))) (mvT hZ (hw _ (List.mem_of_getElem? (i := 23) rfl))) (by decide) (backOf (W := 0) (rmR l Z a0 hw [] a b k (0 : Int32) (1 : Int32) (1 : Int32) (0 : Int32) (V3 (FP.i2d p0) 0 0) T3.heap n0 zz3 gR3 (by decide) ga (by decide) (by decide)) hZ (hw _ (List.mem_of_getElem? (i := 25) rfl)) (hw _ (List.mem_of_getElem? (i := 2) rfl)) (by decide) (by decide)) q4a q4c (g := (mkF m 48 #[.val (.int p0), .val (.int p1), .val (.int p2), .val (.int p3), .val (.double (FP.i2d p0)), .second, .val (.double (FP.i2d p1)), .second, .val (.double (FP.i2d p2)), .second, .val (.int (1 : Int32)), .val (.ref a), .unset, .unset, .unset, .unset] [(.ref a)])) rfl (by rw [hml]; rfl) (Steps.refl _) (argsL := []) (rest := []) (lenOf pdV rfl) rfl (by show 2 * 0 + _ ≤ _; exact Nat.le_of_eq rfl) (hb hby at_48) (fun _ _ => ⟨rfl, rfl, (by decide : 2 + 0 ≤ _), (by decide : 19 + 0 ≤ _)⟩)
    dsimp only [Pt.U, Pt.locs, Pt.cells, Pt.slots] at X4 l4 y4 z4 st4 hQ4
    subst l4 y4 z4
    obtain ⟨rfl, N4q, zz4, gR4⟩ := hQ4
    have N4 := Fr.app N3 N4q
    obtain ⟨cq5, kq5, q5a, q5b, q5c⟩ := isOf hZ rfl gR4.1
    obtain ⟨_, _, ⟨T5, L5, k5, n5⟩, -, X5, ⟨Lc5, hQ5, l5, y5, z5⟩, st5⟩ := X4.virtualBack hx (y := (⟨"com/example/schie/schie/simulation/StartInstants", "addLast", "(D)V"⟩ : MethodName)) (z := (⟨"com/example/schie/schie/simulation/StartInstants", "addLast", "(D)V"⟩ : MethodName)) hown (mvT hZ (hw _ (List.mem_of_getElem? (i := 12) rfl))) (mvT hZ (hw _ (List.mem_of_getElem? (i := 13) rfl))) (notFace_of_selects (args := #[]) (mvT hZ (hw _ (List.mem_of_getElem? (i := 15) rfl)))) (mvT hZ (hw _ (List.mem_of_getElem? (i := 15) rfl))) (mvT hZ (hw _ (List.mem_of_getElem? (i := 14) rfl))) (by decide) (backOf (W := 0) (rmA l Z a0 hw [] a b k (1 : Int32) (0 : Int32) (1 : Int32) (V3 (FP.i2d p0) 0 0) (V3 (FP.i2d p0) (FP.i2d p1) 0) 1 (FP.i2d p1) T4.heap n0 zz4 gR4 (by decide) ga gb (by decide) (by decide) rfl (by decide) (by decide)) hZ (hw _ (List.mem_of_getElem? (i := 16) rfl)) (hw _ (List.mem_of_getElem? (i := 2) rfl)) (by decide) (by decide)) q5a q5c (g := (mkF m 55 #[.val (.int p0), .val (.int p1), .val (.int p2), .val (.int p3), .val (.double (FP.i2d p0)), .second, .val (.double (FP.i2d p1)), .second, .val (.double (FP.i2d p2)), .second, .val (.int (1 : Int32)), .val (.ref a), .unset, .unset, .unset, .unset] [(.double (FP.i2d p1)), (.ref a)])) rfl (by rw [hml]; rfl) (Steps.refl _) (argsL := [(.double (FP.i2d p1))]) (rest := []) (lenOf pdD rfl) rfl (by show 2 * 0 + _ ≤ _; exact Nat.le_of_eq rfl) (hb hby at_55) (fun _ _ => ⟨rfl, rfl, (by decide : 2 + 0 ≤ _), (by decide : 19 + 0 ≤ _)⟩)
    dsimp only [Pt.U, Pt.locs, Pt.cells, Pt.slots] at X5 l5 y5 z5 st5 hQ5
    subst l5 y5 z5
    obtain ⟨rfl, N5q, zz5, gR5⟩ := hQ5
    have N5 := Fr.app N4 N5q
    obtain ⟨cq6, kq6, q6a, q6b, q6c⟩ := isOf hZ rfl gR5.1
    obtain ⟨_, _, ⟨T6, L6, k6, n6⟩, -, X6, ⟨Lc6, hQ6, l6, y6, z6⟩, st6⟩ := X5.virtualBack hx (y := (⟨"com/example/schie/schie/simulation/StartInstants", "addLast", "(D)V"⟩ : MethodName)) (z := (⟨"com/example/schie/schie/simulation/StartInstants", "addLast", "(D)V"⟩ : MethodName)) hown (mvT hZ (hw _ (List.mem_of_getElem? (i := 12) rfl))) (mvT hZ (hw _ (List.mem_of_getElem? (i := 13) rfl))) (notFace_of_selects (args := #[]) (mvT hZ (hw _ (List.mem_of_getElem? (i := 15) rfl)))) (mvT hZ (hw _ (List.mem_of_getElem? (i := 15) rfl))) (mvT hZ (hw _ (List.mem_of_getElem? (i := 14) rfl))) (by decide) (backOf (W := 0) (rmA l Z a0 hw [] a b k (1 : Int32) (1 : Int32) (2 : Int32) (V3 (FP.i2d p0) (FP.i2d p1) 0) (V3 (FP.i2d p0) (FP.i2d p1) (FP.i2d p2)) 2 (FP.i2d p2) T5.heap n0 zz5 gR5 (by decide) ga gb (by decide) (by decide) rfl (by decide) (by decide)) hZ (hw _ (List.mem_of_getElem? (i := 16) rfl)) (hw _ (List.mem_of_getElem? (i := 2) rfl)) (by decide) (by decide)) q6a q6c (g := (mkF m 62 #[.val (.int p0), .val (.int p1), .val (.int p2), .val (.int p3), .val (.double (FP.i2d p0)), .second, .val (.double (FP.i2d p1)), .second, .val (.double (FP.i2d p2)), .second, .val (.int (1 : Int32)), .val (.ref a), .unset, .unset, .unset, .unset] [(.double (FP.i2d p2)), (.ref a)])) rfl (by rw [hml]; rfl) (Steps.refl _) (argsL := [(.double (FP.i2d p2))]) (rest := []) (lenOf pdD rfl) rfl (by show 2 * 0 + _ ≤ _; exact Nat.le_of_eq rfl) (hb hby at_62) (fun _ _ => ⟨rfl, rfl, (by decide : 2 + 0 ≤ _), (by decide : 19 + 0 ≤ _)⟩)
    dsimp only [Pt.U, Pt.locs, Pt.cells, Pt.slots] at X6 l6 y6 z6 st6 hQ6
    subst l6 y6 z6
    obtain ⟨rfl, N6q, zz6, gR6⟩ := hQ6
    have N6 := Fr.app N5 N6q
    obtain ⟨cq7, kq7, q7a, q7b, q7c⟩ := isOf hZ rfl gR6.1
    obtain ⟨_, _, ⟨T7, L7, k7, n7⟩, -, X7, ⟨Lc7, hQ7, l7, y7, z7⟩, st7⟩ := X6.virtualBack hx (y := (⟨"com/example/schie/schie/simulation/StartInstants", "first", "()D"⟩ : MethodName)) (z := (⟨"com/example/schie/schie/simulation/StartInstants", "first", "()D"⟩ : MethodName)) hown (mvT hZ (hw _ (List.mem_of_getElem? (i := 30) rfl))) (mvT hZ (hw _ (List.mem_of_getElem? (i := 31) rfl))) (notFace_of_selects (args := #[]) (mvT hZ (hw _ (List.mem_of_getElem? (i := 33) rfl)))) (mvT hZ (hw _ (List.mem_of_getElem? (i := 33) rfl))) (mvT hZ (hw _ (List.mem_of_getElem? (i := 32) rfl))) (by decide) (backOf (W := 0) (rmF l Z a0 hw [] a b k (1 : Int32) (2 : Int32) (V3 (FP.i2d p0) (FP.i2d p1) (FP.i2d p2)) (FP.i2d p1) T6.heap n0 zz6 gR6 (by decide) (by decide) rfl) hZ (hw _ (List.mem_of_getElem? (i := 34) rfl)) (hw _ (List.mem_of_getElem? (i := 2) rfl)) (by decide) (by decide)) q7a q7c (g := (mkF m 67 #[.val (.int p0), .val (.int p1), .val (.int p2), .val (.int p3), .val (.double (FP.i2d p0)), .second, .val (.double (FP.i2d p1)), .second, .val (.double (FP.i2d p2)), .second, .val (.int (1 : Int32)), .val (.ref a), .unset, .unset, .unset, .unset] [(.ref a)])) rfl (by rw [hml]; rfl) (Steps.refl _) (argsL := []) (rest := []) (lenOf pdF rfl) rfl (by show 2 * 0 + _ ≤ _; exact Nat.le_of_eq rfl) (hb hby at_67) (fun _ _ => ⟨rfl, rfl, (by decide : 2 + 0 ≤ _), (by decide : 19 + 0 ≤ _)⟩)
    dsimp only [Pt.U, Pt.locs, Pt.cells, Pt.slots] at X7 l7 y7 z7 st7 hQ7
    subst l7 y7 z7
    obtain ⟨rfl, N7q, hh7⟩ := hQ7
    have N7 := Fr.app N6 N7q
    have zz7 : n0 ≤ T7.heap.size := by rw [hh7]; exact zz6
    have gR7 : Rg Z T7.heap a b k (1 : Int32) (2 : Int32) (V3 (FP.i2d p0) (FP.i2d p1) (FP.i2d p2)) := by rw [hh7]; exact gR6
    obtain ⟨cq8, kq8, q8a, q8b, q8c⟩ := isOf hZ rfl gR7.1
    obtain ⟨_, _, ⟨T8, L8, k8, n8⟩, -, X8, ⟨Lc8, hQ8, l8, y8, z8⟩, st8⟩ := X7.virtualBack hx (y := (⟨"com/example/schie/schie/simulation/StartInstants", "removeFirst", "()V"⟩ : MethodName)) (z := (⟨"com/example/schie/schie/simulation/StartInstants", "removeFirst", "()V"⟩ : MethodName)) hown (mvT hZ (hw _ (List.mem_of_getElem? (i := 21) rfl))) (mvT hZ (hw _ (List.mem_of_getElem? (i := 22) rfl))) (notFace_of_selects (args := #[]) (mvT hZ (hw _ (List.mem_of_getElem? (i := 24) rfl)))) (mvT hZ (hw _ (List.mem_of_getElem? (i := 24) rfl))) (mvT hZ (hw _ (List.mem_of_getElem? (i := 23) rfl))) (by decide) (backOf (W := 0) (rmR l Z a0 hw [] a b k (1 : Int32) (2 : Int32) (2 : Int32) (1 : Int32) (V3 (FP.i2d p0) (FP.i2d p1) (FP.i2d p2)) T7.heap n0 zz7 gR7 (by decide) ga (by decide) (by decide)) hZ (hw _ (List.mem_of_getElem? (i := 25) rfl)) (hw _ (List.mem_of_getElem? (i := 2) rfl)) (by decide) (by decide)) q8a q8c (g := (mkF m 74 #[.val (.int p0), .val (.int p1), .val (.int p2), .val (.int p3), .val (.double (FP.i2d p0)), .second, .val (.double (FP.i2d p1)), .second, .val (.double (FP.i2d p2)), .second, .val (.int (1 : Int32)), .val (.ref a), .val (.double (FP.i2d p1)), .second, .unset, .unset] [(.ref a)])) rfl (by rw [hml]; rfl) (Steps.refl _) (argsL := []) (rest := []) (lenOf pdV rfl) rfl (by show 2 * 0 + _ ≤ _; exact Nat.le_of_eq rfl) (hb hby at_74) (fun _ _ => ⟨rfl, rfl, (by decide : 2 + 0 ≤ _), (by decide : 19 + 0 ≤ _)⟩)
    dsimp only [Pt.U, Pt.locs, Pt.cells, Pt.slots] at X8 l8 y8 z8 st8 hQ8
    subst l8 y8 z8
    obtain ⟨rfl, N8q, zz8, gR8⟩ := hQ8
    have N8 := Fr.app N7 N8q
    obtain ⟨cq9, kq9, q9a, q9b, q9c⟩ := isOf hZ rfl gR8.1
    obtain ⟨_, _, ⟨T9, L9, k9, n9⟩, -, X9, ⟨Lc9, hQ9, l9, y9, z9⟩, st9⟩ := X8.virtualBack hx (y := (⟨"com/example/schie/schie/simulation/StartInstants", "first", "()D"⟩ : MethodName)) (z := (⟨"com/example/schie/schie/simulation/StartInstants", "first", "()D"⟩ : MethodName)) hown (mvT hZ (hw _ (List.mem_of_getElem? (i := 30) rfl))) (mvT hZ (hw _ (List.mem_of_getElem? (i := 31) rfl))) (notFace_of_selects (args := #[]) (mvT hZ (hw _ (List.mem_of_getElem? (i := 33) rfl)))) (mvT hZ (hw _ (List.mem_of_getElem? (i := 33) rfl))) (mvT hZ (hw _ (List.mem_of_getElem? (i := 32) rfl))) (by decide) (backOf (W := 0) (rmF l Z a0 hw [] a b k (2 : Int32) (1 : Int32) (V3 (FP.i2d p0) (FP.i2d p1) (FP.i2d p2)) (FP.i2d p2) T8.heap n0 zz8 gR8 (by decide) (by decide) rfl) hZ (hw _ (List.mem_of_getElem? (i := 34) rfl)) (hw _ (List.mem_of_getElem? (i := 2) rfl)) (by decide) (by decide)) q9a q9c (g := (mkF m 79 #[.val (.int p0), .val (.int p1), .val (.int p2), .val (.int p3), .val (.double (FP.i2d p0)), .second, .val (.double (FP.i2d p1)), .second, .val (.double (FP.i2d p2)), .second, .val (.int (1 : Int32)), .val (.ref a), .val (.double (FP.i2d p1)), .second, .unset, .unset] [(.ref a)])) rfl (by rw [hml]; rfl) (Steps.refl _) (argsL := []) (rest := []) (lenOf pdF rfl) rfl (by show 2 * 0 + _ ≤ _; exact Nat.le_of_eq rfl) (hb hby at_79) (fun _ _ => ⟨rfl, rfl, (by decide : 2 + 0 ≤ _), (by decide : 19 + 0 ≤ _)⟩)
    dsimp only [Pt.U, Pt.locs, Pt.cells, Pt.slots] at X9 l9 y9 z9 st9 hQ9
    subst l9 y9 z9
    obtain ⟨rfl, N9q, hh9⟩ := hQ9
    have N9 := Fr.app N8 N9q
    have zz9 : n0 ≤ T9.heap.size := by rw [hh9]; exact zz8
    have gR9 : Rg Z T9.heap a b k (2 : Int32) (1 : Int32) (V3 (FP.i2d p0) (FP.i2d p1) (FP.i2d p2)) := by rw [hh9]; exact gR8
    obtain ⟨cq10, kq10, q10a, q10b, q10c⟩ := isOf hZ rfl gR9.1
    obtain ⟨_, _, ⟨T10, L10, k10, n10⟩, -, X10, ⟨Lc10, hQ10, l10, y10, z10⟩, st10⟩ := X9.virtualBack hx (y := (⟨"com/example/schie/schie/simulation/StartInstants", "removeFirst", "()V"⟩ : MethodName)) (z := (⟨"com/example/schie/schie/simulation/StartInstants", "removeFirst", "()V"⟩ : MethodName)) hown (mvT hZ (hw _ (List.mem_of_getElem? (i := 21) rfl))) (mvT hZ (hw _ (List.mem_of_getElem? (i := 22) rfl))) (notFace_of_selects (args := #[]) (mvT hZ (hw _ (List.mem_of_getElem? (i := 24) rfl)))) (mvT hZ (hw _ (List.mem_of_getElem? (i := 24) rfl))) (mvT hZ (hw _ (List.mem_of_getElem? (i := 23) rfl))) (by decide) (backOf (W := 0) (rmR l Z a0 hw [] a b k (2 : Int32) (1 : Int32) (3 : Int32) (0 : Int32) (V3 (FP.i2d p0) (FP.i2d p1) (FP.i2d p2)) T9.heap n0 zz9 gR9 (by decide) ga (by decide) (by decide)) hZ (hw _ (List.mem_of_getElem? (i := 25) rfl)) (hw _ (List.mem_of_getElem? (i := 2) rfl)) (by decide) (by decide)) q10a q10c (g := (mkF m 86 #[.val (.int p0), .val (.int p1), .val (.int p2), .val (.int p3), .val (.double (FP.i2d p0)), .second, .val (.double (FP.i2d p1)), .second, .val (.double (FP.i2d p2)), .second, .val (.int (1 : Int32)), .val (.ref a), .val (.double (FP.i2d p1)), .second, .val (.double (FP.i2d p2)), .second] [(.ref a)])) rfl (by rw [hml]; rfl) (Steps.refl _) (argsL := []) (rest := []) (lenOf pdV rfl) rfl (by show 2 * 0 + _ ≤ _; exact Nat.le_of_eq rfl) (hb hby at_86) (fun _ _ => ⟨rfl, rfl, (by decide : 2 + 0 ≤ _), (by decide : 19 + 0 ≤ _)⟩)
    dsimp only [Pt.U, Pt.locs, Pt.cells, Pt.slots] at X10 l10 y10 z10 st10 hQ10
    subst l10 y10 z10
    obtain ⟨rfl, N10q, zz10, gR10⟩ := hQ10
    have N10 := Fr.app N9 N10q
    obtain ⟨cq11, kq11, q11a, q11b, q11c⟩ := isOf hZ rfl gR10.1
    obtain ⟨_, _, ⟨T11, L11, k11, n11⟩, -, X11, ⟨Lc11, hQ11, l11, y11, z11⟩, st11⟩ := X10.virtualBack hx (y := (⟨"com/example/schie/schie/simulation/StartInstants", "isEmpty", "()Z"⟩ : MethodName)) (z := (⟨"com/example/schie/schie/simulation/StartInstants", "isEmpty", "()Z"⟩ : MethodName)) hown (mvT hZ (hw _ (List.mem_of_getElem? (i := 35) rfl))) (mvT hZ (hw _ (List.mem_of_getElem? (i := 36) rfl))) (notFace_of_selects (args := #[]) (mvT hZ (hw _ (List.mem_of_getElem? (i := 38) rfl)))) (mvT hZ (hw _ (List.mem_of_getElem? (i := 38) rfl))) (mvT hZ (hw _ (List.mem_of_getElem? (i := 37) rfl))) (by decide) (backOf (W := 0) (rmE l Z a0 hw [] a (0 : Int32) (1 : Int32) T10.heap n0 zz10 gR10.2.2.2.1 (Or.inr ⟨by decide, rfl⟩)) hZ (hw _ (List.mem_of_getElem? (i := 39) rfl)) (hw _ (List.mem_of_getElem? (i := 2) rfl)) (by decide) (by decide)) q11a q11c (g := (mkF m 112 #[.val (.int p0), .val (.int p1), .val (.int p2), .val (.int p3), .val (.double (FP.i2d p0)), .second, .val (.double (FP.i2d p1)), .second, .val (.double (FP.i2d p2)), .second, .val (.int (1 : Int32)), .val (.ref a), .val (.double (FP.i2d p1)), .second, .val (.double (FP.i2d p2)), .second] [(.ref a)])) rfl (by rw [hml]; rfl) (Steps.refl _) (argsL := []) (rest := []) (lenOf pdZ rfl) rfl (by show 2 * 0 + _ ≤ _; exact Nat.le_of_eq rfl) (hb hby at_112) (fun _ _ => ⟨rfl, rfl, (by decide : 2 + 0 ≤ _), (by decide : 19 + 0 ≤ _)⟩)
    dsimp only [Pt.U, Pt.locs, Pt.cells, Pt.slots] at X11 l11 y11 z11 st11 hQ11
    subst l11 y11 z11
    obtain ⟨rfl, N11q, hh11⟩ := hQ11
    have N11 := Fr.app N10 N11q
    have zz11 : n0 ≤ T11.heap.size := by rw [hh11]; exact zz10
    have gR11 : Rg Z T11.heap a b k (3 : Int32) (0 : Int32) (V3 (FP.i2d p0) (FP.i2d p1) (FP.i2d p2)) := by rw [hh11]; exact gR10
    obtain ⟨fs, hr, hrun, hended, hW, hsame⟩ := X11.leave (v := some (.int (1 : Int32))) (fun h => by rw [Bd.returns] at h; cases h)
    refine ⟨_, _, pre0 _ ?_, hrun, hended, _, _, rfl, ?_, ⟨_, rfl⟩, hW, hsame.mono (by decide) (by decide)⟩
    · skip
      show Steps p.tables e below (s₁.setTop (mkF m 0 #[.val (.int p0), .val (.int p1), .val (.int p2), .val (.int p3), .unset, .unset, .unset, .unset, .unset, .unset, .unset, .unset, .unset, .unset, .unset, .unset] [])) _
      refine XS.iloadN X0.here hx rfl (hb hby at_0) rfl ?_
      show Steps p.tables e below (s₁.setTop (mkF m 1 #[.val (.int p0), .val (.int p1), .val (.int p2), .val (.int p3), .unset, .unset, .unset, .unset, .unset, .unset, .unset, .unset, .unset, .unset, .unset, .unset] [(.int p0)])) _
      refine XS.i2dS X0.here hx rfl (v := (FP.i2d p0)) (hb hby at_1) rfl rfl ?_
      show Steps p.tables e below (s₁.setTop (mkF m 2 #[.val (.int p0), .val (.int p1), .val (.int p2), .val (.int p3), .unset, .unset, .unset, .unset, .unset, .unset, .unset, .unset, .unset, .unset, .unset, .unset] [(.double (FP.i2d p0))])) _
      refine XS.dstore X0.here hx rfl (hb hby at_2) rfl (l' := #[.val (.int p0), .val (.int p1), .val (.int p2), .val (.int p3), .val (.double (FP.i2d p0)), .second, .unset, .unset, .unset, .unset, .unset, .unset, .unset, .unset, .unset, .unset]) rfl ?_
      show Steps p.tables e below (s₁.setTop (mkF m 4 #[.val (.int p0), .val (.int p1), .val (.int p2), .val (.int p3), .val (.double (FP.i2d p0)), .second, .unset, .unset, .unset, .unset, .unset, .unset, .unset, .unset, .unset, .unset] [])) _
      refine XS.iloadN X0.here hx rfl (hb hby at_4) rfl ?_
      show Steps p.tables e below (s₁.setTop (mkF m 5 #[.val (.int p0), .val (.int p1), .val (.int p2), .val (.int p3), .val (.double (FP.i2d p0)), .second, .unset, .unset, .unset, .unset, .unset, .unset, .unset, .unset, .unset, .unset] [(.int p1)])) _
      refine XS.i2dS X0.here hx rfl (v := (FP.i2d p1)) (hb hby at_5) rfl rfl ?_
      show Steps p.tables e below (s₁.setTop (mkF m 6 #[.val (.int p0), .val (.int p1), .val (.int p2), .val (.int p3), .val (.double (FP.i2d p0)), .second, .unset, .unset, .unset, .unset, .unset, .unset, .unset, .unset, .unset, .unset] [(.double (FP.i2d p1))])) _
      refine XS.dstore X0.here hx rfl (hb hby at_6) rfl (l' := #[.val (.int p0), .val (.int p1), .val (.int p2), .val (.int p3), .val (.double (FP.i2d p0)), .second, .val (.double (FP.i2d p1)), .second, .unset, .unset, .unset, .unset, .unset, .unset, .unset, .unset]) rfl ?_
      show Steps p.tables e below (s₁.setTop (mkF m 8 #[.val (.int p0), .val (.int p1), .val (.int p2), .val (.int p3), .val (.double (FP.i2d p0)), .second, .val (.double (FP.i2d p1)), .second, .unset, .unset, .unset, .unset, .unset, .unset, .unset, .unset] [])) _
      refine XS.iloadN X0.here hx rfl (hb hby at_8) rfl ?_
      show Steps p.tables e below (s₁.setTop (mkF m 9 #[.val (.int p0), .val (.int p1), .val (.int p2), .val (.int p3), .val (.double (FP.i2d p0)), .second, .val (.double (FP.i2d p1)), .second, .unset, .unset, .unset, .unset, .unset, .unset, .unset, .unset] [(.int p2)])) _
      refine XS.i2dS X0.here hx rfl (v := (FP.i2d p2)) (hb hby at_9) rfl rfl ?_
      show Steps p.tables e below (s₁.setTop (mkF m 10 #[.val (.int p0), .val (.int p1), .val (.int p2), .val (.int p3), .val (.double (FP.i2d p0)), .second, .val (.double (FP.i2d p1)), .second, .unset, .unset, .unset, .unset, .unset, .unset, .unset, .unset] [(.double (FP.i2d p2))])) _
      refine XS.dstore X0.here hx rfl (hb hby at_10) rfl (l' := #[.val (.int p0), .val (.int p1), .val (.int p2), .val (.int p3), .val (.double (FP.i2d p0)), .second, .val (.double (FP.i2d p1)), .second, .val (.double (FP.i2d p2)), .second, .unset, .unset, .unset, .unset, .unset, .unset]) rfl ?_
      show Steps p.tables e below (s₁.setTop (mkF m 12 #[.val (.int p0), .val (.int p1), .val (.int p2), .val (.int p3), .val (.double (FP.i2d p0)), .second, .val (.double (FP.i2d p1)), .second, .val (.double (FP.i2d p2)), .second, .unset, .unset, .unset, .unset, .unset, .unset] [])) _
      refine XS.iloadN X0.here hx rfl (hb hby at_12) rfl ?_
      show Steps p.tables e below (s₁.setTop (mkF m 13 #[.val (.int p0), .val (.int p1), .val (.int p2), .val (.int p3), .val (.double (FP.i2d p0)), .second, .val (.double (FP.i2d p1)), .second, .val (.double (FP.i2d p2)), .second, .unset, .unset, .unset, .unset, .unset, .unset] [(.int p3)])) _
      refine XS.iconst X0.here hx rfl (hb hby at_13) ?_
      show Steps p.tables e below (s₁.setTop (mkF m 14 #[.val (.int p0), .val (.int p1), .val (.int p2), .val (.int p3), .val (.double (FP.i2d p0)), .second, .val (.double (FP.i2d p1)), .second, .val (.double (FP.i2d p2)), .second, .unset, .unset, .unset, .unset, .unset, .unset] [(.int (1 : Int32)), (.int p3)])) _
      refine XS.iand X0.here hx rfl (hb hby at_14) rfl ?_
      show Steps p.tables e below (s₁.setTop (mkF m 15 #[.val (.int p0), .val (.int p1), .val (.int p2), .val (.int p3), .val (.double (FP.i2d p0)), .second, .val (.double (FP.i2d p1)), .second, .val (.double (FP.i2d p2)), .second, .unset, .unset, .unset, .unset, .unset, .unset] [(.int (p3 &&& (1 : Int32)))])) _
      refine XS.ifNo X0.here hx rfl (hb hby at_15) rfl ((if0 _ _).trans (feq hf).1) ?_
      show Steps p.tables e below (s₁.setTop (mkF m 18 #[.val (.int p0), .val (.int p1), .val (.int p2), .val (.int p3), .val (.double (FP.i2d p0)), .second, .val (.double (FP.i2d p1)), .second, .val (.double (FP.i2d p2)), .second, .unset, .unset, .unset, .unset, .unset, .unset] [])) _
      refine XS.iconst X0.here hx rfl (hb hby at_18) ?_
      show Steps p.tables e below (s₁.setTop (mkF m 19 #[.val (.int p0), .val (.int p1), .val (.int p2), .val (.int p3), .val (.double (FP.i2d p0)), .second, .val (.double (FP.i2d p1)), .second, .val (.double (FP.i2d p2)), .second, .unset, .unset, .unset, .unset, .unset, .unset] [(.int (1 : Int32))])) _
      refine XS.goto X0.here hx rfl (pc0 := 19) (pc' := 23) rfl (hb hby at_19) (by decide) (by decide) ?_
      show Steps p.tables e below (s₁.setTop (mkF m 23 #[.val (.int p0), .val (.int p1), .val (.int p2), .val (.int p3), .val (.double (FP.i2d p0)), .second, .val (.double (FP.i2d p1)), .second, .val (.double (FP.i2d p2)), .second, .unset, .unset, .unset, .unset, .unset, .unset] [(.int (1 : Int32))])) _
      refine XS.istore X0.here hx rfl (hb hby at_23) rfl (l' := #[.val (.int p0), .val (.int p1), .val (.int p2), .val (.int p3), .val (.double (FP.i2d p0)), .second, .val (.double (FP.i2d p1)), .second, .val (.double (FP.i2d p2)), .second, .val (.int (1 : Int32)), .unset, .unset, .unset, .unset, .unset]) rfl ?_
      show Steps p.tables e below (s₁.setTop (mkF m 25 #[.val (.int p0), .val (.int p1), .val (.int p2), .val (.int p3), .val (.double (FP.i2d p0)), .second, .val (.double (FP.i2d p1)), .second, .val (.double (FP.i2d p2)), .second, .val (.int (1 : Int32)), .unset, .unset, .unset, .unset, .unset] [])) _
      refine st1 _ ?_
      show Steps p.tables e below (T1.setTop (mkF m 28 #[.val (.int p0), .val (.int p1), .val (.int p2), .val (.int p3), .val (.double (FP.i2d p0)), .second, .val (.double (FP.i2d p1)), .second, .val (.double (FP.i2d p2)), .second, .val (.int (1 : Int32)), .unset, .unset, .unset, .unset, .unset] [(.ref a)])) _
      refine XS.dup X1.here hx rfl (hb hby at_28) rfl rfl ?_
      show Steps p.tables e below (T1.setTop (mkF m 29 #[.val (.int p0), .val (.int p1), .val (.int p2), .val (.int p3), .val (.double (FP.i2d p0)), .second, .val (.double (FP.i2d p1)), .second, .val (.double (FP.i2d p2)), .second, .val (.int (1 : Int32)), .unset, .unset, .unset, .unset, .unset] [(.ref a), (.ref a)])) _
      refine st2.trans ?_
      show Steps p.tables e below (T2.setTop (mkF m 32 #[.val (.int p0), .val (.int p1), .val (.int p2), .val (.int p3), .val (.double (FP.i2d p0)), .second, .val (.double (FP.i2d p1)), .second, .val (.double (FP.i2d p2)), .second, .val (.int (1 : Int32)), .unset, .unset, .unset, .unset, .unset] [(.ref a)])) _
      refine XS.astore X2.here hx rfl (hb hby at_32) rfl rfl (l' := #[.val (.int p0), .val (.int p1), .val (.int p2), .val (.int p3), .val (.double (FP.i2d p0)), .second, .val (.double (FP.i2d p1)), .second, .val (.double (FP.i2d p2)), .second, .val (.int (1 : Int32)), .val (.ref a), .unset, .unset, .unset, .unset]) rfl ?_
      show Steps p.tables e below (T2.setTop (mkF m 34 #[.val (.int p0), .val (.int p1), .val (.int p2), .val (.int p3), .val (.double (FP.i2d p0)), .second, .val (.double (FP.i2d p1)), .second, .val (.double (FP.i2d p2)), .second, .val (.int (1 : Int32)), .val (.ref a), .unset, .unset, .unset, .unset] [])) _
      refine XS.aload X2.here hx rfl (hb hby at_34) rfl rfl ?_
      show Steps p.tables e below (T2.setTop (mkF m 36 #[.val (.int p0), .val (.int p1), .val (.int p2), .val (.int p3), .val (.double (FP.i2d p0)), .second, .val (.double (FP.i2d p1)), .second, .val (.double (FP.i2d p2)), .second, .val (.int (1 : Int32)), .val (.ref a), .unset, .unset, .unset, .unset] [(.ref a)])) _
      refine XS.dload X2.here hx rfl (hb hby at_36) rfl ?_
      show Steps p.tables e below (T2.setTop (mkF m 38 #[.val (.int p0), .val (.int p1), .val (.int p2), .val (.int p3), .val (.double (FP.i2d p0)), .second, .val (.double (FP.i2d p1)), .second, .val (.double (FP.i2d p2)), .second, .val (.int (1 : Int32)), .val (.ref a), .unset, .unset, .unset, .unset] [(.double (FP.i2d p0)), (.ref a)])) _
      refine st3.trans ?_
      show Steps p.tables e below (T3.setTop (mkF m 41 #[.val (.int p0), .val (.int p1), .val (.int p2), .val (.int p3), .val (.double (FP.i2d p0)), .second, .val (.double (FP.i2d p1)), .second, .val (.double (FP.i2d p2)), .second, .val (.int (1 : Int32)), .val (.ref a), .unset, .unset, .unset, .unset] [])) _
      refine XS.iload X3.here hx rfl (hb hby at_41) rfl ?_
      show Steps p.tables e below (T3.setTop (mkF m 43 #[.val (.int p0), .val (.int p1), .val (.int p2), .val (.int p3), .val (.double (FP.i2d p0)), .second, .val (.double (FP.i2d p1)), .second, .val (.double (FP.i2d p2)), .second, .val (.int (1 : Int32)), .val (.ref a), .unset, .unset, .unset, .unset] [(.int (1 : Int32))])) _
      refine XS.ifNo X3.here hx rfl (hb hby at_43) rfl (by decide) ?_
      show Steps p.tables e below (T3.setTop (mkF m 46 #[.val (.int p0), .val (.int p1), .val (.int p2), .val (.int p3), .val (.double (FP.i2d p0)), .second, .val (.double (FP.i2d p1)), .second, .val (.double (FP.i2d p2)), .second, .val (.int (1 : Int32)), .val (.ref a), .unset, .unset, .unset, .unset] [])) _
      refine XS.aload X3.here hx rfl (hb hby at_46) rfl rfl ?_
      show Steps p.tables e below (T3.setTop (mkF m 48 #[.val (.int p0), .val (.int p1), .val (.int p2), .val (.int p3), .val (.double (FP.i2d p0)), .second, .val (.double (FP.i2d p1)), .second, .val (.double (FP.i2d p2)), .second, .val (.int (1 : Int32)), .val (.ref a), .unset, .unset, .unset, .unset] [(.ref a)])) _
      refine st4.trans ?_
      show Steps p.tables e below (T4.setTop (mkF m 51 #[.val (.int p0), .val (.int p1), .val (.int p2), .val (.int p3), .val (.double (FP.i2d p0)), .second, .val (.double (FP.i2d p1)), .second, .val (.double (FP.i2d p2)), .second, .val (.int (1 : Int32)), .val (.ref a), .unset, .unset, .unset, .unset] [])) _
      refine XS.aload X4.here hx rfl (hb hby at_51) rfl rfl ?_
      show Steps p.tables e below (T4.setTop (mkF m 53 #[.val (.int p0), .val (.int p1), .val (.int p2), .val (.int p3), .val (.double (FP.i2d p0)), .second, .val (.double (FP.i2d p1)), .second, .val (.double (FP.i2d p2)), .second, .val (.int (1 : Int32)), .val (.ref a), .unset, .unset, .unset, .unset] [(.ref a)])) _
      refine XS.dload X4.here hx rfl (hb hby at_53) rfl ?_
      show Steps p.tables e below (T4.setTop (mkF m 55 #[.val (.int p0), .val (.int p1), .val (.int p2), .val (.int p3), .val (.double (FP.i2d p0)), .second, .val (.double (FP.i2d p1)), .second, .val (.double (FP.i2d p2)), .second, .val (.int (1 : Int32)), .val (.ref a), .unset, .unset, .unset, .unset] [(.double (FP.i2d p1)), (.ref a)])) _
      refine st5.trans ?_
      show Steps p.tables e below (T5.setTop (mkF m 58 #[.val (.int p0), .val (.int p1), .val (.int p2), .val (.int p3), .val (.double (FP.i2d p0)), .second, .val (.double (FP.i2d p1)), .second, .val (.double (FP.i2d p2)), .second, .val (.int (1 : Int32)), .val (.ref a), .unset, .unset, .unset, .unset] [])) _
      refine XS.aload X5.here hx rfl (hb hby at_58) rfl rfl ?_
      show Steps p.tables e below (T5.setTop (mkF m 60 #[.val (.int p0), .val (.int p1), .val (.int p2), .val (.int p3), .val (.double (FP.i2d p0)), .second, .val (.double (FP.i2d p1)), .second, .val (.double (FP.i2d p2)), .second, .val (.int (1 : Int32)), .val (.ref a), .unset, .unset, .unset, .unset] [(.ref a)])) _
      refine XS.dload X5.here hx rfl (hb hby at_60) rfl ?_
      show Steps p.tables e below (T5.setTop (mkF m 62 #[.val (.int p0), .val (.int p1), .val (.int p2), .val (.int p3), .val (.double (FP.i2d p0)), .second, .val (.double (FP.i2d p1)), .second, .val (.double (FP.i2d p2)), .second, .val (.int (1 : Int32)), .val (.ref a), .unset, .unset, .unset, .unset] [(.double (FP.i2d p2)), (.ref a)])) _
      refine st6.trans ?_
      show Steps p.tables e below (T6.setTop (mkF m 65 #[.val (.int p0), .val (.int p1), .val (.int p2), .val (.int p3), .val (.double (FP.i2d p0)), .second, .val (.double (FP.i2d p1)), .second, .val (.double (FP.i2d p2)), .second, .val (.int (1 : Int32)), .val (.ref a), .unset, .unset, .unset, .unset] [])) _
      refine XS.aload X6.here hx rfl (hb hby at_65) rfl rfl ?_
      show Steps p.tables e below (T6.setTop (mkF m 67 #[.val (.int p0), .val (.int p1), .val (.int p2), .val (.int p3), .val (.double (FP.i2d p0)), .second, .val (.double (FP.i2d p1)), .second, .val (.double (FP.i2d p2)), .second, .val (.int (1 : Int32)), .val (.ref a), .unset, .unset, .unset, .unset] [(.ref a)])) _
      refine st7.trans ?_
      show Steps p.tables e below (T7.setTop (mkF m 70 #[.val (.int p0), .val (.int p1), .val (.int p2), .val (.int p3), .val (.double (FP.i2d p0)), .second, .val (.double (FP.i2d p1)), .second, .val (.double (FP.i2d p2)), .second, .val (.int (1 : Int32)), .val (.ref a), .unset, .unset, .unset, .unset] [(.double (FP.i2d p1))])) _
      refine XS.dstore X7.here hx rfl (hb hby at_70) rfl (l' := #[.val (.int p0), .val (.int p1), .val (.int p2), .val (.int p3), .val (.double (FP.i2d p0)), .second, .val (.double (FP.i2d p1)), .second, .val (.double (FP.i2d p2)), .second, .val (.int (1 : Int32)), .val (.ref a), .val (.double (FP.i2d p1)), .second, .unset, .unset]) rfl ?_
      show Steps p.tables e below (T7.setTop (mkF m 72 #[.val (.int p0), .val (.int p1), .val (.int p2), .val (.int p3), .val (.double (FP.i2d p0)), .second, .val (.double (FP.i2d p1)), .second, .val (.double (FP.i2d p2)), .second, .val (.int (1 : Int32)), .val (.ref a), .val (.double (FP.i2d p1)), .second, .unset, .unset] [])) _
      refine XS.aload X7.here hx rfl (hb hby at_72) rfl rfl ?_
      show Steps p.tables e below (T7.setTop (mkF m 74 #[.val (.int p0), .val (.int p1), .val (.int p2), .val (.int p3), .val (.double (FP.i2d p0)), .second, .val (.double (FP.i2d p1)), .second, .val (.double (FP.i2d p2)), .second, .val (.int (1 : Int32)), .val (.ref a), .val (.double (FP.i2d p1)), .second, .unset, .unset] [(.ref a)])) _
      refine st8.trans ?_
      show Steps p.tables e below (T8.setTop (mkF m 77 #[.val (.int p0), .val (.int p1), .val (.int p2), .val (.int p3), .val (.double (FP.i2d p0)), .second, .val (.double (FP.i2d p1)), .second, .val (.double (FP.i2d p2)), .second, .val (.int (1 : Int32)), .val (.ref a), .val (.double (FP.i2d p1)), .second, .unset, .unset] [])) _
      refine XS.aload X8.here hx rfl (hb hby at_77) rfl rfl ?_
      show Steps p.tables e below (T8.setTop (mkF m 79 #[.val (.int p0), .val (.int p1), .val (.int p2), .val (.int p3), .val (.double (FP.i2d p0)), .second, .val (.double (FP.i2d p1)), .second, .val (.double (FP.i2d p2)), .second, .val (.int (1 : Int32)), .val (.ref a), .val (.double (FP.i2d p1)), .second, .unset, .unset] [(.ref a)])) _
      refine st9.trans ?_
      show Steps p.tables e below (T9.setTop (mkF m 82 #[.val (.int p0), .val (.int p1), .val (.int p2), .val (.int p3), .val (.double (FP.i2d p0)), .second, .val (.double (FP.i2d p1)), .second, .val (.double (FP.i2d p2)), .second, .val (.int (1 : Int32)), .val (.ref a), .val (.double (FP.i2d p1)), .second, .unset, .unset] [(.double (FP.i2d p2))])) _
      refine XS.dstore X9.here hx rfl (hb hby at_82) rfl (l' := #[.val (.int p0), .val (.int p1), .val (.int p2), .val (.int p3), .val (.double (FP.i2d p0)), .second, .val (.double (FP.i2d p1)), .second, .val (.double (FP.i2d p2)), .second, .val (.int (1 : Int32)), .val (.ref a), .val (.double (FP.i2d p1)), .second, .val (.double (FP.i2d p2)), .second]) rfl ?_
      show Steps p.tables e below (T9.setTop (mkF m 84 #[.val (.int p0), .val (.int p1), .val (.int p2), .val (.int p3), .val (.double (FP.i2d p0)), .second, .val (.double (FP.i2d p1)), .second, .val (.double (FP.i2d p2)), .second, .val (.int (1 : Int32)), .val (.ref a), .val (.double (FP.i2d p1)), .second, .val (.double (FP.i2d p2)), .second] [])) _
      refine XS.aload X9.here hx rfl (hb hby at_84) rfl rfl ?_
      show Steps p.tables e below (T9.setTop (mkF m 86 #[.val (.int p0), .val (.int p1), .val (.int p2), .val (.int p3), .val (.double (FP.i2d p0)), .second, .val (.double (FP.i2d p1)), .second, .val (.double (FP.i2d p2)), .second, .val (.int (1 : Int32)), .val (.ref a), .val (.double (FP.i2d p1)), .second, .val (.double (FP.i2d p2)), .second] [(.ref a)])) _
      refine st10.trans ?_
      show Steps p.tables e below (T10.setTop (mkF m 89 #[.val (.int p0), .val (.int p1), .val (.int p2), .val (.int p3), .val (.double (FP.i2d p0)), .second, .val (.double (FP.i2d p1)), .second, .val (.double (FP.i2d p2)), .second, .val (.int (1 : Int32)), .val (.ref a), .val (.double (FP.i2d p1)), .second, .val (.double (FP.i2d p2)), .second] [])) _
      refine XS.iload X10.here hx rfl (hb hby at_89) rfl ?_
      show Steps p.tables e below (T10.setTop (mkF m 91 #[.val (.int p0), .val (.int p1), .val (.int p2), .val (.int p3), .val (.double (FP.i2d p0)), .second, .val (.double (FP.i2d p1)), .second, .val (.double (FP.i2d p2)), .second, .val (.int (1 : Int32)), .val (.ref a), .val (.double (FP.i2d p1)), .second, .val (.double (FP.i2d p2)), .second] [(.int (1 : Int32))])) _
      refine XS.ifNo X10.here hx rfl (hb hby at_91) rfl (by decide) ?_
      show Steps p.tables e below (T10.setTop (mkF m 94 #[.val (.int p0), .val (.int p1), .val (.int p2), .val (.int p3), .val (.double (FP.i2d p0)), .second, .val (.double (FP.i2d p1)), .second, .val (.double (FP.i2d p2)), .second, .val (.int (1 : Int32)), .val (.ref a), .val (.double (FP.i2d p1)), .second, .val (.double (FP.i2d p2)), .second] [])) _
      refine XS.dload X10.here hx rfl (hb hby at_94) rfl ?_
      show Steps p.tables e below (T10.setTop (mkF m 96 #[.val (.int p0), .val (.int p1), .val (.int p2), .val (.int p3), .val (.double (FP.i2d p0)), .second, .val (.double (FP.i2d p1)), .second, .val (.double (FP.i2d p2)), .second, .val (.int (1 : Int32)), .val (.ref a), .val (.double (FP.i2d p1)), .second, .val (.double (FP.i2d p2)), .second] [(.double (FP.i2d p1))])) _
      refine XS.dload X10.here hx rfl (hb hby at_96) rfl ?_
      show Steps p.tables e below (T10.setTop (mkF m 98 #[.val (.int p0), .val (.int p1), .val (.int p2), .val (.int p3), .val (.double (FP.i2d p0)), .second, .val (.double (FP.i2d p1)), .second, .val (.double (FP.i2d p2)), .second, .val (.int (1 : Int32)), .val (.ref a), .val (.double (FP.i2d p1)), .second, .val (.double (FP.i2d p2)), .second] [(.double (FP.i2d p1)), (.double (FP.i2d p1))])) _
      refine XS.dcmpS X10.here hx rfl (x := (FP.i2d p1)) (y := (FP.i2d p1)) (v := (0 : Int32)) (hb hby at_98) rfl (dcmpV_self (Jvm.Free.Fl.i2d_fin p1).noNaN .l) ?_
      show Steps p.tables e below (T10.setTop (mkF m 99 #[.val (.int p0), .val (.int p1), .val (.int p2), .val (.int p3), .val (.double (FP.i2d p0)), .second, .val (.double (FP.i2d p1)), .second, .val (.double (FP.i2d p2)), .second, .val (.int (1 : Int32)), .val (.ref a), .val (.double (FP.i2d p1)), .second, .val (.double (FP.i2d p2)), .second] [(.int (0 : Int32))])) _
      refine XS.ifNo X10.here hx rfl (hb hby at_99) rfl (by decide) ?_
      show Steps p.tables e below (T10.setTop (mkF m 102 #[.val (.int p0), .val (.int p1), .val (.int p2), .val (.int p3), .val (.double (FP.i2d p0)), .second, .val (.double (FP.i2d p1)), .second, .val (.double (FP.i2d p2)), .second, .val (.int (1 : Int32)), .val (.ref a), .val (.double (FP.i2d p1)), .second, .val (.double (FP.i2d p2)), .second] [])) _
      refine XS.dload X10.here hx rfl (hb hby at_102) rfl ?_
      show Steps p.tables e below (T10.setTop (mkF m 104 #[.val (.int p0), .val (.int p1), .val (.int p2), .val (.int p3), .val (.double (FP.i2d p0)), .second, .val (.double (FP.i2d p1)), .second, .val (.double (FP.i2d p2)), .second, .val (.int (1 : Int32)), .val (.ref a), .val (.double (FP.i2d p1)), .second, .val (.double (FP.i2d p2)), .second] [(.double (FP.i2d p2))])) _
      refine XS.dload X10.here hx rfl (hb hby at_104) rfl ?_
      show Steps p.tables e below (T10.setTop (mkF m 106 #[.val (.int p0), .val (.int p1), .val (.int p2), .val (.int p3), .val (.double (FP.i2d p0)), .second, .val (.double (FP.i2d p1)), .second, .val (.double (FP.i2d p2)), .second, .val (.int (1 : Int32)), .val (.ref a), .val (.double (FP.i2d p1)), .second, .val (.double (FP.i2d p2)), .second] [(.double (FP.i2d p2)), (.double (FP.i2d p2))])) _
      refine XS.dcmpS X10.here hx rfl (x := (FP.i2d p2)) (y := (FP.i2d p2)) (v := (0 : Int32)) (hb hby at_106) rfl (dcmpV_self (Jvm.Free.Fl.i2d_fin p2).noNaN .l) ?_
      show Steps p.tables e below (T10.setTop (mkF m 107 #[.val (.int p0), .val (.int p1), .val (.int p2), .val (.int p3), .val (.double (FP.i2d p0)), .second, .val (.double (FP.i2d p1)), .second, .val (.double (FP.i2d p2)), .second, .val (.int (1 : Int32)), .val (.ref a), .val (.double (FP.i2d p1)), .second, .val (.double (FP.i2d p2)), .second] [(.int (0 : Int32))])) _
      refine XS.ifNo X10.here hx rfl (hb hby at_107) rfl (by decide) ?_
      show Steps p.tables e below (T10.setTop (mkF m 110 #[.val (.int p0), .val (.int p1), .val (.int p2), .val (.int p3), .val (.double (FP.i2d p0)), .second, .val (.double (FP.i2d p1)), .second, .val (.double (FP.i2d p2)), .second, .val (.int (1 : Int32)), .val (.ref a), .val (.double (FP.i2d p1)), .second, .val (.double (FP.i2d p2)), .second] [])) _
      refine XS.aload X10.here hx rfl (hb hby at_110) rfl rfl ?_
      show Steps p.tables e below (T10.setTop (mkF m 112 #[.val (.int p0), .val (.int p1), .val (.int p2), .val (.int p3), .val (.double (FP.i2d p0)), .second, .val (.double (FP.i2d p1)), .second, .val (.double (FP.i2d p2)), .second, .val (.int (1 : Int32)), .val (.ref a), .val (.double (FP.i2d p1)), .second, .val (.double (FP.i2d p2)), .second] [(.ref a)])) _
      refine st11.trans ?_
      show Steps p.tables e below (T11.setTop (mkF m 115 #[.val (.int p0), .val (.int p1), .val (.int p2), .val (.int p3), .val (.double (FP.i2d p0)), .second, .val (.double (FP.i2d p1)), .second, .val (.double (FP.i2d p2)), .second, .val (.int (1 : Int32)), .val (.ref a), .val (.double (FP.i2d p1)), .second, .val (.double (FP.i2d p2)), .second] [(.int (1 : Int32))])) _
      refine XS.ifNo X11.here hx rfl (hb hby at_115) rfl (by decide) ?_
      show Steps p.tables e below (T11.setTop (mkF m 118 #[.val (.int p0), .val (.int p1), .val (.int p2), .val (.int p3), .val (.double (FP.i2d p0)), .second, .val (.double (FP.i2d p1)), .second, .val (.double (FP.i2d p2)), .second, .val (.int (1 : Int32)), .val (.ref a), .val (.double (FP.i2d p1)), .second, .val (.double (FP.i2d p2)), .second] [])) _
      refine XS.iconst X11.here hx rfl (hb hby at_118) ?_
      show Steps p.tables e below (T11.setTop (mkF m 119 #[.val (.int p0), .val (.int p1), .val (.int p2), .val (.int p3), .val (.double (FP.i2d p0)), .second, .val (.double (FP.i2d p1)), .second, .val (.double (FP.i2d p2)), .second, .val (.int (1 : Int32)), .val (.ref a), .val (.double (FP.i2d p1)), .second, .val (.double (FP.i2d p2)), .second] [(.int (1 : Int32))])) _
      refine XS.goto X11.here hx rfl (pc0 := 119) (pc' := 123) rfl (hb hby at_119) (by decide) (by decide) ?_
      show Steps p.tables e below (T11.setTop (mkF m 123 #[.val (.int p0), .val (.int p1), .val (.int p2), .val (.int p3), .val (.double (FP.i2d p0)), .second, .val (.double (FP.i2d p1)), .second, .val (.double (FP.i2d p2)), .second, .val (.int (1 : Int32)), .val (.ref a), .val (.double (FP.i2d p1)), .second, .val (.double (FP.i2d p2)), .second] [(.int (1 : Int32))])) _
      exact retN X11 hx (t := .boolean) Bd.returns (by simp) (hb hby at_123) hr
    · exact ⟨rfl, N11⟩
set_option maxRecDepth 65536 in
set_option maxHeartbeats 40000000 in
theorem comes_1 {Post : Tables → Env → Array Value → State → Outcome → State → Prop} (hpost : ∀ tb e args s v u, (limb_1_1.after args s (.returned v) u = true ∧ limb_1_2.after args s (.returned v) u = true ∧ True) → FrameEnd s (.returned v) u (Jvm.fieldLocs frame_1_writes args s ++ Jvm.arrayLocs frame_1_arrays args s ++ Jvm.staticLocs frame_1_statics s) 16 128 → Post tb e args s (.returned v) u) :
    ArmFor flags0 classFile x code maxLocals ret World_1 tables_1 room_1 Calls_1 rest_1 Pre_1 Post := by
  intro l hfl _ _ p e ha hc hk s m args below hf hA hF happ hP
  obtain ⟨hcalls, hrest, hpre⟩ := hP
  obtain ⟨-, -, -, hnamed, -, -, -, hat⟩ := (Spec.applies_iff hf).mp happ
  obtain ⟨hg, hn⟩ := and_e (Cond.before_iff.mp (show (Jvm.Cond.and given_1 narrow_1).before args s = true from hpre))
  obtain ⟨h1, h2⟩ := and_e hg
  obtain ⟨ha0, hb0⟩ := and_e h2
  obtain ⟨ha1, hb1⟩ := and_e hb0
  obtain ⟨ha2, hb2⟩ := and_e hb1
  obtain ⟨w0, w1, w2, w3, rfl⟩ : ∃ w0 w1 w2 w3 : Value, args = #[w0, w1, w2, w3] := by
    have hs : args.size = 4 := by simpa [Cond.value, given_1] using h1
    obtain ⟨L⟩ := args
    match L, hs with
    | [w0, w1, w2, w3], _ => exact ⟨w0, w1, w2, w3, rfl⟩
  have hw := fun d (hd : d ∈ tables_1) => atoms_spec (ws := Jvm.Cond.code x code maxLocals ret :: tables_1) hat d (List.mem_cons_of_mem _ hd)
  obtain ⟨i0, e0⟩ := is_v ha0
  obtain rfl : w0 = (.int i0) := Option.some.inj e0
  obtain ⟨i1, e1⟩ := is_v ha1
  obtain rfl : w1 = (.int i1) := Option.some.inj e1
  obtain ⟨i2, e2⟩ := is_v ha2
  obtain rfl : w2 = (.int i2) := Option.some.inj e2
  obtain ⟨i3, e3⟩ := is_v hb2
  obtain rfl : w3 = (.int i3) := Option.some.inj e3
  obtain ⟨n, o, h1, h2, h3, _, L, rfl, ⟨rfl, N⟩, hq⟩ := rm0 l s _ hw tables_1 i0 i1 i2 i3 s.heap s.heap.size (Nat.le_refl _) p e ha hc hk s m _ below hf ((Spec.applies_iff_loose hf).mp happ).1 ⟨rfl, State.Warmed39.refl s, rfl⟩ trivial
  refine ⟨n, _, h1, h2, h3, hpost _ _ _ _ _ _ ⟨Cond.after_iff.mpr rfl, Cond.after_iff.mpr (eq_i res_at (Term.int_eval (1)) rfl), trivial⟩ ⟨hq.1, hq.2.1, (hq.2.2.sift fun y hy => Or.inr (N y hy)).mono (by decide) (by decide)⟩⟩
theorem main_1_1 : Claimed_1_1 := comes_1 fun _ _ _ _ _ _ h hF => ⟨h.1, hF⟩
theorem main_1_2 : Claimed_1_2 := comes_1 fun _ _ _ _ _ _ h hF => ⟨h.2.1, hF⟩
end Jvm.Pilot.@@N@@
namespace Jvm.Pilot.@@N@@
open Jvm Jvm.ClassFile Sem Op Lib Jvm.Free Jvm.Stand Jvm.Pilot.@@N@@.Jvm.D
/-! MADE BY PROGRAM (witnessworld.py) out of the Statement's table words and the real class files: 9 classes; the members and pool entries that the words name. The judged class is class 1, her method 1. -/
namespace start1
open Jvm.ClassFile
def u (s : String) : CpInfo := .utf8 (stringToUtf16 s)
/-- a pool by its gaps: so many unusable entries, then the entry; so many at the end -/
def gap : Nat → List CpInfo → List CpInfo
  | 0, r => r
  | n + 1, r => .unusable :: gap n r
def poolList (es : List (Nat × CpInfo)) (last : Nat) : List CpInfo := es.foldr (fun e r => gap e.1 (e.2 :: r)) (gap last [])
def pool (es : List (Nat × CpInfo)) (last : Nat) : Array CpInfo := ⟨poolList es last⟩
def fileOf (pool : Array CpInfo) (this : Nat) (attrs : Array Attribute := #[]) (ms : Array MethodInfo := #[]) (fl : Nat := 33) (sup : Nat := 0) (ifs : Array Nat := #[]) (fds : Array FieldInfo := #[]) : ClassFile where
  minorVersion := 0
  majorVersion := 65
  constantPool := pool
  accessFlags := fl
  thisClass := this
  superClass := sup
  interfaces := ifs
  fields := fds
  methods := ms
  attributes := attrs
def plain (name : String) (sup : Option ClassId) : Class where
  name := name
  kind := .ordinary
  loader := none
  accessFlags := 33
  super := sup
  interfaces := #[]
  cf := none
  fields := #[]
  methods := #[]
  instanceTypes := #[]
  staticTypes := #[]
  resolved := #[]
  callSites := []
  init := .initialized
  statics := none
  mirror := none

def pool0 : Array CpInfo := pool [(5, u "<init>"), (0, u "()V"), (1, .class_ 10), (1, u "java/lang/Object")] 113

def k0c0 : Code := { maxStack := 0, maxLocals := 1, code := object_method_1_code, exceptionTable := #[], attributes := #[] }
def k0m0 : Method := { name := "<init>", desc := "()V", sig := { parameters := [], returnType := none }, accessFlags := 1, code := some k0c0 }
/-- java/lang/Object -/
def k0 : Class := { plain "java/lang/Object" none with
  accessFlags := 33
  interfaces := #[]
  cf := some (fileOf pool0 8 #[] #[{ accessFlags := 1, nameIndex := 5, descriptorIndex := 6, attributes := #[] }] 33 0 #[] #[])
  fields := #[]
  methods := #[k0m0]
  instanceTypes := #[]
  staticTypes := #[]
  resolved := Array.replicate 124 none
  statics := none }

def pool1 : Array CpInfo := pool [(2, .class_ 4), (0, .nameAndType 5 6), (0, u "java/lang/Object"), (0, u "<init>"), (0, u "()V"), (0, .class_ 8), (0, u "com/example/schie/schie/simulation/StartInstants"), (0, .methodref 7 3), (0, .methodref 7 11), (0, .nameAndType 12 13), (0, u "addLast"), (0, u "(D)V"), (0, .methodref 7 15), (0, .nameAndType 16 6), (0, u "removeFirst"), (0, .methodref 7 18), (0, .nameAndType 19 20), (0, u "first"), (0, u "()D"), (0, .methodref 7 22), (0, .nameAndType 23 24), (0, u "isEmpty"), (0, u "()Z"), (0, .class_ 26), (0, u "com/example/schie/schie/simulation/StartInstantsAddLastPinLaw"), (2, u "law"), (0, u "(IIII)Z")] 3

def k1m0 : Method := { name := "<init>", desc := "()V", sig := { parameters := [], returnType := none }, accessFlags := 1, code := none }
def k1c1 : Code := { maxStack := 4, maxLocals := 16, code := code, exceptionTable := #[], attributes := #[] }
def k1m1 : Method := { name := "law", desc := "(IIII)Z", sig := { parameters := [.int, .int, .int, .int], returnType := some .boolean }, accessFlags := 9, code := some k1c1 }
/-- com/example/schie/schie/simulation/StartInstantsAddLastPinLaw -/
def k1 : Class := { plain "com/example/schie/schie/simulation/StartInstantsAddLastPinLaw" (some 0) with
  accessFlags := 49
  interfaces := #[]
  cf := some (fileOf pool1 25 #[] #[{ accessFlags := 1, nameIndex := 5, descriptorIndex := 6, attributes := #[] }, { accessFlags := 9, nameIndex := 29, descriptorIndex := 30, attributes := #[] }] 49 2 #[] #[])
  fields := #[]
  methods := #[k1m0, k1m1]
  instanceTypes := #[]
  staticTypes := #[]
  resolved := Array.replicate 34 none
  statics := none }

def pool2 : Array CpInfo := pool [(1, .methodref 2 3), (0, .class_ 4), (0, .nameAndType 5 6), (0, u "java/lang/Object"), (0, u "<init>"), (0, u "()V"), (0, .fieldref 8 9), (0, .class_ 10), (0, .nameAndType 11 12), (0, u "com/example/schie/schie/simulation/StartInstants"), (0, u "instants"), (0, u "[D"), (0, .fieldref 8 14), (0, .nameAndType 15 16), (0, u "size"), (0, u "I"), (0, .fieldref 8 18), (0, .nameAndType 19 16), (0, u "head"), (0, .methodref 8 21), (0, .nameAndType 22 6), (0, u "requireNoted"), (9, u "addLast"), (0, u "(D)V"), (2, u "isEmpty"), (0, u "()Z"), (0, u "first"), (0, u "()D"), (0, u "removeFirst")] 3

def k2c0 : Code := { maxStack := 2, maxLocals := 1, code := prog_72_method_1_code, exceptionTable := #[], attributes := #[] }
def k2m0 : Method := { name := "<init>", desc := "()V", sig := { parameters := [], returnType := none }, accessFlags := 0, code := some k2c0 }
def k2c1 : Code := { maxStack := 6, maxLocals := 5, code := prog_72_method_2_code, exceptionTable := #[], attributes := #[] }
def k2m1 : Method := { name := "addLast", desc := "(D)V", sig := { parameters := [.double], returnType := none }, accessFlags := 0, code := some k2c1 }
def k2c2 : Code := { maxStack := 1, maxLocals := 1, code := prog_72_method_3_code, exceptionTable := #[], attributes := #[] }
def k2m2 : Method := { name := "isEmpty", desc := "()Z", sig := { parameters := [], returnType := some .boolean }, accessFlags := 0, code := some k2c2 }
def k2c3 : Code := { maxStack := 2, maxLocals := 1, code := prog_72_method_4_code, exceptionTable := #[], attributes := #[] }
def k2m3 : Method := { name := "first", desc := "()D", sig := { parameters := [], returnType := some .double }, accessFlags := 0, code := some k2c3 }
def k2c4 : Code := { maxStack := 4, maxLocals := 1, code := prog_72_method_5_code, exceptionTable := #[], attributes := #[] }
def k2m4 : Method := { name := "removeFirst", desc := "()V", sig := { parameters := [], returnType := none }, accessFlags := 0, code := some k2c4 }
def k2c5 : Code := { maxStack := 3, maxLocals := 1, code := prog_72_method_7_code, exceptionTable := #[], attributes := #[] }
def k2m5 : Method := { name := "requireNoted", desc := "()V", sig := { parameters := [], returnType := none }, accessFlags := 2, code := some k2c5 }
/-- com/example/schie/schie/simulation/StartInstants -/
def k2 : Class := { plain "com/example/schie/schie/simulation/StartInstants" (some 0) with
  accessFlags := 32
  interfaces := #[]
  cf := some (fileOf pool2 8 #[] #[{ accessFlags := 0, nameIndex := 5, descriptorIndex := 6, attributes := #[] }, { accessFlags := 0, nameIndex := 32, descriptorIndex := 33, attributes := #[] }, { accessFlags := 0, nameIndex := 36, descriptorIndex := 37, attributes := #[] }, { accessFlags := 0, nameIndex := 38, descriptorIndex := 39, attributes := #[] }, { accessFlags := 0, nameIndex := 40, descriptorIndex := 6, attributes := #[] }, { accessFlags := 2, nameIndex := 22, descriptorIndex := 6, attributes := #[] }] 32 2 #[] #[{ accessFlags := 2, nameIndex := 11, descriptorIndex := 12, attributes := #[] }, { accessFlags := 2, nameIndex := 19, descriptorIndex := 16, attributes := #[] }, { accessFlags := 2, nameIndex := 15, descriptorIndex := 16, attributes := #[] }])
  fields := #[{ name := "instants", type := (.array .double), accessFlags := 2, slot := 0, constantValue := 0 }, { name := "head", type := .int, accessFlags := 2, slot := 1, constantValue := 0 }, { name := "size", type := .int, accessFlags := 2, slot := 2, constantValue := 0 }]
  methods := #[k2m0, k2m1, k2m2, k2m3, k2m4, k2m5]
  instanceTypes := #[(.array .double), .int, .int]
  staticTypes := #[]
  resolved := Array.replicate 44 none
  statics := none }

def pool3 : Array CpInfo := pool [(1, u "java/lang/Cloneable"), (0, .class_ 1), (0, u "java/lang/Object"), (0, .class_ 3)] 3

/-- java/lang/Cloneable -/
def k3 : Class := { plain "java/lang/Cloneable" (some 0) with
  accessFlags := 1537
  interfaces := #[]
  cf := some (fileOf pool3 2 #[] #[] 1537 4 #[] #[])
  fields := #[]
  methods := #[]
  instanceTypes := #[]
  staticTypes := #[]
  resolved := Array.replicate 8 none
  statics := none }

def pool4 : Array CpInfo := pool [(1, u "java/io/Serializable"), (0, .class_ 1), (0, u "java/lang/Object"), (0, .class_ 3)] 3

/-- java/io/Serializable -/
def k4 : Class := { plain "java/io/Serializable" (some 0) with
  accessFlags := 1537
  interfaces := #[]
  cf := some (fileOf pool4 2 #[] #[] 1537 4 #[] #[])
  fields := #[]
  methods := #[]
  instanceTypes := #[]
  staticTypes := #[]
  resolved := Array.replicate 8 none
  statics := none }

/-- the primitive byte -/
def k5 : Class := { plain "byte" none with kind := .primitive 'B', accessFlags := 0x411 }
/-- [B -/
def k6 : Class := { plain "[B" (some 0) with kind := .array 5 .byte, interfaces := #[3, 4], accessFlags := 1041 }

/-- the primitive double -/
def k7 : Class := { plain "double" none with kind := .primitive 'D', accessFlags := 0x411 }
/-- [D -/
def k8 : Class := { plain "[D" (some 0) with kind := .array 7 .double, interfaces := #[3, 4], accessFlags := 1041 }

def heap : Heap := #[]
def classes : Array Class := #[k0, k1, k2, k3, k4, k5, k6, k7, k8]
def interned : List (Array UInt16 × Addr) := []
def slotsUsed : Nat := 0
def theMethod : MethodId := ⟨1, 1⟩
def args0 : Array Value := #[.int 5, .int 300, .int 7, .int 1]
def aboutOver (below : List Frame) : State where
  vm := { classes := classes, interned := interned.toArray }
  heap := heap
  slotsUsed := slotsUsed
  threads := #[{ frames := .invoking theMethod args0 :: below }]
def below0 : List Frame := [.native { method := ⟨0, 0⟩, args := #[] }]
def about1 : State := aboutOver below0
def p0 : Program := .bare "" "" ""
def e0 : Env := launch0.env 0 0 0
theorem w_frames : about1.frames = Frame.invoking theMethod args0 :: below0 := rfl
set_option maxRecDepth 65536 in
theorem w_args : argsFit about1.vm theMethod args0 = true := by decide +kernel
set_option maxRecDepth 65536 in
theorem w_heap : heapFits about1 = true := by decide +kernel
set_option maxRecDepth 65536 in
theorem w_runnable : about1.curStatus? = some .runnable := by decide +kernel
set_option maxRecDepth 65536 in
theorem w_alone : about1.alone = true := by decide +kernel
set_option maxRecDepth 65536 in
theorem w_named : about1.methodNamed? x = some theMethod := by decide +kernel
set_option maxRecDepth 65536 in
theorem w_hears : about1.hears theMethod below0 = true := by decide +kernel
set_option maxRecDepth 65536 in
theorem w_ripe : about1.ripe theMethod args0 below0 = true := by decide +kernel
theorem w_running : about1.status = .running := rfl
set_option maxRecDepth 65536 in
theorem w_room : about1.hasRoom e0.platform room_1 = true :=
  launch0.hasRoom_least _ room_1 (by decide +kernel) (by decide +kernel) (by decide +kernel) (by decide +kernel) (by decide +kernel) (by decide +kernel)
theorem allAtoms_all (ts : List Jvm.Cond) (a : Array Jvm.Value) (st : Jvm.State) : (allAtoms ts).before a st = ts.all (fun c => c.before a st) := by
  induction ts with
  | nil => rfl
  | cons c t ih =>
    show (Jvm.Cond.and c (allAtoms t)).before a st = _
    rw [Jvm.Cond.before_and, ih, List.all_cons]
def words1 : List Jvm.Cond := Jvm.Cond.code x code maxLocals ret :: tables_1
/-- a 'code' word, met by the world's own term for the bytes: nothing is compared byte by byte -/
theorem code_word {y : MethodName} {bytes : ByteArray} {mx : Nat} {rt : Option FieldType} {a : Array Value} {s : State} {m : MethodId} {meth : Method} {c : Code} (h1 : s.methodNamed? y = some m) (h2 : s.vm.method? m = some meth) (h3 : meth.code = some c) (h4 : c.code = bytes)
    (h5 : (c.maxLocals == mx && c.exceptionTable.isEmpty && decide (c.maxStack ≤ mostOperands) && decide (meth.sig.returnType = rt) && !meth.locks && decide (parseMethodDescriptor y.desc = some meth.sig)) = true) : (Jvm.Cond.code y bytes mx rt).before a s = true := by
  simp only [Bool.and_eq_true, beq_iff_eq, Bool.not_eq_true', decide_eq_true_eq] at h5
  obtain ⟨⟨⟨⟨⟨g1, g2⟩, g3⟩, g4⟩, g5⟩, g6⟩ := h5
  simp [Cond.before, Cond.holds, Cond.value, h1, h2, h3, h4, g1, g2, g3, g4, g5, g6]
def isCode : Jvm.Cond → Bool
  | .code _ _ _ _ => true
  | _ => false
theorem all_split {L : List Jvm.Cond} {P : Jvm.Cond → Bool} (h1 : L.all (fun c => isCode c || P c) = true) (h2 : ∀ c ∈ L.filter isCode, P c = true) : L.all P = true := by
  refine List.all_eq_true.mpr fun c hc => ?_
  have h := List.all_eq_true.mp h1 c hc
  rcases Bool.eq_false_or_eq_true (isCode c) with hi | hi
  · exact h2 c (List.mem_filter.mpr ⟨hc, hi⟩)
  · simpa [hi] using h
set_option maxRecDepth 65536 in
theorem w_c0 : (Jvm.Cond.code x code maxLocals ret).before args0 about1 = true := code_word (m := ⟨1, 1⟩) (meth := k1m1) (c := k1c1) (by decide +kernel) rfl rfl rfl (by decide +kernel)
set_option maxRecDepth 65536 in
theorem w_c1 : (Jvm.Cond.code ({ cls := "com/example/schie/schie/simulation/StartInstants", name := "<init>", desc := "()V" } : Jvm.MethodName) prog_72_method_1_code (1 : Nat) (Option.none : Option Jvm.ClassFile.FieldType)).before args0 about1 = true := code_word (m := ⟨2, 0⟩) (meth := k2m0) (c := k2c0) (by decide +kernel) rfl rfl rfl (by decide +kernel)
set_option maxRecDepth 65536 in
theorem w_c2 : (Jvm.Cond.code ({ cls := "java/lang/Object", name := "<init>", desc := "()V" } : Jvm.MethodName) object_method_1_code (1 : Nat) (Option.none : Option Jvm.ClassFile.FieldType)).before args0 about1 = true := code_word (m := ⟨0, 0⟩) (meth := k0m0) (c := k0c0) (by decide +kernel) rfl rfl rfl (by decide +kernel)
set_option maxRecDepth 65536 in
theorem w_c3 : (Jvm.Cond.code ({ cls := "com/example/schie/schie/simulation/StartInstants", name := "addLast", desc := "(D)V" } : Jvm.MethodName) prog_72_method_2_code (5 : Nat) (Option.none : Option Jvm.ClassFile.FieldType)).before args0 about1 = true := code_word (m := ⟨2, 1⟩) (meth := k2m1) (c := k2c1) (by decide +kernel) rfl rfl rfl (by decide +kernel)
set_option maxRecDepth 65536 in
theorem w_c4 : (Jvm.Cond.code ({ cls := "com/example/schie/schie/simulation/StartInstants", name := "removeFirst", desc := "()V" } : Jvm.MethodName) prog_72_method_5_code (1 : Nat) (Option.none : Option Jvm.ClassFile.FieldType)).before args0 about1 = true := code_word (m := ⟨2, 4⟩) (meth := k2m4) (c := k2c4) (by decide +kernel) rfl rfl rfl (by decide +kernel)
set_option maxRecDepth 65536 in
theorem w_c5 : (Jvm.Cond.code ({ cls := "com/example/schie/schie/simulation/StartInstants", name := "requireNoted", desc := "()V" } : Jvm.MethodName) prog_72_method_7_code (1 : Nat) (Option.none : Option Jvm.ClassFile.FieldType)).before args0 about1 = true := code_word (m := ⟨2, 5⟩) (meth := k2m5) (c := k2c5) (by decide +kernel) rfl rfl rfl (by decide +kernel)
set_option maxRecDepth 65536 in
theorem w_c6 : (Jvm.Cond.code ({ cls := "com/example/schie/schie/simulation/StartInstants", name := "first", desc := "()D" } : Jvm.MethodName) prog_72_method_4_code (1 : Nat) (Option.some Jvm.ClassFile.FieldType.double)).before args0 about1 = true := code_word (m := ⟨2, 3⟩) (meth := k2m3) (c := k2c3) (by decide +kernel) rfl rfl rfl (by decide +kernel)
set_option maxRecDepth 65536 in
theorem w_c7 : (Jvm.Cond.code ({ cls := "com/example/schie/schie/simulation/StartInstants", name := "isEmpty", desc := "()Z" } : Jvm.MethodName) prog_72_method_3_code (1 : Nat) (Option.some Jvm.ClassFile.FieldType.boolean)).before args0 about1 = true := code_word (m := ⟨2, 2⟩) (meth := k2m2) (c := k2c2) (by decide +kernel) rfl rfl rfl (by decide +kernel)
def codes1 : List Jvm.Cond := [Jvm.Cond.code x code maxLocals ret, Jvm.Cond.code ({ cls := "com/example/schie/schie/simulation/StartInstants", name := "<init>", desc := "()V" } : Jvm.MethodName) prog_72_method_1_code (1 : Nat) (Option.none : Option Jvm.ClassFile.FieldType), Jvm.Cond.code ({ cls := "java/lang/Object", name := "<init>", desc := "()V" } : Jvm.MethodName) object_method_1_code (1 : Nat) (Option.none : Option Jvm.ClassFile.FieldType), Jvm.Cond.code ({ cls := "com/example/schie/schie/simulation/StartInstants", name := "addLast", desc := "(D)V" } : Jvm.MethodName) prog_72_method_2_code (5 : Nat) (Option.none : Option Jvm.ClassFile.FieldType), Jvm.Cond.code ({ cls := "com/example/schie/schie/simulation/StartInstants", name := "removeFirst", desc := "()V" } : Jvm.MethodName) prog_72_method_5_code (1 : Nat) (Option.none : Option Jvm.ClassFile.FieldType), Jvm.Cond.code ({ cls := "com/example/schie/schie/simulation/StartInstants", name := "requireNoted", desc := "()V" } : Jvm.MethodName) prog_72_method_7_code (1 : Nat) (Option.none : Option Jvm.ClassFile.FieldType), Jvm.Cond.code ({ cls := "com/example/schie/schie/simulation/StartInstants", name := "first", desc := "()D" } : Jvm.MethodName) prog_72_method_4_code (1 : Nat) (Option.some Jvm.ClassFile.FieldType.double), Jvm.Cond.code ({ cls := "com/example/schie/schie/simulation/StartInstants", name := "isEmpty", desc := "()Z" } : Jvm.MethodName) prog_72_method_3_code (1 : Nat) (Option.some Jvm.ClassFile.FieldType.boolean)]
set_option maxRecDepth 65536 in
theorem codes_eq : words1.filter isCode = codes1 := rfl
theorem w_codes : ∀ c ∈ words1.filter isCode, c.before args0 about1 = true := by
  rw [codes_eq]
  intro c hc
  simp only [codes1, List.mem_cons, List.not_mem_nil, or_false] at hc
  rcases hc with rfl | rfl | rfl | rfl | rfl | rfl | rfl | rfl
  · exact w_c0
  · exact w_c1
  · exact w_c2
  · exact w_c3
  · exact w_c4
  · exact w_c5
  · exact w_c6
  · exact w_c7
set_option maxRecDepth 65536 in
theorem w_t1 : (words1.take 24).all (fun c => isCode c || c.before args0 about1) = true := by decide +kernel
set_option maxRecDepth 65536 in
theorem w_t2 : (words1.drop 24).all (fun c => isCode c || c.before args0 about1) = true := by decide +kernel
theorem w_tables : (allAtoms (Jvm.Cond.code x code maxLocals ret :: tables_1)).before args0 about1 = true := by
  rw [allAtoms_all]
  show words1.all (fun c => c.before args0 about1) = true
  refine all_split ?_ w_codes
  rw [← List.take_append_drop 24 words1, List.all_append, w_t1, w_t2]
  rfl
set_option maxRecDepth 65536 in
theorem w_case : (Jvm.Cond.and given_1 narrow_1).before args0 about1 = true := by decide +kernel
theorem w_applies : (headSpec (Jvm.Cond.code x code maxLocals ret :: tables_1) room_1).applies x e0.platform about1 = true :=
  (Spec.applies_iff w_frames).mpr ⟨w_running, w_runnable, w_alone, w_named, w_hears, w_ripe, w_room, w_tables⟩
theorem atStart : AtStart classFile x code maxLocals ret World_1 tables_1 room_1 Calls_1 rest_1 Pre_1 launch0 p0 e0 about1 theMethod args0 below0 :=
  ⟨lists_1, trivial, launch0.admits_env _ _ _, launch0.least_env, fairChoices_fair.cas, fairChoices_fair.clock, w_frames, w_args, w_heap, w_applies, trivial, trivial, w_case⟩
end start1
theorem witness_1 : WitnessClaimed_1 := ⟨start1.p0, start1.e0, start1.about1, start1.theMethod, start1.args0, start1.below0, start1.atStart⟩
end Jvm.Pilot.@@N@@
