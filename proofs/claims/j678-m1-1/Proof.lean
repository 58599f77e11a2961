import JvmDerived
import JvmDerived.Pilot.@@N@@Statement
import JvmDerived.Pilot.@@N@@Code
set_option linter.unusedVariables false
set_option linter.unusedSimpArgs false
@@BLOCK:NumsL.lean.txt@@
namespace Jvm.RoadKit
open Sem ClassFile Op Lib Jvm.Stand Jvm.Free Jvm.LawKit
section New
variable {p : Program} {l : Launch} {e : Env} {R : Room} {s : State} {m : MethodId} {args : Array Value} {below : List Frame} {meth : Method} {c : Code} {T : State} {locs : List Loc} {cells slots : Nat}
theorem retI (X : Stand p l e R s m args below meth c T locs cells slots) (hx : p.tables.exec = Jvm.exec) {pc : Nat} {Ls : Array Slot} {z : Int32} {rest : List Value} (hret : meth.sig.returnType = some .int) (hd : decode c.code pc = .ok (.ireturn, 1)) {fs : List Frame}
    (hl : ∀ (f : JFrame) (acts : List Action), f.method = m → f.locked = none → f.entered = [] → (doReturn e (T.setTop f) acts (some (.int z))).1 = T.setFrames fs) : Steps p.tables e below (T.setTop (mkF m pc Ls (.int z :: rest))) (T.setFrames fs) := by
  have hm' : T.vm.method? m = some meth := X.method'
  have hn : narrow .int (.int z) = .int z := rfl
  show Steps p.tables e below (T.setTop { method := m, pc := pc, locals := Ls, stack := _ :: rest, locked := none }) _
  jvm_step X.here [X.here.top, hx, hd, hm', hret, hn]
  first | (intro acts; rw [hl _ acts rfl rfl rfl]) | rw [hl _ _ rfl rfl rfl]
  exact Steps.refl _
end New
end Jvm.RoadKit
namespace Jvm.Pilot.@@N@@
open Jvm Jvm.ClassFile Sem Op Lib Jvm.Free Jvm.Stand Jvm.LawKit Jvm.RoadKit Bundle Jvm.Pilot.@@N@@.Jvm.D
theorem d1_0 : decode method_2_code 0 = .ok (.lload_n 0, 1) := by decide +kernel
theorem d1_1 : decode method_2_code 1 = .ok (.bipush 16, 2) := by decide +kernel
theorem d1_3 : decode method_2_code 3 = .ok (.iload_n 2, 1) := by decide +kernel
theorem d1_4 : decode method_2_code 4 = .ok (.imul, 1) := by decide +kernel
theorem d1_5 : decode method_2_code 5 = .ok (.lshr, 1) := by decide +kernel
theorem d1_6 : decode method_2_code 6 = .ok (.l2i, 1) := by decide +kernel
theorem d1_7 : decode method_2_code 7 = .ok (.i2s, 1) := by decide +kernel
theorem d1_8 : decode method_2_code 8 = .ok (.ireturn, 1) := by decide +kernel
theorem d2_0 : decode prog_32_method_2_code 0 = .ok (.iconst 0, 1) := by decide +kernel
theorem d2_1 : decode prog_32_method_2_code 1 = .ok (.istore_n 2, 1) := by decide +kernel
theorem d2_2 : decode prog_32_method_2_code 2 = .ok (.iconst 0, 1) := by decide +kernel
theorem d2_3 : decode prog_32_method_2_code 3 = .ok (.istore_n 3, 1) := by decide +kernel
theorem d2_4 : decode prog_32_method_2_code 4 = .ok (.iload_n 3, 1) := by decide +kernel
theorem d2_5 : decode prog_32_method_2_code 5 = .ok (.aload_n 0, 1) := by decide +kernel
theorem d2_6 : decode prog_32_method_2_code 6 = .ok (.arraylength, 1) := by decide +kernel
theorem d2_7 : decode prog_32_method_2_code 7 = .ok (.if_icmp .ge 39, 3) := by decide +kernel
theorem d2_10 : decode prog_32_method_2_code 10 = .ok (.aload_n 0, 1) := by decide +kernel
theorem d2_11 : decode prog_32_method_2_code 11 = .ok (.iload_n 3, 1) := by decide +kernel
theorem d2_12 : decode prog_32_method_2_code 12 = .ok (.daload, 1) := by decide +kernel
theorem d2_13 : decode prog_32_method_2_code 13 = .ok (.aload_n 1, 1) := by decide +kernel
theorem d2_14 : decode prog_32_method_2_code 14 = .ok (.iload_n 3, 1) := by decide +kernel
theorem d2_15 : decode prog_32_method_2_code 15 = .ok (.daload, 1) := by decide +kernel
theorem d2_16 : decode prog_32_method_2_code 16 = .ok (.dcmp .l, 1) := by decide +kernel
theorem d2_17 : decode prog_32_method_2_code 17 = .ok (.ifCond .le 5, 3) := by decide +kernel
theorem d2_20 : decode prog_32_method_2_code 20 = .ok (.iconst 0, 1) := by decide +kernel
theorem d2_21 : decode prog_32_method_2_code 21 = .ok (.ireturn, 1) := by decide +kernel
theorem d2_22 : decode prog_32_method_2_code 22 = .ok (.iload_n 2, 1) := by decide +kernel
theorem d2_23 : decode prog_32_method_2_code 23 = .ok (.aload_n 0, 1) := by decide +kernel
theorem d2_24 : decode prog_32_method_2_code 24 = .ok (.iload_n 3, 1) := by decide +kernel
theorem d2_25 : decode prog_32_method_2_code 25 = .ok (.daload, 1) := by decide +kernel
theorem d2_26 : decode prog_32_method_2_code 26 = .ok (.aload_n 1, 1) := by decide +kernel
theorem d2_27 : decode prog_32_method_2_code 27 = .ok (.iload_n 3, 1) := by decide +kernel
theorem d2_28 : decode prog_32_method_2_code 28 = .ok (.daload, 1) := by decide +kernel
theorem d2_29 : decode prog_32_method_2_code 29 = .ok (.dcmp .g, 1) := by decide +kernel
theorem d2_30 : decode prog_32_method_2_code 30 = .ok (.ifCond .ge 7, 3) := by decide +kernel
theorem d2_33 : decode prog_32_method_2_code 33 = .ok (.iconst 1, 1) := by decide +kernel
theorem d2_34 : decode prog_32_method_2_code 34 = .ok (.goto 4, 3) := by decide +kernel
theorem d2_37 : decode prog_32_method_2_code 37 = .ok (.iconst 0, 1) := by decide +kernel
theorem d2_38 : decode prog_32_method_2_code 38 = .ok (.ior, 1) := by decide +kernel
theorem d2_39 : decode prog_32_method_2_code 39 = .ok (.istore_n 2, 1) := by decide +kernel
theorem d2_40 : decode prog_32_method_2_code 40 = .ok (.iinc 3 1, 3) := by decide +kernel
theorem d2_43 : decode prog_32_method_2_code 43 = .ok (.goto (-39), 3) := by decide +kernel
theorem d2_46 : decode prog_32_method_2_code 46 = .ok (.iload_n 2, 1) := by decide +kernel
theorem d2_47 : decode prog_32_method_2_code 47 = .ok (.ireturn, 1) := by decide +kernel
theorem pnL : plainName "com/example/gridfront/gridfront/selection/ParetoDominatesPinLaw" = true := by first | (simp [plainName, overriddenIn]; done) | decide +kernel
theorem pnP : plainName "com/example/gridfront/gridfront/selection/Pareto" = true := by first | (simp [plainName, overriddenIn]; done) | decide +kernel
theorem pdC : parseMethodDescriptor "(JI)I" = some ⟨[.long, .int], some .int⟩ := by decide +kernel
theorem pdD : parseMethodDescriptor "([D[D)Z" = some ⟨[.array .double, .array .double], some .boolean⟩ := by decide +kernel
theorem ef0 (m : MethodId) (p0 p1 : Int64) (p2 : Int32) : entryFrame m #[(.long p0), (.long p1), (.int p2)] maxLocals = mkF m 0 #[.val (.long p0), .second, .val (.long p1), .second, .val (.int p2), .unset, .unset, .unset, .unset, .unset, .unset, .unset, .unset, .unset, .unset, .unset, .unset, .unset, .unset] [] := by first | (simp [entryFrame, mkF, argsToLocals, Value.category, maxLocals]; done) | rfl
theorem ef1 (m : MethodId) (v : Int64) (k : Int32) : entryFrame m #[(.long v), (.int k)] 3 = mkF m 0 #[.val (.long v), .second, .val (.int k)] [] := by first | (simp [entryFrame, mkF, argsToLocals, Value.category]; done) | rfl
theorem ef2 (m : MethodId) (a b : Addr) : entryFrame m #[(.ref a), (.ref b)] 4 = mkF m 0 #[.val (.ref a), .val (.ref b), .unset, .unset] [] := by first | (simp [entryFrame, mkF, argsToLocals, Value.category]; done) | rfl
def QS (h0 : Heap) (w : Option Value) (n0 : Nat) (v : Option Value) (h : Heap) (L : List Loc) : Prop := v = w ∧ Fr n0 L ∧ h = h0
def own_comp (v : Int64) (k : Int32) : Int32 := (((v >>> (((16 : Int32) * k) &&& 0x3f).toInt64).toInt32).toInt16.toInt32)
/-! the plain law -/
def own_le (le a b : Int32) : Int32 := if le = 0 then 0 else if b < a then 0 else 1
def own_lt (lt a b : Int32) : Int32 := if ¬ lt = 0 then 1 else if a < b then 1 else 0
def own_fle : List (Int32 × Int32) → Int32 → Int32
  | [], le => le
  | q :: r, le => own_fle r (own_le le q.1 q.2)
def own_flt : List (Int32 × Int32) → Int32 → Int32
  | [], lt => lt
  | q :: r, lt => own_flt r (own_lt lt q.1 q.2)
def own_exp (le lt : Int32) : Int32 := if le = 0 then 0 else if lt = 0 then 0 else 1
def own_dom : List (Int32 × Int32) → Int32 → Int32
  | [], bt => bt
  | q :: r, bt => if q.2 < q.1 then 0 else own_dom r (bt ||| (if q.1 < q.2 then 1 else 0))
theorem own_fle0 : ∀ r : List (Int32 × Int32), own_fle r 0 = 0
  | [] => rfl
  | q :: r => by
    show own_fle r (own_le 0 q.1 q.2) = 0
    rw [show own_le 0 q.1 q.2 = 0 from by simp [own_le]]; exact own_fle0 r
theorem own_law : ∀ (r : List (Int32 × Int32)) (bt : Int32), bt = 0 ∨ bt = 1 → own_dom r bt = own_exp (own_fle r 1) (own_flt r bt)
  | [], bt, hb => by rcases hb with rfl | rfl <;> decide
  | q :: r, bt, hb => by
    show (if q.2 < q.1 then 0 else own_dom r (bt ||| (if q.1 < q.2 then 1 else 0))) = own_exp (own_fle r (own_le 1 q.1 q.2)) (own_flt r (own_lt bt q.1 q.2))
    by_cases h1 : q.2 < q.1
    · rw [if_pos h1, show own_le 1 q.1 q.2 = 0 from by simp [own_le, h1], own_fle0]; simp [own_exp]
    · rw [if_neg h1, show own_le 1 q.1 q.2 = 1 from by simp [own_le, h1]]
      have e : (bt ||| (if q.1 < q.2 then 1 else 0)) = own_lt bt q.1 q.2 := by
        by_cases h2 : q.1 < q.2
        · simp only [own_lt, h2, if_true]; rcases hb with rfl | rfl <;> decide
        · simp only [own_lt, h2, if_false]; rcases hb with rfl | rfl <;> decide
      have h3 : own_lt bt q.1 q.2 = 0 ∨ own_lt bt q.1 q.2 = 1 := by
        unfold own_lt; split
        · exact Or.inr rfl
        · split
          · exact Or.inr rfl
          · exact Or.inl rfl
      rw [e]; exact own_law r _ h3
theorem own_cmp (a b : Int32) (op : CmpOp) : (a < b → cmpValue (FP.dcmp (FP.i2d a) (FP.i2d b)) op = -1) ∧ (a = b → cmpValue (FP.dcmp (FP.i2d a) (FP.i2d b)) op = 0) ∧ (b < a → cmpValue (FP.dcmp (FP.i2d a) (FP.i2d b)) op = 1) := by
  have e : FP.dcmp (FP.i2d a) (FP.i2d b) = some (compare a.toInt b.toInt) := FP.Core.dcmp_int (FP.Core.i2d_int a) (FP.Core.i2d_int b)
  rw [e]
  refine ⟨fun h => ?_, fun h => ?_, fun h => ?_⟩
  · rw [(FP.Core.compare_lt_iff ..).mpr (Int32.lt_iff_toInt_lt.mp h)]; rfl
  · rw [(FP.Core.compare_eq_iff ..).mpr (by rw [h])]; rfl
  · rw [(FP.Core.compare_gt_iff ..).mpr (Int32.lt_iff_toInt_lt.mp h)]; rfl
set_option maxRecDepth 65536 in
set_option maxHeartbeats 40000000 in
theorem rmC (l : Launch) (Z : State) (a0 : Array Value) (hw : ∀ d ∈ tables_1, d.before a0 Z = true) (ws : List Jvm.Cond) (v : Int64) (k : Int32) (h0 : Heap) (n0 : Nat) (Z0 : n0 ≤ h0.size)  :
    MetFree l (⟨"com/example/gridfront/gridfront/selection/ParetoDominatesPinLaw", "comp", "(JI)I"⟩ : MethodName) (head1 (Jvm.Cond.code (⟨"com/example/gridfront/gridfront/selection/ParetoDominatesPinLaw", "comp", "(JI)I"⟩ : MethodName) method_2_code 3 (some .int) :: ws) ({ frames := 0, cells := 0, slots := 0, locals := 0 } : Room)) (fun aa U => aa = #[(.long v), (.int k)] ∧ Z.Warmed39 U.vm ∧ U.heap = h0) (fun _ _ _ _ _ => True) (fun _ U o U' => ∃ rv RL, o = .returned rv ∧ QS h0 (some (.int (own_comp v k))) n0 rv U'.heap RL ∧ FrameEnd U o U' RL ({ frames := 0, cells := 0, slots := 0, locals := 0 } : Room).cells ({ frames := 0, cells := 0, slots := 0, locals := 0 } : Room).slots) := by
  refine MetFree.of_bodySF (plainFor_of_name pnL) hisR ?_
  intro p e s m args below meth c s₁ Bd hml0 hP hK
  obtain ⟨rfl, hZ, hh⟩ := hP
  have hx := Bd.exec
  have hby := Bd.bytes
  have hml : c.maxLocals = 3 := hml0
  have hown : s.vm.findClass "com/example/gridfront/gridfront/selection/ParetoDominatesPinLaw" = some m.cls := findClass_of_methodNamed Bd.named
  have hnm := (name_of_methodNamed Bd.named Bd.method).1
  have X0 : Stand p l e ({ frames := 0, cells := 0, slots := 0, locals := 0 } : Room) s m #[(.long v), (.int k)] below meth c s₁ [] 0 0 := Stand.of_body Bd
  have e0 : s₁.heap = h0 := by rw [← hh, Bd.state]; rfl
  have N0 := Fr.nil n0
  have pre0 : ∀ t, Steps p.tables e below (s₁.setTop (mkF m 0 #[.val (.long v), .second, .val (.int k)] [])) t → Steps p.tables e below (s₁.setTop (entryFrame m #[(.long v), (.int k)] 3)) t := fun t kk => castTop (ef1 m v k) kk
  obtain ⟨fs, hr, hrun, hended, hW, hsame⟩ := X0.leave (v := some (.int (own_comp v k))) (fun h => by rw [Bd.returns] at h; cases h)
  refine ⟨_, _, pre0 _ ?_, hrun, hended, _, _, rfl, ?_, ⟨_, rfl⟩, hW, hsame.mono (by decide) (by decide)⟩
  · skip
    show Steps p.tables e below (s₁.setTop (mkF m 0 #[.val (.long v), .second, .val (.int k)] [])) _
    refine XS.lloadN X0.here hx rfl (hb hby d1_0) rfl ?_
    show Steps p.tables e below (s₁.setTop (mkF m 1 #[.val (.long v), .second, .val (.int k)] [(.long v)])) _
    refine XS.bipush X0.here hx rfl (hb hby d1_1) ?_
    show Steps p.tables e below (s₁.setTop (mkF m 3 #[.val (.long v), .second, .val (.int k)] [(.int (16 : Int32)), (.long v)])) _
    refine XS.iloadN X0.here hx rfl (hb hby d1_3) rfl ?_
    show Steps p.tables e below (s₁.setTop (mkF m 4 #[.val (.long v), .second, .val (.int k)] [(.int k), (.int (16 : Int32)), (.long v)])) _
    refine XS.imul X0.here hx rfl (hb hby d1_4) rfl ?_
    show Steps p.tables e below (s₁.setTop (mkF m 5 #[.val (.long v), .second, .val (.int k)] [(.int ((16 : Int32) * k)), (.long v)])) _
    refine XS.lshr X0.here hx rfl (hb hby d1_5) rfl ?_
    show Steps p.tables e below (s₁.setTop (mkF m 6 #[.val (.long v), .second, .val (.int k)] [(.long (v >>> (((16 : Int32) * k) &&& 0x3f).toInt64))])) _
    refine XS.l2i X0.here hx rfl (hb hby d1_6) rfl ?_
    show Steps p.tables e below (s₁.setTop (mkF m 7 #[.val (.long v), .second, .val (.int k)] [(.int ((v >>> (((16 : Int32) * k) &&& 0x3f).toInt64).toInt32))])) _
    refine XS.i2s X0.here hx rfl (hb hby d1_7) rfl ?_
    show Steps p.tables e below (s₁.setTop (mkF m 8 #[.val (.long v), .second, .val (.int k)] [(.int (own_comp v k))])) _
    exact retI X0 hx Bd.returns (hb hby d1_8) hr
  · show QS h0 _ n0 _ s₁.heap _
    rw [e0]
    exact ⟨rfl, N0, rfl⟩
abbrev own_xs (L : List (Int32 × Int32)) : List Value := L.map fun q => .double (FP.i2d q.1)
abbrev own_ys (L : List (Int32 × Int32)) : List Value := L.map fun q => .double (FP.i2d q.2)
set_option maxRecDepth 65536 in
set_option maxHeartbeats 40000000 in
theorem own_loop {p : Program} {l : Launch} {e : Env} {R : Room} {s Z : State} {m : MethodId} {args : Array Value} {below : List Frame} {meth : Method} {c : Code} {T : State} {locs : List Loc} {cells slots : Nat} {h0 : Heap}
    (X0 : Stand p l e R s m args below meth c T locs cells slots) (hx : p.tables.exec = Jvm.exec) (hby : c.code = prog_32_method_2_code) (hZ : Z.Warmed39 s.vm) (e0 : T.heap = h0) (hret : meth.sig.returnType = some .boolean)
    {a b : Addr} {ca cb : Cell} {n : Int32} (Ar : Arr Z h0 a ca .double) (Br : Arr Z h0 b cb .double) (Sa : ca.slots.size = n.toNatClampNeg) (Sb : cb.slots.size = n.toNatClampNeg) (Nz : ¬ n < 0)
    {W : Int32} {fs : List Frame} (hr : ∀ (f : JFrame) (acts : List Action), f.method = m → f.locked = none → f.entered = [] → (doReturn e (T.setTop f) acts (some (.int W))).1 = T.setFrames fs) :
    ∀ (r : List (Int32 × Int32)) (k bt : Int32), (bt = 0 ∨ bt = 1) → ¬ k < 0 → k.toNatClampNeg + r.length = n.toNatClampNeg → (∀ i (hi : i < r.length), ca.slots[k.toNatClampNeg + i]? = some (.double (FP.i2d r[i].1)) ∧ cb.slots[k.toNatClampNeg + i]? = some (.double (FP.i2d r[i].2))) → own_dom r bt = W →
      Steps p.tables e below (T.setTop (mkF m 4 #[.val (.ref a), .val (.ref b), .val (.int bt), .val (.int k)] [])) (T.setFrames fs) := by
  intro r
  induction r with
  | nil =>
    intro k bt hbt hk hlen _ hW
    have hkn : ¬ k < n := fun q => by
      have q1 := Int32.lt_iff_toInt_lt.mp q
      have q2 : k.toNatClampNeg = k.toInt.toNat := rfl
      have q3 : n.toNatClampNeg = n.toInt.toNat := rfl
      have q4 : 0 ≤ k.toInt := by have := mt Int32.lt_iff_toInt_lt.mpr hk; simpa using this
      simp only [List.length_nil] at hlen
      omega
    have hW' : bt = W := hW
    subst hW'
    show Steps p.tables e below (T.setTop (mkF m 4 #[.val (.ref a), .val (.ref b), .val (.int bt), .val (.int k)] [])) _
    refine XS.iloadN X0.here hx rfl (hb hby d2_4) rfl ?_
    show Steps p.tables e below (T.setTop (mkF m 5 #[.val (.ref a), .val (.ref b), .val (.int bt), .val (.int k)] [(.int k)])) _
    refine XS.aloadN X0.here hx rfl (hb hby d2_5) rfl rfl ?_
    show Steps p.tables e below (T.setTop (mkF m 6 #[.val (.ref a), .val (.ref b), .val (.int bt), .val (.int k)] [(.ref a), (.int k)])) _
    refine X0.arraylength hx (by rw [e0]; exact Ar.1) (State.isArrayOf_alike hZ.alike Ar.2.1) (g := (mkF m 6 #[.val (.ref a), .val (.ref b), .val (.int bt), .val (.int k)] [(.ref a), (.int k)])) rfl rfl (hb hby d2_6) _ ?_
    rw [len_of Sa Nz]
    show Steps p.tables e below (T.setTop (mkF m 7 #[.val (.ref a), .val (.ref b), .val (.int bt), .val (.int k)] [(.int n), (.int k)])) _
    refine XS.icmpYes X0.here hx rfl (pc0 := 7) (pc' := 46) rfl (hb hby d2_7) rfl (flt hkn).2.1 (by decide) (by decide) ?_
    show Steps p.tables e below (T.setTop (mkF m 46 #[.val (.ref a), .val (.ref b), .val (.int bt), .val (.int k)] [])) _
    refine XS.iloadN X0.here hx rfl (hb hby d2_46) rfl ?_
    show Steps p.tables e below (T.setTop (mkF m 47 #[.val (.ref a), .val (.ref b), .val (.int bt), .val (.int k)] [(.int bt)])) _
    rcases hbt with rfl | rfl
    · exact retN X0 hx (t := .boolean) hret (by simp) (hb hby d2_47) hr
    · exact retN X0 hx (t := .boolean) hret (by simp) (hb hby d2_47) hr
  | cons q r ih =>
    intro k bt hbt hk hlen hat hW
    have q2 : k.toNatClampNeg = k.toInt.toNat := rfl
    have q3 : n.toNatClampNeg = n.toInt.toNat := rfl
    have q4 : 0 ≤ k.toInt := by have := mt Int32.lt_iff_toInt_lt.mpr hk; simpa using this
    have q5 := n.toInt_lt
    simp only [List.length_cons] at hlen
    have hkn : k < n := Int32.lt_iff_toInt_lt.mpr (by omega)
    have hk1 : (k + (1 : Int32)).toInt = k.toInt + 1 := by
      have e1 : (1 : Int32).toInt = 1 := by decide
      rw [Jvm.Kit.i32_add (by omega) (by omega), e1]
    have q6 : (k + (1 : Int32)).toNatClampNeg = k.toNatClampNeg + 1 := by
      have : (k + (1 : Int32)).toNatClampNeg = (k + (1 : Int32)).toInt.toNat := rfl
      rw [this, hk1]; omega
    have hk1n : ¬ (k + (1 : Int32)) < 0 := fun z => by
      have := Int32.lt_iff_toInt_lt.mp z
      rw [hk1] at this
      have e0' : (0 : Int32).toInt = 0 := by decide
      omega
    have h0' := hat 0 (by simp)
    have hA : ca.slots[k.toNatClampNeg]? = some (.double (FP.i2d q.1)) := h0'.1
    have hB : cb.slots[k.toNatClampNeg]? = some (.double (FP.i2d q.2)) := h0'.2
    have hina := inb_of Sa ⟨hk, hkn⟩
    have hinb := inb_of Sb ⟨hk, hkn⟩
    have hat' : ∀ i (hi : i < r.length), ca.slots[(k + (1 : Int32)).toNatClampNeg + i]? = some (.double (FP.i2d r[i].1)) ∧ cb.slots[(k + (1 : Int32)).toNatClampNeg + i]? = some (.double (FP.i2d r[i].2)) := fun i hi => by
      have z := hat (i + 1) (by simp; omega)
      rw [q6, show k.toNatClampNeg + 1 + i = k.toNatClampNeg + (i + 1) from by omega]
      exact z
    have hlen' : (k + (1 : Int32)).toNatClampNeg + r.length = n.toNatClampNeg := by rw [q6]; omega
    have hc := own_cmp q.1 q.2 .l
    have hc' := own_cmp q.1 q.2 .g
    by_cases hgt : q.2 < q.1
    · have hW' : (0 : Int32) = W := by rw [← hW]; show _ = (if q.2 < q.1 then 0 else _); rw [if_pos hgt]
      subst hW'
      show Steps p.tables e below (T.setTop (mkF m 4 #[.val (.ref a), .val (.ref b), .val (.int bt), .val (.int k)] [])) _
      refine XS.iloadN X0.here hx rfl (hb hby d2_4) rfl ?_
      show Steps p.tables e below (T.setTop (mkF m 5 #[.val (.ref a), .val (.ref b), .val (.int bt), .val (.int k)] [(.int k)])) _
      refine XS.aloadN X0.here hx rfl (hb hby d2_5) rfl rfl ?_
      show Steps p.tables e below (T.setTop (mkF m 6 #[.val (.ref a), .val (.ref b), .val (.int bt), .val (.int k)] [(.ref a), (.int k)])) _
      refine X0.arraylength hx (by rw [e0]; exact Ar.1) (State.isArrayOf_alike hZ.alike Ar.2.1) (g := (mkF m 6 #[.val (.ref a), .val (.ref b), .val (.int bt), .val (.int k)] [(.ref a), (.int k)])) rfl rfl (hb hby d2_6) _ ?_
      rw [len_of Sa Nz]
      show Steps p.tables e below (T.setTop (mkF m 7 #[.val (.ref a), .val (.ref b), .val (.int bt), .val (.int k)] [(.int n), (.int k)])) _
      refine XS.icmpNo X0.here hx rfl (hb hby d2_7) rfl (tlt hkn).2.1 ?_
      show Steps p.tables e below (T.setTop (mkF m 10 #[.val (.ref a), .val (.ref b), .val (.int bt), .val (.int k)] [])) _
      refine XS.aloadN X0.here hx rfl (hb hby d2_10) rfl rfl ?_
      show Steps p.tables e below (T.setTop (mkF m 11 #[.val (.ref a), .val (.ref b), .val (.int bt), .val (.int k)] [(.ref a)])) _
      refine XS.iloadN X0.here hx rfl (hb hby d2_11) rfl ?_
      show Steps p.tables e below (T.setTop (mkF m 12 #[.val (.ref a), .val (.ref b), .val (.int bt), .val (.int k)] [(.int k), (.ref a)])) _
      refine X0.daload hx (j := k) (v := (.double (FP.i2d q.1))) (by rw [e0]; exact Ar.1) (State.isArrayOf_alike hZ.alike Ar.2.1) Ar.2.2 hina hA (g := (mkF m 12 #[.val (.ref a), .val (.ref b), .val (.int bt), .val (.int k)] [(.int k), (.ref a)])) rfl rfl (hb hby d2_12) _ ?_
      show Steps p.tables e below (T.setTop (mkF m 13 #[.val (.ref a), .val (.ref b), .val (.int bt), .val (.int k)] [(.double (FP.i2d q.1))])) _
      refine XS.aloadN X0.here hx rfl (hb hby d2_13) rfl rfl ?_
      show Steps p.tables e below (T.setTop (mkF m 14 #[.val (.ref a), .val (.ref b), .val (.int bt), .val (.int k)] [(.ref b), (.double (FP.i2d q.1))])) _
      refine XS.iloadN X0.here hx rfl (hb hby d2_14) rfl ?_
      show Steps p.tables e below (T.setTop (mkF m 15 #[.val (.ref a), .val (.ref b), .val (.int bt), .val (.int k)] [(.int k), (.ref b), (.double (FP.i2d q.1))])) _
      refine X0.daload hx (j := k) (v := (.double (FP.i2d q.2))) (by rw [e0]; exact Br.1) (State.isArrayOf_alike hZ.alike Br.2.1) Br.2.2 hinb hB (g := (mkF m 15 #[.val (.ref a), .val (.ref b), .val (.int bt), .val (.int k)] [(.int k), (.ref b), (.double (FP.i2d q.1))])) rfl rfl (hb hby d2_15) _ ?_
      show Steps p.tables e below (T.setTop (mkF m 16 #[.val (.ref a), .val (.ref b), .val (.int bt), .val (.int k)] [(.double (FP.i2d q.2)), (.double (FP.i2d q.1))])) _
      refine XS.dcmpS X0.here hx rfl (x := (FP.i2d q.1)) (y := (FP.i2d q.2)) (v := (1 : Int32)) (hb hby d2_16) rfl (hc.2.2 hgt) ?_
      show Steps p.tables e below (T.setTop (mkF m 17 #[.val (.ref a), .val (.ref b), .val (.int bt), .val (.int k)] [(.int (1 : Int32))])) _
      refine XS.ifNo X0.here hx rfl (hb hby d2_17) rfl (by decide) ?_
      show Steps p.tables e below (T.setTop (mkF m 20 #[.val (.ref a), .val (.ref b), .val (.int bt), .val (.int k)] [])) _
      refine XS.iconst X0.here hx rfl (hb hby d2_20) ?_
      show Steps p.tables e below (T.setTop (mkF m 21 #[.val (.ref a), .val (.ref b), .val (.int bt), .val (.int k)] [(.int (0 : Int32))])) _
      exact retN X0 hx (t := .boolean) hret (by simp) (hb hby d2_21) hr
    · by_cases hlt : q.1 < q.2
      · skip
        have hW' : own_dom r (bt ||| (1 : Int32)) = W := by rw [← hW]; show _ = (if q.2 < q.1 then 0 else own_dom r (bt ||| (if q.1 < q.2 then 1 else 0))); rw [if_neg hgt, if_pos hlt]
        show Steps p.tables e below (T.setTop (mkF m 4 #[.val (.ref a), .val (.ref b), .val (.int bt), .val (.int k)] [])) _
        refine XS.iloadN X0.here hx rfl (hb hby d2_4) rfl ?_
        show Steps p.tables e below (T.setTop (mkF m 5 #[.val (.ref a), .val (.ref b), .val (.int bt), .val (.int k)] [(.int k)])) _
        refine XS.aloadN X0.here hx rfl (hb hby d2_5) rfl rfl ?_
        show Steps p.tables e below (T.setTop (mkF m 6 #[.val (.ref a), .val (.ref b), .val (.int bt), .val (.int k)] [(.ref a), (.int k)])) _
        refine X0.arraylength hx (by rw [e0]; exact Ar.1) (State.isArrayOf_alike hZ.alike Ar.2.1) (g := (mkF m 6 #[.val (.ref a), .val (.ref b), .val (.int bt), .val (.int k)] [(.ref a), (.int k)])) rfl rfl (hb hby d2_6) _ ?_
        rw [len_of Sa Nz]
        show Steps p.tables e below (T.setTop (mkF m 7 #[.val (.ref a), .val (.ref b), .val (.int bt), .val (.int k)] [(.int n), (.int k)])) _
        refine XS.icmpNo X0.here hx rfl (hb hby d2_7) rfl (tlt hkn).2.1 ?_
        show Steps p.tables e below (T.setTop (mkF m 10 #[.val (.ref a), .val (.ref b), .val (.int bt), .val (.int k)] [])) _
        refine XS.aloadN X0.here hx rfl (hb hby d2_10) rfl rfl ?_
        show Steps p.tables e below (T.setTop (mkF m 11 #[.val (.ref a), .val (.ref b), .val (.int bt), .val (.int k)] [(.ref a)])) _
        refine XS.iloadN X0.here hx rfl (hb hby d2_11) rfl ?_
        show Steps p.tables e below (T.setTop (mkF m 12 #[.val (.ref a), .val (.ref b), .val (.int bt), .val (.int k)] [(.int k), (.ref a)])) _
        refine X0.daload hx (j := k) (v := (.double (FP.i2d q.1))) (by rw [e0]; exact Ar.1) (State.isArrayOf_alike hZ.alike Ar.2.1) Ar.2.2 hina hA (g := (mkF m 12 #[.val (.ref a), .val (.ref b), .val (.int bt), .val (.int k)] [(.int k), (.ref a)])) rfl rfl (hb hby d2_12) _ ?_
        show Steps p.tables e below (T.setTop (mkF m 13 #[.val (.ref a), .val (.ref b), .val (.int bt), .val (.int k)] [(.double (FP.i2d q.1))])) _
        refine XS.aloadN X0.here hx rfl (hb hby d2_13) rfl rfl ?_
        show Steps p.tables e below (T.setTop (mkF m 14 #[.val (.ref a), .val (.ref b), .val (.int bt), .val (.int k)] [(.ref b), (.double (FP.i2d q.1))])) _
        refine XS.iloadN X0.here hx rfl (hb hby d2_14) rfl ?_
        show Steps p.tables e below (T.setTop (mkF m 15 #[.val (.ref a), .val (.ref b), .val (.int bt), .val (.int k)] [(.int k), (.ref b), (.double (FP.i2d q.1))])) _
        refine X0.daload hx (j := k) (v := (.double (FP.i2d q.2))) (by rw [e0]; exact Br.1) (State.isArrayOf_alike hZ.alike Br.2.1) Br.2.2 hinb hB (g := (mkF m 15 #[.val (.ref a), .val (.ref b), .val (.int bt), .val (.int k)] [(.int k), (.ref b), (.double (FP.i2d q.1))])) rfl rfl (hb hby d2_15) _ ?_
        show Steps p.tables e below (T.setTop (mkF m 16 #[.val (.ref a), .val (.ref b), .val (.int bt), .val (.int k)] [(.double (FP.i2d q.2)), (.double (FP.i2d q.1))])) _
        refine XS.dcmpS X0.here hx rfl (x := (FP.i2d q.1)) (y := (FP.i2d q.2)) (v := (-1 : Int32)) (hb hby d2_16) rfl (hc.1 hlt) ?_
        show Steps p.tables e below (T.setTop (mkF m 17 #[.val (.ref a), .val (.ref b), .val (.int bt), .val (.int k)] [(.int (-1 : Int32))])) _
        refine XS.ifYes X0.here hx rfl (pc0 := 17) (pc' := 22) rfl (hb hby d2_17) rfl (by decide) (by decide) (by decide) ?_
        show Steps p.tables e below (T.setTop (mkF m 22 #[.val (.ref a), .val (.ref b), .val (.int bt), .val (.int k)] [])) _
        refine XS.iloadN X0.here hx rfl (hb hby d2_22) rfl ?_
        show Steps p.tables e below (T.setTop (mkF m 23 #[.val (.ref a), .val (.ref b), .val (.int bt), .val (.int k)] [(.int bt)])) _
        refine XS.aloadN X0.here hx rfl (hb hby d2_23) rfl rfl ?_
        show Steps p.tables e below (T.setTop (mkF m 24 #[.val (.ref a), .val (.ref b), .val (.int bt), .val (.int k)] [(.ref a), (.int bt)])) _
        refine XS.iloadN X0.here hx rfl (hb hby d2_24) rfl ?_
        show Steps p.tables e below (T.setTop (mkF m 25 #[.val (.ref a), .val (.ref b), .val (.int bt), .val (.int k)] [(.int k), (.ref a), (.int bt)])) _
        refine X0.daload hx (j := k) (v := (.double (FP.i2d q.1))) (by rw [e0]; exact Ar.1) (State.isArrayOf_alike hZ.alike Ar.2.1) Ar.2.2 hina hA (g := (mkF m 25 #[.val (.ref a), .val (.ref b), .val (.int bt), .val (.int k)] [(.int k), (.ref a), (.int bt)])) rfl rfl (hb hby d2_25) _ ?_
        show Steps p.tables e below (T.setTop (mkF m 26 #[.val (.ref a), .val (.ref b), .val (.int bt), .val (.int k)] [(.double (FP.i2d q.1)), (.int bt)])) _
        refine XS.aloadN X0.here hx rfl (hb hby d2_26) rfl rfl ?_
        show Steps p.tables e below (T.setTop (mkF m 27 #[.val (.ref a), .val (.ref b), .val (.int bt), .val (.int k)] [(.ref b), (.double (FP.i2d q.1)), (.int bt)])) _
        refine XS.iloadN X0.here hx rfl (hb hby d2_27) rfl ?_
        show Steps p.tables e below (T.setTop (mkF m 28 #[.val (.ref a), .val (.ref b), .val (.int bt), .val (.int k)] [(.int k), (.ref b), (.double (FP.i2d q.1)), (.int bt)])) _
        refine X0.daload hx (j := k) (v := (.double (FP.i2d q.2))) (by rw [e0]; exact Br.1) (State.isArrayOf_alike hZ.alike Br.2.1) Br.2.2 hinb hB (g := (mkF m 28 #[.val (.ref a), .val (.ref b), .val (.int bt), .val (.int k)] [(.int k), (.ref b), (.double (FP.i2d q.1)), (.int bt)])) rfl rfl (hb hby d2_28) _ ?_
        show Steps p.tables e below (T.setTop (mkF m 29 #[.val (.ref a), .val (.ref b), .val (.int bt), .val (.int k)] [(.double (FP.i2d q.2)), (.double (FP.i2d q.1)), (.int bt)])) _
        refine XS.dcmpS X0.here hx rfl (x := (FP.i2d q.1)) (y := (FP.i2d q.2)) (v := (-1 : Int32)) (hb hby d2_29) rfl (hc'.1 hlt) ?_
        show Steps p.tables e below (T.setTop (mkF m 30 #[.val (.ref a), .val (.ref b), .val (.int bt), .val (.int k)] [(.int (-1 : Int32)), (.int bt)])) _
        refine XS.ifNo X0.here hx rfl (hb hby d2_30) rfl (by decide) ?_
        show Steps p.tables e below (T.setTop (mkF m 33 #[.val (.ref a), .val (.ref b), .val (.int bt), .val (.int k)] [(.int bt)])) _
        refine XS.iconst X0.here hx rfl (hb hby d2_33) ?_
        show Steps p.tables e below (T.setTop (mkF m 34 #[.val (.ref a), .val (.ref b), .val (.int bt), .val (.int k)] [(.int (1 : Int32)), (.int bt)])) _
        refine XS.goto X0.here hx rfl (pc0 := 34) (pc' := 38) rfl (hb hby d2_34) (by decide) (by decide) ?_
        show Steps p.tables e below (T.setTop (mkF m 38 #[.val (.ref a), .val (.ref b), .val (.int bt), .val (.int k)] [(.int (1 : Int32)), (.int bt)])) _
        refine XS.ior X0.here hx rfl (hb hby d2_38) rfl ?_
        show Steps p.tables e below (T.setTop (mkF m 39 #[.val (.ref a), .val (.ref b), .val (.int bt), .val (.int k)] [(.int (bt ||| (1 : Int32)))])) _
        refine XS.istoreN X0.here hx rfl (hb hby d2_39) rfl (l' := #[.val (.ref a), .val (.ref b), .val (.int (bt ||| (1 : Int32))), .val (.int k)]) rfl ?_
        show Steps p.tables e below (T.setTop (mkF m 40 #[.val (.ref a), .val (.ref b), .val (.int (bt ||| (1 : Int32))), .val (.int k)] [])) _
        refine XS.iinc X0.here hx rfl (hb hby d2_40) rfl (l' := #[.val (.ref a), .val (.ref b), .val (.int (bt ||| (1 : Int32))), .val (.int (k + (1 : Int32)))]) rfl ?_
        show Steps p.tables e below (T.setTop (mkF m 43 #[.val (.ref a), .val (.ref b), .val (.int (bt ||| (1 : Int32))), .val (.int (k + (1 : Int32)))] [])) _
        refine XS.goto X0.here hx rfl (pc0 := 43) (pc' := 4) rfl (hb hby d2_43) (by decide) (by decide) ?_
        show Steps p.tables e below (T.setTop (mkF m 4 #[.val (.ref a), .val (.ref b), .val (.int (bt ||| (1 : Int32))), .val (.int (k + (1 : Int32)))] [])) _
        exact ih _ _ (by rcases hbt with rfl | rfl <;> decide) hk1n hlen' hat' hW'
      · have heq : q.1 = q.2 := Int32.toInt_inj.mp (by have z1 := mt Int32.lt_iff_toInt_lt.mpr hgt; have z2 := mt Int32.lt_iff_toInt_lt.mpr hlt; omega)
        have hW' : own_dom r (bt ||| (0 : Int32)) = W := by rw [← hW]; show _ = (if q.2 < q.1 then 0 else own_dom r (bt ||| (if q.1 < q.2 then 1 else 0))); rw [if_neg hgt, if_neg hlt]
        show Steps p.tables e below (T.setTop (mkF m 4 #[.val (.ref a), .val (.ref b), .val (.int bt), .val (.int k)] [])) _
        refine XS.iloadN X0.here hx rfl (hb hby d2_4) rfl ?_
        show Steps p.tables e below (T.setTop (mkF m 5 #[.val (.ref a), .val (.ref b), .val (.int bt), .val (.int k)] [(.int k)])) _
        refine XS.aloadN X0.here hx rfl (hb hby d2_5) rfl rfl ?_
        show Steps p.tables e below (T.setTop (mkF m 6 #[.val (.ref a), .val (.ref b), .val (.int bt), .val (.int k)] [(.ref a), (.int k)])) _
        refine X0.arraylength hx (by rw [e0]; exact Ar.1) (State.isArrayOf_alike hZ.alike Ar.2.1) (g := (mkF m 6 #[.val (.ref a), .val (.ref b), .val (.int bt), .val (.int k)] [(.ref a), (.int k)])) rfl rfl (hb hby d2_6) _ ?_
        rw [len_of Sa Nz]
        show Steps p.tables e below (T.setTop (mkF m 7 #[.val (.ref a), .val (.ref b), .val (.int bt), .val (.int k)] [(.int n), (.int k)])) _
        refine XS.icmpNo X0.here hx rfl (hb hby d2_7) rfl (tlt hkn).2.1 ?_
        show Steps p.tables e below (T.setTop (mkF m 10 #[.val (.ref a), .val (.ref b), .val (.int bt), .val (.int k)] [])) _
        refine XS.aloadN X0.here hx rfl (hb hby d2_10) rfl rfl ?_
        show Steps p.tables e below (T.setTop (mkF m 11 #[.val (.ref a), .val (.ref b), .val (.int bt), .val (.int k)] [(.ref a)])) _
        refine XS.iloadN X0.here hx rfl (hb hby d2_11) rfl ?_
        show Steps p.tables e below (T.setTop (mkF m 12 #[.val (.ref a), .val (.ref b), .val (.int bt), .val (.int k)] [(.int k), (.ref a)])) _
        refine X0.daload hx (j := k) (v := (.double (FP.i2d q.1))) (by rw [e0]; exact Ar.1) (State.isArrayOf_alike hZ.alike Ar.2.1) Ar.2.2 hina hA (g := (mkF m 12 #[.val (.ref a), .val (.ref b), .val (.int bt), .val (.int k)] [(.int k), (.ref a)])) rfl rfl (hb hby d2_12) _ ?_
        show Steps p.tables e below (T.setTop (mkF m 13 #[.val (.ref a), .val (.ref b), .val (.int bt), .val (.int k)] [(.double (FP.i2d q.1))])) _
        refine XS.aloadN X0.here hx rfl (hb hby d2_13) rfl rfl ?_
        show Steps p.tables e below (T.setTop (mkF m 14 #[.val (.ref a), .val (.ref b), .val (.int bt), .val (.int k)] [(.ref b), (.double (FP.i2d q.1))])) _
        refine XS.iloadN X0.here hx rfl (hb hby d2_14) rfl ?_
        show Steps p.tables e below (T.setTop (mkF m 15 #[.val (.ref a), .val (.ref b), .val (.int bt), .val (.int k)] [(.int k), (.ref b), (.double (FP.i2d q.1))])) _
        refine X0.daload hx (j := k) (v := (.double (FP.i2d q.2))) (by rw [e0]; exact Br.1) (State.isArrayOf_alike hZ.alike Br.2.1) Br.2.2 hinb hB (g := (mkF m 15 #[.val (.ref a), .val (.ref b), .val (.int bt), .val (.int k)] [(.int k), (.ref b), (.double (FP.i2d q.1))])) rfl rfl (hb hby d2_15) _ ?_
        show Steps p.tables e below (T.setTop (mkF m 16 #[.val (.ref a), .val (.ref b), .val (.int bt), .val (.int k)] [(.double (FP.i2d q.2)), (.double (FP.i2d q.1))])) _
        refine XS.dcmpS X0.here hx rfl (x := (FP.i2d q.1)) (y := (FP.i2d q.2)) (v := (0 : Int32)) (hb hby d2_16) rfl (hc.2.1 heq) ?_
        show Steps p.tables e below (T.setTop (mkF m 17 #[.val (.ref a), .val (.ref b), .val (.int bt), .val (.int k)] [(.int (0 : Int32))])) _
        refine XS.ifYes X0.here hx rfl (pc0 := 17) (pc' := 22) rfl (hb hby d2_17) rfl (by decide) (by decide) (by decide) ?_
        show Steps p.tables e below (T.setTop (mkF m 22 #[.val (.ref a), .val (.ref b), .val (.int bt), .val (.int k)] [])) _
        refine XS.iloadN X0.here hx rfl (hb hby d2_22) rfl ?_
        show Steps p.tables e below (T.setTop (mkF m 23 #[.val (.ref a), .val (.ref b), .val (.int bt), .val (.int k)] [(.int bt)])) _
        refine XS.aloadN X0.here hx rfl (hb hby d2_23) rfl rfl ?_
        show Steps p.tables e below (T.setTop (mkF m 24 #[.val (.ref a), .val (.ref b), .val (.int bt), .val (.int k)] [(.ref a), (.int bt)])) _
        refine XS.iloadN X0.here hx rfl (hb hby d2_24) rfl ?_
        show Steps p.tables e below (T.setTop (mkF m 25 #[.val (.ref a), .val (.ref b), .val (.int bt), .val (.int k)] [(.int k), (.ref a), (.int bt)])) _
        refine X0.daload hx (j := k) (v := (.double (FP.i2d q.1))) (by rw [e0]; exact Ar.1) (State.isArrayOf_alike hZ.alike Ar.2.1) Ar.2.2 hina hA (g := (mkF m 25 #[.val (.ref a), .val (.ref b), .val (.int bt), .val (.int k)] [(.int k), (.ref a), (.int bt)])) rfl rfl (hb hby d2_25) _ ?_
        show Steps p.tables e below (T.setTop (mkF m 26 #[.val (.ref a), .val (.ref b), .val (.int bt), .val (.int k)] [(.double (FP.i2d q.1)), (.int bt)])) _
        refine XS.aloadN X0.here hx rfl (hb hby d2_26) rfl rfl ?_
        show Steps p.tables e below (T.setTop (mkF m 27 #[.val (.ref a), .val (.ref b), .val (.int bt), .val (.int k)] [(.ref b), (.double (FP.i2d q.1)), (.int bt)])) _
        refine XS.iloadN X0.here hx rfl (hb hby d2_27) rfl ?_
        show Steps p.tables e below (T.setTop (mkF m 28 #[.val (.ref a), .val (.ref b), .val (.int bt), .val (.int k)] [(.int k), (.ref b), (.double (FP.i2d q.1)), (.int bt)])) _
        refine X0.daload hx (j := k) (v := (.double (FP.i2d q.2))) (by rw [e0]; exact Br.1) (State.isArrayOf_alike hZ.alike Br.2.1) Br.2.2 hinb hB (g := (mkF m 28 #[.val (.ref a), .val (.ref b), .val (.int bt), .val (.int k)] [(.int k), (.ref b), (.double (FP.i2d q.1)), (.int bt)])) rfl rfl (hb hby d2_28) _ ?_
        show Steps p.tables e below (T.setTop (mkF m 29 #[.val (.ref a), .val (.ref b), .val (.int bt), .val (.int k)] [(.double (FP.i2d q.2)), (.double (FP.i2d q.1)), (.int bt)])) _
        refine XS.dcmpS X0.here hx rfl (x := (FP.i2d q.1)) (y := (FP.i2d q.2)) (v := (0 : Int32)) (hb hby d2_29) rfl (hc'.2.1 heq) ?_
        show Steps p.tables e below (T.setTop (mkF m 30 #[.val (.ref a), .val (.ref b), .val (.int bt), .val (.int k)] [(.int (0 : Int32)), (.int bt)])) _
        refine XS.ifYes X0.here hx rfl (pc0 := 30) (pc' := 37) rfl (hb hby d2_30) rfl (by decide) (by decide) (by decide) ?_
        show Steps p.tables e below (T.setTop (mkF m 37 #[.val (.ref a), .val (.ref b), .val (.int bt), .val (.int k)] [(.int bt)])) _
        refine XS.iconst X0.here hx rfl (hb hby d2_37) ?_
        show Steps p.tables e below (T.setTop (mkF m 38 #[.val (.ref a), .val (.ref b), .val (.int bt), .val (.int k)] [(.int (0 : Int32)), (.int bt)])) _
        refine XS.ior X0.here hx rfl (hb hby d2_38) rfl ?_
        show Steps p.tables e below (T.setTop (mkF m 39 #[.val (.ref a), .val (.ref b), .val (.int bt), .val (.int k)] [(.int (bt ||| (0 : Int32)))])) _
        refine XS.istoreN X0.here hx rfl (hb hby d2_39) rfl (l' := #[.val (.ref a), .val (.ref b), .val (.int (bt ||| (0 : Int32))), .val (.int k)]) rfl ?_
        show Steps p.tables e below (T.setTop (mkF m 40 #[.val (.ref a), .val (.ref b), .val (.int (bt ||| (0 : Int32))), .val (.int k)] [])) _
        refine XS.iinc X0.here hx rfl (hb hby d2_40) rfl (l' := #[.val (.ref a), .val (.ref b), .val (.int (bt ||| (0 : Int32))), .val (.int (k + (1 : Int32)))]) rfl ?_
        show Steps p.tables e below (T.setTop (mkF m 43 #[.val (.ref a), .val (.ref b), .val (.int (bt ||| (0 : Int32))), .val (.int (k + (1 : Int32)))] [])) _
        refine XS.goto X0.here hx rfl (pc0 := 43) (pc' := 4) rfl (hb hby d2_43) (by decide) (by decide) ?_
        show Steps p.tables e below (T.setTop (mkF m 4 #[.val (.ref a), .val (.ref b), .val (.int (bt ||| (0 : Int32))), .val (.int (k + (1 : Int32)))] [])) _
        exact ih _ _ (by rcases hbt with rfl | rfl <;> decide) hk1n hlen' hat' hW'
theorem own_bool : ∀ (r : List (Int32 × Int32)) (bt : Int32), bt = 0 ∨ bt = 1 → own_dom r bt = 0 ∨ own_dom r bt = 1 := fun r bt hb => by
  rw [own_law r bt hb]; unfold own_exp; split
  · exact Or.inl rfl
  · split
    · exact Or.inl rfl
    · exact Or.inr rfl
set_option maxRecDepth 65536 in
set_option maxHeartbeats 40000000 in
theorem rmP (l : Launch) (Z : State) (a0 : Array Value) (hw : ∀ d ∈ tables_1, d.before a0 Z = true) (ws : List Jvm.Cond) (a b : Addr) (ka kb : ClassId) (n : Int32) (L : List (Int32 × Int32)) (h0 : Heap) (n0 : Nat) (Z0 : n0 ≤ h0.size) (Va : Arv Z h0 a ka .double n (own_xs L) (.double 0)) (Vb : Arv Z h0 b kb .double n (own_ys L) (.double 0)) (hn : n.toNatClampNeg = L.length) :
    MetFree l (⟨"com/example/gridfront/gridfront/selection/Pareto", "dominates", "([D[D)Z"⟩ : MethodName) (head1 (Jvm.Cond.code (⟨"com/example/gridfront/gridfront/selection/Pareto", "dominates", "([D[D)Z"⟩ : MethodName) prog_32_method_2_code 4 (some .boolean) :: ws) ({ frames := 0, cells := 0, slots := 0, locals := 0 } : Room)) (fun aa U => aa = #[(.ref a), (.ref b)] ∧ Z.Warmed39 U.vm ∧ U.heap = h0) (fun _ _ _ _ _ => True) (fun _ U o U' => ∃ rv RL, o = .returned rv ∧ QS h0 (some (.int (own_dom L 0))) n0 rv U'.heap RL ∧ FrameEnd U o U' RL ({ frames := 0, cells := 0, slots := 0, locals := 0 } : Room).cells ({ frames := 0, cells := 0, slots := 0, locals := 0 } : Room).slots) := by
  refine MetFree.of_bodySF (plainFor_of_name pnP) hisR ?_
  intro p e s m args below meth c s₁ Bd hml0 hP hK
  obtain ⟨rfl, hZ, hh⟩ := hP
  have hx := Bd.exec
  have hby := Bd.bytes
  have hml : c.maxLocals = 4 := hml0
  have hown : s.vm.findClass "com/example/gridfront/gridfront/selection/Pareto" = some m.cls := findClass_of_methodNamed Bd.named
  have hnm := (name_of_methodNamed Bd.named Bd.method).1
  have X0 : Stand p l e ({ frames := 0, cells := 0, slots := 0, locals := 0 } : Room) s m #[(.ref a), (.ref b)] below meth c s₁ [] 0 0 := Stand.of_body Bd
  have e0 : s₁.heap = h0 := by rw [← hh, Bd.state]; rfl
  have N0 := Fr.nil n0
  have pre0 : ∀ t, Steps p.tables e below (s₁.setTop (mkF m 0 #[.val (.ref a), .val (.ref b), .unset, .unset] [])) t → Steps p.tables e below (s₁.setTop (entryFrame m #[(.ref a), (.ref b)] 4)) t := fun t kk => castTop (ef2 m a b) kk
  obtain ⟨ca, Ar, -, Sa, Nz, Ha, -⟩ := Va
  obtain ⟨cb, Br, -, Sb, -, Hb, -⟩ := Vb
  have hat : ∀ i (hi : i < L.length), ca.slots[(0 : Int32).toNatClampNeg + i]? = some (.double (FP.i2d L[i].1)) ∧ cb.slots[(0 : Int32).toNatClampNeg + i]? = some (.double (FP.i2d L[i].2)) := fun i hi => by
    have e : (0 : Int32).toNatClampNeg + i = i := by rw [show (0 : Int32).toNatClampNeg = 0 from by decide]; omega
    rw [e, Ha i (by omega), Hb i (by omega)]
    simp [own_xs, own_ys, List.getD, hi]
  obtain ⟨fs, hr, hrun, hended, hW, hsame⟩ := X0.leave (v := some (.int (own_dom L 0))) (fun h => by rw [Bd.returns] at h; cases h)
  refine ⟨_, _, pre0 _ ?_, hrun, hended, _, _, rfl, ?_, ⟨_, rfl⟩, hW, hsame.mono (by decide) (by decide)⟩
  · skip
    show Steps p.tables e below (s₁.setTop (mkF m 0 #[.val (.ref a), .val (.ref b), .unset, .unset] [])) _
    refine XS.iconst X0.here hx rfl (hb hby d2_0) ?_
    show Steps p.tables e below (s₁.setTop (mkF m 1 #[.val (.ref a), .val (.ref b), .unset, .unset] [(.int (0 : Int32))])) _
    refine XS.istoreN X0.here hx rfl (hb hby d2_1) rfl (l' := #[.val (.ref a), .val (.ref b), .val (.int (0 : Int32)), .unset]) rfl ?_
    show Steps p.tables e below (s₁.setTop (mkF m 2 #[.val (.ref a), .val (.ref b), .val (.int (0 : Int32)), .unset] [])) _
    refine XS.iconst X0.here hx rfl (hb hby d2_2) ?_
    show Steps p.tables e below (s₁.setTop (mkF m 3 #[.val (.ref a), .val (.ref b), .val (.int (0 : Int32)), .unset] [(.int (0 : Int32))])) _
    refine XS.istoreN X0.here hx rfl (hb hby d2_3) rfl (l' := #[.val (.ref a), .val (.ref b), .val (.int (0 : Int32)), .val (.int (0 : Int32))]) rfl ?_
    show Steps p.tables e below (s₁.setTop (mkF m 4 #[.val (.ref a), .val (.ref b), .val (.int (0 : Int32)), .val (.int (0 : Int32))] [])) _
    exact own_loop X0 hx hby hZ e0 Bd.returns Ar Br Sa Sb Nz hr L 0 0 (Or.inl rfl) (by decide) (by rw [hn]; simp) hat rfl
  · show QS h0 _ n0 _ s₁.heap _
    rw [e0]
    exact ⟨rfl, N0, rfl⟩
set_option maxRecDepth 65536 in
set_option maxHeartbeats 4000000 in
theorem own_bLe0 {p : Program} {e : Env} {below : List Frame} {m : MethodId} {c : Code} {T t : State} (h : At T m c below) (hx : p.tables.exec = Jvm.exec) (hby : c.code = code) (p0 p1 : Int64) (p2 n a0 a1 a2 a3 b0 b1 b2 b3 le lt : Int32) (ax ay : Addr) (hr : Steps p.tables e below (T.setTop (mkF m 186 #[.val (.long p0), .second, .val (.long p1), .second, .val (.int p2), .val (.int n), .val (.int a0), .val (.int a1), .val (.int a2), .val (.int a3), .val (.int b0), .val (.int b1), .val (.int b2), .val (.int b3), .val (.ref ax), .val (.ref ay), .val (.int (own_le le a0 b0)), .val (.int lt), .unset] [])) t) : Steps p.tables e below (T.setTop (mkF m 167 #[.val (.long p0), .second, .val (.long p1), .second, .val (.int p2), .val (.int n), .val (.int a0), .val (.int a1), .val (.int a2), .val (.int a3), .val (.int b0), .val (.int b1), .val (.int b2), .val (.int b3), .val (.ref ax), .val (.ref ay), .val (.int le), .val (.int lt), .unset] [])) t := by
  by_cases h1 : le = 0
  · have ev : own_le le a0 b0 = (0 : Int32) := by simp [own_le, h1]
    rw [ev] at hr
    show Steps p.tables e below (T.setTop (mkF m 167 #[.val (.long p0), .second, .val (.long p1), .second, .val (.int p2), .val (.int n), .val (.int a0), .val (.int a1), .val (.int a2), .val (.int a3), .val (.int b0), .val (.int b1), .val (.int b2), .val (.int b3), .val (.ref ax), .val (.ref ay), .val (.int le), .val (.int lt), .unset] [])) _
    refine XS.iload h hx rfl (hb hby at_167) rfl ?_
    show Steps p.tables e below (T.setTop (mkF m 169 #[.val (.long p0), .second, .val (.long p1), .second, .val (.int p2), .val (.int n), .val (.int a0), .val (.int a1), .val (.int a2), .val (.int a3), .val (.int b0), .val (.int b1), .val (.int b2), .val (.int b3), .val (.ref ax), .val (.ref ay), .val (.int le), .val (.int lt), .unset] [(.int le)])) _
    refine XS.ifYes h hx rfl (pc0 := 169) (pc' := 183) rfl (hb hby at_169) rfl ((if0 _ _).trans (teq h1).1) (by decide) (by decide) ?_
    show Steps p.tables e below (T.setTop (mkF m 183 #[.val (.long p0), .second, .val (.long p1), .second, .val (.int p2), .val (.int n), .val (.int a0), .val (.int a1), .val (.int a2), .val (.int a3), .val (.int b0), .val (.int b1), .val (.int b2), .val (.int b3), .val (.ref ax), .val (.ref ay), .val (.int le), .val (.int lt), .unset] [])) _
    refine XS.iconst h hx rfl (hb hby at_183) ?_
    show Steps p.tables e below (T.setTop (mkF m 184 #[.val (.long p0), .second, .val (.long p1), .second, .val (.int p2), .val (.int n), .val (.int a0), .val (.int a1), .val (.int a2), .val (.int a3), .val (.int b0), .val (.int b1), .val (.int b2), .val (.int b3), .val (.ref ax), .val (.ref ay), .val (.int le), .val (.int lt), .unset] [(.int (0 : Int32))])) _
    refine XS.istore h hx rfl (hb hby at_184) rfl (l' := #[.val (.long p0), .second, .val (.long p1), .second, .val (.int p2), .val (.int n), .val (.int a0), .val (.int a1), .val (.int a2), .val (.int a3), .val (.int b0), .val (.int b1), .val (.int b2), .val (.int b3), .val (.ref ax), .val (.ref ay), .val (.int (0 : Int32)), .val (.int lt), .unset]) rfl ?_
    exact hr
  · by_cases h2 : b0 < a0
    · have ev : own_le le a0 b0 = (0 : Int32) := by simp [own_le, h1, h2]
      rw [ev] at hr
      show Steps p.tables e below (T.setTop (mkF m 167 #[.val (.long p0), .second, .val (.long p1), .second, .val (.int p2), .val (.int n), .val (.int a0), .val (.int a1), .val (.int a2), .val (.int a3), .val (.int b0), .val (.int b1), .val (.int b2), .val (.int b3), .val (.ref ax), .val (.ref ay), .val (.int le), .val (.int lt), .unset] [])) _
      refine XS.iload h hx rfl (hb hby at_167) rfl ?_
      show Steps p.tables e below (T.setTop (mkF m 169 #[.val (.long p0), .second, .val (.long p1), .second, .val (.int p2), .val (.int n), .val (.int a0), .val (.int a1), .val (.int a2), .val (.int a3), .val (.int b0), .val (.int b1), .val (.int b2), .val (.int b3), .val (.ref ax), .val (.ref ay), .val (.int le), .val (.int lt), .unset] [(.int le)])) _
      refine XS.ifNo h hx rfl (hb hby at_169) rfl ((if0 _ _).trans (feq h1).1) ?_
      show Steps p.tables e below (T.setTop (mkF m 172 #[.val (.long p0), .second, .val (.long p1), .second, .val (.int p2), .val (.int n), .val (.int a0), .val (.int a1), .val (.int a2), .val (.int a3), .val (.int b0), .val (.int b1), .val (.int b2), .val (.int b3), .val (.ref ax), .val (.ref ay), .val (.int le), .val (.int lt), .unset] [])) _
      refine XS.iload h hx rfl (hb hby at_172) rfl ?_
      show Steps p.tables e below (T.setTop (mkF m 174 #[.val (.long p0), .second, .val (.long p1), .second, .val (.int p2), .val (.int n), .val (.int a0), .val (.int a1), .val (.int a2), .val (.int a3), .val (.int b0), .val (.int b1), .val (.int b2), .val (.int b3), .val (.ref ax), .val (.ref ay), .val (.int le), .val (.int lt), .unset] [(.int a0)])) _
      refine XS.iload h hx rfl (hb hby at_174) rfl ?_
      show Steps p.tables e below (T.setTop (mkF m 176 #[.val (.long p0), .second, .val (.long p1), .second, .val (.int p2), .val (.int n), .val (.int a0), .val (.int a1), .val (.int a2), .val (.int a3), .val (.int b0), .val (.int b1), .val (.int b2), .val (.int b3), .val (.ref ax), .val (.ref ay), .val (.int le), .val (.int lt), .unset] [(.int b0), (.int a0)])) _
      refine XS.icmpYes h hx rfl (pc0 := 176) (pc' := 183) rfl (hb hby at_176) rfl (tlt h2).2.2.1 (by decide) (by decide) ?_
      show Steps p.tables e below (T.setTop (mkF m 183 #[.val (.long p0), .second, .val (.long p1), .second, .val (.int p2), .val (.int n), .val (.int a0), .val (.int a1), .val (.int a2), .val (.int a3), .val (.int b0), .val (.int b1), .val (.int b2), .val (.int b3), .val (.ref ax), .val (.ref ay), .val (.int le), .val (.int lt), .unset] [])) _
      refine XS.iconst h hx rfl (hb hby at_183) ?_
      show Steps p.tables e below (T.setTop (mkF m 184 #[.val (.long p0), .second, .val (.long p1), .second, .val (.int p2), .val (.int n), .val (.int a0), .val (.int a1), .val (.int a2), .val (.int a3), .val (.int b0), .val (.int b1), .val (.int b2), .val (.int b3), .val (.ref ax), .val (.ref ay), .val (.int le), .val (.int lt), .unset] [(.int (0 : Int32))])) _
      refine XS.istore h hx rfl (hb hby at_184) rfl (l' := #[.val (.long p0), .second, .val (.long p1), .second, .val (.int p2), .val (.int n), .val (.int a0), .val (.int a1), .val (.int a2), .val (.int a3), .val (.int b0), .val (.int b1), .val (.int b2), .val (.int b3), .val (.ref ax), .val (.ref ay), .val (.int (0 : Int32)), .val (.int lt), .unset]) rfl ?_
      exact hr
    · have ev : own_le le a0 b0 = (1 : Int32) := by simp [own_le, h1, h2]
      rw [ev] at hr
      show Steps p.tables e below (T.setTop (mkF m 167 #[.val (.long p0), .second, .val (.long p1), .second, .val (.int p2), .val (.int n), .val (.int a0), .val (.int a1), .val (.int a2), .val (.int a3), .val (.int b0), .val (.int b1), .val (.int b2), .val (.int b3), .val (.ref ax), .val (.ref ay), .val (.int le), .val (.int lt), .unset] [])) _
      refine XS.iload h hx rfl (hb hby at_167) rfl ?_
      show Steps p.tables e below (T.setTop (mkF m 169 #[.val (.long p0), .second, .val (.long p1), .second, .val (.int p2), .val (.int n), .val (.int a0), .val (.int a1), .val (.int a2), .val (.int a3), .val (.int b0), .val (.int b1), .val (.int b2), .val (.int b3), .val (.ref ax), .val (.ref ay), .val (.int le), .val (.int lt), .unset] [(.int le)])) _
      refine XS.ifNo h hx rfl (hb hby at_169) rfl ((if0 _ _).trans (feq h1).1) ?_
      show Steps p.tables e below (T.setTop (mkF m 172 #[.val (.long p0), .second, .val (.long p1), .second, .val (.int p2), .val (.int n), .val (.int a0), .val (.int a1), .val (.int a2), .val (.int a3), .val (.int b0), .val (.int b1), .val (.int b2), .val (.int b3), .val (.ref ax), .val (.ref ay), .val (.int le), .val (.int lt), .unset] [])) _
      refine XS.iload h hx rfl (hb hby at_172) rfl ?_
      show Steps p.tables e below (T.setTop (mkF m 174 #[.val (.long p0), .second, .val (.long p1), .second, .val (.int p2), .val (.int n), .val (.int a0), .val (.int a1), .val (.int a2), .val (.int a3), .val (.int b0), .val (.int b1), .val (.int b2), .val (.int b3), .val (.ref ax), .val (.ref ay), .val (.int le), .val (.int lt), .unset] [(.int a0)])) _
      refine XS.iload h hx rfl (hb hby at_174) rfl ?_
      show Steps p.tables e below (T.setTop (mkF m 176 #[.val (.long p0), .second, .val (.long p1), .second, .val (.int p2), .val (.int n), .val (.int a0), .val (.int a1), .val (.int a2), .val (.int a3), .val (.int b0), .val (.int b1), .val (.int b2), .val (.int b3), .val (.ref ax), .val (.ref ay), .val (.int le), .val (.int lt), .unset] [(.int b0), (.int a0)])) _
      refine XS.icmpNo h hx rfl (hb hby at_176) rfl (flt h2).2.2.1 ?_
      show Steps p.tables e below (T.setTop (mkF m 179 #[.val (.long p0), .second, .val (.long p1), .second, .val (.int p2), .val (.int n), .val (.int a0), .val (.int a1), .val (.int a2), .val (.int a3), .val (.int b0), .val (.int b1), .val (.int b2), .val (.int b3), .val (.ref ax), .val (.ref ay), .val (.int le), .val (.int lt), .unset] [])) _
      refine XS.iconst h hx rfl (hb hby at_179) ?_
      show Steps p.tables e below (T.setTop (mkF m 180 #[.val (.long p0), .second, .val (.long p1), .second, .val (.int p2), .val (.int n), .val (.int a0), .val (.int a1), .val (.int a2), .val (.int a3), .val (.int b0), .val (.int b1), .val (.int b2), .val (.int b3), .val (.ref ax), .val (.ref ay), .val (.int le), .val (.int lt), .unset] [(.int (1 : Int32))])) _
      refine XS.goto h hx rfl (pc0 := 180) (pc' := 184) rfl (hb hby at_180) (by decide) (by decide) ?_
      show Steps p.tables e below (T.setTop (mkF m 184 #[.val (.long p0), .second, .val (.long p1), .second, .val (.int p2), .val (.int n), .val (.int a0), .val (.int a1), .val (.int a2), .val (.int a3), .val (.int b0), .val (.int b1), .val (.int b2), .val (.int b3), .val (.ref ax), .val (.ref ay), .val (.int le), .val (.int lt), .unset] [(.int (1 : Int32))])) _
      refine XS.istore h hx rfl (hb hby at_184) rfl (l' := #[.val (.long p0), .second, .val (.long p1), .second, .val (.int p2), .val (.int n), .val (.int a0), .val (.int a1), .val (.int a2), .val (.int a3), .val (.int b0), .val (.int b1), .val (.int b2), .val (.int b3), .val (.ref ax), .val (.ref ay), .val (.int (1 : Int32)), .val (.int lt), .unset]) rfl ?_
      exact hr
set_option maxRecDepth 65536 in
set_option maxHeartbeats 4000000 in
theorem own_bLt0 {p : Program} {e : Env} {below : List Frame} {m : MethodId} {c : Code} {T t : State} (h : At T m c below) (hx : p.tables.exec = Jvm.exec) (hby : c.code = code) (p0 p1 : Int64) (p2 n a0 a1 a2 a3 b0 b1 b2 b3 le lt : Int32) (ax ay : Addr) (hr : Steps p.tables e below (T.setTop (mkF m 205 #[.val (.long p0), .second, .val (.long p1), .second, .val (.int p2), .val (.int n), .val (.int a0), .val (.int a1), .val (.int a2), .val (.int a3), .val (.int b0), .val (.int b1), .val (.int b2), .val (.int b3), .val (.ref ax), .val (.ref ay), .val (.int le), .val (.int (own_lt lt a0 b0)), .unset] [])) t) : Steps p.tables e below (T.setTop (mkF m 186 #[.val (.long p0), .second, .val (.long p1), .second, .val (.int p2), .val (.int n), .val (.int a0), .val (.int a1), .val (.int a2), .val (.int a3), .val (.int b0), .val (.int b1), .val (.int b2), .val (.int b3), .val (.ref ax), .val (.ref ay), .val (.int le), .val (.int lt), .unset] [])) t := by
  by_cases h1 : lt = 0
  · by_cases h2 : a0 < b0
    · have ev : own_lt lt a0 b0 = (1 : Int32) := by simp [own_lt, h1, h2]
      rw [ev] at hr
      show Steps p.tables e below (T.setTop (mkF m 186 #[.val (.long p0), .second, .val (.long p1), .second, .val (.int p2), .val (.int n), .val (.int a0), .val (.int a1), .val (.int a2), .val (.int a3), .val (.int b0), .val (.int b1), .val (.int b2), .val (.int b3), .val (.ref ax), .val (.ref ay), .val (.int le), .val (.int lt), .unset] [])) _
      refine XS.iload h hx rfl (hb hby at_186) rfl ?_
      show Steps p.tables e below (T.setTop (mkF m 188 #[.val (.long p0), .second, .val (.long p1), .second, .val (.int p2), .val (.int n), .val (.int a0), .val (.int a1), .val (.int a2), .val (.int a3), .val (.int b0), .val (.int b1), .val (.int b2), .val (.int b3), .val (.ref ax), .val (.ref ay), .val (.int le), .val (.int lt), .unset] [(.int lt)])) _
      refine XS.ifNo h hx rfl (hb hby at_188) rfl ((if0 _ _).trans (teq h1).2) ?_
      show Steps p.tables e below (T.setTop (mkF m 191 #[.val (.long p0), .second, .val (.long p1), .second, .val (.int p2), .val (.int n), .val (.int a0), .val (.int a1), .val (.int a2), .val (.int a3), .val (.int b0), .val (.int b1), .val (.int b2), .val (.int b3), .val (.ref ax), .val (.ref ay), .val (.int le), .val (.int lt), .unset] [])) _
      refine XS.iload h hx rfl (hb hby at_191) rfl ?_
      show Steps p.tables e below (T.setTop (mkF m 193 #[.val (.long p0), .second, .val (.long p1), .second, .val (.int p2), .val (.int n), .val (.int a0), .val (.int a1), .val (.int a2), .val (.int a3), .val (.int b0), .val (.int b1), .val (.int b2), .val (.int b3), .val (.ref ax), .val (.ref ay), .val (.int le), .val (.int lt), .unset] [(.int a0)])) _
      refine XS.iload h hx rfl (hb hby at_193) rfl ?_
      show Steps p.tables e below (T.setTop (mkF m 195 #[.val (.long p0), .second, .val (.long p1), .second, .val (.int p2), .val (.int n), .val (.int a0), .val (.int a1), .val (.int a2), .val (.int a3), .val (.int b0), .val (.int b1), .val (.int b2), .val (.int b3), .val (.ref ax), .val (.ref ay), .val (.int le), .val (.int lt), .unset] [(.int b0), (.int a0)])) _
      refine XS.icmpNo h hx rfl (hb hby at_195) rfl (tlt h2).2.1 ?_
      show Steps p.tables e below (T.setTop (mkF m 198 #[.val (.long p0), .second, .val (.long p1), .second, .val (.int p2), .val (.int n), .val (.int a0), .val (.int a1), .val (.int a2), .val (.int a3), .val (.int b0), .val (.int b1), .val (.int b2), .val (.int b3), .val (.ref ax), .val (.ref ay), .val (.int le), .val (.int lt), .unset] [])) _
      refine XS.iconst h hx rfl (hb hby at_198) ?_
      show Steps p.tables e below (T.setTop (mkF m 199 #[.val (.long p0), .second, .val (.long p1), .second, .val (.int p2), .val (.int n), .val (.int a0), .val (.int a1), .val (.int a2), .val (.int a3), .val (.int b0), .val (.int b1), .val (.int b2), .val (.int b3), .val (.ref ax), .val (.ref ay), .val (.int le), .val (.int lt), .unset] [(.int (1 : Int32))])) _
      refine XS.goto h hx rfl (pc0 := 199) (pc' := 203) rfl (hb hby at_199) (by decide) (by decide) ?_
      show Steps p.tables e below (T.setTop (mkF m 203 #[.val (.long p0), .second, .val (.long p1), .second, .val (.int p2), .val (.int n), .val (.int a0), .val (.int a1), .val (.int a2), .val (.int a3), .val (.int b0), .val (.int b1), .val (.int b2), .val (.int b3), .val (.ref ax), .val (.ref ay), .val (.int le), .val (.int lt), .unset] [(.int (1 : Int32))])) _
      refine XS.istore h hx rfl (hb hby at_203) rfl (l' := #[.val (.long p0), .second, .val (.long p1), .second, .val (.int p2), .val (.int n), .val (.int a0), .val (.int a1), .val (.int a2), .val (.int a3), .val (.int b0), .val (.int b1), .val (.int b2), .val (.int b3), .val (.ref ax), .val (.ref ay), .val (.int le), .val (.int (1 : Int32)), .unset]) rfl ?_
      exact hr
    · have ev : own_lt lt a0 b0 = (0 : Int32) := by simp [own_lt, h1, h2]
      rw [ev] at hr
      show Steps p.tables e below (T.setTop (mkF m 186 #[.val (.long p0), .second, .val (.long p1), .second, .val (.int p2), .val (.int n), .val (.int a0), .val (.int a1), .val (.int a2), .val (.int a3), .val (.int b0), .val (.int b1), .val (.int b2), .val (.int b3), .val (.ref ax), .val (.ref ay), .val (.int le), .val (.int lt), .unset] [])) _
      refine XS.iload h hx rfl (hb hby at_186) rfl ?_
      show Steps p.tables e below (T.setTop (mkF m 188 #[.val (.long p0), .second, .val (.long p1), .second, .val (.int p2), .val (.int n), .val (.int a0), .val (.int a1), .val (.int a2), .val (.int a3), .val (.int b0), .val (.int b1), .val (.int b2), .val (.int b3), .val (.ref ax), .val (.ref ay), .val (.int le), .val (.int lt), .unset] [(.int lt)])) _
      refine XS.ifNo h hx rfl (hb hby at_188) rfl ((if0 _ _).trans (teq h1).2) ?_
      show Steps p.tables e below (T.setTop (mkF m 191 #[.val (.long p0), .second, .val (.long p1), .second, .val (.int p2), .val (.int n), .val (.int a0), .val (.int a1), .val (.int a2), .val (.int a3), .val (.int b0), .val (.int b1), .val (.int b2), .val (.int b3), .val (.ref ax), .val (.ref ay), .val (.int le), .val (.int lt), .unset] [])) _
      refine XS.iload h hx rfl (hb hby at_191) rfl ?_
      show Steps p.tables e below (T.setTop (mkF m 193 #[.val (.long p0), .second, .val (.long p1), .second, .val (.int p2), .val (.int n), .val (.int a0), .val (.int a1), .val (.int a2), .val (.int a3), .val (.int b0), .val (.int b1), .val (.int b2), .val (.int b3), .val (.ref ax), .val (.ref ay), .val (.int le), .val (.int lt), .unset] [(.int a0)])) _
      refine XS.iload h hx rfl (hb hby at_193) rfl ?_
      show Steps p.tables e below (T.setTop (mkF m 195 #[.val (.long p0), .second, .val (.long p1), .second, .val (.int p2), .val (.int n), .val (.int a0), .val (.int a1), .val (.int a2), .val (.int a3), .val (.int b0), .val (.int b1), .val (.int b2), .val (.int b3), .val (.ref ax), .val (.ref ay), .val (.int le), .val (.int lt), .unset] [(.int b0), (.int a0)])) _
      refine XS.icmpYes h hx rfl (pc0 := 195) (pc' := 202) rfl (hb hby at_195) rfl (flt h2).2.1 (by decide) (by decide) ?_
      show Steps p.tables e below (T.setTop (mkF m 202 #[.val (.long p0), .second, .val (.long p1), .second, .val (.int p2), .val (.int n), .val (.int a0), .val (.int a1), .val (.int a2), .val (.int a3), .val (.int b0), .val (.int b1), .val (.int b2), .val (.int b3), .val (.ref ax), .val (.ref ay), .val (.int le), .val (.int lt), .unset] [])) _
      refine XS.iconst h hx rfl (hb hby at_202) ?_
      show Steps p.tables e below (T.setTop (mkF m 203 #[.val (.long p0), .second, .val (.long p1), .second, .val (.int p2), .val (.int n), .val (.int a0), .val (.int a1), .val (.int a2), .val (.int a3), .val (.int b0), .val (.int b1), .val (.int b2), .val (.int b3), .val (.ref ax), .val (.ref ay), .val (.int le), .val (.int lt), .unset] [(.int (0 : Int32))])) _
      refine XS.istore h hx rfl (hb hby at_203) rfl (l' := #[.val (.long p0), .second, .val (.long p1), .second, .val (.int p2), .val (.int n), .val (.int a0), .val (.int a1), .val (.int a2), .val (.int a3), .val (.int b0), .val (.int b1), .val (.int b2), .val (.int b3), .val (.ref ax), .val (.ref ay), .val (.int le), .val (.int (0 : Int32)), .unset]) rfl ?_
      exact hr
  · have ev : own_lt lt a0 b0 = (1 : Int32) := by simp [own_lt, h1]
    rw [ev] at hr
    show Steps p.tables e below (T.setTop (mkF m 186 #[.val (.long p0), .second, .val (.long p1), .second, .val (.int p2), .val (.int n), .val (.int a0), .val (.int a1), .val (.int a2), .val (.int a3), .val (.int b0), .val (.int b1), .val (.int b2), .val (.int b3), .val (.ref ax), .val (.ref ay), .val (.int le), .val (.int lt), .unset] [])) _
    refine XS.iload h hx rfl (hb hby at_186) rfl ?_
    show Steps p.tables e below (T.setTop (mkF m 188 #[.val (.long p0), .second, .val (.long p1), .second, .val (.int p2), .val (.int n), .val (.int a0), .val (.int a1), .val (.int a2), .val (.int a3), .val (.int b0), .val (.int b1), .val (.int b2), .val (.int b3), .val (.ref ax), .val (.ref ay), .val (.int le), .val (.int lt), .unset] [(.int lt)])) _
    refine XS.ifYes h hx rfl (pc0 := 188) (pc' := 198) rfl (hb hby at_188) rfl ((if0 _ _).trans (feq h1).2) (by decide) (by decide) ?_
    show Steps p.tables e below (T.setTop (mkF m 198 #[.val (.long p0), .second, .val (.long p1), .second, .val (.int p2), .val (.int n), .val (.int a0), .val (.int a1), .val (.int a2), .val (.int a3), .val (.int b0), .val (.int b1), .val (.int b2), .val (.int b3), .val (.ref ax), .val (.ref ay), .val (.int le), .val (.int lt), .unset] [])) _
    refine XS.iconst h hx rfl (hb hby at_198) ?_
    show Steps p.tables e below (T.setTop (mkF m 199 #[.val (.long p0), .second, .val (.long p1), .second, .val (.int p2), .val (.int n), .val (.int a0), .val (.int a1), .val (.int a2), .val (.int a3), .val (.int b0), .val (.int b1), .val (.int b2), .val (.int b3), .val (.ref ax), .val (.ref ay), .val (.int le), .val (.int lt), .unset] [(.int (1 : Int32))])) _
    refine XS.goto h hx rfl (pc0 := 199) (pc' := 203) rfl (hb hby at_199) (by decide) (by decide) ?_
    show Steps p.tables e below (T.setTop (mkF m 203 #[.val (.long p0), .second, .val (.long p1), .second, .val (.int p2), .val (.int n), .val (.int a0), .val (.int a1), .val (.int a2), .val (.int a3), .val (.int b0), .val (.int b1), .val (.int b2), .val (.int b3), .val (.ref ax), .val (.ref ay), .val (.int le), .val (.int lt), .unset] [(.int (1 : Int32))])) _
    refine XS.istore h hx rfl (hb hby at_203) rfl (l' := #[.val (.long p0), .second, .val (.long p1), .second, .val (.int p2), .val (.int n), .val (.int a0), .val (.int a1), .val (.int a2), .val (.int a3), .val (.int b0), .val (.int b1), .val (.int b2), .val (.int b3), .val (.ref ax), .val (.ref ay), .val (.int le), .val (.int (1 : Int32)), .unset]) rfl ?_
    exact hr
set_option maxRecDepth 65536 in
set_option maxHeartbeats 4000000 in
theorem own_bLe1 {p : Program} {e : Env} {below : List Frame} {m : MethodId} {c : Code} {T t : State} (h : At T m c below) (hx : p.tables.exec = Jvm.exec) (hby : c.code = code) (p0 p1 : Int64) (p2 n a0 a1 a2 a3 b0 b1 b2 b3 le lt : Int32) (ax ay : Addr) (hr : Steps p.tables e below (T.setTop (mkF m 230 #[.val (.long p0), .second, .val (.long p1), .second, .val (.int p2), .val (.int n), .val (.int a0), .val (.int a1), .val (.int a2), .val (.int a3), .val (.int b0), .val (.int b1), .val (.int b2), .val (.int b3), .val (.ref ax), .val (.ref ay), .val (.int (own_le le a1 b1)), .val (.int lt), .unset] [])) t) : Steps p.tables e below (T.setTop (mkF m 211 #[.val (.long p0), .second, .val (.long p1), .second, .val (.int p2), .val (.int n), .val (.int a0), .val (.int a1), .val (.int a2), .val (.int a3), .val (.int b0), .val (.int b1), .val (.int b2), .val (.int b3), .val (.ref ax), .val (.ref ay), .val (.int le), .val (.int lt), .unset] [])) t := by
  by_cases h1 : le = 0
  · have ev : own_le le a1 b1 = (0 : Int32) := by simp [own_le, h1]
    rw [ev] at hr
    show Steps p.tables e below (T.setTop (mkF m 211 #[.val (.long p0), .second, .val (.long p1), .second, .val (.int p2), .val (.int n), .val (.int a0), .val (.int a1), .val (.int a2), .val (.int a3), .val (.int b0), .val (.int b1), .val (.int b2), .val (.int b3), .val (.ref ax), .val (.ref ay), .val (.int le), .val (.int lt), .unset] [])) _
    refine XS.iload h hx rfl (hb hby at_211) rfl ?_
    show Steps p.tables e below (T.setTop (mkF m 213 #[.val (.long p0), .second, .val (.long p1), .second, .val (.int p2), .val (.int n), .val (.int a0), .val (.int a1), .val (.int a2), .val (.int a3), .val (.int b0), .val (.int b1), .val (.int b2), .val (.int b3), .val (.ref ax), .val (.ref ay), .val (.int le), .val (.int lt), .unset] [(.int le)])) _
    refine XS.ifYes h hx rfl (pc0 := 213) (pc' := 227) rfl (hb hby at_213) rfl ((if0 _ _).trans (teq h1).1) (by decide) (by decide) ?_
    show Steps p.tables e below (T.setTop (mkF m 227 #[.val (.long p0), .second, .val (.long p1), .second, .val (.int p2), .val (.int n), .val (.int a0), .val (.int a1), .val (.int a2), .val (.int a3), .val (.int b0), .val (.int b1), .val (.int b2), .val (.int b3), .val (.ref ax), .val (.ref ay), .val (.int le), .val (.int lt), .unset] [])) _
    refine XS.iconst h hx rfl (hb hby at_227) ?_
    show Steps p.tables e below (T.setTop (mkF m 228 #[.val (.long p0), .second, .val (.long p1), .second, .val (.int p2), .val (.int n), .val (.int a0), .val (.int a1), .val (.int a2), .val (.int a3), .val (.int b0), .val (.int b1), .val (.int b2), .val (.int b3), .val (.ref ax), .val (.ref ay), .val (.int le), .val (.int lt), .unset] [(.int (0 : Int32))])) _
    refine XS.istore h hx rfl (hb hby at_228) rfl (l' := #[.val (.long p0), .second, .val (.long p1), .second, .val (.int p2), .val (.int n), .val (.int a0), .val (.int a1), .val (.int a2), .val (.int a3), .val (.int b0), .val (.int b1), .val (.int b2), .val (.int b3), .val (.ref ax), .val (.ref ay), .val (.int (0 : Int32)), .val (.int lt), .unset]) rfl ?_
    exact hr
  · by_cases h2 : b1 < a1
    · have ev : own_le le a1 b1 = (0 : Int32) := by simp [own_le, h1, h2]
      rw [ev] at hr
      show Steps p.tables e below (T.setTop (mkF m 211 #[.val (.long p0), .second, .val (.long p1), .second, .val (.int p2), .val (.int n), .val (.int a0), .val (.int a1), .val (.int a2), .val (.int a3), .val (.int b0), .val (.int b1), .val (.int b2), .val (.int b3), .val (.ref ax), .val (.ref ay), .val (.int le), .val (.int lt), .unset] [])) _
      refine XS.iload h hx rfl (hb hby at_211) rfl ?_
      show Steps p.tables e below (T.setTop (mkF m 213 #[.val (.long p0), .second, .val (.long p1), .second, .val (.int p2), .val (.int n), .val (.int a0), .val (.int a1), .val (.int a2), .val (.int a3), .val (.int b0), .val (.int b1), .val (.int b2), .val (.int b3), .val (.ref ax), .val (.ref ay), .val (.int le), .val (.int lt), .unset] [(.int le)])) _
      refine XS.ifNo h hx rfl (hb hby at_213) rfl ((if0 _ _).trans (feq h1).1) ?_
      show Steps p.tables e below (T.setTop (mkF m 216 #[.val (.long p0), .second, .val (.long p1), .second, .val (.int p2), .val (.int n), .val (.int a0), .val (.int a1), .val (.int a2), .val (.int a3), .val (.int b0), .val (.int b1), .val (.int b2), .val (.int b3), .val (.ref ax), .val (.ref ay), .val (.int le), .val (.int lt), .unset] [])) _
      refine XS.iload h hx rfl (hb hby at_216) rfl ?_
      show Steps p.tables e below (T.setTop (mkF m 218 #[.val (.long p0), .second, .val (.long p1), .second, .val (.int p2), .val (.int n), .val (.int a0), .val (.int a1), .val (.int a2), .val (.int a3), .val (.int b0), .val (.int b1), .val (.int b2), .val (.int b3), .val (.ref ax), .val (.ref ay), .val (.int le), .val (.int lt), .unset] [(.int a1)])) _
      refine XS.iload h hx rfl (hb hby at_218) rfl ?_
      show Steps p.tables e below (T.setTop (mkF m 220 #[.val (.long p0), .second, .val (.long p1), .second, .val (.int p2), .val (.int n), .val (.int a0), .val (.int a1), .val (.int a2), .val (.int a3), .val (.int b0), .val (.int b1), .val (.int b2), .val (.int b3), .val (.ref ax), .val (.ref ay), .val (.int le), .val (.int lt), .unset] [(.int b1), (.int a1)])) _
      refine XS.icmpYes h hx rfl (pc0 := 220) (pc' := 227) rfl (hb hby at_220) rfl (tlt h2).2.2.1 (by decide) (by decide) ?_
      show Steps p.tables e below (T.setTop (mkF m 227 #[.val (.long p0), .second, .val (.long p1), .second, .val (.int p2), .val (.int n), .val (.int a0), .val (.int a1), .val (.int a2), .val (.int a3), .val (.int b0), .val (.int b1), .val (.int b2), .val (.int b3), .val (.ref ax), .val (.ref ay), .val (.int le), .val (.int lt), .unset] [])) _
      refine XS.iconst h hx rfl (hb hby at_227) ?_
      show Steps p.tables e below (T.setTop (mkF m 228 #[.val (.long p0), .second, .val (.long p1), .second, .val (.int p2), .val (.int n), .val (.int a0), .val (.int a1), .val (.int a2), .val (.int a3), .val (.int b0), .val (.int b1), .val (.int b2), .val (.int b3), .val (.ref ax), .val (.ref ay), .val (.int le), .val (.int lt), .unset] [(.int (0 : Int32))])) _
      refine XS.istore h hx rfl (hb hby at_228) rfl (l' := #[.val (.long p0), .second, .val (.long p1), .second, .val (.int p2), .val (.int n), .val (.int a0), .val (.int a1), .val (.int a2), .val (.int a3), .val (.int b0), .val (.int b1), .val (.int b2), .val (.int b3), .val (.ref ax), .val (.ref ay), .val (.int (0 : Int32)), .val (.int lt), .unset]) rfl ?_
      exact hr
    · have ev : own_le le a1 b1 = (1 : Int32) := by simp [own_le, h1, h2]
      rw [ev] at hr
      show Steps p.tables e below (T.setTop (mkF m 211 #[.val (.long p0), .second, .val (.long p1), .second, .val (.int p2), .val (.int n), .val (.int a0), .val (.int a1), .val (.int a2), .val (.int a3), .val (.int b0), .val (.int b1), .val (.int b2), .val (.int b3), .val (.ref ax), .val (.ref ay), .val (.int le), .val (.int lt), .unset] [])) _
      refine XS.iload h hx rfl (hb hby at_211) rfl ?_
      show Steps p.tables e below (T.setTop (mkF m 213 #[.val (.long p0), .second, .val (.long p1), .second, .val (.int p2), .val (.int n), .val (.int a0), .val (.int a1), .val (.int a2), .val (.int a3), .val (.int b0), .val (.int b1), .val (.int b2), .val (.int b3), .val (.ref ax), .val (.ref ay), .val (.int le), .val (.int lt), .unset] [(.int le)])) _
      refine XS.ifNo h hx rfl (hb hby at_213) rfl ((if0 _ _).trans (feq h1).1) ?_
      show Steps p.tables e below (T.setTop (mkF m 216 #[.val (.long p0), .second, .val (.long p1), .second, .val (.int p2), .val (.int n), .val (.int a0), .val (.int a1), .val (.int a2), .val (.int a3), .val (.int b0), .val (.int b1), .val (.int b2), .val (.int b3), .val (.ref ax), .val (.ref ay), .val (.int le), .val (.int lt), .unset] [])) _
      refine XS.iload h hx rfl (hb hby at_216) rfl ?_
      show Steps p.tables e below (T.setTop (mkF m 218 #[.val (.long p0), .second, .val (.long p1), .second, .val (.int p2), .val (.int n), .val (.int a0), .val (.int a1), .val (.int a2), .val (.int a3), .val (.int b0), .val (.int b1), .val (.int b2), .val (.int b3), .val (.ref ax), .val (.ref ay), .val (.int le), .val (.int lt), .unset] [(.int a1)])) _
      refine XS.iload h hx rfl (hb hby at_218) rfl ?_
      show Steps p.tables e below (T.setTop (mkF m 220 #[.val (.long p0), .second, .val (.long p1), .second, .val (.int p2), .val (.int n), .val (.int a0), .val (.int a1), .val (.int a2), .val (.int a3), .val (.int b0), .val (.int b1), .val (.int b2), .val (.int b3), .val (.ref ax), .val (.ref ay), .val (.int le), .val (.int lt), .unset] [(.int b1), (.int a1)])) _
      refine XS.icmpNo h hx rfl (hb hby at_220) rfl (flt h2).2.2.1 ?_
      show Steps p.tables e below (T.setTop (mkF m 223 #[.val (.long p0), .second, .val (.long p1), .second, .val (.int p2), .val (.int n), .val (.int a0), .val (.int a1), .val (.int a2), .val (.int a3), .val (.int b0), .val (.int b1), .val (.int b2), .val (.int b3), .val (.ref ax), .val (.ref ay), .val (.int le), .val (.int lt), .unset] [])) _
      refine XS.iconst h hx rfl (hb hby at_223) ?_
      show Steps p.tables e below (T.setTop (mkF m 224 #[.val (.long p0), .second, .val (.long p1), .second, .val (.int p2), .val (.int n), .val (.int a0), .val (.int a1), .val (.int a2), .val (.int a3), .val (.int b0), .val (.int b1), .val (.int b2), .val (.int b3), .val (.ref ax), .val (.ref ay), .val (.int le), .val (.int lt), .unset] [(.int (1 : Int32))])) _
      refine XS.goto h hx rfl (pc0 := 224) (pc' := 228) rfl (hb hby at_224) (by decide) (by decide) ?_
      show Steps p.tables e below (T.setTop (mkF m 228 #[.val (.long p0), .second, .val (.long p1), .second, .val (.int p2), .val (.int n), .val (.int a0), .val (.int a1), .val (.int a2), .val (.int a3), .val (.int b0), .val (.int b1), .val (.int b2), .val (.int b3), .val (.ref ax), .val (.ref ay), .val (.int le), .val (.int lt), .unset] [(.int (1 : Int32))])) _
      refine XS.istore h hx rfl (hb hby at_228) rfl (l' := #[.val (.long p0), .second, .val (.long p1), .second, .val (.int p2), .val (.int n), .val (.int a0), .val (.int a1), .val (.int a2), .val (.int a3), .val (.int b0), .val (.int b1), .val (.int b2), .val (.int b3), .val (.ref ax), .val (.ref ay), .val (.int (1 : Int32)), .val (.int lt), .unset]) rfl ?_
      exact hr
set_option maxRecDepth 65536 in
set_option maxHeartbeats 4000000 in
theorem own_bLt1 {p : Program} {e : Env} {below : List Frame} {m : MethodId} {c : Code} {T t : State} (h : At T m c below) (hx : p.tables.exec = Jvm.exec) (hby : c.code = code) (p0 p1 : Int64) (p2 n a0 a1 a2 a3 b0 b1 b2 b3 le lt : Int32) (ax ay : Addr) (hr : Steps p.tables e below (T.setTop (mkF m 249 #[.val (.long p0), .second, .val (.long p1), .second, .val (.int p2), .val (.int n), .val (.int a0), .val (.int a1), .val (.int a2), .val (.int a3), .val (.int b0), .val (.int b1), .val (.int b2), .val (.int b3), .val (.ref ax), .val (.ref ay), .val (.int le), .val (.int (own_lt lt a1 b1)), .unset] [])) t) : Steps p.tables e below (T.setTop (mkF m 230 #[.val (.long p0), .second, .val (.long p1), .second, .val (.int p2), .val (.int n), .val (.int a0), .val (.int a1), .val (.int a2), .val (.int a3), .val (.int b0), .val (.int b1), .val (.int b2), .val (.int b3), .val (.ref ax), .val (.ref ay), .val (.int le), .val (.int lt), .unset] [])) t := by
  by_cases h1 : lt = 0
  · by_cases h2 : a1 < b1
    · have ev : own_lt lt a1 b1 = (1 : Int32) := by simp [own_lt, h1, h2]
      rw [ev] at hr
      show Steps p.tables e below (T.setTop (mkF m 230 #[.val (.long p0), .second, .val (.long p1), .second, .val (.int p2), .val (.int n), .val (.int a0), .val (.int a1), .val (.int a2), .val (.int a3), .val (.int b0), .val (.int b1), .val (.int b2), .val (.int b3), .val (.ref ax), .val (.ref ay), .val (.int le), .val (.int lt), .unset] [])) _
      refine XS.iload h hx rfl (hb hby at_230) rfl ?_
      show Steps p.tables e below (T.setTop (mkF m 232 #[.val (.long p0), .second, .val (.long p1), .second, .val (.int p2), .val (.int n), .val (.int a0), .val (.int a1), .val (.int a2), .val (.int a3), .val (.int b0), .val (.int b1), .val (.int b2), .val (.int b3), .val (.ref ax), .val (.ref ay), .val (.int le), .val (.int lt), .unset] [(.int lt)])) _
      refine XS.ifNo h hx rfl (hb hby at_232) rfl ((if0 _ _).trans (teq h1).2) ?_
      show Steps p.tables e below (T.setTop (mkF m 235 #[.val (.long p0), .second, .val (.long p1), .second, .val (.int p2), .val (.int n), .val (.int a0), .val (.int a1), .val (.int a2), .val (.int a3), .val (.int b0), .val (.int b1), .val (.int b2), .val (.int b3), .val (.ref ax), .val (.ref ay), .val (.int le), .val (.int lt), .unset] [])) _
      refine XS.iload h hx rfl (hb hby at_235) rfl ?_
      show Steps p.tables e below (T.setTop (mkF m 237 #[.val (.long p0), .second, .val (.long p1), .second, .val (.int p2), .val (.int n), .val (.int a0), .val (.int a1), .val (.int a2), .val (.int a3), .val (.int b0), .val (.int b1), .val (.int b2), .val (.int b3), .val (.ref ax), .val (.ref ay), .val (.int le), .val (.int lt), .unset] [(.int a1)])) _
      refine XS.iload h hx rfl (hb hby at_237) rfl ?_
      show Steps p.tables e below (T.setTop (mkF m 239 #[.val (.long p0), .second, .val (.long p1), .second, .val (.int p2), .val (.int n), .val (.int a0), .val (.int a1), .val (.int a2), .val (.int a3), .val (.int b0), .val (.int b1), .val (.int b2), .val (.int b3), .val (.ref ax), .val (.ref ay), .val (.int le), .val (.int lt), .unset] [(.int b1), (.int a1)])) _
      refine XS.icmpNo h hx rfl (hb hby at_239) rfl (tlt h2).2.1 ?_
      show Steps p.tables e below (T.setTop (mkF m 242 #[.val (.long p0), .second, .val (.long p1), .second, .val (.int p2), .val (.int n), .val (.int a0), .val (.int a1), .val (.int a2), .val (.int a3), .val (.int b0), .val (.int b1), .val (.int b2), .val (.int b3), .val (.ref ax), .val (.ref ay), .val (.int le), .val (.int lt), .unset] [])) _
      refine XS.iconst h hx rfl (hb hby at_242) ?_
      show Steps p.tables e below (T.setTop (mkF m 243 #[.val (.long p0), .second, .val (.long p1), .second, .val (.int p2), .val (.int n), .val (.int a0), .val (.int a1), .val (.int a2), .val (.int a3), .val (.int b0), .val (.int b1), .val (.int b2), .val (.int b3), .val (.ref ax), .val (.ref ay), .val (.int le), .val (.int lt), .unset] [(.int (1 : Int32))])) _
      refine XS.goto h hx rfl (pc0 := 243) (pc' := 247) rfl (hb hby at_243) (by decide) (by decide) ?_
      show Steps p.tables e below (T.setTop (mkF m 247 #[.val (.long p0), .second, .val (.long p1), .second, .val (.int p2), .val (.int n), .val (.int a0), .val (.int a1), .val (.int a2), .val (.int a3), .val (.int b0), .val (.int b1), .val (.int b2), .val (.int b3), .val (.ref ax), .val (.ref ay), .val (.int le), .val (.int lt), .unset] [(.int (1 : Int32))])) _
      refine XS.istore h hx rfl (hb hby at_247) rfl (l' := #[.val (.long p0), .second, .val (.long p1), .second, .val (.int p2), .val (.int n), .val (.int a0), .val (.int a1), .val (.int a2), .val (.int a3), .val (.int b0), .val (.int b1), .val (.int b2), .val (.int b3), .val (.ref ax), .val (.ref ay), .val (.int le), .val (.int (1 : Int32)), .unset]) rfl ?_
      exact hr
    · have ev : own_lt lt a1 b1 = (0 : Int32) := by simp [own_lt, h1, h2]
      rw [ev] at hr
      show Steps p.tables e below (T.setTop (mkF m 230 #[.val (.long p0), .second, .val (.long p1), .second, .val (.int p2), .val (.int n), .val (.int a0), .val (.int a1), .val (.int a2), .val (.int a3), .val (.int b0), .val (.int b1), .val (.int b2), .val (.int b3), .val (.ref ax), .val (.ref ay), .val (.int le), .val (.int lt), .unset] [])) _
      refine XS.iload h hx rfl (hb hby at_230) rfl ?_
      show Steps p.tables e below (T.setTop (mkF m 232 #[.val (.long p0), .second, .val (.long p1), .second, .val (.int p2), .val (.int n), .val (.int a0), .val (.int a1), .val (.int a2), .val (.int a3), .val (.int b0), .val (.int b1), .val (.int b2), .val (.int b3), .val (.ref ax), .val (.ref ay), .val (.int le), .val (.int lt), .unset] [(.int lt)])) _
      refine XS.ifNo h hx rfl (hb hby at_232) rfl ((if0 _ _).trans (teq h1).2) ?_
      show Steps p.tables e below (T.setTop (mkF m 235 #[.val (.long p0), .second, .val (.long p1), .second, .val (.int p2), .val (.int n), .val (.int a0), .val (.int a1), .val (.int a2), .val (.int a3), .val (.int b0), .val (.int b1), .val (.int b2), .val (.int b3), .val (.ref ax), .val (.ref ay), .val (.int le), .val (.int lt), .unset] [])) _
      refine XS.iload h hx rfl (hb hby at_235) rfl ?_
      show Steps p.tables e below (T.setTop (mkF m 237 #[.val (.long p0), .second, .val (.long p1), .second, .val (.int p2), .val (.int n), .val (.int a0), .val (.int a1), .val (.int a2), .val (.int a3), .val (.int b0), .val (.int b1), .val (.int b2), .val (.int b3), .val (.ref ax), .val (.ref ay), .val (.int le), .val (.int lt), .unset] [(.int a1)])) _
      refine XS.iload h hx rfl (hb hby at_237) rfl ?_
      show Steps p.tables e below (T.setTop (mkF m 239 #[.val (.long p0), .second, .val (.long p1), .second, .val (.int p2), .val (.int n), .val (.int a0), .val (.int a1), .val (.int a2), .val (.int a3), .val (.int b0), .val (.int b1), .val (.int b2), .val (.int b3), .val (.ref ax), .val (.ref ay), .val (.int le), .val (.int lt), .unset] [(.int b1), (.int a1)])) _
      refine XS.icmpYes h hx rfl (pc0 := 239) (pc' := 246) rfl (hb hby at_239) rfl (flt h2).2.1 (by decide) (by decide) ?_
      show Steps p.tables e below (T.setTop (mkF m 246 #[.val (.long p0), .second, .val (.long p1), .second, .val (.int p2), .val (.int n), .val (.int a0), .val (.int a1), .val (.int a2), .val (.int a3), .val (.int b0), .val (.int b1), .val (.int b2), .val (.int b3), .val (.ref ax), .val (.ref ay), .val (.int le), .val (.int lt), .unset] [])) _
      refine XS.iconst h hx rfl (hb hby at_246) ?_
      show Steps p.tables e below (T.setTop (mkF m 247 #[.val (.long p0), .second, .val (.long p1), .second, .val (.int p2), .val (.int n), .val (.int a0), .val (.int a1), .val (.int a2), .val (.int a3), .val (.int b0), .val (.int b1), .val (.int b2), .val (.int b3), .val (.ref ax), .val (.ref ay), .val (.int le), .val (.int lt), .unset] [(.int (0 : Int32))])) _
      refine XS.istore h hx rfl (hb hby at_247) rfl (l' := #[.val (.long p0), .second, .val (.long p1), .second, .val (.int p2), .val (.int n), .val (.int a0), .val (.int a1), .val (.int a2), .val (.int a3), .val (.int b0), .val (.int b1), .val (.int b2), .val (.int b3), .val (.ref ax), .val (.ref ay), .val (.int le), .val (.int (0 : Int32)), .unset]) rfl ?_
      exact hr
  · have ev : own_lt lt a1 b1 = (1 : Int32) := by simp [own_lt, h1]
    rw [ev] at hr
    show Steps p.tables e below (T.setTop (mkF m 230 #[.val (.long p0), .second, .val (.long p1), .second, .val (.int p2), .val (.int n), .val (.int a0), .val (.int a1), .val (.int a2), .val (.int a3), .val (.int b0), .val (.int b1), .val (.int b2), .val (.int b3), .val (.ref ax), .val (.ref ay), .val (.int le), .val (.int lt), .unset] [])) _
    refine XS.iload h hx rfl (hb hby at_230) rfl ?_
    show Steps p.tables e below (T.setTop (mkF m 232 #[.val (.long p0), .second, .val (.long p1), .second, .val (.int p2), .val (.int n), .val (.int a0), .val (.int a1), .val (.int a2), .val (.int a3), .val (.int b0), .val (.int b1), .val (.int b2), .val (.int b3), .val (.ref ax), .val (.ref ay), .val (.int le), .val (.int lt), .unset] [(.int lt)])) _
    refine XS.ifYes h hx rfl (pc0 := 232) (pc' := 242) rfl (hb hby at_232) rfl ((if0 _ _).trans (feq h1).2) (by decide) (by decide) ?_
    show Steps p.tables e below (T.setTop (mkF m 242 #[.val (.long p0), .second, .val (.long p1), .second, .val (.int p2), .val (.int n), .val (.int a0), .val (.int a1), .val (.int a2), .val (.int a3), .val (.int b0), .val (.int b1), .val (.int b2), .val (.int b3), .val (.ref ax), .val (.ref ay), .val (.int le), .val (.int lt), .unset] [])) _
    refine XS.iconst h hx rfl (hb hby at_242) ?_
    show Steps p.tables e below (T.setTop (mkF m 243 #[.val (.long p0), .second, .val (.long p1), .second, .val (.int p2), .val (.int n), .val (.int a0), .val (.int a1), .val (.int a2), .val (.int a3), .val (.int b0), .val (.int b1), .val (.int b2), .val (.int b3), .val (.ref ax), .val (.ref ay), .val (.int le), .val (.int lt), .unset] [(.int (1 : Int32))])) _
    refine XS.goto h hx rfl (pc0 := 243) (pc' := 247) rfl (hb hby at_243) (by decide) (by decide) ?_
    show Steps p.tables e below (T.setTop (mkF m 247 #[.val (.long p0), .second, .val (.long p1), .second, .val (.int p2), .val (.int n), .val (.int a0), .val (.int a1), .val (.int a2), .val (.int a3), .val (.int b0), .val (.int b1), .val (.int b2), .val (.int b3), .val (.ref ax), .val (.ref ay), .val (.int le), .val (.int lt), .unset] [(.int (1 : Int32))])) _
    refine XS.istore h hx rfl (hb hby at_247) rfl (l' := #[.val (.long p0), .second, .val (.long p1), .second, .val (.int p2), .val (.int n), .val (.int a0), .val (.int a1), .val (.int a2), .val (.int a3), .val (.int b0), .val (.int b1), .val (.int b2), .val (.int b3), .val (.ref ax), .val (.ref ay), .val (.int le), .val (.int (1 : Int32)), .unset]) rfl ?_
    exact hr
set_option maxRecDepth 65536 in
set_option maxHeartbeats 4000000 in
theorem own_bLe2 {p : Program} {e : Env} {below : List Frame} {m : MethodId} {c : Code} {T t : State} (h : At T m c below) (hx : p.tables.exec = Jvm.exec) (hby : c.code = code) (p0 p1 : Int64) (p2 n a0 a1 a2 a3 b0 b1 b2 b3 le lt : Int32) (ax ay : Addr) (hr : Steps p.tables e below (T.setTop (mkF m 274 #[.val (.long p0), .second, .val (.long p1), .second, .val (.int p2), .val (.int n), .val (.int a0), .val (.int a1), .val (.int a2), .val (.int a3), .val (.int b0), .val (.int b1), .val (.int b2), .val (.int b3), .val (.ref ax), .val (.ref ay), .val (.int (own_le le a2 b2)), .val (.int lt), .unset] [])) t) : Steps p.tables e below (T.setTop (mkF m 255 #[.val (.long p0), .second, .val (.long p1), .second, .val (.int p2), .val (.int n), .val (.int a0), .val (.int a1), .val (.int a2), .val (.int a3), .val (.int b0), .val (.int b1), .val (.int b2), .val (.int b3), .val (.ref ax), .val (.ref ay), .val (.int le), .val (.int lt), .unset] [])) t := by
  by_cases h1 : le = 0
  · have ev : own_le le a2 b2 = (0 : Int32) := by simp [own_le, h1]
    rw [ev] at hr
    show Steps p.tables e below (T.setTop (mkF m 255 #[.val (.long p0), .second, .val (.long p1), .second, .val (.int p2), .val (.int n), .val (.int a0), .val (.int a1), .val (.int a2), .val (.int a3), .val (.int b0), .val (.int b1), .val (.int b2), .val (.int b3), .val (.ref ax), .val (.ref ay), .val (.int le), .val (.int lt), .unset] [])) _
    refine XS.iload h hx rfl (hb hby at_255) rfl ?_
    show Steps p.tables e below (T.setTop (mkF m 257 #[.val (.long p0), .second, .val (.long p1), .second, .val (.int p2), .val (.int n), .val (.int a0), .val (.int a1), .val (.int a2), .val (.int a3), .val (.int b0), .val (.int b1), .val (.int b2), .val (.int b3), .val (.ref ax), .val (.ref ay), .val (.int le), .val (.int lt), .unset] [(.int le)])) _
    refine XS.ifYes h hx rfl (pc0 := 257) (pc' := 271) rfl (hb hby at_257) rfl ((if0 _ _).trans (teq h1).1) (by decide) (by decide) ?_
    show Steps p.tables e below (T.setTop (mkF m 271 #[.val (.long p0), .second, .val (.long p1), .second, .val (.int p2), .val (.int n), .val (.int a0), .val (.int a1), .val (.int a2), .val (.int a3), .val (.int b0), .val (.int b1), .val (.int b2), .val (.int b3), .val (.ref ax), .val (.ref ay), .val (.int le), .val (.int lt), .unset] [])) _
    refine XS.iconst h hx rfl (hb hby at_271) ?_
    show Steps p.tables e below (T.setTop (mkF m 272 #[.val (.long p0), .second, .val (.long p1), .second, .val (.int p2), .val (.int n), .val (.int a0), .val (.int a1), .val (.int a2), .val (.int a3), .val (.int b0), .val (.int b1), .val (.int b2), .val (.int b3), .val (.ref ax), .val (.ref ay), .val (.int le), .val (.int lt), .unset] [(.int (0 : Int32))])) _
    refine XS.istore h hx rfl (hb hby at_272) rfl (l' := #[.val (.long p0), .second, .val (.long p1), .second, .val (.int p2), .val (.int n), .val (.int a0), .val (.int a1), .val (.int a2), .val (.int a3), .val (.int b0), .val (.int b1), .val (.int b2), .val (.int b3), .val (.ref ax), .val (.ref ay), .val (.int (0 : Int32)), .val (.int lt), .unset]) rfl ?_
    exact hr
  · by_cases h2 : b2 < a2
    · have ev : own_le le a2 b2 = (0 : Int32) := by simp [own_le, h1, h2]
      rw [ev] at hr
      show Steps p.tables e below (T.setTop (mkF m 255 #[.val (.long p0), .second, .val (.long p1), .second, .val (.int p2), .val (.int n), .val (.int a0), .val (.int a1), .val (.int a2), .val (.int a3), .val (.int b0), .val (.int b1), .val (.int b2), .val (.int b3), .val (.ref ax), .val (.ref ay), .val (.int le), .val (.int lt), .unset] [])) _
      refine XS.iload h hx rfl (hb hby at_255) rfl ?_
      show Steps p.tables e below (T.setTop (mkF m 257 #[.val (.long p0), .second, .val (.long p1), .second, .val (.int p2), .val (.int n), .val (.int a0), .val (.int a1), .val (.int a2), .val (.int a3), .val (.int b0), .val (.int b1), .val (.int b2), .val (.int b3), .val (.ref ax), .val (.ref ay), .val (.int le), .val (.int lt), .unset] [(.int le)])) _
      refine XS.ifNo h hx rfl (hb hby at_257) rfl ((if0 _ _).trans (feq h1).1) ?_
      show Steps p.tables e below (T.setTop (mkF m 260 #[.val (.long p0), .second, .val (.long p1), .second, .val (.int p2), .val (.int n), .val (.int a0), .val (.int a1), .val (.int a2), .val (.int a3), .val (.int b0), .val (.int b1), .val (.int b2), .val (.int b3), .val (.ref ax), .val (.ref ay), .val (.int le), .val (.int lt), .unset] [])) _
      refine XS.iload h hx rfl (hb hby at_260) rfl ?_
      show Steps p.tables e below (T.setTop (mkF m 262 #[.val (.long p0), .second, .val (.long p1), .second, .val (.int p2), .val (.int n), .val (.int a0), .val (.int a1), .val (.int a2), .val (.int a3), .val (.int b0), .val (.int b1), .val (.int b2), .val (.int b3), .val (.ref ax), .val (.ref ay), .val (.int le), .val (.int lt), .unset] [(.int a2)])) _
      refine XS.iload h hx rfl (hb hby at_262) rfl ?_
      show Steps p.tables e below (T.setTop (mkF m 264 #[.val (.long p0), .second, .val (.long p1), .second, .val (.int p2), .val (.int n), .val (.int a0), .val (.int a1), .val (.int a2), .val (.int a3), .val (.int b0), .val (.int b1), .val (.int b2), .val (.int b3), .val (.ref ax), .val (.ref ay), .val (.int le), .val (.int lt), .unset] [(.int b2), (.int a2)])) _
      refine XS.icmpYes h hx rfl (pc0 := 264) (pc' := 271) rfl (hb hby at_264) rfl (tlt h2).2.2.1 (by decide) (by decide) ?_
      show Steps p.tables e below (T.setTop (mkF m 271 #[.val (.long p0), .second, .val (.long p1), .second, .val (.int p2), .val (.int n), .val (.int a0), .val (.int a1), .val (.int a2), .val (.int a3), .val (.int b0), .val (.int b1), .val (.int b2), .val (.int b3), .val (.ref ax), .val (.ref ay), .val (.int le), .val (.int lt), .unset] [])) _
      refine XS.iconst h hx rfl (hb hby at_271) ?_
      show Steps p.tables e below (T.setTop (mkF m 272 #[.val (.long p0), .second, .val (.long p1), .second, .val (.int p2), .val (.int n), .val (.int a0), .val (.int a1), .val (.int a2), .val (.int a3), .val (.int b0), .val (.int b1), .val (.int b2), .val (.int b3), .val (.ref ax), .val (.ref ay), .val (.int le), .val (.int lt), .unset] [(.int (0 : Int32))])) _
      refine XS.istore h hx rfl (hb hby at_272) rfl (l' := #[.val (.long p0), .second, .val (.long p1), .second, .val (.int p2), .val (.int n), .val (.int a0), .val (.int a1), .val (.int a2), .val (.int a3), .val (.int b0), .val (.int b1), .val (.int b2), .val (.int b3), .val (.ref ax), .val (.ref ay), .val (.int (0 : Int32)), .val (.int lt), .unset]) rfl ?_
      exact hr
    · have ev : own_le le a2 b2 = (1 : Int32) := by simp [own_le, h1, h2]
      rw [ev] at hr
      show Steps p.tables e below (T.setTop (mkF m 255 #[.val (.long p0), .second, .val (.long p1), .second, .val (.int p2), .val (.int n), .val (.int a0), .val (.int a1), .val (.int a2), .val (.int a3), .val (.int b0), .val (.int b1), .val (.int b2), .val (.int b3), .val (.ref ax), .val (.ref ay), .val (.int le), .val (.int lt), .unset] [])) _
      refine XS.iload h hx rfl (hb hby at_255) rfl ?_
      show Steps p.tables e below (T.setTop (mkF m 257 #[.val (.long p0), .second, .val (.long p1), .second, .val (.int p2), .val (.int n), .val (.int a0), .val (.int a1), .val (.int a2), .val (.int a3), .val (.int b0), .val (.int b1), .val (.int b2), .val (.int b3), .val (.ref ax), .val (.ref ay), .val (.int le), .val (.int lt), .unset] [(.int le)])) _
      refine XS.ifNo h hx rfl (hb hby at_257) rfl ((if0 _ _).trans (feq h1).1) ?_
      show Steps p.tables e below (T.setTop (mkF m 260 #[.val (.long p0), .second, .val (.long p1), .second, .val (.int p2), .val (.int n), .val (.int a0), .val (.int a1), .val (.int a2), .val (.int a3), .val (.int b0), .val (.int b1), .val (.int b2), .val (.int b3), .val (.ref ax), .val (.ref ay), .val (.int le), .val (.int lt), .unset] [])) _
      refine XS.iload h hx rfl (hb hby at_260) rfl ?_
      show Steps p.tables e below (T.setTop (mkF m 262 #[.val (.long p0), .second, .val (.long p1), .second, .val (.int p2), .val (.int n), .val (.int a0), .val (.int a1), .val (.int a2), .val (.int a3), .val (.int b0), .val (.int b1), .val (.int b2), .val (.int b3), .val (.ref ax), .val (.ref ay), .val (.int le), .val (.int lt), .unset] [(.int a2)])) _
      refine XS.iload h hx rfl (hb hby at_262) rfl ?_
      show Steps p.tables e below (T.setTop (mkF m 264 #[.val (.long p0), .second, .val (.long p1), .second, .val (.int p2), .val (.int n), .val (.int a0), .val (.int a1), .val (.int a2), .val (.int a3), .val (.int b0), .val (.int b1), .val (.int b2), .val (.int b3), .val (.ref ax), .val (.ref ay), .val (.int le), .val (.int lt), .unset] [(.int b2), (.int a2)])) _
      refine XS.icmpNo h hx rfl (hb hby at_264) rfl (flt h2).2.2.1 ?_
      show Steps p.tables e below (T.setTop (mkF m 267 #[.val (.long p0), .second, .val (.long p1), .second, .val (.int p2), .val (.int n), .val (.int a0), .val (.int a1), .val (.int a2), .val (.int a3), .val (.int b0), .val (.int b1), .val (.int b2), .val (.int b3), .val (.ref ax), .val (.ref ay), .val (.int le), .val (.int lt), .unset] [])) _
      refine XS.iconst h hx rfl (hb hby at_267) ?_
      show Steps p.tables e below (T.setTop (mkF m 268 #[.val (.long p0), .second, .val (.long p1), .second, .val (.int p2), .val (.int n), .val (.int a0), .val (.int a1), .val (.int a2), .val (.int a3), .val (.int b0), .val (.int b1), .val (.int b2), .val (.int b3), .val (.ref ax), .val (.ref ay), .val (.int le), .val (.int lt), .unset] [(.int (1 : Int32))])) _
      refine XS.goto h hx rfl (pc0 := 268) (pc' := 272) rfl (hb hby at_268) (by decide) (by decide) ?_
      show Steps p.tables e below (T.setTop (mkF m 272 #[.val (.long p0), .second, .val (.long p1), .second, .val (.int p2), .val (.int n), .val (.int a0), .val (.int a1), .val (.int a2), .val (.int a3), .val (.int b0), .val (.int b1), .val (.int b2), .val (.int b3), .val (.ref ax), .val (.ref ay), .val (.int le), .val (.int lt), .unset] [(.int (1 : Int32))])) _
      refine XS.istore h hx rfl (hb hby at_272) rfl (l' := #[.val (.long p0), .second, .val (.long p1), .second, .val (.int p2), .val (.int n), .val (.int a0), .val (.int a1), .val (.int a2), .val (.int a3), .val (.int b0), .val (.int b1), .val (.int b2), .val (.int b3), .val (.ref ax), .val (.ref ay), .val (.int (1 : Int32)), .val (.int lt), .unset]) rfl ?_
      exact hr
set_option maxRecDepth 65536 in
set_option maxHeartbeats 4000000 in
theorem own_bLt2 {p : Program} {e : Env} {below : List Frame} {m : MethodId} {c : Code} {T t : State} (h : At T m c below) (hx : p.tables.exec = Jvm.exec) (hby : c.code = code) (p0 p1 : Int64) (p2 n a0 a1 a2 a3 b0 b1 b2 b3 le lt : Int32) (ax ay : Addr) (hr : Steps p.tables e below (T.setTop (mkF m 293 #[.val (.long p0), .second, .val (.long p1), .second, .val (.int p2), .val (.int n), .val (.int a0), .val (.int a1), .val (.int a2), .val (.int a3), .val (.int b0), .val (.int b1), .val (.int b2), .val (.int b3), .val (.ref ax), .val (.ref ay), .val (.int le), .val (.int (own_lt lt a2 b2)), .unset] [])) t) : Steps p.tables e below (T.setTop (mkF m 274 #[.val (.long p0), .second, .val (.long p1), .second, .val (.int p2), .val (.int n), .val (.int a0), .val (.int a1), .val (.int a2), .val (.int a3), .val (.int b0), .val (.int b1), .val (.int b2), .val (.int b3), .val (.ref ax), .val (.ref ay), .val (.int le), .val (.int lt), .unset] [])) t := by
  by_cases h1 : lt = 0
  · by_cases h2 : a2 < b2
    · have ev : own_lt lt a2 b2 = (1 : Int32) := by simp [own_lt, h1, h2]
      rw [ev] at hr
      show Steps p.tables e below (T.setTop (mkF m 274 #[.val (.long p0), .second, .val (.long p1), .second, .val (.int p2), .val (.int n), .val (.int a0), .val (.int a1), .val (.int a2), .val (.int a3), .val (.int b0), .val (.int b1), .val (.int b2), .val (.int b3), .val (.ref ax), .val (.ref ay), .val (.int le), .val (.int lt), .unset] [])) _
      refine XS.iload h hx rfl (hb hby at_274) rfl ?_
      show Steps p.tables e below (T.setTop (mkF m 276 #[.val (.long p0), .second, .val (.long p1), .second, .val (.int p2), .val (.int n), .val (.int a0), .val (.int a1), .val (.int a2), .val (.int a3), .val (.int b0), .val (.int b1), .val (.int b2), .val (.int b3), .val (.ref ax), .val (.ref ay), .val (.int le), .val (.int lt), .unset] [(.int lt)])) _
      refine XS.ifNo h hx rfl (hb hby at_276) rfl ((if0 _ _).trans (teq h1).2) ?_
      show Steps p.tables e below (T.setTop (mkF m 279 #[.val (.long p0), .second, .val (.long p1), .second, .val (.int p2), .val (.int n), .val (.int a0), .val (.int a1), .val (.int a2), .val (.int a3), .val (.int b0), .val (.int b1), .val (.int b2), .val (.int b3), .val (.ref ax), .val (.ref ay), .val (.int le), .val (.int lt), .unset] [])) _
      refine XS.iload h hx rfl (hb hby at_279) rfl ?_
      show Steps p.tables e below (T.setTop (mkF m 281 #[.val (.long p0), .second, .val (.long p1), .second, .val (.int p2), .val (.int n), .val (.int a0), .val (.int a1), .val (.int a2), .val (.int a3), .val (.int b0), .val (.int b1), .val (.int b2), .val (.int b3), .val (.ref ax), .val (.ref ay), .val (.int le), .val (.int lt), .unset] [(.int a2)])) _
      refine XS.iload h hx rfl (hb hby at_281) rfl ?_
      show Steps p.tables e below (T.setTop (mkF m 283 #[.val (.long p0), .second, .val (.long p1), .second, .val (.int p2), .val (.int n), .val (.int a0), .val (.int a1), .val (.int a2), .val (.int a3), .val (.int b0), .val (.int b1), .val (.int b2), .val (.int b3), .val (.ref ax), .val (.ref ay), .val (.int le), .val (.int lt), .unset] [(.int b2), (.int a2)])) _
      refine XS.icmpNo h hx rfl (hb hby at_283) rfl (tlt h2).2.1 ?_
      show Steps p.tables e below (T.setTop (mkF m 286 #[.val (.long p0), .second, .val (.long p1), .second, .val (.int p2), .val (.int n), .val (.int a0), .val (.int a1), .val (.int a2), .val (.int a3), .val (.int b0), .val (.int b1), .val (.int b2), .val (.int b3), .val (.ref ax), .val (.ref ay), .val (.int le), .val (.int lt), .unset] [])) _
      refine XS.iconst h hx rfl (hb hby at_286) ?_
      show Steps p.tables e below (T.setTop (mkF m 287 #[.val (.long p0), .second, .val (.long p1), .second, .val (.int p2), .val (.int n), .val (.int a0), .val (.int a1), .val (.int a2), .val (.int a3), .val (.int b0), .val (.int b1), .val (.int b2), .val (.int b3), .val (.ref ax), .val (.ref ay), .val (.int le), .val (.int lt), .unset] [(.int (1 : Int32))])) _
      refine XS.goto h hx rfl (pc0 := 287) (pc' := 291) rfl (hb hby at_287) (by decide) (by decide) ?_
      show Steps p.tables e below (T.setTop (mkF m 291 #[.val (.long p0), .second, .val (.long p1), .second, .val (.int p2), .val (.int n), .val (.int a0), .val (.int a1), .val (.int a2), .val (.int a3), .val (.int b0), .val (.int b1), .val (.int b2), .val (.int b3), .val (.ref ax), .val (.ref ay), .val (.int le), .val (.int lt), .unset] [(.int (1 : Int32))])) _
      refine XS.istore h hx rfl (hb hby at_291) rfl (l' := #[.val (.long p0), .second, .val (.long p1), .second, .val (.int p2), .val (.int n), .val (.int a0), .val (.int a1), .val (.int a2), .val (.int a3), .val (.int b0), .val (.int b1), .val (.int b2), .val (.int b3), .val (.ref ax), .val (.ref ay), .val (.int le), .val (.int (1 : Int32)), .unset]) rfl ?_
      exact hr
    · have ev : own_lt lt a2 b2 = (0 : Int32) := by simp [own_lt, h1, h2]
      rw [ev] at hr
      show Steps p.tables e below (T.setTop (mkF m 274 #[.val (.long p0), .second, .val (.long p1), .second, .val (.int p2), .val (.int n), .val (.int a0), .val (.int a1), .val (.int a2), .val (.int a3), .val (.int b0), .val (.int b1), .val (.int b2), .val (.int b3), .val (.ref ax), .val (.ref ay), .val (.int le), .val (.int lt), .unset] [])) _
      refine XS.iload h hx rfl (hb hby at_274) rfl ?_
      show Steps p.tables e below (T.setTop (mkF m 276 #[.val (.long p0), .second, .val (.long p1), .second, .val (.int p2), .val (.int n), .val (.int a0), .val (.int a1), .val (.int a2), .val (.int a3), .val (.int b0), .val (.int b1), .val (.int b2), .val (.int b3), .val (.ref ax), .val (.ref ay), .val (.int le), .val (.int lt), .unset] [(.int lt)])) _
      refine XS.ifNo h hx rfl (hb hby at_276) rfl ((if0 _ _).trans (teq h1).2) ?_
      show Steps p.tables e below (T.setTop (mkF m 279 #[.val (.long p0), .second, .val (.long p1), .second, .val (.int p2), .val (.int n), .val (.int a0), .val (.int a1), .val (.int a2), .val (.int a3), .val (.int b0), .val (.int b1), .val (.int b2), .val (.int b3), .val (.ref ax), .val (.ref ay), .val (.int le), .val (.int lt), .unset] [])) _
      refine XS.iload h hx rfl (hb hby at_279) rfl ?_
      show Steps p.tables e below (T.setTop (mkF m 281 #[.val (.long p0), .second, .val (.long p1), .second, .val (.int p2), .val (.int n), .val (.int a0), .val (.int a1), .val (.int a2), .val (.int a3), .val (.int b0), .val (.int b1), .val (.int b2), .val (.int b3), .val (.ref ax), .val (.ref ay), .val (.int le), .val (.int lt), .unset] [(.int a2)])) _
      refine XS.iload h hx rfl (hb hby at_281) rfl ?_
      show Steps p.tables e below (T.setTop (mkF m 283 #[.val (.long p0), .second, .val (.long p1), .second, .val (.int p2), .val (.int n), .val (.int a0), .val (.int a1), .val (.int a2), .val (.int a3), .val (.int b0), .val (.int b1), .val (.int b2), .val (.int b3), .val (.ref ax), .val (.ref ay), .val (.int le), .val (.int lt), .unset] [(.int b2), (.int a2)])) _
      refine XS.icmpYes h hx rfl (pc0 := 283) (pc' := 290) rfl (hb hby at_283) rfl (flt h2).2.1 (by decide) (by decide) ?_
      show Steps p.tables e below (T.setTop (mkF m 290 #[.val (.long p0), .second, .val (.long p1), .second, .val (.int p2), .val (.int n), .val (.int a0), .val (.int a1), .val (.int a2), .val (.int a3), .val (.int b0), .val (.int b1), .val (.int b2), .val (.int b3), .val (.ref ax), .val (.ref ay), .val (.int le), .val (.int lt), .unset] [])) _
      refine XS.iconst h hx rfl (hb hby at_290) ?_
      show Steps p.tables e below (T.setTop (mkF m 291 #[.val (.long p0), .second, .val (.long p1), .second, .val (.int p2), .val (.int n), .val (.int a0), .val (.int a1), .val (.int a2), .val (.int a3), .val (.int b0), .val (.int b1), .val (.int b2), .val (.int b3), .val (.ref ax), .val (.ref ay), .val (.int le), .val (.int lt), .unset] [(.int (0 : Int32))])) _
      refine XS.istore h hx rfl (hb hby at_291) rfl (l' := #[.val (.long p0), .second, .val (.long p1), .second, .val (.int p2), .val (.int n), .val (.int a0), .val (.int a1), .val (.int a2), .val (.int a3), .val (.int b0), .val (.int b1), .val (.int b2), .val (.int b3), .val (.ref ax), .val (.ref ay), .val (.int le), .val (.int (0 : Int32)), .unset]) rfl ?_
      exact hr
  · have ev : own_lt lt a2 b2 = (1 : Int32) := by simp [own_lt, h1]
    rw [ev] at hr
    show Steps p.tables e below (T.setTop (mkF m 274 #[.val (.long p0), .second, .val (.long p1), .second, .val (.int p2), .val (.int n), .val (.int a0), .val (.int a1), .val (.int a2), .val (.int a3), .val (.int b0), .val (.int b1), .val (.int b2), .val (.int b3), .val (.ref ax), .val (.ref ay), .val (.int le), .val (.int lt), .unset] [])) _
    refine XS.iload h hx rfl (hb hby at_274) rfl ?_
    show Steps p.tables e below (T.setTop (mkF m 276 #[.val (.long p0), .second, .val (.long p1), .second, .val (.int p2), .val (.int n), .val (.int a0), .val (.int a1), .val (.int a2), .val (.int a3), .val (.int b0), .val (.int b1), .val (.int b2), .val (.int b3), .val (.ref ax), .val (.ref ay), .val (.int le), .val (.int lt), .unset] [(.int lt)])) _
    refine XS.ifYes h hx rfl (pc0 := 276) (pc' := 286) rfl (hb hby at_276) rfl ((if0 _ _).trans (feq h1).2) (by decide) (by decide) ?_
    show Steps p.tables e below (T.setTop (mkF m 286 #[.val (.long p0), .second, .val (.long p1), .second, .val (.int p2), .val (.int n), .val (.int a0), .val (.int a1), .val (.int a2), .val (.int a3), .val (.int b0), .val (.int b1), .val (.int b2), .val (.int b3), .val (.ref ax), .val (.ref ay), .val (.int le), .val (.int lt), .unset] [])) _
    refine XS.iconst h hx rfl (hb hby at_286) ?_
    show Steps p.tables e below (T.setTop (mkF m 287 #[.val (.long p0), .second, .val (.long p1), .second, .val (.int p2), .val (.int n), .val (.int a0), .val (.int a1), .val (.int a2), .val (.int a3), .val (.int b0), .val (.int b1), .val (.int b2), .val (.int b3), .val (.ref ax), .val (.ref ay), .val (.int le), .val (.int lt), .unset] [(.int (1 : Int32))])) _
    refine XS.goto h hx rfl (pc0 := 287) (pc' := 291) rfl (hb hby at_287) (by decide) (by decide) ?_
    show Steps p.tables e below (T.setTop (mkF m 291 #[.val (.long p0), .second, .val (.long p1), .second, .val (.int p2), .val (.int n), .val (.int a0), .val (.int a1), .val (.int a2), .val (.int a3), .val (.int b0), .val (.int b1), .val (.int b2), .val (.int b3), .val (.ref ax), .val (.ref ay), .val (.int le), .val (.int lt), .unset] [(.int (1 : Int32))])) _
    refine XS.istore h hx rfl (hb hby at_291) rfl (l' := #[.val (.long p0), .second, .val (.long p1), .second, .val (.int p2), .val (.int n), .val (.int a0), .val (.int a1), .val (.int a2), .val (.int a3), .val (.int b0), .val (.int b1), .val (.int b2), .val (.int b3), .val (.ref ax), .val (.ref ay), .val (.int le), .val (.int (1 : Int32)), .unset]) rfl ?_
    exact hr
set_option maxRecDepth 65536 in
set_option maxHeartbeats 4000000 in
theorem own_bLe3 {p : Program} {e : Env} {below : List Frame} {m : MethodId} {c : Code} {T t : State} (h : At T m c below) (hx : p.tables.exec = Jvm.exec) (hby : c.code = code) (p0 p1 : Int64) (p2 n a0 a1 a2 a3 b0 b1 b2 b3 le lt : Int32) (ax ay : Addr) (hr : Steps p.tables e below (T.setTop (mkF m 318 #[.val (.long p0), .second, .val (.long p1), .second, .val (.int p2), .val (.int n), .val (.int a0), .val (.int a1), .val (.int a2), .val (.int a3), .val (.int b0), .val (.int b1), .val (.int b2), .val (.int b3), .val (.ref ax), .val (.ref ay), .val (.int (own_le le a3 b3)), .val (.int lt), .unset] [])) t) : Steps p.tables e below (T.setTop (mkF m 299 #[.val (.long p0), .second, .val (.long p1), .second, .val (.int p2), .val (.int n), .val (.int a0), .val (.int a1), .val (.int a2), .val (.int a3), .val (.int b0), .val (.int b1), .val (.int b2), .val (.int b3), .val (.ref ax), .val (.ref ay), .val (.int le), .val (.int lt), .unset] [])) t := by
  by_cases h1 : le = 0
  · have ev : own_le le a3 b3 = (0 : Int32) := by simp [own_le, h1]
    rw [ev] at hr
    show Steps p.tables e below (T.setTop (mkF m 299 #[.val (.long p0), .second, .val (.long p1), .second, .val (.int p2), .val (.int n), .val (.int a0), .val (.int a1), .val (.int a2), .val (.int a3), .val (.int b0), .val (.int b1), .val (.int b2), .val (.int b3), .val (.ref ax), .val (.ref ay), .val (.int le), .val (.int lt), .unset] [])) _
    refine XS.iload h hx rfl (hb hby at_299) rfl ?_
    show Steps p.tables e below (T.setTop (mkF m 301 #[.val (.long p0), .second, .val (.long p1), .second, .val (.int p2), .val (.int n), .val (.int a0), .val (.int a1), .val (.int a2), .val (.int a3), .val (.int b0), .val (.int b1), .val (.int b2), .val (.int b3), .val (.ref ax), .val (.ref ay), .val (.int le), .val (.int lt), .unset] [(.int le)])) _
    refine XS.ifYes h hx rfl (pc0 := 301) (pc' := 315) rfl (hb hby at_301) rfl ((if0 _ _).trans (teq h1).1) (by decide) (by decide) ?_
    show Steps p.tables e below (T.setTop (mkF m 315 #[.val (.long p0), .second, .val (.long p1), .second, .val (.int p2), .val (.int n), .val (.int a0), .val (.int a1), .val (.int a2), .val (.int a3), .val (.int b0), .val (.int b1), .val (.int b2), .val (.int b3), .val (.ref ax), .val (.ref ay), .val (.int le), .val (.int lt), .unset] [])) _
    refine XS.iconst h hx rfl (hb hby at_315) ?_
    show Steps p.tables e below (T.setTop (mkF m 316 #[.val (.long p0), .second, .val (.long p1), .second, .val (.int p2), .val (.int n), .val (.int a0), .val (.int a1), .val (.int a2), .val (.int a3), .val (.int b0), .val (.int b1), .val (.int b2), .val (.int b3), .val (.ref ax), .val (.ref ay), .val (.int le), .val (.int lt), .unset] [(.int (0 : Int32))])) _
    refine XS.istore h hx rfl (hb hby at_316) rfl (l' := #[.val (.long p0), .second, .val (.long p1), .second, .val (.int p2), .val (.int n), .val (.int a0), .val (.int a1), .val (.int a2), .val (.int a3), .val (.int b0), .val (.int b1), .val (.int b2), .val (.int b3), .val (.ref ax), .val (.ref ay), .val (.int (0 : Int32)), .val (.int lt), .unset]) rfl ?_
    exact hr
  · by_cases h2 : b3 < a3
    · have ev : own_le le a3 b3 = (0 : Int32) := by simp [own_le, h1, h2]
      rw [ev] at hr
      show Steps p.tables e below (T.setTop (mkF m 299 #[.val (.long p0), .second, .val (.long p1), .second, .val (.int p2), .val (.int n), .val (.int a0), .val (.int a1), .val (.int a2), .val (.int a3), .val (.int b0), .val (.int b1), .val (.int b2), .val (.int b3), .val (.ref ax), .val (.ref ay), .val (.int le), .val (.int lt), .unset] [])) _
      refine XS.iload h hx rfl (hb hby at_299) rfl ?_
      show Steps p.tables e below (T.setTop (mkF m 301 #[.val (.long p0), .second, .val (.long p1), .second, .val (.int p2), .val (.int n), .val (.int a0), .val (.int a1), .val (.int a2), .val (.int a3), .val (.int b0), .val (.int b1), .val (.int b2), .val (.int b3), .val (.ref ax), .val (.ref ay), .val (.int le), .val (.int lt), .unset] [(.int le)])) _
      refine XS.ifNo h hx rfl (hb hby at_301) rfl ((if0 _ _).trans (feq h1).1) ?_
      show Steps p.tables e below (T.setTop (mkF m 304 #[.val (.long p0), .second, .val (.long p1), .second, .val (.int p2), .val (.int n), .val (.int a0), .val (.int a1), .val (.int a2), .val (.int a3), .val (.int b0), .val (.int b1), .val (.int b2), .val (.int b3), .val (.ref ax), .val (.ref ay), .val (.int le), .val (.int lt), .unset] [])) _
      refine XS.iload h hx rfl (hb hby at_304) rfl ?_
      show Steps p.tables e below (T.setTop (mkF m 306 #[.val (.long p0), .second, .val (.long p1), .second, .val (.int p2), .val (.int n), .val (.int a0), .val (.int a1), .val (.int a2), .val (.int a3), .val (.int b0), .val (.int b1), .val (.int b2), .val (.int b3), .val (.ref ax), .val (.ref ay), .val (.int le), .val (.int lt), .unset] [(.int a3)])) _
      refine XS.iload h hx rfl (hb hby at_306) rfl ?_
      show Steps p.tables e below (T.setTop (mkF m 308 #[.val (.long p0), .second, .val (.long p1), .second, .val (.int p2), .val (.int n), .val (.int a0), .val (.int a1), .val (.int a2), .val (.int a3), .val (.int b0), .val (.int b1), .val (.int b2), .val (.int b3), .val (.ref ax), .val (.ref ay), .val (.int le), .val (.int lt), .unset] [(.int b3), (.int a3)])) _
      refine XS.icmpYes h hx rfl (pc0 := 308) (pc' := 315) rfl (hb hby at_308) rfl (tlt h2).2.2.1 (by decide) (by decide) ?_
      show Steps p.tables e below (T.setTop (mkF m 315 #[.val (.long p0), .second, .val (.long p1), .second, .val (.int p2), .val (.int n), .val (.int a0), .val (.int a1), .val (.int a2), .val (.int a3), .val (.int b0), .val (.int b1), .val (.int b2), .val (.int b3), .val (.ref ax), .val (.ref ay), .val (.int le), .val (.int lt), .unset] [])) _
      refine XS.iconst h hx rfl (hb hby at_315) ?_
      show Steps p.tables e below (T.setTop (mkF m 316 #[.val (.long p0), .second, .val (.long p1), .second, .val (.int p2), .val (.int n), .val (.int a0), .val (.int a1), .val (.int a2), .val (.int a3), .val (.int b0), .val (.int b1), .val (.int b2), .val (.int b3), .val (.ref ax), .val (.ref ay), .val (.int le), .val (.int lt), .unset] [(.int (0 : Int32))])) _
      refine XS.istore h hx rfl (hb hby at_316) rfl (l' := #[.val (.long p0), .second, .val (.long p1), .second, .val (.int p2), .val (.int n), .val (.int a0), .val (.int a1), .val (.int a2), .val (.int a3), .val (.int b0), .val (.int b1), .val (.int b2), .val (.int b3), .val (.ref ax), .val (.ref ay), .val (.int (0 : Int32)), .val (.int lt), .unset]) rfl ?_
      exact hr
    · have ev : own_le le a3 b3 = (1 : Int32) := by simp [own_le, h1, h2]
      rw [ev] at hr
      show Steps p.tables e below (T.setTop (mkF m 299 #[.val (.long p0), .second, .val (.long p1), .second, .val (.int p2), .val (.int n), .val (.int a0), .val (.int a1), .val (.int a2), .val (.int a3), .val (.int b0), .val (.int b1), .val (.int b2), .val (.int b3), .val (.ref ax), .val (.ref ay), .val (.int le), .val (.int lt), .unset] [])) _
      refine XS.iload h hx rfl (hb hby at_299) rfl ?_
      show Steps p.tables e below (T.setTop (mkF m 301 #[.val (.long p0), .second, .val (.long p1), .second, .val (.int p2), .val (.int n), .val (.int a0), .val (.int a1), .val (.int a2), .val (.int a3), .val (.int b0), .val (.int b1), .val (.int b2), .val (.int b3), .val (.ref ax), .val (.ref ay), .val (.int le), .val (.int lt), .unset] [(.int le)])) _
      refine XS.ifNo h hx rfl (hb hby at_301) rfl ((if0 _ _).trans (feq h1).1) ?_
      show Steps p.tables e below (T.setTop (mkF m 304 #[.val (.long p0), .second, .val (.long p1), .second, .val (.int p2), .val (.int n), .val (.int a0), .val (.int a1), .val (.int a2), .val (.int a3), .val (.int b0), .val (.int b1), .val (.int b2), .val (.int b3), .val (.ref ax), .val (.ref ay), .val (.int le), .val (.int lt), .unset] [])) _
      refine XS.iload h hx rfl (hb hby at_304) rfl ?_
      show Steps p.tables e below (T.setTop (mkF m 306 #[.val (.long p0), .second, .val (.long p1), .second, .val (.int p2), .val (.int n), .val (.int a0), .val (.int a1), .val (.int a2), .val (.int a3), .val (.int b0), .val (.int b1), .val (.int b2), .val (.int b3), .val (.ref ax), .val (.ref ay), .val (.int le), .val (.int lt), .unset] [(.int a3)])) _
      refine XS.iload h hx rfl (hb hby at_306) rfl ?_
      show Steps p.tables e below (T.setTop (mkF m 308 #[.val (.long p0), .second, .val (.long p1), .second, .val (.int p2), .val (.int n), .val (.int a0), .val (.int a1), .val (.int a2), .val (.int a3), .val (.int b0), .val (.int b1), .val (.int b2), .val (.int b3), .val (.ref ax), .val (.ref ay), .val (.int le), .val (.int lt), .unset] [(.int b3), (.int a3)])) _
      refine XS.icmpNo h hx rfl (hb hby at_308) rfl (flt h2).2.2.1 ?_
      show Steps p.tables e below (T.setTop (mkF m 311 #[.val (.long p0), .second, .val (.long p1), .second, .val (.int p2), .val (.int n), .val (.int a0), .val (.int a1), .val (.int a2), .val (.int a3), .val (.int b0), .val (.int b1), .val (.int b2), .val (.int b3), .val (.ref ax), .val (.ref ay), .val (.int le), .val (.int lt), .unset] [])) _
      refine XS.iconst h hx rfl (hb hby at_311) ?_
      show Steps p.tables e below (T.setTop (mkF m 312 #[.val (.long p0), .second, .val (.long p1), .second, .val (.int p2), .val (.int n), .val (.int a0), .val (.int a1), .val (.int a2), .val (.int a3), .val (.int b0), .val (.int b1), .val (.int b2), .val (.int b3), .val (.ref ax), .val (.ref ay), .val (.int le), .val (.int lt), .unset] [(.int (1 : Int32))])) _
      refine XS.goto h hx rfl (pc0 := 312) (pc' := 316) rfl (hb hby at_312) (by decide) (by decide) ?_
      show Steps p.tables e below (T.setTop (mkF m 316 #[.val (.long p0), .second, .val (.long p1), .second, .val (.int p2), .val (.int n), .val (.int a0), .val (.int a1), .val (.int a2), .val (.int a3), .val (.int b0), .val (.int b1), .val (.int b2), .val (.int b3), .val (.ref ax), .val (.ref ay), .val (.int le), .val (.int lt), .unset] [(.int (1 : Int32))])) _
      refine XS.istore h hx rfl (hb hby at_316) rfl (l' := #[.val (.long p0), .second, .val (.long p1), .second, .val (.int p2), .val (.int n), .val (.int a0), .val (.int a1), .val (.int a2), .val (.int a3), .val (.int b0), .val (.int b1), .val (.int b2), .val (.int b3), .val (.ref ax), .val (.ref ay), .val (.int (1 : Int32)), .val (.int lt), .unset]) rfl ?_
      exact hr
set_option maxRecDepth 65536 in
set_option maxHeartbeats 4000000 in
theorem own_bLt3 {p : Program} {e : Env} {below : List Frame} {m : MethodId} {c : Code} {T t : State} (h : At T m c below) (hx : p.tables.exec = Jvm.exec) (hby : c.code = code) (p0 p1 : Int64) (p2 n a0 a1 a2 a3 b0 b1 b2 b3 le lt : Int32) (ax ay : Addr) (hr : Steps p.tables e below (T.setTop (mkF m 337 #[.val (.long p0), .second, .val (.long p1), .second, .val (.int p2), .val (.int n), .val (.int a0), .val (.int a1), .val (.int a2), .val (.int a3), .val (.int b0), .val (.int b1), .val (.int b2), .val (.int b3), .val (.ref ax), .val (.ref ay), .val (.int le), .val (.int (own_lt lt a3 b3)), .unset] [])) t) : Steps p.tables e below (T.setTop (mkF m 318 #[.val (.long p0), .second, .val (.long p1), .second, .val (.int p2), .val (.int n), .val (.int a0), .val (.int a1), .val (.int a2), .val (.int a3), .val (.int b0), .val (.int b1), .val (.int b2), .val (.int b3), .val (.ref ax), .val (.ref ay), .val (.int le), .val (.int lt), .unset] [])) t := by
  by_cases h1 : lt = 0
  · by_cases h2 : a3 < b3
    · have ev : own_lt lt a3 b3 = (1 : Int32) := by simp [own_lt, h1, h2]
      rw [ev] at hr
      show Steps p.tables e below (T.setTop (mkF m 318 #[.val (.long p0), .second, .val (.long p1), .second, .val (.int p2), .val (.int n), .val (.int a0), .val (.int a1), .val (.int a2), .val (.int a3), .val (.int b0), .val (.int b1), .val (.int b2), .val (.int b3), .val (.ref ax), .val (.ref ay), .val (.int le), .val (.int lt), .unset] [])) _
      refine XS.iload h hx rfl (hb hby at_318) rfl ?_
      show Steps p.tables e below (T.setTop (mkF m 320 #[.val (.long p0), .second, .val (.long p1), .second, .val (.int p2), .val (.int n), .val (.int a0), .val (.int a1), .val (.int a2), .val (.int a3), .val (.int b0), .val (.int b1), .val (.int b2), .val (.int b3), .val (.ref ax), .val (.ref ay), .val (.int le), .val (.int lt), .unset] [(.int lt)])) _
      refine XS.ifNo h hx rfl (hb hby at_320) rfl ((if0 _ _).trans (teq h1).2) ?_
      show Steps p.tables e below (T.setTop (mkF m 323 #[.val (.long p0), .second, .val (.long p1), .second, .val (.int p2), .val (.int n), .val (.int a0), .val (.int a1), .val (.int a2), .val (.int a3), .val (.int b0), .val (.int b1), .val (.int b2), .val (.int b3), .val (.ref ax), .val (.ref ay), .val (.int le), .val (.int lt), .unset] [])) _
      refine XS.iload h hx rfl (hb hby at_323) rfl ?_
      show Steps p.tables e below (T.setTop (mkF m 325 #[.val (.long p0), .second, .val (.long p1), .second, .val (.int p2), .val (.int n), .val (.int a0), .val (.int a1), .val (.int a2), .val (.int a3), .val (.int b0), .val (.int b1), .val (.int b2), .val (.int b3), .val (.ref ax), .val (.ref ay), .val (.int le), .val (.int lt), .unset] [(.int a3)])) _
      refine XS.iload h hx rfl (hb hby at_325) rfl ?_
      show Steps p.tables e below (T.setTop (mkF m 327 #[.val (.long p0), .second, .val (.long p1), .second, .val (.int p2), .val (.int n), .val (.int a0), .val (.int a1), .val (.int a2), .val (.int a3), .val (.int b0), .val (.int b1), .val (.int b2), .val (.int b3), .val (.ref ax), .val (.ref ay), .val (.int le), .val (.int lt), .unset] [(.int b3), (.int a3)])) _
      refine XS.icmpNo h hx rfl (hb hby at_327) rfl (tlt h2).2.1 ?_
      show Steps p.tables e below (T.setTop (mkF m 330 #[.val (.long p0), .second, .val (.long p1), .second, .val (.int p2), .val (.int n), .val (.int a0), .val (.int a1), .val (.int a2), .val (.int a3), .val (.int b0), .val (.int b1), .val (.int b2), .val (.int b3), .val (.ref ax), .val (.ref ay), .val (.int le), .val (.int lt), .unset] [])) _
      refine XS.iconst h hx rfl (hb hby at_330) ?_
      show Steps p.tables e below (T.setTop (mkF m 331 #[.val (.long p0), .second, .val (.long p1), .second, .val (.int p2), .val (.int n), .val (.int a0), .val (.int a1), .val (.int a2), .val (.int a3), .val (.int b0), .val (.int b1), .val (.int b2), .val (.int b3), .val (.ref ax), .val (.ref ay), .val (.int le), .val (.int lt), .unset] [(.int (1 : Int32))])) _
      refine XS.goto h hx rfl (pc0 := 331) (pc' := 335) rfl (hb hby at_331) (by decide) (by decide) ?_
      show Steps p.tables e below (T.setTop (mkF m 335 #[.val (.long p0), .second, .val (.long p1), .second, .val (.int p2), .val (.int n), .val (.int a0), .val (.int a1), .val (.int a2), .val (.int a3), .val (.int b0), .val (.int b1), .val (.int b2), .val (.int b3), .val (.ref ax), .val (.ref ay), .val (.int le), .val (.int lt), .unset] [(.int (1 : Int32))])) _
      refine XS.istore h hx rfl (hb hby at_335) rfl (l' := #[.val (.long p0), .second, .val (.long p1), .second, .val (.int p2), .val (.int n), .val (.int a0), .val (.int a1), .val (.int a2), .val (.int a3), .val (.int b0), .val (.int b1), .val (.int b2), .val (.int b3), .val (.ref ax), .val (.ref ay), .val (.int le), .val (.int (1 : Int32)), .unset]) rfl ?_
      exact hr
    · have ev : own_lt lt a3 b3 = (0 : Int32) := by simp [own_lt, h1, h2]
      rw [ev] at hr
      show Steps p.tables e below (T.setTop (mkF m 318 #[.val (.long p0), .second, .val (.long p1), .second, .val (.int p2), .val (.int n), .val (.int a0), .val (.int a1), .val (.int a2), .val (.int a3), .val (.int b0), .val (.int b1), .val (.int b2), .val (.int b3), .val (.ref ax), .val (.ref ay), .val (.int le), .val (.int lt), .unset] [])) _
      refine XS.iload h hx rfl (hb hby at_318) rfl ?_
      show Steps p.tables e below (T.setTop (mkF m 320 #[.val (.long p0), .second, .val (.long p1), .second, .val (.int p2), .val (.int n), .val (.int a0), .val (.int a1), .val (.int a2), .val (.int a3), .val (.int b0), .val (.int b1), .val (.int b2), .val (.int b3), .val (.ref ax), .val (.ref ay), .val (.int le), .val (.int lt), .unset] [(.int lt)])) _
      refine XS.ifNo h hx rfl (hb hby at_320) rfl ((if0 _ _).trans (teq h1).2) ?_
      show Steps p.tables e below (T.setTop (mkF m 323 #[.val (.long p0), .second, .val (.long p1), .second, .val (.int p2), .val (.int n), .val (.int a0), .val (.int a1), .val (.int a2), .val (.int a3), .val (.int b0), .val (.int b1), .val (.int b2), .val (.int b3), .val (.ref ax), .val (.ref ay), .val (.int le), .val (.int lt), .unset] [])) _
      refine XS.iload h hx rfl (hb hby at_323) rfl ?_
      show Steps p.tables e below (T.setTop (mkF m 325 #[.val (.long p0), .second, .val (.long p1), .second, .val (.int p2), .val (.int n), .val (.int a0), .val (.int a1), .val (.int a2), .val (.int a3), .val (.int b0), .val (.int b1), .val (.int b2), .val (.int b3), .val (.ref ax), .val (.ref ay), .val (.int le), .val (.int lt), .unset] [(.int a3)])) _
      refine XS.iload h hx rfl (hb hby at_325) rfl ?_
      show Steps p.tables e below (T.setTop (mkF m 327 #[.val (.long p0), .second, .val (.long p1), .second, .val (.int p2), .val (.int n), .val (.int a0), .val (.int a1), .val (.int a2), .val (.int a3), .val (.int b0), .val (.int b1), .val (.int b2), .val (.int b3), .val (.ref ax), .val (.ref ay), .val (.int le), .val (.int lt), .unset] [(.int b3), (.int a3)])) _
      refine XS.icmpYes h hx rfl (pc0 := 327) (pc' := 334) rfl (hb hby at_327) rfl (flt h2).2.1 (by decide) (by decide) ?_
      show Steps p.tables e below (T.setTop (mkF m 334 #[.val (.long p0), .second, .val (.long p1), .second, .val (.int p2), .val (.int n), .val (.int a0), .val (.int a1), .val (.int a2), .val (.int a3), .val (.int b0), .val (.int b1), .val (.int b2), .val (.int b3), .val (.ref ax), .val (.ref ay), .val (.int le), .val (.int lt), .unset] [])) _
      refine XS.iconst h hx rfl (hb hby at_334) ?_
      show Steps p.tables e below (T.setTop (mkF m 335 #[.val (.long p0), .second, .val (.long p1), .second, .val (.int p2), .val (.int n), .val (.int a0), .val (.int a1), .val (.int a2), .val (.int a3), .val (.int b0), .val (.int b1), .val (.int b2), .val (.int b3), .val (.ref ax), .val (.ref ay), .val (.int le), .val (.int lt), .unset] [(.int (0 : Int32))])) _
      refine XS.istore h hx rfl (hb hby at_335) rfl (l' := #[.val (.long p0), .second, .val (.long p1), .second, .val (.int p2), .val (.int n), .val (.int a0), .val (.int a1), .val (.int a2), .val (.int a3), .val (.int b0), .val (.int b1), .val (.int b2), .val (.int b3), .val (.ref ax), .val (.ref ay), .val (.int le), .val (.int (0 : Int32)), .unset]) rfl ?_
      exact hr
  · have ev : own_lt lt a3 b3 = (1 : Int32) := by simp [own_lt, h1]
    rw [ev] at hr
    show Steps p.tables e below (T.setTop (mkF m 318 #[.val (.long p0), .second, .val (.long p1), .second, .val (.int p2), .val (.int n), .val (.int a0), .val (.int a1), .val (.int a2), .val (.int a3), .val (.int b0), .val (.int b1), .val (.int b2), .val (.int b3), .val (.ref ax), .val (.ref ay), .val (.int le), .val (.int lt), .unset] [])) _
    refine XS.iload h hx rfl (hb hby at_318) rfl ?_
    show Steps p.tables e below (T.setTop (mkF m 320 #[.val (.long p0), .second, .val (.long p1), .second, .val (.int p2), .val (.int n), .val (.int a0), .val (.int a1), .val (.int a2), .val (.int a3), .val (.int b0), .val (.int b1), .val (.int b2), .val (.int b3), .val (.ref ax), .val (.ref ay), .val (.int le), .val (.int lt), .unset] [(.int lt)])) _
    refine XS.ifYes h hx rfl (pc0 := 320) (pc' := 330) rfl (hb hby at_320) rfl ((if0 _ _).trans (feq h1).2) (by decide) (by decide) ?_
    show Steps p.tables e below (T.setTop (mkF m 330 #[.val (.long p0), .second, .val (.long p1), .second, .val (.int p2), .val (.int n), .val (.int a0), .val (.int a1), .val (.int a2), .val (.int a3), .val (.int b0), .val (.int b1), .val (.int b2), .val (.int b3), .val (.ref ax), .val (.ref ay), .val (.int le), .val (.int lt), .unset] [])) _
    refine XS.iconst h hx rfl (hb hby at_330) ?_
    show Steps p.tables e below (T.setTop (mkF m 331 #[.val (.long p0), .second, .val (.long p1), .second, .val (.int p2), .val (.int n), .val (.int a0), .val (.int a1), .val (.int a2), .val (.int a3), .val (.int b0), .val (.int b1), .val (.int b2), .val (.int b3), .val (.ref ax), .val (.ref ay), .val (.int le), .val (.int lt), .unset] [(.int (1 : Int32))])) _
    refine XS.goto h hx rfl (pc0 := 331) (pc' := 335) rfl (hb hby at_331) (by decide) (by decide) ?_
    show Steps p.tables e below (T.setTop (mkF m 335 #[.val (.long p0), .second, .val (.long p1), .second, .val (.int p2), .val (.int n), .val (.int a0), .val (.int a1), .val (.int a2), .val (.int a3), .val (.int b0), .val (.int b1), .val (.int b2), .val (.int b3), .val (.ref ax), .val (.ref ay), .val (.int le), .val (.int lt), .unset] [(.int (1 : Int32))])) _
    refine XS.istore h hx rfl (hb hby at_335) rfl (l' := #[.val (.long p0), .second, .val (.long p1), .second, .val (.int p2), .val (.int n), .val (.int a0), .val (.int a1), .val (.int a2), .val (.int a3), .val (.int b0), .val (.int b1), .val (.int b2), .val (.int b3), .val (.ref ax), .val (.ref ay), .val (.int le), .val (.int (1 : Int32)), .unset]) rfl ?_
    exact hr
set_option maxRecDepth 65536 in
set_option maxHeartbeats 4000000 in
theorem own_bEx {p : Program} {e : Env} {below : List Frame} {m : MethodId} {c : Code} {T t : State} (h : At T m c below) (hx : p.tables.exec = Jvm.exec) (hby : c.code = code) (p0 p1 : Int64) (p2 n a0 a1 a2 a3 b0 b1 b2 b3 le lt : Int32) (ax ay : Addr) (hr : Steps p.tables e below (T.setTop (mkF m 354 #[.val (.long p0), .second, .val (.long p1), .second, .val (.int p2), .val (.int n), .val (.int a0), .val (.int a1), .val (.int a2), .val (.int a3), .val (.int b0), .val (.int b1), .val (.int b2), .val (.int b3), .val (.ref ax), .val (.ref ay), .val (.int le), .val (.int lt), .val (.int (own_exp le lt))] [])) t) : Steps p.tables e below (T.setTop (mkF m 337 #[.val (.long p0), .second, .val (.long p1), .second, .val (.int p2), .val (.int n), .val (.int a0), .val (.int a1), .val (.int a2), .val (.int a3), .val (.int b0), .val (.int b1), .val (.int b2), .val (.int b3), .val (.ref ax), .val (.ref ay), .val (.int le), .val (.int lt), .unset] [])) t := by
  by_cases h1 : le = 0
  · have ev : own_exp le lt = (0 : Int32) := by simp [own_exp, h1]
    rw [ev] at hr
    show Steps p.tables e below (T.setTop (mkF m 337 #[.val (.long p0), .second, .val (.long p1), .second, .val (.int p2), .val (.int n), .val (.int a0), .val (.int a1), .val (.int a2), .val (.int a3), .val (.int b0), .val (.int b1), .val (.int b2), .val (.int b3), .val (.ref ax), .val (.ref ay), .val (.int le), .val (.int lt), .unset] [])) _
    refine XS.iload h hx rfl (hb hby at_337) rfl ?_
    show Steps p.tables e below (T.setTop (mkF m 339 #[.val (.long p0), .second, .val (.long p1), .second, .val (.int p2), .val (.int n), .val (.int a0), .val (.int a1), .val (.int a2), .val (.int a3), .val (.int b0), .val (.int b1), .val (.int b2), .val (.int b3), .val (.ref ax), .val (.ref ay), .val (.int le), .val (.int lt), .unset] [(.int le)])) _
    refine XS.ifYes h hx rfl (pc0 := 339) (pc' := 351) rfl (hb hby at_339) rfl ((if0 _ _).trans (teq h1).1) (by decide) (by decide) ?_
    show Steps p.tables e below (T.setTop (mkF m 351 #[.val (.long p0), .second, .val (.long p1), .second, .val (.int p2), .val (.int n), .val (.int a0), .val (.int a1), .val (.int a2), .val (.int a3), .val (.int b0), .val (.int b1), .val (.int b2), .val (.int b3), .val (.ref ax), .val (.ref ay), .val (.int le), .val (.int lt), .unset] [])) _
    refine XS.iconst h hx rfl (hb hby at_351) ?_
    show Steps p.tables e below (T.setTop (mkF m 352 #[.val (.long p0), .second, .val (.long p1), .second, .val (.int p2), .val (.int n), .val (.int a0), .val (.int a1), .val (.int a2), .val (.int a3), .val (.int b0), .val (.int b1), .val (.int b2), .val (.int b3), .val (.ref ax), .val (.ref ay), .val (.int le), .val (.int lt), .unset] [(.int (0 : Int32))])) _
    refine XS.istore h hx rfl (hb hby at_352) rfl (l' := #[.val (.long p0), .second, .val (.long p1), .second, .val (.int p2), .val (.int n), .val (.int a0), .val (.int a1), .val (.int a2), .val (.int a3), .val (.int b0), .val (.int b1), .val (.int b2), .val (.int b3), .val (.ref ax), .val (.ref ay), .val (.int le), .val (.int lt), .val (.int (0 : Int32))]) rfl ?_
    exact hr
  · by_cases h2 : lt = 0
    · have ev : own_exp le lt = (0 : Int32) := by simp [own_exp, h1, h2]
      rw [ev] at hr
      show Steps p.tables e below (T.setTop (mkF m 337 #[.val (.long p0), .second, .val (.long p1), .second, .val (.int p2), .val (.int n), .val (.int a0), .val (.int a1), .val (.int a2), .val (.int a3), .val (.int b0), .val (.int b1), .val (.int b2), .val (.int b3), .val (.ref ax), .val (.ref ay), .val (.int le), .val (.int lt), .unset] [])) _
      refine XS.iload h hx rfl (hb hby at_337) rfl ?_
      show Steps p.tables e below (T.setTop (mkF m 339 #[.val (.long p0), .second, .val (.long p1), .second, .val (.int p2), .val (.int n), .val (.int a0), .val (.int a1), .val (.int a2), .val (.int a3), .val (.int b0), .val (.int b1), .val (.int b2), .val (.int b3), .val (.ref ax), .val (.ref ay), .val (.int le), .val (.int lt), .unset] [(.int le)])) _
      refine XS.ifNo h hx rfl (hb hby at_339) rfl ((if0 _ _).trans (feq h1).1) ?_
      show Steps p.tables e below (T.setTop (mkF m 342 #[.val (.long p0), .second, .val (.long p1), .second, .val (.int p2), .val (.int n), .val (.int a0), .val (.int a1), .val (.int a2), .val (.int a3), .val (.int b0), .val (.int b1), .val (.int b2), .val (.int b3), .val (.ref ax), .val (.ref ay), .val (.int le), .val (.int lt), .unset] [])) _
      refine XS.iload h hx rfl (hb hby at_342) rfl ?_
      show Steps p.tables e below (T.setTop (mkF m 344 #[.val (.long p0), .second, .val (.long p1), .second, .val (.int p2), .val (.int n), .val (.int a0), .val (.int a1), .val (.int a2), .val (.int a3), .val (.int b0), .val (.int b1), .val (.int b2), .val (.int b3), .val (.ref ax), .val (.ref ay), .val (.int le), .val (.int lt), .unset] [(.int lt)])) _
      refine XS.ifYes h hx rfl (pc0 := 344) (pc' := 351) rfl (hb hby at_344) rfl ((if0 _ _).trans (teq h2).1) (by decide) (by decide) ?_
      show Steps p.tables e below (T.setTop (mkF m 351 #[.val (.long p0), .second, .val (.long p1), .second, .val (.int p2), .val (.int n), .val (.int a0), .val (.int a1), .val (.int a2), .val (.int a3), .val (.int b0), .val (.int b1), .val (.int b2), .val (.int b3), .val (.ref ax), .val (.ref ay), .val (.int le), .val (.int lt), .unset] [])) _
      refine XS.iconst h hx rfl (hb hby at_351) ?_
      show Steps p.tables e below (T.setTop (mkF m 352 #[.val (.long p0), .second, .val (.long p1), .second, .val (.int p2), .val (.int n), .val (.int a0), .val (.int a1), .val (.int a2), .val (.int a3), .val (.int b0), .val (.int b1), .val (.int b2), .val (.int b3), .val (.ref ax), .val (.ref ay), .val (.int le), .val (.int lt), .unset] [(.int (0 : Int32))])) _
      refine XS.istore h hx rfl (hb hby at_352) rfl (l' := #[.val (.long p0), .second, .val (.long p1), .second, .val (.int p2), .val (.int n), .val (.int a0), .val (.int a1), .val (.int a2), .val (.int a3), .val (.int b0), .val (.int b1), .val (.int b2), .val (.int b3), .val (.ref ax), .val (.ref ay), .val (.int le), .val (.int lt), .val (.int (0 : Int32))]) rfl ?_
      exact hr
    · have ev : own_exp le lt = (1 : Int32) := by simp [own_exp, h1, h2]
      rw [ev] at hr
      show Steps p.tables e below (T.setTop (mkF m 337 #[.val (.long p0), .second, .val (.long p1), .second, .val (.int p2), .val (.int n), .val (.int a0), .val (.int a1), .val (.int a2), .val (.int a3), .val (.int b0), .val (.int b1), .val (.int b2), .val (.int b3), .val (.ref ax), .val (.ref ay), .val (.int le), .val (.int lt), .unset] [])) _
      refine XS.iload h hx rfl (hb hby at_337) rfl ?_
      show Steps p.tables e below (T.setTop (mkF m 339 #[.val (.long p0), .second, .val (.long p1), .second, .val (.int p2), .val (.int n), .val (.int a0), .val (.int a1), .val (.int a2), .val (.int a3), .val (.int b0), .val (.int b1), .val (.int b2), .val (.int b3), .val (.ref ax), .val (.ref ay), .val (.int le), .val (.int lt), .unset] [(.int le)])) _
      refine XS.ifNo h hx rfl (hb hby at_339) rfl ((if0 _ _).trans (feq h1).1) ?_
      show Steps p.tables e below (T.setTop (mkF m 342 #[.val (.long p0), .second, .val (.long p1), .second, .val (.int p2), .val (.int n), .val (.int a0), .val (.int a1), .val (.int a2), .val (.int a3), .val (.int b0), .val (.int b1), .val (.int b2), .val (.int b3), .val (.ref ax), .val (.ref ay), .val (.int le), .val (.int lt), .unset] [])) _
      refine XS.iload h hx rfl (hb hby at_342) rfl ?_
      show Steps p.tables e below (T.setTop (mkF m 344 #[.val (.long p0), .second, .val (.long p1), .second, .val (.int p2), .val (.int n), .val (.int a0), .val (.int a1), .val (.int a2), .val (.int a3), .val (.int b0), .val (.int b1), .val (.int b2), .val (.int b3), .val (.ref ax), .val (.ref ay), .val (.int le), .val (.int lt), .unset] [(.int lt)])) _
      refine XS.ifNo h hx rfl (hb hby at_344) rfl ((if0 _ _).trans (feq h2).1) ?_
      show Steps p.tables e below (T.setTop (mkF m 347 #[.val (.long p0), .second, .val (.long p1), .second, .val (.int p2), .val (.int n), .val (.int a0), .val (.int a1), .val (.int a2), .val (.int a3), .val (.int b0), .val (.int b1), .val (.int b2), .val (.int b3), .val (.ref ax), .val (.ref ay), .val (.int le), .val (.int lt), .unset] [])) _
      refine XS.iconst h hx rfl (hb hby at_347) ?_
      show Steps p.tables e below (T.setTop (mkF m 348 #[.val (.long p0), .second, .val (.long p1), .second, .val (.int p2), .val (.int n), .val (.int a0), .val (.int a1), .val (.int a2), .val (.int a3), .val (.int b0), .val (.int b1), .val (.int b2), .val (.int b3), .val (.ref ax), .val (.ref ay), .val (.int le), .val (.int lt), .unset] [(.int (1 : Int32))])) _
      refine XS.goto h hx rfl (pc0 := 348) (pc' := 352) rfl (hb hby at_348) (by decide) (by decide) ?_
      show Steps p.tables e below (T.setTop (mkF m 352 #[.val (.long p0), .second, .val (.long p1), .second, .val (.int p2), .val (.int n), .val (.int a0), .val (.int a1), .val (.int a2), .val (.int a3), .val (.int b0), .val (.int b1), .val (.int b2), .val (.int b3), .val (.ref ax), .val (.ref ay), .val (.int le), .val (.int lt), .unset] [(.int (1 : Int32))])) _
      refine XS.istore h hx rfl (hb hby at_352) rfl (l' := #[.val (.long p0), .second, .val (.long p1), .second, .val (.int p2), .val (.int n), .val (.int a0), .val (.int a1), .val (.int a2), .val (.int a3), .val (.int b0), .val (.int b1), .val (.int b2), .val (.int b3), .val (.ref ax), .val (.ref ay), .val (.int le), .val (.int lt), .val (.int (1 : Int32))]) rfl ?_
      exact hr
theorem own_n (p2 : Int32) : ((p2 &&& (2147483647 : Int32)) % (5 : Int32)) = 0 ∨ ((p2 &&& (2147483647 : Int32)) % (5 : Int32)) = 1 ∨ ((p2 &&& (2147483647 : Int32)) % (5 : Int32)) = 2 ∨ ((p2 &&& (2147483647 : Int32)) % (5 : Int32)) = 3 ∨ ((p2 &&& (2147483647 : Int32)) % (5 : Int32)) = 4 := by
  have e : (p2 &&& (2147483647 : Int32)).toInt = p2.toInt % 2 ^ 31 := Jvm.Kit.i32_mask p2 2147483647 (by decide) (by decide)
  have e5 : (5 : Int32).toInt = 5 := by decide
  have e1 : ((p2 &&& (2147483647 : Int32)) % (5 : Int32)).toInt = (p2 &&& (2147483647 : Int32)).toInt % 5 := by rw [Jvm.Kit.i32_rem_nonneg (by omega), e5]
  have z0 : (0 : Int32).toInt = 0 := by decide
  have z1 : (1 : Int32).toInt = 1 := by decide
  have z2 : (2 : Int32).toInt = 2 := by decide
  have z3 : (3 : Int32).toInt = 3 := by decide
  have z4 : (4 : Int32).toInt = 4 := by decide
  simp only [← Int32.toInt_inj, z0, z1, z2, z3, z4]
  omega
def Q0 (v : Option Value) (n0 : Nat) (L : List Loc) : Prop := v = some (.int 1) ∧ Fr n0 L
set_option maxRecDepth 65536 in
set_option maxHeartbeats 40000000 in
theorem rm0 (l : Launch) (Z : State) (a0 : Array Value) (hw : ∀ d ∈ tables_1, d.before a0 Z = true) (ws : List Jvm.Cond) (p0 : Int64) (p1 : Int64) (p2 : Int32) (h0 : Heap) (n0 : Nat) (Z0 : n0 ≤ h0.size) :
    MetFree l x (head1 (Jvm.Cond.code x code maxLocals ret :: ws) room_1) (fun a U => a = #[(.long p0), (.long p1), (.int p2)] ∧ Z.Warmed39 U.vm ∧ U.heap = h0) (fun _ _ _ _ _ => True) (fun _ U o U' => ∃ v L, o = .returned v ∧ Q0 v n0 L ∧ FrameEnd U o U' L 16 128) := by
  refine MetFree.of_bodySF (plainFor_of_name pnL) hisR ?_
  intro p e s m args below meth c s₁ Bd hml0 hP hK
  obtain ⟨rfl, hZ, hh⟩ := hP
  have hx := Bd.exec
  have hby := Bd.bytes
  have hml : c.maxLocals = 19 := hml0
  have hown : s.vm.findClass "com/example/gridfront/gridfront/selection/ParetoDominatesPinLaw" = some m.cls := findClass_of_methodNamed Bd.named
  have X0 : Stand p l e room_1 s m #[(.long p0), (.long p1), (.int p2)] below meth c s₁ [] 0 0 := Stand.of_body Bd
  have e0 : s₁.heap = h0 := by rw [← hh, Bd.state]; rfl
  have N0 := Fr.nil n0
  have pre0 : ∀ t, Steps p.tables e below (s₁.setTop (mkF m 0 #[.val (.long p0), .second, .val (.long p1), .second, .val (.int p2), .unset, .unset, .unset, .unset, .unset, .unset, .unset, .unset, .unset, .unset, .unset, .unset, .unset, .unset] [])) t → Steps p.tables e below (s₁.setTop (entryFrame m #[(.long p0), (.long p1), (.int p2)] maxLocals)) t := fun t k => castTop (ef0 m p0 p1 p2) k
  obtain ⟨nn, hnn⟩ : ∃ z, z = ((p2 &&& (2147483647 : Int32)) % (5 : Int32)) := ⟨_, rfl⟩
  have hn5 := own_n p2
  rw [← hnn] at hn5
  obtain ⟨_, _, ⟨T1, L1, k1, n1⟩, -, X1, ⟨Lc1, hQ1, l1, y1, z1⟩, st1⟩ := Jvm.LawKit.callS X0 hx (y := (⟨"com/example/gridfront/gridfront/selection/ParetoDominatesPinLaw", "comp", "(JI)I"⟩ : MethodName)) hown (mvT hZ (hw _ (List.mem_of_getElem? (i := 1) rfl))) (mvT hZ (hw _ (List.mem_of_getElem? (i := 2) rfl))) (mvT hZ (hw _ (List.mem_of_getElem? (i := 3) rfl))) (mvT hZ (hw _ (List.mem_of_getElem? (i := 4) rfl))) (by decide) (backOf (W := 0) (rmC l Z a0 hw [] p0 (0 : Int32) h0 n0 Z0) hZ (hw _ (List.mem_of_getElem? (i := 4) rfl)) (hw _ (List.mem_of_getElem? (i := 3) rfl)) (by decide) (by decide)) (g := (mkF m 11 #[.val (.long p0), .second, .val (.long p1), .second, .val (.int p2), .val (.int nn), .unset, .unset, .unset, .unset, .unset, .unset, .unset, .unset, .unset, .unset, .unset, .unset, .unset] [(.int (0 : Int32)), (.long p0)])) rfl (by rw [hml]; rfl) (argsL := [(.long p0), (.int (0 : Int32))]) (rest := []) (lenOf pdC rfl) rfl (by show 2 * 0 + _ ≤ _; exact Nat.le_of_eq rfl) (hb hby at_11) (fun _ _ => ⟨rfl, e0, (by decide : 0 + 0 ≤ _), (by decide : 0 + 0 ≤ _)⟩)
  dsimp only [Pt.U, Pt.locs, Pt.cells, Pt.slots] at X1 l1 y1 z1 st1 hQ1
  subst l1 y1 z1
  obtain ⟨rfl, N1q, hh1⟩ := hQ1
  have N1 := Fr.app N0 N1q
  have zz1 : n0 ≤ T1.heap.size := by rw [hh1]; exact Z0
  obtain ⟨_, _, ⟨T2, L2, k2, n2⟩, -, X2, ⟨Lc2, hQ2, l2, y2, z2⟩, st2⟩ := Jvm.LawKit.callS X1 hx (y := (⟨"com/example/gridfront/gridfront/selection/ParetoDominatesPinLaw", "comp", "(JI)I"⟩ : MethodName)) hown (mvT hZ (hw _ (List.mem_of_getElem? (i := 1) rfl))) (mvT hZ (hw _ (List.mem_of_getElem? (i := 2) rfl))) (mvT hZ (hw _ (List.mem_of_getElem? (i := 3) rfl))) (mvT hZ (hw _ (List.mem_of_getElem? (i := 4) rfl))) (by decide) (backOf (W := 0) (rmC l Z a0 hw [] p0 (1 : Int32) T1.heap n0 zz1) hZ (hw _ (List.mem_of_getElem? (i := 4) rfl)) (hw _ (List.mem_of_getElem? (i := 3) rfl)) (by decide) (by decide)) (g := (mkF m 18 #[.val (.long p0), .second, .val (.long p1), .second, .val (.int p2), .val (.int nn), .val (.int (own_comp p0 (0 : Int32))), .unset, .unset, .unset, .unset, .unset, .unset, .unset, .unset, .unset, .unset, .unset, .unset] [(.int (1 : Int32)), (.long p0)])) rfl (by rw [hml]; rfl) (argsL := [(.long p0), (.int (1 : Int32))]) (rest := []) (lenOf pdC rfl) rfl (by show 2 * 0 + _ ≤ _; exact Nat.le_of_eq rfl) (hb hby at_18) (fun _ _ => ⟨rfl, rfl, (by decide : 0 + 0 ≤ _), (by decide : 0 + 0 ≤ _)⟩)
  dsimp only [Pt.U, Pt.locs, Pt.cells, Pt.slots] at X2 l2 y2 z2 st2 hQ2
  subst l2 y2 z2
  obtain ⟨rfl, N2q, hh2⟩ := hQ2
  have N2 := Fr.app N1 N2q
  have zz2 : n0 ≤ T2.heap.size := by rw [hh2]; exact zz1
  obtain ⟨_, _, ⟨T3, L3, k3, n3⟩, -, X3, ⟨Lc3, hQ3, l3, y3, z3⟩, st3⟩ := Jvm.LawKit.callS X2 hx (y := (⟨"com/example/gridfront/gridfront/selection/ParetoDominatesPinLaw", "comp", "(JI)I"⟩ : MethodName)) hown (mvT hZ (hw _ (List.mem_of_getElem? (i := 1) rfl))) (mvT hZ (hw _ (List.mem_of_getElem? (i := 2) rfl))) (mvT hZ (hw _ (List.mem_of_getElem? (i := 3) rfl))) (mvT hZ (hw _ (List.mem_of_getElem? (i := 4) rfl))) (by decide) (backOf (W := 0) (rmC l Z a0 hw [] p0 (2 : Int32) T2.heap n0 zz2) hZ (hw _ (List.mem_of_getElem? (i := 4) rfl)) (hw _ (List.mem_of_getElem? (i := 3) rfl)) (by decide) (by decide)) (g := (mkF m 25 #[.val (.long p0), .second, .val (.long p1), .second, .val (.int p2), .val (.int nn), .val (.int (own_comp p0 (0 : Int32))), .val (.int (own_comp p0 (1 : Int32))), .unset, .unset, .unset, .unset, .unset, .unset, .unset, .unset, .unset, .unset, .unset] [(.int (2 : Int32)), (.long p0)])) rfl (by rw [hml]; rfl) (argsL := [(.long p0), (.int (2 : Int32))]) (rest := []) (lenOf pdC rfl) rfl (by show 2 * 0 + _ ≤ _; exact Nat.le_of_eq rfl) (hb hby at_25) (fun _ _ => ⟨rfl, rfl, (by decide : 0 + 0 ≤ _), (by decide : 0 + 0 ≤ _)⟩)
  dsimp only [Pt.U, Pt.locs, Pt.cells, Pt.slots] at X3 l3 y3 z3 st3 hQ3
  subst l3 y3 z3
  obtain ⟨rfl, N3q, hh3⟩ := hQ3
  have N3 := Fr.app N2 N3q
  have zz3 : n0 ≤ T3.heap.size := by rw [hh3]; exact zz2
  obtain ⟨_, _, ⟨T4, L4, k4, n4⟩, -, X4, ⟨Lc4, hQ4, l4, y4, z4⟩, st4⟩ := Jvm.LawKit.callS X3 hx (y := (⟨"com/example/gridfront/gridfront/selection/ParetoDominatesPinLaw", "comp", "(JI)I"⟩ : MethodName)) hown (mvT hZ (hw _ (List.mem_of_getElem? (i := 1) rfl))) (mvT hZ (hw _ (List.mem_of_getElem? (i := 2) rfl))) (mvT hZ (hw _ (List.mem_of_getElem? (i := 3) rfl))) (mvT hZ (hw _ (List.mem_of_getElem? (i := 4) rfl))) (by decide) (backOf (W := 0) (rmC l Z a0 hw [] p0 (3 : Int32) T3.heap n0 zz3) hZ (hw _ (List.mem_of_getElem? (i := 4) rfl)) (hw _ (List.mem_of_getElem? (i := 3) rfl)) (by decide) (by decide)) (g := (mkF m 32 #[.val (.long p0), .second, .val (.long p1), .second, .val (.int p2), .val (.int nn), .val (.int (own_comp p0 (0 : Int32))), .val (.int (own_comp p0 (1 : Int32))), .val (.int (own_comp p0 (2 : Int32))), .unset, .unset, .unset, .unset, .unset, .unset, .unset, .unset, .unset, .unset] [(.int (3 : Int32)), (.long p0)])) rfl (by rw [hml]; rfl) (argsL := [(.long p0), (.int (3 : Int32))]) (rest := []) (lenOf pdC rfl) rfl (by show 2 * 0 + _ ≤ _; exact Nat.le_of_eq rfl) (hb hby at_32) (fun _ _ => ⟨rfl, rfl, (by decide : 0 + 0 ≤ _), (by decide : 0 + 0 ≤ _)⟩)
  dsimp only [Pt.U, Pt.locs, Pt.cells, Pt.slots] at X4 l4 y4 z4 st4 hQ4
  subst l4 y4 z4
  obtain ⟨rfl, N4q, hh4⟩ := hQ4
  have N4 := Fr.app N3 N4q
  have zz4 : n0 ≤ T4.heap.size := by rw [hh4]; exact zz3
  obtain ⟨_, _, ⟨T5, L5, k5, n5⟩, -, X5, ⟨Lc5, hQ5, l5, y5, z5⟩, st5⟩ := Jvm.LawKit.callS X4 hx (y := (⟨"com/example/gridfront/gridfront/selection/ParetoDominatesPinLaw", "comp", "(JI)I"⟩ : MethodName)) hown (mvT hZ (hw _ (List.mem_of_getElem? (i := 1) rfl))) (mvT hZ (hw _ (List.mem_of_getElem? (i := 2) rfl))) (mvT hZ (hw _ (List.mem_of_getElem? (i := 3) rfl))) (mvT hZ (hw _ (List.mem_of_getElem? (i := 4) rfl))) (by decide) (backOf (W := 0) (rmC l Z a0 hw [] p1 (0 : Int32) T4.heap n0 zz4) hZ (hw _ (List.mem_of_getElem? (i := 4) rfl)) (hw _ (List.mem_of_getElem? (i := 3) rfl)) (by decide) (by decide)) (g := (mkF m 39 #[.val (.long p0), .second, .val (.long p1), .second, .val (.int p2), .val (.int nn), .val (.int (own_comp p0 (0 : Int32))), .val (.int (own_comp p0 (1 : Int32))), .val (.int (own_comp p0 (2 : Int32))), .val (.int (own_comp p0 (3 : Int32))), .unset, .unset, .unset, .unset, .unset, .unset, .unset, .unset, .unset] [(.int (0 : Int32)), (.long p1)])) rfl (by rw [hml]; rfl) (argsL := [(.long p1), (.int (0 : Int32))]) (rest := []) (lenOf pdC rfl) rfl (by show 2 * 0 + _ ≤ _; exact Nat.le_of_eq rfl) (hb hby at_39) (fun _ _ => ⟨rfl, rfl, (by decide : 0 + 0 ≤ _), (by decide : 0 + 0 ≤ _)⟩)
  dsimp only [Pt.U, Pt.locs, Pt.cells, Pt.slots] at X5 l5 y5 z5 st5 hQ5
  subst l5 y5 z5
  obtain ⟨rfl, N5q, hh5⟩ := hQ5
  have N5 := Fr.app N4 N5q
  have zz5 : n0 ≤ T5.heap.size := by rw [hh5]; exact zz4
  obtain ⟨_, _, ⟨T6, L6, k6, n6⟩, -, X6, ⟨Lc6, hQ6, l6, y6, z6⟩, st6⟩ := Jvm.LawKit.callS X5 hx (y := (⟨"com/example/gridfront/gridfront/selection/ParetoDominatesPinLaw", "comp", "(JI)I"⟩ : MethodName)) hown (mvT hZ (hw _ (List.mem_of_getElem? (i := 1) rfl))) (mvT hZ (hw _ (List.mem_of_getElem? (i := 2) rfl))) (mvT hZ (hw _ (List.mem_of_getElem? (i := 3) rfl))) (mvT hZ (hw _ (List.mem_of_getElem? (i := 4) rfl))) (by decide) (backOf (W := 0) (rmC l Z a0 hw [] p1 (1 : Int32) T5.heap n0 zz5) hZ (hw _ (List.mem_of_getElem? (i := 4) rfl)) (hw _ (List.mem_of_getElem? (i := 3) rfl)) (by decide) (by decide)) (g := (mkF m 46 #[.val (.long p0), .second, .val (.long p1), .second, .val (.int p2), .val (.int nn), .val (.int (own_comp p0 (0 : Int32))), .val (.int (own_comp p0 (1 : Int32))), .val (.int (own_comp p0 (2 : Int32))), .val (.int (own_comp p0 (3 : Int32))), .val (.int (own_comp p1 (0 : Int32))), .unset, .unset, .unset, .unset, .unset, .unset, .unset, .unset] [(.int (1 : Int32)), (.long p1)])) rfl (by rw [hml]; rfl) (argsL := [(.long p1), (.int (1 : Int32))]) (rest := []) (lenOf pdC rfl) rfl (by show 2 * 0 + _ ≤ _; exact Nat.le_of_eq rfl) (hb hby at_46) (fun _ _ => ⟨rfl, rfl, (by decide : 0 + 0 ≤ _), (by decide : 0 + 0 ≤ _)⟩)
  dsimp only [Pt.U, Pt.locs, Pt.cells, Pt.slots] at X6 l6 y6 z6 st6 hQ6
  subst l6 y6 z6
  obtain ⟨rfl, N6q, hh6⟩ := hQ6
  have N6 := Fr.app N5 N6q
  have zz6 : n0 ≤ T6.heap.size := by rw [hh6]; exact zz5
  obtain ⟨_, _, ⟨T7, L7, k7, n7⟩, -, X7, ⟨Lc7, hQ7, l7, y7, z7⟩, st7⟩ := Jvm.LawKit.callS X6 hx (y := (⟨"com/example/gridfront/gridfront/selection/ParetoDominatesPinLaw", "comp", "(JI)I"⟩ : MethodName)) hown (mvT hZ (hw _ (List.mem_of_getElem? (i := 1) rfl))) (mvT hZ (hw _ (List.mem_of_getElem? (i := 2) rfl))) (mvT hZ (hw _ (List.mem_of_getElem? (i := 3) rfl))) (mvT hZ (hw _ (List.mem_of_getElem? (i := 4) rfl))) (by decide) (backOf (W := 0) (rmC l Z a0 hw [] p1 (2 : Int32) T6.heap n0 zz6) hZ (hw _ (List.mem_of_getElem? (i := 4) rfl)) (hw _ (List.mem_of_getElem? (i := 3) rfl)) (by decide) (by decide)) (g := (mkF m 53 #[.val (.long p0), .second, .val (.long p1), .second, .val (.int p2), .val (.int nn), .val (.int (own_comp p0 (0 : Int32))), .val (.int (own_comp p0 (1 : Int32))), .val (.int (own_comp p0 (2 : Int32))), .val (.int (own_comp p0 (3 : Int32))), .val (.int (own_comp p1 (0 : Int32))), .val (.int (own_comp p1 (1 : Int32))), .unset, .unset, .unset, .unset, .unset, .unset, .unset] [(.int (2 : Int32)), (.long p1)])) rfl (by rw [hml]; rfl) (argsL := [(.long p1), (.int (2 : Int32))]) (rest := []) (lenOf pdC rfl) rfl (by show 2 * 0 + _ ≤ _; exact Nat.le_of_eq rfl) (hb hby at_53) (fun _ _ => ⟨rfl, rfl, (by decide : 0 + 0 ≤ _), (by decide : 0 + 0 ≤ _)⟩)
  dsimp only [Pt.U, Pt.locs, Pt.cells, Pt.slots] at X7 l7 y7 z7 st7 hQ7
  subst l7 y7 z7
  obtain ⟨rfl, N7q, hh7⟩ := hQ7
  have N7 := Fr.app N6 N7q
  have zz7 : n0 ≤ T7.heap.size := by rw [hh7]; exact zz6
  obtain ⟨_, _, ⟨T8, L8, k8, n8⟩, -, X8, ⟨Lc8, hQ8, l8, y8, z8⟩, st8⟩ := Jvm.LawKit.callS X7 hx (y := (⟨"com/example/gridfront/gridfront/selection/ParetoDominatesPinLaw", "comp", "(JI)I"⟩ : MethodName)) hown (mvT hZ (hw _ (List.mem_of_getElem? (i := 1) rfl))) (mvT hZ (hw _ (List.mem_of_getElem? (i := 2) rfl))) (mvT hZ (hw _ (List.mem_of_getElem? (i := 3) rfl))) (mvT hZ (hw _ (List.mem_of_getElem? (i := 4) rfl))) (by decide) (backOf (W := 0) (rmC l Z a0 hw [] p1 (3 : Int32) T7.heap n0 zz7) hZ (hw _ (List.mem_of_getElem? (i := 4) rfl)) (hw _ (List.mem_of_getElem? (i := 3) rfl)) (by decide) (by decide)) (g := (mkF m 60 #[.val (.long p0), .second, .val (.long p1), .second, .val (.int p2), .val (.int nn), .val (.int (own_comp p0 (0 : Int32))), .val (.int (own_comp p0 (1 : Int32))), .val (.int (own_comp p0 (2 : Int32))), .val (.int (own_comp p0 (3 : Int32))), .val (.int (own_comp p1 (0 : Int32))), .val (.int (own_comp p1 (1 : Int32))), .val (.int (own_comp p1 (2 : Int32))), .unset, .unset, .unset, .unset, .unset, .unset] [(.int (3 : Int32)), (.long p1)])) rfl (by rw [hml]; rfl) (argsL := [(.long p1), (.int (3 : Int32))]) (rest := []) (lenOf pdC rfl) rfl (by show 2 * 0 + _ ≤ _; exact Nat.le_of_eq rfl) (hb hby at_60) (fun _ _ => ⟨rfl, rfl, (by decide : 0 + 0 ≤ _), (by decide : 0 + 0 ≤ _)⟩)
  dsimp only [Pt.U, Pt.locs, Pt.cells, Pt.slots] at X8 l8 y8 z8 st8 hQ8
  subst l8 y8 z8
  obtain ⟨rfl, N8q, hh8⟩ := hQ8
  have N8 := Fr.app N7 N8q
  have zz8 : n0 ≤ T8.heap.size := by rw [hh8]; exact zz7
  have pre1 : ∀ t, Steps p.tables e below (T8.setTop (mkF m 65 #[.val (.long p0), .second, .val (.long p1), .second, .val (.int p2), .val (.int nn), .val (.int (own_comp p0 (0 : Int32))), .val (.int (own_comp p0 (1 : Int32))), .val (.int (own_comp p0 (2 : Int32))), .val (.int (own_comp p0 (3 : Int32))), .val (.int (own_comp p1 (0 : Int32))), .val (.int (own_comp p1 (1 : Int32))), .val (.int (own_comp p1 (2 : Int32))), .val (.int (own_comp p1 (3 : Int32))), .unset, .unset, .unset, .unset, .unset] [])) t → Steps p.tables e below (s₁.setTop (entryFrame m #[(.long p0), (.long p1), (.int p2)] maxLocals)) t := fun t k => by
    refine pre0 _ ?_
    show Steps p.tables e below (s₁.setTop (mkF m 0 #[.val (.long p0), .second, .val (.long p1), .second, .val (.int p2), .unset, .unset, .unset, .unset, .unset, .unset, .unset, .unset, .unset, .unset, .unset, .unset, .unset, .unset] [])) _
    refine XS.iload X0.here hx rfl (hb hby at_0) rfl ?_
    show Steps p.tables e below (s₁.setTop (mkF m 2 #[.val (.long p0), .second, .val (.long p1), .second, .val (.int p2), .unset, .unset, .unset, .unset, .unset, .unset, .unset, .unset, .unset, .unset, .unset, .unset, .unset, .unset] [(.int p2)])) _
    refine X0.ldcInt hx hown (mvT hZ (hw _ (List.mem_of_getElem? (i := 0) rfl))) (g := (mkF m 2 #[.val (.long p0), .second, .val (.long p1), .second, .val (.int p2), .unset, .unset, .unset, .unset, .unset, .unset, .unset, .unset, .unset, .unset, .unset, .unset, .unset, .unset] [(.int p2)])) rfl (hb hby at_2) _ ?_
    show Steps p.tables e below (s₁.setTop (mkF m 4 #[.val (.long p0), .second, .val (.long p1), .second, .val (.int p2), .unset, .unset, .unset, .unset, .unset, .unset, .unset, .unset, .unset, .unset, .unset, .unset, .unset, .unset] [(.int (2147483647 : Int32)), (.int p2)])) _
    refine XS.iand X0.here hx rfl (hb hby at_4) rfl ?_
    show Steps p.tables e below (s₁.setTop (mkF m 5 #[.val (.long p0), .second, .val (.long p1), .second, .val (.int p2), .unset, .unset, .unset, .unset, .unset, .unset, .unset, .unset, .unset, .unset, .unset, .unset, .unset, .unset] [(.int (p2 &&& (2147483647 : Int32)))])) _
    refine XS.iconst X0.here hx rfl (hb hby at_5) ?_
    show Steps p.tables e below (s₁.setTop (mkF m 6 #[.val (.long p0), .second, .val (.long p1), .second, .val (.int p2), .unset, .unset, .unset, .unset, .unset, .unset, .unset, .unset, .unset, .unset, .unset, .unset, .unset, .unset] [(.int (5 : Int32)), (.int (p2 &&& (2147483647 : Int32)))])) _
    refine iremM X0 hx rfl (hb hby at_6) rfl (by decide) ?_
    show Steps p.tables e below (s₁.setTop (mkF m 7 #[.val (.long p0), .second, .val (.long p1), .second, .val (.int p2), .unset, .unset, .unset, .unset, .unset, .unset, .unset, .unset, .unset, .unset, .unset, .unset, .unset, .unset] [(.int ((p2 &&& (2147483647 : Int32)) % (5 : Int32)))])) _
    rw [← hnn]
    show Steps p.tables e below (s₁.setTop (mkF m 7 #[.val (.long p0), .second, .val (.long p1), .second, .val (.int p2), .unset, .unset, .unset, .unset, .unset, .unset, .unset, .unset, .unset, .unset, .unset, .unset, .unset, .unset] [(.int nn)])) _
    refine XS.istore X0.here hx rfl (hb hby at_7) rfl (l' := #[.val (.long p0), .second, .val (.long p1), .second, .val (.int p2), .val (.int nn), .unset, .unset, .unset, .unset, .unset, .unset, .unset, .unset, .unset, .unset, .unset, .unset, .unset]) rfl ?_
    show Steps p.tables e below (s₁.setTop (mkF m 9 #[.val (.long p0), .second, .val (.long p1), .second, .val (.int p2), .val (.int nn), .unset, .unset, .unset, .unset, .unset, .unset, .unset, .unset, .unset, .unset, .unset, .unset, .unset] [])) _
    refine XS.lloadN X0.here hx rfl (hb hby at_9) rfl ?_
    show Steps p.tables e below (s₁.setTop (mkF m 10 #[.val (.long p0), .second, .val (.long p1), .second, .val (.int p2), .val (.int nn), .unset, .unset, .unset, .unset, .unset, .unset, .unset, .unset, .unset, .unset, .unset, .unset, .unset] [(.long p0)])) _
    refine XS.iconst X0.here hx rfl (hb hby at_10) ?_
    show Steps p.tables e below (s₁.setTop (mkF m 11 #[.val (.long p0), .second, .val (.long p1), .second, .val (.int p2), .val (.int nn), .unset, .unset, .unset, .unset, .unset, .unset, .unset, .unset, .unset, .unset, .unset, .unset, .unset] [(.int (0 : Int32)), (.long p0)])) _
    refine st1 _ ?_
    show Steps p.tables e below (T1.setTop (mkF m 14 #[.val (.long p0), .second, .val (.long p1), .second, .val (.int p2), .val (.int nn), .unset, .unset, .unset, .unset, .unset, .unset, .unset, .unset, .unset, .unset, .unset, .unset, .unset] [(.int (own_comp p0 (0 : Int32)))])) _
    refine XS.istore X1.here hx rfl (hb hby at_14) rfl (l' := #[.val (.long p0), .second, .val (.long p1), .second, .val (.int p2), .val (.int nn), .val (.int (own_comp p0 (0 : Int32))), .unset, .unset, .unset, .unset, .unset, .unset, .unset, .unset, .unset, .unset, .unset, .unset]) rfl ?_
    show Steps p.tables e below (T1.setTop (mkF m 16 #[.val (.long p0), .second, .val (.long p1), .second, .val (.int p2), .val (.int nn), .val (.int (own_comp p0 (0 : Int32))), .unset, .unset, .unset, .unset, .unset, .unset, .unset, .unset, .unset, .unset, .unset, .unset] [])) _
    refine XS.lloadN X1.here hx rfl (hb hby at_16) rfl ?_
    show Steps p.tables e below (T1.setTop (mkF m 17 #[.val (.long p0), .second, .val (.long p1), .second, .val (.int p2), .val (.int nn), .val (.int (own_comp p0 (0 : Int32))), .unset, .unset, .unset, .unset, .unset, .unset, .unset, .unset, .unset, .unset, .unset, .unset] [(.long p0)])) _
    refine XS.iconst X1.here hx rfl (hb hby at_17) ?_
    show Steps p.tables e below (T1.setTop (mkF m 18 #[.val (.long p0), .second, .val (.long p1), .second, .val (.int p2), .val (.int nn), .val (.int (own_comp p0 (0 : Int32))), .unset, .unset, .unset, .unset, .unset, .unset, .unset, .unset, .unset, .unset, .unset, .unset] [(.int (1 : Int32)), (.long p0)])) _
    refine st2 _ ?_
    show Steps p.tables e below (T2.setTop (mkF m 21 #[.val (.long p0), .second, .val (.long p1), .second, .val (.int p2), .val (.int nn), .val (.int (own_comp p0 (0 : Int32))), .unset, .unset, .unset, .unset, .unset, .unset, .unset, .unset, .unset, .unset, .unset, .unset] [(.int (own_comp p0 (1 : Int32)))])) _
    refine XS.istore X2.here hx rfl (hb hby at_21) rfl (l' := #[.val (.long p0), .second, .val (.long p1), .second, .val (.int p2), .val (.int nn), .val (.int (own_comp p0 (0 : Int32))), .val (.int (own_comp p0 (1 : Int32))), .unset, .unset, .unset, .unset, .unset, .unset, .unset, .unset, .unset, .unset, .unset]) rfl ?_
    show Steps p.tables e below (T2.setTop (mkF m 23 #[.val (.long p0), .second, .val (.long p1), .second, .val (.int p2), .val (.int nn), .val (.int (own_comp p0 (0 : Int32))), .val (.int (own_comp p0 (1 : Int32))), .unset, .unset, .unset, .unset, .unset, .unset, .unset, .unset, .unset, .unset, .unset] [])) _
    refine XS.lloadN X2.here hx rfl (hb hby at_23) rfl ?_
    show Steps p.tables e below (T2.setTop (mkF m 24 #[.val (.long p0), .second, .val (.long p1), .second, .val (.int p2), .val (.int nn), .val (.int (own_comp p0 (0 : Int32))), .val (.int (own_comp p0 (1 : Int32))), .unset, .unset, .unset, .unset, .unset, .unset, .unset, .unset, .unset, .unset, .unset] [(.long p0)])) _
    refine XS.iconst X2.here hx rfl (hb hby at_24) ?_
    show Steps p.tables e below (T2.setTop (mkF m 25 #[.val (.long p0), .second, .val (.long p1), .second, .val (.int p2), .val (.int nn), .val (.int (own_comp p0 (0 : Int32))), .val (.int (own_comp p0 (1 : Int32))), .unset, .unset, .unset, .unset, .unset, .unset, .unset, .unset, .unset, .unset, .unset] [(.int (2 : Int32)), (.long p0)])) _
    refine st3 _ ?_
    show Steps p.tables e below (T3.setTop (mkF m 28 #[.val (.long p0), .second, .val (.long p1), .second, .val (.int p2), .val (.int nn), .val (.int (own_comp p0 (0 : Int32))), .val (.int (own_comp p0 (1 : Int32))), .unset, .unset, .unset, .unset, .unset, .unset, .unset, .unset, .unset, .unset, .unset] [(.int (own_comp p0 (2 : Int32)))])) _
    refine XS.istore X3.here hx rfl (hb hby at_28) rfl (l' := #[.val (.long p0), .second, .val (.long p1), .second, .val (.int p2), .val (.int nn), .val (.int (own_comp p0 (0 : Int32))), .val (.int (own_comp p0 (1 : Int32))), .val (.int (own_comp p0 (2 : Int32))), .unset, .unset, .unset, .unset, .unset, .unset, .unset, .unset, .unset, .unset]) rfl ?_
    show Steps p.tables e below (T3.setTop (mkF m 30 #[.val (.long p0), .second, .val (.long p1), .second, .val (.int p2), .val (.int nn), .val (.int (own_comp p0 (0 : Int32))), .val (.int (own_comp p0 (1 : Int32))), .val (.int (own_comp p0 (2 : Int32))), .unset, .unset, .unset, .unset, .unset, .unset, .unset, .unset, .unset, .unset] [])) _
    refine XS.lloadN X3.here hx rfl (hb hby at_30) rfl ?_
    show Steps p.tables e below (T3.setTop (mkF m 31 #[.val (.long p0), .second, .val (.long p1), .second, .val (.int p2), .val (.int nn), .val (.int (own_comp p0 (0 : Int32))), .val (.int (own_comp p0 (1 : Int32))), .val (.int (own_comp p0 (2 : Int32))), .unset, .unset, .unset, .unset, .unset, .unset, .unset, .unset, .unset, .unset] [(.long p0)])) _
    refine XS.iconst X3.here hx rfl (hb hby at_31) ?_
    show Steps p.tables e below (T3.setTop (mkF m 32 #[.val (.long p0), .second, .val (.long p1), .second, .val (.int p2), .val (.int nn), .val (.int (own_comp p0 (0 : Int32))), .val (.int (own_comp p0 (1 : Int32))), .val (.int (own_comp p0 (2 : Int32))), .unset, .unset, .unset, .unset, .unset, .unset, .unset, .unset, .unset, .unset] [(.int (3 : Int32)), (.long p0)])) _
    refine st4 _ ?_
    show Steps p.tables e below (T4.setTop (mkF m 35 #[.val (.long p0), .second, .val (.long p1), .second, .val (.int p2), .val (.int nn), .val (.int (own_comp p0 (0 : Int32))), .val (.int (own_comp p0 (1 : Int32))), .val (.int (own_comp p0 (2 : Int32))), .unset, .unset, .unset, .unset, .unset, .unset, .unset, .unset, .unset, .unset] [(.int (own_comp p0 (3 : Int32)))])) _
    refine XS.istore X4.here hx rfl (hb hby at_35) rfl (l' := #[.val (.long p0), .second, .val (.long p1), .second, .val (.int p2), .val (.int nn), .val (.int (own_comp p0 (0 : Int32))), .val (.int (own_comp p0 (1 : Int32))), .val (.int (own_comp p0 (2 : Int32))), .val (.int (own_comp p0 (3 : Int32))), .unset, .unset, .unset, .unset, .unset, .unset, .unset, .unset, .unset]) rfl ?_
    show Steps p.tables e below (T4.setTop (mkF m 37 #[.val (.long p0), .second, .val (.long p1), .second, .val (.int p2), .val (.int nn), .val (.int (own_comp p0 (0 : Int32))), .val (.int (own_comp p0 (1 : Int32))), .val (.int (own_comp p0 (2 : Int32))), .val (.int (own_comp p0 (3 : Int32))), .unset, .unset, .unset, .unset, .unset, .unset, .unset, .unset, .unset] [])) _
    refine XS.lloadN X4.here hx rfl (hb hby at_37) rfl ?_
    show Steps p.tables e below (T4.setTop (mkF m 38 #[.val (.long p0), .second, .val (.long p1), .second, .val (.int p2), .val (.int nn), .val (.int (own_comp p0 (0 : Int32))), .val (.int (own_comp p0 (1 : Int32))), .val (.int (own_comp p0 (2 : Int32))), .val (.int (own_comp p0 (3 : Int32))), .unset, .unset, .unset, .unset, .unset, .unset, .unset, .unset, .unset] [(.long p1)])) _
    refine XS.iconst X4.here hx rfl (hb hby at_38) ?_
    show Steps p.tables e below (T4.setTop (mkF m 39 #[.val (.long p0), .second, .val (.long p1), .second, .val (.int p2), .val (.int nn), .val (.int (own_comp p0 (0 : Int32))), .val (.int (own_comp p0 (1 : Int32))), .val (.int (own_comp p0 (2 : Int32))), .val (.int (own_comp p0 (3 : Int32))), .unset, .unset, .unset, .unset, .unset, .unset, .unset, .unset, .unset] [(.int (0 : Int32)), (.long p1)])) _
    refine st5 _ ?_
    show Steps p.tables e below (T5.setTop (mkF m 42 #[.val (.long p0), .second, .val (.long p1), .second, .val (.int p2), .val (.int nn), .val (.int (own_comp p0 (0 : Int32))), .val (.int (own_comp p0 (1 : Int32))), .val (.int (own_comp p0 (2 : Int32))), .val (.int (own_comp p0 (3 : Int32))), .unset, .unset, .unset, .unset, .unset, .unset, .unset, .unset, .unset] [(.int (own_comp p1 (0 : Int32)))])) _
    refine XS.istore X5.here hx rfl (hb hby at_42) rfl (l' := #[.val (.long p0), .second, .val (.long p1), .second, .val (.int p2), .val (.int nn), .val (.int (own_comp p0 (0 : Int32))), .val (.int (own_comp p0 (1 : Int32))), .val (.int (own_comp p0 (2 : Int32))), .val (.int (own_comp p0 (3 : Int32))), .val (.int (own_comp p1 (0 : Int32))), .unset, .unset, .unset, .unset, .unset, .unset, .unset, .unset]) rfl ?_
    show Steps p.tables e below (T5.setTop (mkF m 44 #[.val (.long p0), .second, .val (.long p1), .second, .val (.int p2), .val (.int nn), .val (.int (own_comp p0 (0 : Int32))), .val (.int (own_comp p0 (1 : Int32))), .val (.int (own_comp p0 (2 : Int32))), .val (.int (own_comp p0 (3 : Int32))), .val (.int (own_comp p1 (0 : Int32))), .unset, .unset, .unset, .unset, .unset, .unset, .unset, .unset] [])) _
    refine XS.lloadN X5.here hx rfl (hb hby at_44) rfl ?_
    show Steps p.tables e below (T5.setTop (mkF m 45 #[.val (.long p0), .second, .val (.long p1), .second, .val (.int p2), .val (.int nn), .val (.int (own_comp p0 (0 : Int32))), .val (.int (own_comp p0 (1 : Int32))), .val (.int (own_comp p0 (2 : Int32))), .val (.int (own_comp p0 (3 : Int32))), .val (.int (own_comp p1 (0 : Int32))), .unset, .unset, .unset, .unset, .unset, .unset, .unset, .unset] [(.long p1)])) _
    refine XS.iconst X5.here hx rfl (hb hby at_45) ?_
    show Steps p.tables e below (T5.setTop (mkF m 46 #[.val (.long p0), .second, .val (.long p1), .second, .val (.int p2), .val (.int nn), .val (.int (own_comp p0 (0 : Int32))), .val (.int (own_comp p0 (1 : Int32))), .val (.int (own_comp p0 (2 : Int32))), .val (.int (own_comp p0 (3 : Int32))), .val (.int (own_comp p1 (0 : Int32))), .unset, .unset, .unset, .unset, .unset, .unset, .unset, .unset] [(.int (1 : Int32)), (.long p1)])) _
    refine st6 _ ?_
    show Steps p.tables e below (T6.setTop (mkF m 49 #[.val (.long p0), .second, .val (.long p1), .second, .val (.int p2), .val (.int nn), .val (.int (own_comp p0 (0 : Int32))), .val (.int (own_comp p0 (1 : Int32))), .val (.int (own_comp p0 (2 : Int32))), .val (.int (own_comp p0 (3 : Int32))), .val (.int (own_comp p1 (0 : Int32))), .unset, .unset, .unset, .unset, .unset, .unset, .unset, .unset] [(.int (own_comp p1 (1 : Int32)))])) _
    refine XS.istore X6.here hx rfl (hb hby at_49) rfl (l' := #[.val (.long p0), .second, .val (.long p1), .second, .val (.int p2), .val (.int nn), .val (.int (own_comp p0 (0 : Int32))), .val (.int (own_comp p0 (1 : Int32))), .val (.int (own_comp p0 (2 : Int32))), .val (.int (own_comp p0 (3 : Int32))), .val (.int (own_comp p1 (0 : Int32))), .val (.int (own_comp p1 (1 : Int32))), .unset, .unset, .unset, .unset, .unset, .unset, .unset]) rfl ?_
    show Steps p.tables e below (T6.setTop (mkF m 51 #[.val (.long p0), .second, .val (.long p1), .second, .val (.int p2), .val (.int nn), .val (.int (own_comp p0 (0 : Int32))), .val (.int (own_comp p0 (1 : Int32))), .val (.int (own_comp p0 (2 : Int32))), .val (.int (own_comp p0 (3 : Int32))), .val (.int (own_comp p1 (0 : Int32))), .val (.int (own_comp p1 (1 : Int32))), .unset, .unset, .unset, .unset, .unset, .unset, .unset] [])) _
    refine XS.lloadN X6.here hx rfl (hb hby at_51) rfl ?_
    show Steps p.tables e below (T6.setTop (mkF m 52 #[.val (.long p0), .second, .val (.long p1), .second, .val (.int p2), .val (.int nn), .val (.int (own_comp p0 (0 : Int32))), .val (.int (own_comp p0 (1 : Int32))), .val (.int (own_comp p0 (2 : Int32))), .val (.int (own_comp p0 (3 : Int32))), .val (.int (own_comp p1 (0 : Int32))), .val (.int (own_comp p1 (1 : Int32))), .unset, .unset, .unset, .unset, .unset, .unset, .unset] [(.long p1)])) _
    refine XS.iconst X6.here hx rfl (hb hby at_52) ?_
    show Steps p.tables e below (T6.setTop (mkF m 53 #[.val (.long p0), .second, .val (.long p1), .second, .val (.int p2), .val (.int nn), .val (.int (own_comp p0 (0 : Int32))), .val (.int (own_comp p0 (1 : Int32))), .val (.int (own_comp p0 (2 : Int32))), .val (.int (own_comp p0 (3 : Int32))), .val (.int (own_comp p1 (0 : Int32))), .val (.int (own_comp p1 (1 : Int32))), .unset, .unset, .unset, .unset, .unset, .unset, .unset] [(.int (2 : Int32)), (.long p1)])) _
    refine st7 _ ?_
    show Steps p.tables e below (T7.setTop (mkF m 56 #[.val (.long p0), .second, .val (.long p1), .second, .val (.int p2), .val (.int nn), .val (.int (own_comp p0 (0 : Int32))), .val (.int (own_comp p0 (1 : Int32))), .val (.int (own_comp p0 (2 : Int32))), .val (.int (own_comp p0 (3 : Int32))), .val (.int (own_comp p1 (0 : Int32))), .val (.int (own_comp p1 (1 : Int32))), .unset, .unset, .unset, .unset, .unset, .unset, .unset] [(.int (own_comp p1 (2 : Int32)))])) _
    refine XS.istore X7.here hx rfl (hb hby at_56) rfl (l' := #[.val (.long p0), .second, .val (.long p1), .second, .val (.int p2), .val (.int nn), .val (.int (own_comp p0 (0 : Int32))), .val (.int (own_comp p0 (1 : Int32))), .val (.int (own_comp p0 (2 : Int32))), .val (.int (own_comp p0 (3 : Int32))), .val (.int (own_comp p1 (0 : Int32))), .val (.int (own_comp p1 (1 : Int32))), .val (.int (own_comp p1 (2 : Int32))), .unset, .unset, .unset, .unset, .unset, .unset]) rfl ?_
    show Steps p.tables e below (T7.setTop (mkF m 58 #[.val (.long p0), .second, .val (.long p1), .second, .val (.int p2), .val (.int nn), .val (.int (own_comp p0 (0 : Int32))), .val (.int (own_comp p0 (1 : Int32))), .val (.int (own_comp p0 (2 : Int32))), .val (.int (own_comp p0 (3 : Int32))), .val (.int (own_comp p1 (0 : Int32))), .val (.int (own_comp p1 (1 : Int32))), .val (.int (own_comp p1 (2 : Int32))), .unset, .unset, .unset, .unset, .unset, .unset] [])) _
    refine XS.lloadN X7.here hx rfl (hb hby at_58) rfl ?_
    show Steps p.tables e below (T7.setTop (mkF m 59 #[.val (.long p0), .second, .val (.long p1), .second, .val (.int p2), .val (.int nn), .val (.int (own_comp p0 (0 : Int32))), .val (.int (own_comp p0 (1 : Int32))), .val (.int (own_comp p0 (2 : Int32))), .val (.int (own_comp p0 (3 : Int32))), .val (.int (own_comp p1 (0 : Int32))), .val (.int (own_comp p1 (1 : Int32))), .val (.int (own_comp p1 (2 : Int32))), .unset, .unset, .unset, .unset, .unset, .unset] [(.long p1)])) _
    refine XS.iconst X7.here hx rfl (hb hby at_59) ?_
    show Steps p.tables e below (T7.setTop (mkF m 60 #[.val (.long p0), .second, .val (.long p1), .second, .val (.int p2), .val (.int nn), .val (.int (own_comp p0 (0 : Int32))), .val (.int (own_comp p0 (1 : Int32))), .val (.int (own_comp p0 (2 : Int32))), .val (.int (own_comp p0 (3 : Int32))), .val (.int (own_comp p1 (0 : Int32))), .val (.int (own_comp p1 (1 : Int32))), .val (.int (own_comp p1 (2 : Int32))), .unset, .unset, .unset, .unset, .unset, .unset] [(.int (3 : Int32)), (.long p1)])) _
    refine st8 _ ?_
    show Steps p.tables e below (T8.setTop (mkF m 63 #[.val (.long p0), .second, .val (.long p1), .second, .val (.int p2), .val (.int nn), .val (.int (own_comp p0 (0 : Int32))), .val (.int (own_comp p0 (1 : Int32))), .val (.int (own_comp p0 (2 : Int32))), .val (.int (own_comp p0 (3 : Int32))), .val (.int (own_comp p1 (0 : Int32))), .val (.int (own_comp p1 (1 : Int32))), .val (.int (own_comp p1 (2 : Int32))), .unset, .unset, .unset, .unset, .unset, .unset] [(.int (own_comp p1 (3 : Int32)))])) _
    refine XS.istore X8.here hx rfl (hb hby at_63) rfl (l' := #[.val (.long p0), .second, .val (.long p1), .second, .val (.int p2), .val (.int nn), .val (.int (own_comp p0 (0 : Int32))), .val (.int (own_comp p0 (1 : Int32))), .val (.int (own_comp p0 (2 : Int32))), .val (.int (own_comp p0 (3 : Int32))), .val (.int (own_comp p1 (0 : Int32))), .val (.int (own_comp p1 (1 : Int32))), .val (.int (own_comp p1 (2 : Int32))), .val (.int (own_comp p1 (3 : Int32))), .unset, .unset, .unset, .unset, .unset]) rfl ?_
    show Steps p.tables e below (T8.setTop (mkF m 65 #[.val (.long p0), .second, .val (.long p1), .second, .val (.int p2), .val (.int nn), .val (.int (own_comp p0 (0 : Int32))), .val (.int (own_comp p0 (1 : Int32))), .val (.int (own_comp p0 (2 : Int32))), .val (.int (own_comp p0 (3 : Int32))), .val (.int (own_comp p1 (0 : Int32))), .val (.int (own_comp p1 (1 : Int32))), .val (.int (own_comp p1 (2 : Int32))), .val (.int (own_comp p1 (3 : Int32))), .unset, .unset, .unset, .unset, .unset] [])) _
    exact k
  generalize (own_comp p0 (0 : Int32)) = ua0 at pre1
  generalize (own_comp p0 (1 : Int32)) = ua1 at pre1
  generalize (own_comp p0 (2 : Int32)) = ua2 at pre1
  generalize (own_comp p0 (3 : Int32)) = ua3 at pre1
  generalize (own_comp p1 (0 : Int32)) = ub0 at pre1
  generalize (own_comp p1 (1 : Int32)) = ub1 at pre1
  generalize (own_comp p1 (2 : Int32)) = ub2 at pre1
  generalize (own_comp p1 (3 : Int32)) = ub3 at pre1
  clear pre0
  rcases hn5 with rfl | rfl | rfl | rfl | rfl
  · skip
    obtain ⟨T9, h9, k9, X9, e9, E9, A9, st9⟩ := newP X8 hx hZ (hw _ (List.mem_of_getElem? (i := 5) rfl)) rfl (g := (mkF m 67 #[.val (.long p0), .second, .val (.long p1), .second, .val (.int p2), .val (.int (0 : Int32)), .val (.int ua0), .val (.int ua1), .val (.int ua2), .val (.int ua3), .val (.int ub0), .val (.int ub1), .val (.int ub2), .val (.int ub3), .unset, .unset, .unset, .unset, .unset] [(.int (0 : Int32))])) rfl (hb hby at_67) rfl (by decide) (cap := 0) (by decide) (by decide) (by decide) (by decide)
    obtain ⟨b9, g9⟩ : ∃ z, z = T8.heap.size := ⟨_, rfl⟩
    rw [← g9] at A9 st9
    have V9 : Arv Z h9 b9 k9 .double (0 : Int32) (List.replicate 0 (.double 0)) (.double 0) := (Arv.new A9 (by decide)).pad (pad_rep [] (.double 0) 0)
    have g9b : n0 ≤ b9 := Nat.le_trans zz8 (Nat.le_of_eq g9.symm)
    obtain ⟨T10, h10, k10, X10, e10, E10, A10, st10⟩ := newP X9 hx hZ (hw _ (List.mem_of_getElem? (i := 5) rfl)) e9 (g := (mkF m 73 #[.val (.long p0), .second, .val (.long p1), .second, .val (.int p2), .val (.int (0 : Int32)), .val (.int ua0), .val (.int ua1), .val (.int ua2), .val (.int ua3), .val (.int ub0), .val (.int ub1), .val (.int ub2), .val (.int ub3), .val (.ref b9), .unset, .unset, .unset, .unset] [(.int (0 : Int32))])) rfl (hb hby at_73) rfl (by decide) (cap := 0) (by decide) (by decide) (by decide) (by decide)
    obtain ⟨b10, g10⟩ : ∃ z, z = h9.size := ⟨_, rfl⟩
    rw [← g10] at A10 st10
    have V10 : Arv Z h10 b10 k10 .double (0 : Int32) (List.replicate 0 (.double 0)) (.double 0) := (Arv.new A10 (by decide)).pad (pad_rep [] (.double 0) 0)
    have g10b : n0 ≤ b10 := Nat.le_trans (Nat.le_trans zz8 E9.1) (Nat.le_of_eq g10.symm)
    have hab : b9 ≠ b10 := Nat.ne_of_lt (Nat.lt_of_lt_of_le V9.lt (Nat.le_of_eq g10.symm))
    have Va := V9.ext E10
    have Vb := V10
    have zz0 : n0 ≤ h10.size := Nat.le_trans (Nat.le_trans zz8 E9.1) E10.1
    obtain ⟨_, _, ⟨T11, L11, k11, n11⟩, -, X11, ⟨Lc11, hQ11, l11, y11, z11⟩, st11⟩ := Jvm.LawKit.callS X10 hx (y := (⟨"com/example/gridfront/gridfront/selection/Pareto", "dominates", "([D[D)Z"⟩ : MethodName)) hown (mvT hZ (hw _ (List.mem_of_getElem? (i := 6) rfl))) (mvT hZ (hw _ (List.mem_of_getElem? (i := 7) rfl))) (mvT hZ (hw _ (List.mem_of_getElem? (i := 8) rfl))) (mvT hZ (hw _ (List.mem_of_getElem? (i := 9) rfl))) (by decide) (backOf (W := 0) (rmP l Z a0 hw [] b9 b10 k9 k10 (0 : Int32) ([] : List (Int32 × Int32)) h10 n0 zz0 Va Vb rfl) hZ (hw _ (List.mem_of_getElem? (i := 9) rfl)) (hw _ (List.mem_of_getElem? (i := 8) rfl)) (by decide) (by decide)) (g := (mkF m 358 #[.val (.long p0), .second, .val (.long p1), .second, .val (.int p2), .val (.int (0 : Int32)), .val (.int ua0), .val (.int ua1), .val (.int ua2), .val (.int ua3), .val (.int ub0), .val (.int ub1), .val (.int ub2), .val (.int ub3), .val (.ref b9), .val (.ref b10), .val (.int (1 : Int32)), .val (.int (0 : Int32)), .val (.int (own_exp (1 : Int32) (0 : Int32)))] [(.ref b10), (.ref b9)])) rfl (by rw [hml]; rfl) (argsL := [(.ref b9), (.ref b10)]) (rest := []) (lenOf pdD rfl) rfl (by show 2 * 0 + _ ≤ _; exact Nat.le_of_eq rfl) (hb hby at_358) (fun _ _ => ⟨rfl, e10, (by decide : 2 + 0 ≤ _), (by decide : 0 + 0 ≤ _)⟩)
    dsimp only [Pt.U, Pt.locs, Pt.cells, Pt.slots] at X11 l11 y11 z11 st11 hQ11
    subst l11 y11 z11
    obtain ⟨rfl, N11q, hh11⟩ := hQ11
    have N11 := Fr.app N8 N11q
    have hfin : own_dom ([] : List (Int32 × Int32)) 0 = (own_exp (1 : Int32) (0 : Int32)) := own_law ([] : List (Int32 × Int32)) 0 (Or.inl rfl)
    obtain ⟨fs, hr, hrun, hended, hW, hsame⟩ := X11.leave (v := some (.int (1 : Int32))) (fun h => by rw [Bd.returns] at h; cases h)
    refine ⟨_, _, pre1 _ ?_, hrun, hended, _, _, rfl, ?_, ⟨_, rfl⟩, hW, hsame.mono (by decide) (by decide)⟩
    · skip
      show Steps p.tables e below (T8.setTop (mkF m 65 #[.val (.long p0), .second, .val (.long p1), .second, .val (.int p2), .val (.int (0 : Int32)), .val (.int ua0), .val (.int ua1), .val (.int ua2), .val (.int ua3), .val (.int ub0), .val (.int ub1), .val (.int ub2), .val (.int ub3), .unset, .unset, .unset, .unset, .unset] [])) _
      refine XS.iload X8.here hx rfl (hb hby at_65) rfl ?_
      show Steps p.tables e below (T8.setTop (mkF m 67 #[.val (.long p0), .second, .val (.long p1), .second, .val (.int p2), .val (.int (0 : Int32)), .val (.int ua0), .val (.int ua1), .val (.int ua2), .val (.int ua3), .val (.int ub0), .val (.int ub1), .val (.int ub2), .val (.int ub3), .unset, .unset, .unset, .unset, .unset] [(.int (0 : Int32))])) _
      refine st9 _ ?_
      show Steps p.tables e below (T9.setTop (mkF m 69 #[.val (.long p0), .second, .val (.long p1), .second, .val (.int p2), .val (.int (0 : Int32)), .val (.int ua0), .val (.int ua1), .val (.int ua2), .val (.int ua3), .val (.int ub0), .val (.int ub1), .val (.int ub2), .val (.int ub3), .unset, .unset, .unset, .unset, .unset] [(.ref b9)])) _
      refine XS.astore X9.here hx rfl (hb hby at_69) rfl rfl (l' := #[.val (.long p0), .second, .val (.long p1), .second, .val (.int p2), .val (.int (0 : Int32)), .val (.int ua0), .val (.int ua1), .val (.int ua2), .val (.int ua3), .val (.int ub0), .val (.int ub1), .val (.int ub2), .val (.int ub3), .val (.ref b9), .unset, .unset, .unset, .unset]) rfl ?_
      show Steps p.tables e below (T9.setTop (mkF m 71 #[.val (.long p0), .second, .val (.long p1), .second, .val (.int p2), .val (.int (0 : Int32)), .val (.int ua0), .val (.int ua1), .val (.int ua2), .val (.int ua3), .val (.int ub0), .val (.int ub1), .val (.int ub2), .val (.int ub3), .val (.ref b9), .unset, .unset, .unset, .unset] [])) _
      refine XS.iload X9.here hx rfl (hb hby at_71) rfl ?_
      show Steps p.tables e below (T9.setTop (mkF m 73 #[.val (.long p0), .second, .val (.long p1), .second, .val (.int p2), .val (.int (0 : Int32)), .val (.int ua0), .val (.int ua1), .val (.int ua2), .val (.int ua3), .val (.int ub0), .val (.int ub1), .val (.int ub2), .val (.int ub3), .val (.ref b9), .unset, .unset, .unset, .unset] [(.int (0 : Int32))])) _
      refine st10 _ ?_
      show Steps p.tables e below (T10.setTop (mkF m 75 #[.val (.long p0), .second, .val (.long p1), .second, .val (.int p2), .val (.int (0 : Int32)), .val (.int ua0), .val (.int ua1), .val (.int ua2), .val (.int ua3), .val (.int ub0), .val (.int ub1), .val (.int ub2), .val (.int ub3), .val (.ref b9), .unset, .unset, .unset, .unset] [(.ref b10)])) _
      refine XS.astore X10.here hx rfl (hb hby at_75) rfl rfl (l' := #[.val (.long p0), .second, .val (.long p1), .second, .val (.int p2), .val (.int (0 : Int32)), .val (.int ua0), .val (.int ua1), .val (.int ua2), .val (.int ua3), .val (.int ub0), .val (.int ub1), .val (.int ub2), .val (.int ub3), .val (.ref b9), .val (.ref b10), .unset, .unset, .unset]) rfl ?_
      show Steps p.tables e below (T10.setTop (mkF m 77 #[.val (.long p0), .second, .val (.long p1), .second, .val (.int p2), .val (.int (0 : Int32)), .val (.int ua0), .val (.int ua1), .val (.int ua2), .val (.int ua3), .val (.int ub0), .val (.int ub1), .val (.int ub2), .val (.int ub3), .val (.ref b9), .val (.ref b10), .unset, .unset, .unset] [])) _
      refine XS.iload X10.here hx rfl (hb hby at_77) rfl ?_
      show Steps p.tables e below (T10.setTop (mkF m 79 #[.val (.long p0), .second, .val (.long p1), .second, .val (.int p2), .val (.int (0 : Int32)), .val (.int ua0), .val (.int ua1), .val (.int ua2), .val (.int ua3), .val (.int ub0), .val (.int ub1), .val (.int ub2), .val (.int ub3), .val (.ref b9), .val (.ref b10), .unset, .unset, .unset] [(.int (0 : Int32))])) _
      refine XS.ifYes X10.here hx rfl (pc0 := 79) (pc' := 96) rfl (hb hby at_79) rfl (by decide) (by decide) (by decide) ?_
      show Steps p.tables e below (T10.setTop (mkF m 96 #[.val (.long p0), .second, .val (.long p1), .second, .val (.int p2), .val (.int (0 : Int32)), .val (.int ua0), .val (.int ua1), .val (.int ua2), .val (.int ua3), .val (.int ub0), .val (.int ub1), .val (.int ub2), .val (.int ub3), .val (.ref b9), .val (.ref b10), .unset, .unset, .unset] [])) _
      refine XS.iload X10.here hx rfl (hb hby at_96) rfl ?_
      show Steps p.tables e below (T10.setTop (mkF m 98 #[.val (.long p0), .second, .val (.long p1), .second, .val (.int p2), .val (.int (0 : Int32)), .val (.int ua0), .val (.int ua1), .val (.int ua2), .val (.int ua3), .val (.int ub0), .val (.int ub1), .val (.int ub2), .val (.int ub3), .val (.ref b9), .val (.ref b10), .unset, .unset, .unset] [(.int (0 : Int32))])) _
      refine XS.iconst X10.here hx rfl (hb hby at_98) ?_
      show Steps p.tables e below (T10.setTop (mkF m 99 #[.val (.long p0), .second, .val (.long p1), .second, .val (.int p2), .val (.int (0 : Int32)), .val (.int ua0), .val (.int ua1), .val (.int ua2), .val (.int ua3), .val (.int ub0), .val (.int ub1), .val (.int ub2), .val (.int ub3), .val (.ref b9), .val (.ref b10), .unset, .unset, .unset] [(.int (1 : Int32)), (.int (0 : Int32))])) _
      refine XS.icmpYes X10.here hx rfl (pc0 := 99) (pc' := 116) rfl (hb hby at_99) rfl (by decide) (by decide) (by decide) ?_
      show Steps p.tables e below (T10.setTop (mkF m 116 #[.val (.long p0), .second, .val (.long p1), .second, .val (.int p2), .val (.int (0 : Int32)), .val (.int ua0), .val (.int ua1), .val (.int ua2), .val (.int ua3), .val (.int ub0), .val (.int ub1), .val (.int ub2), .val (.int ub3), .val (.ref b9), .val (.ref b10), .unset, .unset, .unset] [])) _
      refine XS.iload X10.here hx rfl (hb hby at_116) rfl ?_
      show Steps p.tables e below (T10.setTop (mkF m 118 #[.val (.long p0), .second, .val (.long p1), .second, .val (.int p2), .val (.int (0 : Int32)), .val (.int ua0), .val (.int ua1), .val (.int ua2), .val (.int ua3), .val (.int ub0), .val (.int ub1), .val (.int ub2), .val (.int ub3), .val (.ref b9), .val (.ref b10), .unset, .unset, .unset] [(.int (0 : Int32))])) _
      refine XS.iconst X10.here hx rfl (hb hby at_118) ?_
      show Steps p.tables e below (T10.setTop (mkF m 119 #[.val (.long p0), .second, .val (.long p1), .second, .val (.int p2), .val (.int (0 : Int32)), .val (.int ua0), .val (.int ua1), .val (.int ua2), .val (.int ua3), .val (.int ub0), .val (.int ub1), .val (.int ub2), .val (.int ub3), .val (.ref b9), .val (.ref b10), .unset, .unset, .unset] [(.int (2 : Int32)), (.int (0 : Int32))])) _
      refine XS.icmpYes X10.here hx rfl (pc0 := 119) (pc' := 136) rfl (hb hby at_119) rfl (by decide) (by decide) (by decide) ?_
      show Steps p.tables e below (T10.setTop (mkF m 136 #[.val (.long p0), .second, .val (.long p1), .second, .val (.int p2), .val (.int (0 : Int32)), .val (.int ua0), .val (.int ua1), .val (.int ua2), .val (.int ua3), .val (.int ub0), .val (.int ub1), .val (.int ub2), .val (.int ub3), .val (.ref b9), .val (.ref b10), .unset, .unset, .unset] [])) _
      refine XS.iload X10.here hx rfl (hb hby at_136) rfl ?_
      show Steps p.tables e below (T10.setTop (mkF m 138 #[.val (.long p0), .second, .val (.long p1), .second, .val (.int p2), .val (.int (0 : Int32)), .val (.int ua0), .val (.int ua1), .val (.int ua2), .val (.int ua3), .val (.int ub0), .val (.int ub1), .val (.int ub2), .val (.int ub3), .val (.ref b9), .val (.ref b10), .unset, .unset, .unset] [(.int (0 : Int32))])) _
      refine XS.iconst X10.here hx rfl (hb hby at_138) ?_
      show Steps p.tables e below (T10.setTop (mkF m 139 #[.val (.long p0), .second, .val (.long p1), .second, .val (.int p2), .val (.int (0 : Int32)), .val (.int ua0), .val (.int ua1), .val (.int ua2), .val (.int ua3), .val (.int ub0), .val (.int ub1), .val (.int ub2), .val (.int ub3), .val (.ref b9), .val (.ref b10), .unset, .unset, .unset] [(.int (3 : Int32)), (.int (0 : Int32))])) _
      refine XS.icmpYes X10.here hx rfl (pc0 := 139) (pc' := 156) rfl (hb hby at_139) rfl (by decide) (by decide) (by decide) ?_
      show Steps p.tables e below (T10.setTop (mkF m 156 #[.val (.long p0), .second, .val (.long p1), .second, .val (.int p2), .val (.int (0 : Int32)), .val (.int ua0), .val (.int ua1), .val (.int ua2), .val (.int ua3), .val (.int ub0), .val (.int ub1), .val (.int ub2), .val (.int ub3), .val (.ref b9), .val (.ref b10), .unset, .unset, .unset] [])) _
      refine XS.iconst X10.here hx rfl (hb hby at_156) ?_
      show Steps p.tables e below (T10.setTop (mkF m 157 #[.val (.long p0), .second, .val (.long p1), .second, .val (.int p2), .val (.int (0 : Int32)), .val (.int ua0), .val (.int ua1), .val (.int ua2), .val (.int ua3), .val (.int ub0), .val (.int ub1), .val (.int ub2), .val (.int ub3), .val (.ref b9), .val (.ref b10), .unset, .unset, .unset] [(.int (1 : Int32))])) _
      refine XS.istore X10.here hx rfl (hb hby at_157) rfl (l' := #[.val (.long p0), .second, .val (.long p1), .second, .val (.int p2), .val (.int (0 : Int32)), .val (.int ua0), .val (.int ua1), .val (.int ua2), .val (.int ua3), .val (.int ub0), .val (.int ub1), .val (.int ub2), .val (.int ub3), .val (.ref b9), .val (.ref b10), .val (.int (1 : Int32)), .unset, .unset]) rfl ?_
      show Steps p.tables e below (T10.setTop (mkF m 159 #[.val (.long p0), .second, .val (.long p1), .second, .val (.int p2), .val (.int (0 : Int32)), .val (.int ua0), .val (.int ua1), .val (.int ua2), .val (.int ua3), .val (.int ub0), .val (.int ub1), .val (.int ub2), .val (.int ub3), .val (.ref b9), .val (.ref b10), .val (.int (1 : Int32)), .unset, .unset] [])) _
      refine XS.iconst X10.here hx rfl (hb hby at_159) ?_
      show Steps p.tables e below (T10.setTop (mkF m 160 #[.val (.long p0), .second, .val (.long p1), .second, .val (.int p2), .val (.int (0 : Int32)), .val (.int ua0), .val (.int ua1), .val (.int ua2), .val (.int ua3), .val (.int ub0), .val (.int ub1), .val (.int ub2), .val (.int ub3), .val (.ref b9), .val (.ref b10), .val (.int (1 : Int32)), .unset, .unset] [(.int (0 : Int32))])) _
      refine XS.istore X10.here hx rfl (hb hby at_160) rfl (l' := #[.val (.long p0), .second, .val (.long p1), .second, .val (.int p2), .val (.int (0 : Int32)), .val (.int ua0), .val (.int ua1), .val (.int ua2), .val (.int ua3), .val (.int ub0), .val (.int ub1), .val (.int ub2), .val (.int ub3), .val (.ref b9), .val (.ref b10), .val (.int (1 : Int32)), .val (.int (0 : Int32)), .unset]) rfl ?_
      show Steps p.tables e below (T10.setTop (mkF m 162 #[.val (.long p0), .second, .val (.long p1), .second, .val (.int p2), .val (.int (0 : Int32)), .val (.int ua0), .val (.int ua1), .val (.int ua2), .val (.int ua3), .val (.int ub0), .val (.int ub1), .val (.int ub2), .val (.int ub3), .val (.ref b9), .val (.ref b10), .val (.int (1 : Int32)), .val (.int (0 : Int32)), .unset] [])) _
      refine XS.iload X10.here hx rfl (hb hby at_162) rfl ?_
      show Steps p.tables e below (T10.setTop (mkF m 164 #[.val (.long p0), .second, .val (.long p1), .second, .val (.int p2), .val (.int (0 : Int32)), .val (.int ua0), .val (.int ua1), .val (.int ua2), .val (.int ua3), .val (.int ub0), .val (.int ub1), .val (.int ub2), .val (.int ub3), .val (.ref b9), .val (.ref b10), .val (.int (1 : Int32)), .val (.int (0 : Int32)), .unset] [(.int (0 : Int32))])) _
      refine XS.ifYes X10.here hx rfl (pc0 := 164) (pc' := 205) rfl (hb hby at_164) rfl (by decide) (by decide) (by decide) ?_
      show Steps p.tables e below (T10.setTop (mkF m 205 #[.val (.long p0), .second, .val (.long p1), .second, .val (.int p2), .val (.int (0 : Int32)), .val (.int ua0), .val (.int ua1), .val (.int ua2), .val (.int ua3), .val (.int ub0), .val (.int ub1), .val (.int ub2), .val (.int ub3), .val (.ref b9), .val (.ref b10), .val (.int (1 : Int32)), .val (.int (0 : Int32)), .unset] [])) _
      refine XS.iload X10.here hx rfl (hb hby at_205) rfl ?_
      show Steps p.tables e below (T10.setTop (mkF m 207 #[.val (.long p0), .second, .val (.long p1), .second, .val (.int p2), .val (.int (0 : Int32)), .val (.int ua0), .val (.int ua1), .val (.int ua2), .val (.int ua3), .val (.int ub0), .val (.int ub1), .val (.int ub2), .val (.int ub3), .val (.ref b9), .val (.ref b10), .val (.int (1 : Int32)), .val (.int (0 : Int32)), .unset] [(.int (0 : Int32))])) _
      refine XS.iconst X10.here hx rfl (hb hby at_207) ?_
      show Steps p.tables e below (T10.setTop (mkF m 208 #[.val (.long p0), .second, .val (.long p1), .second, .val (.int p2), .val (.int (0 : Int32)), .val (.int ua0), .val (.int ua1), .val (.int ua2), .val (.int ua3), .val (.int ub0), .val (.int ub1), .val (.int ub2), .val (.int ub3), .val (.ref b9), .val (.ref b10), .val (.int (1 : Int32)), .val (.int (0 : Int32)), .unset] [(.int (1 : Int32)), (.int (0 : Int32))])) _
      refine XS.icmpYes X10.here hx rfl (pc0 := 208) (pc' := 249) rfl (hb hby at_208) rfl (by decide) (by decide) (by decide) ?_
      show Steps p.tables e below (T10.setTop (mkF m 249 #[.val (.long p0), .second, .val (.long p1), .second, .val (.int p2), .val (.int (0 : Int32)), .val (.int ua0), .val (.int ua1), .val (.int ua2), .val (.int ua3), .val (.int ub0), .val (.int ub1), .val (.int ub2), .val (.int ub3), .val (.ref b9), .val (.ref b10), .val (.int (1 : Int32)), .val (.int (0 : Int32)), .unset] [])) _
      refine XS.iload X10.here hx rfl (hb hby at_249) rfl ?_
      show Steps p.tables e below (T10.setTop (mkF m 251 #[.val (.long p0), .second, .val (.long p1), .second, .val (.int p2), .val (.int (0 : Int32)), .val (.int ua0), .val (.int ua1), .val (.int ua2), .val (.int ua3), .val (.int ub0), .val (.int ub1), .val (.int ub2), .val (.int ub3), .val (.ref b9), .val (.ref b10), .val (.int (1 : Int32)), .val (.int (0 : Int32)), .unset] [(.int (0 : Int32))])) _
      refine XS.iconst X10.here hx rfl (hb hby at_251) ?_
      show Steps p.tables e below (T10.setTop (mkF m 252 #[.val (.long p0), .second, .val (.long p1), .second, .val (.int p2), .val (.int (0 : Int32)), .val (.int ua0), .val (.int ua1), .val (.int ua2), .val (.int ua3), .val (.int ub0), .val (.int ub1), .val (.int ub2), .val (.int ub3), .val (.ref b9), .val (.ref b10), .val (.int (1 : Int32)), .val (.int (0 : Int32)), .unset] [(.int (2 : Int32)), (.int (0 : Int32))])) _
      refine XS.icmpYes X10.here hx rfl (pc0 := 252) (pc' := 293) rfl (hb hby at_252) rfl (by decide) (by decide) (by decide) ?_
      show Steps p.tables e below (T10.setTop (mkF m 293 #[.val (.long p0), .second, .val (.long p1), .second, .val (.int p2), .val (.int (0 : Int32)), .val (.int ua0), .val (.int ua1), .val (.int ua2), .val (.int ua3), .val (.int ub0), .val (.int ub1), .val (.int ub2), .val (.int ub3), .val (.ref b9), .val (.ref b10), .val (.int (1 : Int32)), .val (.int (0 : Int32)), .unset] [])) _
      refine XS.iload X10.here hx rfl (hb hby at_293) rfl ?_
      show Steps p.tables e below (T10.setTop (mkF m 295 #[.val (.long p0), .second, .val (.long p1), .second, .val (.int p2), .val (.int (0 : Int32)), .val (.int ua0), .val (.int ua1), .val (.int ua2), .val (.int ua3), .val (.int ub0), .val (.int ub1), .val (.int ub2), .val (.int ub3), .val (.ref b9), .val (.ref b10), .val (.int (1 : Int32)), .val (.int (0 : Int32)), .unset] [(.int (0 : Int32))])) _
      refine XS.iconst X10.here hx rfl (hb hby at_295) ?_
      show Steps p.tables e below (T10.setTop (mkF m 296 #[.val (.long p0), .second, .val (.long p1), .second, .val (.int p2), .val (.int (0 : Int32)), .val (.int ua0), .val (.int ua1), .val (.int ua2), .val (.int ua3), .val (.int ub0), .val (.int ub1), .val (.int ub2), .val (.int ub3), .val (.ref b9), .val (.ref b10), .val (.int (1 : Int32)), .val (.int (0 : Int32)), .unset] [(.int (3 : Int32)), (.int (0 : Int32))])) _
      refine XS.icmpYes X10.here hx rfl (pc0 := 296) (pc' := 337) rfl (hb hby at_296) rfl (by decide) (by decide) (by decide) ?_
      show Steps p.tables e below (T10.setTop (mkF m 337 #[.val (.long p0), .second, .val (.long p1), .second, .val (.int p2), .val (.int (0 : Int32)), .val (.int ua0), .val (.int ua1), .val (.int ua2), .val (.int ua3), .val (.int ub0), .val (.int ub1), .val (.int ub2), .val (.int ub3), .val (.ref b9), .val (.ref b10), .val (.int (1 : Int32)), .val (.int (0 : Int32)), .unset] [])) _
      refine own_bEx X10.here hx hby p0 p1 p2 (0 : Int32) ua0 ua1 ua2 ua3 ub0 ub1 ub2 ub3 (1 : Int32) (0 : Int32) b9 b10 ?_
      show Steps p.tables e below (T10.setTop (mkF m 354 #[.val (.long p0), .second, .val (.long p1), .second, .val (.int p2), .val (.int (0 : Int32)), .val (.int ua0), .val (.int ua1), .val (.int ua2), .val (.int ua3), .val (.int ub0), .val (.int ub1), .val (.int ub2), .val (.int ub3), .val (.ref b9), .val (.ref b10), .val (.int (1 : Int32)), .val (.int (0 : Int32)), .val (.int (own_exp (1 : Int32) (0 : Int32)))] [])) _
      refine XS.aload X10.here hx rfl (hb hby at_354) rfl rfl ?_
      show Steps p.tables e below (T10.setTop (mkF m 356 #[.val (.long p0), .second, .val (.long p1), .second, .val (.int p2), .val (.int (0 : Int32)), .val (.int ua0), .val (.int ua1), .val (.int ua2), .val (.int ua3), .val (.int ub0), .val (.int ub1), .val (.int ub2), .val (.int ub3), .val (.ref b9), .val (.ref b10), .val (.int (1 : Int32)), .val (.int (0 : Int32)), .val (.int (own_exp (1 : Int32) (0 : Int32)))] [(.ref b9)])) _
      refine XS.aload X10.here hx rfl (hb hby at_356) rfl rfl ?_
      show Steps p.tables e below (T10.setTop (mkF m 358 #[.val (.long p0), .second, .val (.long p1), .second, .val (.int p2), .val (.int (0 : Int32)), .val (.int ua0), .val (.int ua1), .val (.int ua2), .val (.int ua3), .val (.int ub0), .val (.int ub1), .val (.int ub2), .val (.int ub3), .val (.ref b9), .val (.ref b10), .val (.int (1 : Int32)), .val (.int (0 : Int32)), .val (.int (own_exp (1 : Int32) (0 : Int32)))] [(.ref b10), (.ref b9)])) _
      refine st11 _ ?_
      show Steps p.tables e below (T11.setTop (mkF m 361 #[.val (.long p0), .second, .val (.long p1), .second, .val (.int p2), .val (.int (0 : Int32)), .val (.int ua0), .val (.int ua1), .val (.int ua2), .val (.int ua3), .val (.int ub0), .val (.int ub1), .val (.int ub2), .val (.int ub3), .val (.ref b9), .val (.ref b10), .val (.int (1 : Int32)), .val (.int (0 : Int32)), .val (.int (own_exp (1 : Int32) (0 : Int32)))] [(.int (own_dom ([] : List (Int32 × Int32)) 0))])) _
      refine XS.iload X11.here hx rfl (hb hby at_361) rfl ?_
      show Steps p.tables e below (T11.setTop (mkF m 363 #[.val (.long p0), .second, .val (.long p1), .second, .val (.int p2), .val (.int (0 : Int32)), .val (.int ua0), .val (.int ua1), .val (.int ua2), .val (.int ua3), .val (.int ub0), .val (.int ub1), .val (.int ub2), .val (.int ub3), .val (.ref b9), .val (.ref b10), .val (.int (1 : Int32)), .val (.int (0 : Int32)), .val (.int (own_exp (1 : Int32) (0 : Int32)))] [(.int (own_exp (1 : Int32) (0 : Int32))), (.int (own_dom ([] : List (Int32 × Int32)) 0))])) _
      refine XS.icmpNo X11.here hx rfl (hb hby at_363) rfl (teq hfin).2 ?_
      show Steps p.tables e below (T11.setTop (mkF m 366 #[.val (.long p0), .second, .val (.long p1), .second, .val (.int p2), .val (.int (0 : Int32)), .val (.int ua0), .val (.int ua1), .val (.int ua2), .val (.int ua3), .val (.int ub0), .val (.int ub1), .val (.int ub2), .val (.int ub3), .val (.ref b9), .val (.ref b10), .val (.int (1 : Int32)), .val (.int (0 : Int32)), .val (.int (own_exp (1 : Int32) (0 : Int32)))] [])) _
      refine XS.iconst X11.here hx rfl (hb hby at_366) ?_
      show Steps p.tables e below (T11.setTop (mkF m 367 #[.val (.long p0), .second, .val (.long p1), .second, .val (.int p2), .val (.int (0 : Int32)), .val (.int ua0), .val (.int ua1), .val (.int ua2), .val (.int ua3), .val (.int ub0), .val (.int ub1), .val (.int ub2), .val (.int ub3), .val (.ref b9), .val (.ref b10), .val (.int (1 : Int32)), .val (.int (0 : Int32)), .val (.int (own_exp (1 : Int32) (0 : Int32)))] [(.int (1 : Int32))])) _
      refine XS.goto X11.here hx rfl (pc0 := 367) (pc' := 371) rfl (hb hby at_367) (by decide) (by decide) ?_
      show Steps p.tables e below (T11.setTop (mkF m 371 #[.val (.long p0), .second, .val (.long p1), .second, .val (.int p2), .val (.int (0 : Int32)), .val (.int ua0), .val (.int ua1), .val (.int ua2), .val (.int ua3), .val (.int ub0), .val (.int ub1), .val (.int ub2), .val (.int ub3), .val (.ref b9), .val (.ref b10), .val (.int (1 : Int32)), .val (.int (0 : Int32)), .val (.int (own_exp (1 : Int32) (0 : Int32)))] [(.int (1 : Int32))])) _
      exact retN X11 hx (t := .boolean) Bd.returns (by simp) (hb hby at_371) hr
    · exact ⟨rfl, N11⟩
  · skip
    obtain ⟨T9, h9, k9, X9, e9, E9, A9, st9⟩ := newP X8 hx hZ (hw _ (List.mem_of_getElem? (i := 5) rfl)) rfl (g := (mkF m 67 #[.val (.long p0), .second, .val (.long p1), .second, .val (.int p2), .val (.int (1 : Int32)), .val (.int ua0), .val (.int ua1), .val (.int ua2), .val (.int ua3), .val (.int ub0), .val (.int ub1), .val (.int ub2), .val (.int ub3), .unset, .unset, .unset, .unset, .unset] [(.int (1 : Int32))])) rfl (hb hby at_67) rfl (by decide) (cap := 1) (by decide) (by decide) (by decide) (by decide)
    obtain ⟨b9, g9⟩ : ∃ z, z = T8.heap.size := ⟨_, rfl⟩
    rw [← g9] at A9 st9
    have V9 : Arv Z h9 b9 k9 .double (1 : Int32) (List.replicate 1 (.double 0)) (.double 0) := (Arv.new A9 (by decide)).pad (pad_rep [] (.double 0) 1)
    have g9b : n0 ≤ b9 := Nat.le_trans zz8 (Nat.le_of_eq g9.symm)
    obtain ⟨T10, h10, k10, X10, e10, E10, A10, st10⟩ := newP X9 hx hZ (hw _ (List.mem_of_getElem? (i := 5) rfl)) e9 (g := (mkF m 73 #[.val (.long p0), .second, .val (.long p1), .second, .val (.int p2), .val (.int (1 : Int32)), .val (.int ua0), .val (.int ua1), .val (.int ua2), .val (.int ua3), .val (.int ub0), .val (.int ub1), .val (.int ub2), .val (.int ub3), .val (.ref b9), .unset, .unset, .unset, .unset] [(.int (1 : Int32))])) rfl (hb hby at_73) rfl (by decide) (cap := 1) (by decide) (by decide) (by decide) (by decide)
    obtain ⟨b10, g10⟩ : ∃ z, z = h9.size := ⟨_, rfl⟩
    rw [← g10] at A10 st10
    have V10 : Arv Z h10 b10 k10 .double (1 : Int32) (List.replicate 1 (.double 0)) (.double 0) := (Arv.new A10 (by decide)).pad (pad_rep [] (.double 0) 1)
    have g10b : n0 ≤ b10 := Nat.le_trans (Nat.le_trans zz8 E9.1) (Nat.le_of_eq g10.symm)
    have hab : b9 ≠ b10 := Nat.ne_of_lt (Nat.lt_of_lt_of_le V9.lt (Nat.le_of_eq g10.symm))
    have Va := V9.ext E10
    have Vb := V10
    have zz0 : n0 ≤ h10.size := Nat.le_trans (Nat.le_trans zz8 E9.1) E10.1
    obtain ⟨c1, Ar1, qk1, S1, M1, H1, U1⟩ := id Va
    obtain ⟨T11, h11, X11, e11, W11, st11⟩ := stD X10 hx hZ e10 Ar1 (j := (0 : Int32)) (inb_of S1 (by decide)) (g := (mkF m 88 #[.val (.long p0), .second, .val (.long p1), .second, .val (.int p2), .val (.int (1 : Int32)), .val (.int ua0), .val (.int ua1), .val (.int ua2), .val (.int ua3), .val (.int ub0), .val (.int ub1), .val (.int ub2), .val (.int ub3), .val (.ref b9), .val (.ref b10), .unset, .unset, .unset] [(.double (FP.i2d ua0)), (.int (0 : Int32)), (.ref b9)])) rfl rfl (hb hby at_88)
    have N11 := Fr.snoc X11 N8 g9b
    have Va := Arv.set Ar1 qk1 S1 M1 H1 U1 (v := .double (FP.i2d ua0)) rfl W11 0 rfl (Nat.le_of_ble_eq_true rfl)
    have Vb := Vb.other W11 hab.symm
    have zz0 : n0 ≤ h11.size := Nat.le_trans zz0 (Nat.le_of_eq W11.size.symm)
    obtain ⟨c1, Ar1, qk1, S1, M1, H1, U1⟩ := id Vb
    obtain ⟨T12, h12, X12, e12, W12, st12⟩ := stD X11 hx hZ e11 Ar1 (j := (0 : Int32)) (inb_of S1 (by decide)) (g := (mkF m 95 #[.val (.long p0), .second, .val (.long p1), .second, .val (.int p2), .val (.int (1 : Int32)), .val (.int ua0), .val (.int ua1), .val (.int ua2), .val (.int ua3), .val (.int ub0), .val (.int ub1), .val (.int ub2), .val (.int ub3), .val (.ref b9), .val (.ref b10), .unset, .unset, .unset] [(.double (FP.i2d ub0)), (.int (0 : Int32)), (.ref b10)])) rfl rfl (hb hby at_95)
    have N12 := Fr.snoc X12 N11 g10b
    have Vb := Arv.set Ar1 qk1 S1 M1 H1 U1 (v := .double (FP.i2d ub0)) rfl W12 0 rfl (Nat.le_of_ble_eq_true rfl)
    have Va := Va.other W12 hab
    have zz0 : n0 ≤ h12.size := Nat.le_trans zz0 (Nat.le_of_eq W12.size.symm)
    obtain ⟨_, _, ⟨T13, L13, k13, n13⟩, -, X13, ⟨Lc13, hQ13, l13, y13, z13⟩, st13⟩ := Jvm.LawKit.callS X12 hx (y := (⟨"com/example/gridfront/gridfront/selection/Pareto", "dominates", "([D[D)Z"⟩ : MethodName)) hown (mvT hZ (hw _ (List.mem_of_getElem? (i := 6) rfl))) (mvT hZ (hw _ (List.mem_of_getElem? (i := 7) rfl))) (mvT hZ (hw _ (List.mem_of_getElem? (i := 8) rfl))) (mvT hZ (hw _ (List.mem_of_getElem? (i := 9) rfl))) (by decide) (backOf (W := 0) (rmP l Z a0 hw [] b9 b10 k9 k10 (1 : Int32) ([(ua0, ub0)] : List (Int32 × Int32)) h12 n0 zz0 Va Vb rfl) hZ (hw _ (List.mem_of_getElem? (i := 9) rfl)) (hw _ (List.mem_of_getElem? (i := 8) rfl)) (by decide) (by decide)) (g := (mkF m 358 #[.val (.long p0), .second, .val (.long p1), .second, .val (.int p2), .val (.int (1 : Int32)), .val (.int ua0), .val (.int ua1), .val (.int ua2), .val (.int ua3), .val (.int ub0), .val (.int ub1), .val (.int ub2), .val (.int ub3), .val (.ref b9), .val (.ref b10), .val (.int (own_le (1 : Int32) ua0 ub0)), .val (.int (own_lt (0 : Int32) ua0 ub0)), .val (.int (own_exp (own_le (1 : Int32) ua0 ub0) (own_lt (0 : Int32) ua0 ub0)))] [(.ref b10), (.ref b9)])) rfl (by rw [hml]; rfl) (argsL := [(.ref b9), (.ref b10)]) (rest := []) (lenOf pdD rfl) rfl (by show 2 * 0 + _ ≤ _; exact Nat.le_of_eq rfl) (hb hby at_358) (fun _ _ => ⟨rfl, e12, (by decide : 2 + 0 ≤ _), (by decide : 2 + 0 ≤ _)⟩)
    dsimp only [Pt.U, Pt.locs, Pt.cells, Pt.slots] at X13 l13 y13 z13 st13 hQ13
    subst l13 y13 z13
    obtain ⟨rfl, N13q, hh13⟩ := hQ13
    have N13 := Fr.app N12 N13q
    have hfin : own_dom ([(ua0, ub0)] : List (Int32 × Int32)) 0 = (own_exp (own_le (1 : Int32) ua0 ub0) (own_lt (0 : Int32) ua0 ub0)) := own_law ([(ua0, ub0)] : List (Int32 × Int32)) 0 (Or.inl rfl)
    obtain ⟨fs, hr, hrun, hended, hW, hsame⟩ := X13.leave (v := some (.int (1 : Int32))) (fun h => by rw [Bd.returns] at h; cases h)
    refine ⟨_, _, pre1 _ ?_, hrun, hended, _, _, rfl, ?_, ⟨_, rfl⟩, hW, hsame.mono (by decide) (by decide)⟩
    · skip
      show Steps p.tables e below (T8.setTop (mkF m 65 #[.val (.long p0), .second, .val (.long p1), .second, .val (.int p2), .val (.int (1 : Int32)), .val (.int ua0), .val (.int ua1), .val (.int ua2), .val (.int ua3), .val (.int ub0), .val (.int ub1), .val (.int ub2), .val (.int ub3), .unset, .unset, .unset, .unset, .unset] [])) _
      refine XS.iload X8.here hx rfl (hb hby at_65) rfl ?_
      show Steps p.tables e below (T8.setTop (mkF m 67 #[.val (.long p0), .second, .val (.long p1), .second, .val (.int p2), .val (.int (1 : Int32)), .val (.int ua0), .val (.int ua1), .val (.int ua2), .val (.int ua3), .val (.int ub0), .val (.int ub1), .val (.int ub2), .val (.int ub3), .unset, .unset, .unset, .unset, .unset] [(.int (1 : Int32))])) _
      refine st9 _ ?_
      show Steps p.tables e below (T9.setTop (mkF m 69 #[.val (.long p0), .second, .val (.long p1), .second, .val (.int p2), .val (.int (1 : Int32)), .val (.int ua0), .val (.int ua1), .val (.int ua2), .val (.int ua3), .val (.int ub0), .val (.int ub1), .val (.int ub2), .val (.int ub3), .unset, .unset, .unset, .unset, .unset] [(.ref b9)])) _
      refine XS.astore X9.here hx rfl (hb hby at_69) rfl rfl (l' := #[.val (.long p0), .second, .val (.long p1), .second, .val (.int p2), .val (.int (1 : Int32)), .val (.int ua0), .val (.int ua1), .val (.int ua2), .val (.int ua3), .val (.int ub0), .val (.int ub1), .val (.int ub2), .val (.int ub3), .val (.ref b9), .unset, .unset, .unset, .unset]) rfl ?_
      show Steps p.tables e below (T9.setTop (mkF m 71 #[.val (.long p0), .second, .val (.long p1), .second, .val (.int p2), .val (.int (1 : Int32)), .val (.int ua0), .val (.int ua1), .val (.int ua2), .val (.int ua3), .val (.int ub0), .val (.int ub1), .val (.int ub2), .val (.int ub3), .val (.ref b9), .unset, .unset, .unset, .unset] [])) _
      refine XS.iload X9.here hx rfl (hb hby at_71) rfl ?_
      show Steps p.tables e below (T9.setTop (mkF m 73 #[.val (.long p0), .second, .val (.long p1), .second, .val (.int p2), .val (.int (1 : Int32)), .val (.int ua0), .val (.int ua1), .val (.int ua2), .val (.int ua3), .val (.int ub0), .val (.int ub1), .val (.int ub2), .val (.int ub3), .val (.ref b9), .unset, .unset, .unset, .unset] [(.int (1 : Int32))])) _
      refine st10 _ ?_
      show Steps p.tables e below (T10.setTop (mkF m 75 #[.val (.long p0), .second, .val (.long p1), .second, .val (.int p2), .val (.int (1 : Int32)), .val (.int ua0), .val (.int ua1), .val (.int ua2), .val (.int ua3), .val (.int ub0), .val (.int ub1), .val (.int ub2), .val (.int ub3), .val (.ref b9), .unset, .unset, .unset, .unset] [(.ref b10)])) _
      refine XS.astore X10.here hx rfl (hb hby at_75) rfl rfl (l' := #[.val (.long p0), .second, .val (.long p1), .second, .val (.int p2), .val (.int (1 : Int32)), .val (.int ua0), .val (.int ua1), .val (.int ua2), .val (.int ua3), .val (.int ub0), .val (.int ub1), .val (.int ub2), .val (.int ub3), .val (.ref b9), .val (.ref b10), .unset, .unset, .unset]) rfl ?_
      show Steps p.tables e below (T10.setTop (mkF m 77 #[.val (.long p0), .second, .val (.long p1), .second, .val (.int p2), .val (.int (1 : Int32)), .val (.int ua0), .val (.int ua1), .val (.int ua2), .val (.int ua3), .val (.int ub0), .val (.int ub1), .val (.int ub2), .val (.int ub3), .val (.ref b9), .val (.ref b10), .unset, .unset, .unset] [])) _
      refine XS.iload X10.here hx rfl (hb hby at_77) rfl ?_
      show Steps p.tables e below (T10.setTop (mkF m 79 #[.val (.long p0), .second, .val (.long p1), .second, .val (.int p2), .val (.int (1 : Int32)), .val (.int ua0), .val (.int ua1), .val (.int ua2), .val (.int ua3), .val (.int ub0), .val (.int ub1), .val (.int ub2), .val (.int ub3), .val (.ref b9), .val (.ref b10), .unset, .unset, .unset] [(.int (1 : Int32))])) _
      refine XS.ifNo X10.here hx rfl (hb hby at_79) rfl (by decide) ?_
      show Steps p.tables e below (T10.setTop (mkF m 82 #[.val (.long p0), .second, .val (.long p1), .second, .val (.int p2), .val (.int (1 : Int32)), .val (.int ua0), .val (.int ua1), .val (.int ua2), .val (.int ua3), .val (.int ub0), .val (.int ub1), .val (.int ub2), .val (.int ub3), .val (.ref b9), .val (.ref b10), .unset, .unset, .unset] [])) _
      refine XS.aload X10.here hx rfl (hb hby at_82) rfl rfl ?_
      show Steps p.tables e below (T10.setTop (mkF m 84 #[.val (.long p0), .second, .val (.long p1), .second, .val (.int p2), .val (.int (1 : Int32)), .val (.int ua0), .val (.int ua1), .val (.int ua2), .val (.int ua3), .val (.int ub0), .val (.int ub1), .val (.int ub2), .val (.int ub3), .val (.ref b9), .val (.ref b10), .unset, .unset, .unset] [(.ref b9)])) _
      refine XS.iconst X10.here hx rfl (hb hby at_84) ?_
      show Steps p.tables e below (T10.setTop (mkF m 85 #[.val (.long p0), .second, .val (.long p1), .second, .val (.int p2), .val (.int (1 : Int32)), .val (.int ua0), .val (.int ua1), .val (.int ua2), .val (.int ua3), .val (.int ub0), .val (.int ub1), .val (.int ub2), .val (.int ub3), .val (.ref b9), .val (.ref b10), .unset, .unset, .unset] [(.int (0 : Int32)), (.ref b9)])) _
      refine XS.iload X10.here hx rfl (hb hby at_85) rfl ?_
      show Steps p.tables e below (T10.setTop (mkF m 87 #[.val (.long p0), .second, .val (.long p1), .second, .val (.int p2), .val (.int (1 : Int32)), .val (.int ua0), .val (.int ua1), .val (.int ua2), .val (.int ua3), .val (.int ub0), .val (.int ub1), .val (.int ub2), .val (.int ub3), .val (.ref b9), .val (.ref b10), .unset, .unset, .unset] [(.int ua0), (.int (0 : Int32)), (.ref b9)])) _
      refine XS.i2dS X10.here hx rfl (v := (FP.i2d ua0)) (hb hby at_87) rfl rfl ?_
      show Steps p.tables e below (T10.setTop (mkF m 88 #[.val (.long p0), .second, .val (.long p1), .second, .val (.int p2), .val (.int (1 : Int32)), .val (.int ua0), .val (.int ua1), .val (.int ua2), .val (.int ua3), .val (.int ub0), .val (.int ub1), .val (.int ub2), .val (.int ub3), .val (.ref b9), .val (.ref b10), .unset, .unset, .unset] [(.double (FP.i2d ua0)), (.int (0 : Int32)), (.ref b9)])) _
      refine st11 _ ?_
      show Steps p.tables e below (T11.setTop (mkF m 89 #[.val (.long p0), .second, .val (.long p1), .second, .val (.int p2), .val (.int (1 : Int32)), .val (.int ua0), .val (.int ua1), .val (.int ua2), .val (.int ua3), .val (.int ub0), .val (.int ub1), .val (.int ub2), .val (.int ub3), .val (.ref b9), .val (.ref b10), .unset, .unset, .unset] [])) _
      refine XS.aload X11.here hx rfl (hb hby at_89) rfl rfl ?_
      show Steps p.tables e below (T11.setTop (mkF m 91 #[.val (.long p0), .second, .val (.long p1), .second, .val (.int p2), .val (.int (1 : Int32)), .val (.int ua0), .val (.int ua1), .val (.int ua2), .val (.int ua3), .val (.int ub0), .val (.int ub1), .val (.int ub2), .val (.int ub3), .val (.ref b9), .val (.ref b10), .unset, .unset, .unset] [(.ref b10)])) _
      refine XS.iconst X11.here hx rfl (hb hby at_91) ?_
      show Steps p.tables e below (T11.setTop (mkF m 92 #[.val (.long p0), .second, .val (.long p1), .second, .val (.int p2), .val (.int (1 : Int32)), .val (.int ua0), .val (.int ua1), .val (.int ua2), .val (.int ua3), .val (.int ub0), .val (.int ub1), .val (.int ub2), .val (.int ub3), .val (.ref b9), .val (.ref b10), .unset, .unset, .unset] [(.int (0 : Int32)), (.ref b10)])) _
      refine XS.iload X11.here hx rfl (hb hby at_92) rfl ?_
      show Steps p.tables e below (T11.setTop (mkF m 94 #[.val (.long p0), .second, .val (.long p1), .second, .val (.int p2), .val (.int (1 : Int32)), .val (.int ua0), .val (.int ua1), .val (.int ua2), .val (.int ua3), .val (.int ub0), .val (.int ub1), .val (.int ub2), .val (.int ub3), .val (.ref b9), .val (.ref b10), .unset, .unset, .unset] [(.int ub0), (.int (0 : Int32)), (.ref b10)])) _
      refine XS.i2dS X11.here hx rfl (v := (FP.i2d ub0)) (hb hby at_94) rfl rfl ?_
      show Steps p.tables e below (T11.setTop (mkF m 95 #[.val (.long p0), .second, .val (.long p1), .second, .val (.int p2), .val (.int (1 : Int32)), .val (.int ua0), .val (.int ua1), .val (.int ua2), .val (.int ua3), .val (.int ub0), .val (.int ub1), .val (.int ub2), .val (.int ub3), .val (.ref b9), .val (.ref b10), .unset, .unset, .unset] [(.double (FP.i2d ub0)), (.int (0 : Int32)), (.ref b10)])) _
      refine st12 _ ?_
      show Steps p.tables e below (T12.setTop (mkF m 96 #[.val (.long p0), .second, .val (.long p1), .second, .val (.int p2), .val (.int (1 : Int32)), .val (.int ua0), .val (.int ua1), .val (.int ua2), .val (.int ua3), .val (.int ub0), .val (.int ub1), .val (.int ub2), .val (.int ub3), .val (.ref b9), .val (.ref b10), .unset, .unset, .unset] [])) _
      refine XS.iload X12.here hx rfl (hb hby at_96) rfl ?_
      show Steps p.tables e below (T12.setTop (mkF m 98 #[.val (.long p0), .second, .val (.long p1), .second, .val (.int p2), .val (.int (1 : Int32)), .val (.int ua0), .val (.int ua1), .val (.int ua2), .val (.int ua3), .val (.int ub0), .val (.int ub1), .val (.int ub2), .val (.int ub3), .val (.ref b9), .val (.ref b10), .unset, .unset, .unset] [(.int (1 : Int32))])) _
      refine XS.iconst X12.here hx rfl (hb hby at_98) ?_
      show Steps p.tables e below (T12.setTop (mkF m 99 #[.val (.long p0), .second, .val (.long p1), .second, .val (.int p2), .val (.int (1 : Int32)), .val (.int ua0), .val (.int ua1), .val (.int ua2), .val (.int ua3), .val (.int ub0), .val (.int ub1), .val (.int ub2), .val (.int ub3), .val (.ref b9), .val (.ref b10), .unset, .unset, .unset] [(.int (1 : Int32)), (.int (1 : Int32))])) _
      refine XS.icmpYes X12.here hx rfl (pc0 := 99) (pc' := 116) rfl (hb hby at_99) rfl (by decide) (by decide) (by decide) ?_
      show Steps p.tables e below (T12.setTop (mkF m 116 #[.val (.long p0), .second, .val (.long p1), .second, .val (.int p2), .val (.int (1 : Int32)), .val (.int ua0), .val (.int ua1), .val (.int ua2), .val (.int ua3), .val (.int ub0), .val (.int ub1), .val (.int ub2), .val (.int ub3), .val (.ref b9), .val (.ref b10), .unset, .unset, .unset] [])) _
      refine XS.iload X12.here hx rfl (hb hby at_116) rfl ?_
      show Steps p.tables e below (T12.setTop (mkF m 118 #[.val (.long p0), .second, .val (.long p1), .second, .val (.int p2), .val (.int (1 : Int32)), .val (.int ua0), .val (.int ua1), .val (.int ua2), .val (.int ua3), .val (.int ub0), .val (.int ub1), .val (.int ub2), .val (.int ub3), .val (.ref b9), .val (.ref b10), .unset, .unset, .unset] [(.int (1 : Int32))])) _
      refine XS.iconst X12.here hx rfl (hb hby at_118) ?_
      show Steps p.tables e below (T12.setTop (mkF m 119 #[.val (.long p0), .second, .val (.long p1), .second, .val (.int p2), .val (.int (1 : Int32)), .val (.int ua0), .val (.int ua1), .val (.int ua2), .val (.int ua3), .val (.int ub0), .val (.int ub1), .val (.int ub2), .val (.int ub3), .val (.ref b9), .val (.ref b10), .unset, .unset, .unset] [(.int (2 : Int32)), (.int (1 : Int32))])) _
      refine XS.icmpYes X12.here hx rfl (pc0 := 119) (pc' := 136) rfl (hb hby at_119) rfl (by decide) (by decide) (by decide) ?_
      show Steps p.tables e below (T12.setTop (mkF m 136 #[.val (.long p0), .second, .val (.long p1), .second, .val (.int p2), .val (.int (1 : Int32)), .val (.int ua0), .val (.int ua1), .val (.int ua2), .val (.int ua3), .val (.int ub0), .val (.int ub1), .val (.int ub2), .val (.int ub3), .val (.ref b9), .val (.ref b10), .unset, .unset, .unset] [])) _
      refine XS.iload X12.here hx rfl (hb hby at_136) rfl ?_
      show Steps p.tables e below (T12.setTop (mkF m 138 #[.val (.long p0), .second, .val (.long p1), .second, .val (.int p2), .val (.int (1 : Int32)), .val (.int ua0), .val (.int ua1), .val (.int ua2), .val (.int ua3), .val (.int ub0), .val (.int ub1), .val (.int ub2), .val (.int ub3), .val (.ref b9), .val (.ref b10), .unset, .unset, .unset] [(.int (1 : Int32))])) _
      refine XS.iconst X12.here hx rfl (hb hby at_138) ?_
      show Steps p.tables e below (T12.setTop (mkF m 139 #[.val (.long p0), .second, .val (.long p1), .second, .val (.int p2), .val (.int (1 : Int32)), .val (.int ua0), .val (.int ua1), .val (.int ua2), .val (.int ua3), .val (.int ub0), .val (.int ub1), .val (.int ub2), .val (.int ub3), .val (.ref b9), .val (.ref b10), .unset, .unset, .unset] [(.int (3 : Int32)), (.int (1 : Int32))])) _
      refine XS.icmpYes X12.here hx rfl (pc0 := 139) (pc' := 156) rfl (hb hby at_139) rfl (by decide) (by decide) (by decide) ?_
      show Steps p.tables e below (T12.setTop (mkF m 156 #[.val (.long p0), .second, .val (.long p1), .second, .val (.int p2), .val (.int (1 : Int32)), .val (.int ua0), .val (.int ua1), .val (.int ua2), .val (.int ua3), .val (.int ub0), .val (.int ub1), .val (.int ub2), .val (.int ub3), .val (.ref b9), .val (.ref b10), .unset, .unset, .unset] [])) _
      refine XS.iconst X12.here hx rfl (hb hby at_156) ?_
      show Steps p.tables e below (T12.setTop (mkF m 157 #[.val (.long p0), .second, .val (.long p1), .second, .val (.int p2), .val (.int (1 : Int32)), .val (.int ua0), .val (.int ua1), .val (.int ua2), .val (.int ua3), .val (.int ub0), .val (.int ub1), .val (.int ub2), .val (.int ub3), .val (.ref b9), .val (.ref b10), .unset, .unset, .unset] [(.int (1 : Int32))])) _
      refine XS.istore X12.here hx rfl (hb hby at_157) rfl (l' := #[.val (.long p0), .second, .val (.long p1), .second, .val (.int p2), .val (.int (1 : Int32)), .val (.int ua0), .val (.int ua1), .val (.int ua2), .val (.int ua3), .val (.int ub0), .val (.int ub1), .val (.int ub2), .val (.int ub3), .val (.ref b9), .val (.ref b10), .val (.int (1 : Int32)), .unset, .unset]) rfl ?_
      show Steps p.tables e below (T12.setTop (mkF m 159 #[.val (.long p0), .second, .val (.long p1), .second, .val (.int p2), .val (.int (1 : Int32)), .val (.int ua0), .val (.int ua1), .val (.int ua2), .val (.int ua3), .val (.int ub0), .val (.int ub1), .val (.int ub2), .val (.int ub3), .val (.ref b9), .val (.ref b10), .val (.int (1 : Int32)), .unset, .unset] [])) _
      refine XS.iconst X12.here hx rfl (hb hby at_159) ?_
      show Steps p.tables e below (T12.setTop (mkF m 160 #[.val (.long p0), .second, .val (.long p1), .second, .val (.int p2), .val (.int (1 : Int32)), .val (.int ua0), .val (.int ua1), .val (.int ua2), .val (.int ua3), .val (.int ub0), .val (.int ub1), .val (.int ub2), .val (.int ub3), .val (.ref b9), .val (.ref b10), .val (.int (1 : Int32)), .unset, .unset] [(.int (0 : Int32))])) _
      refine XS.istore X12.here hx rfl (hb hby at_160) rfl (l' := #[.val (.long p0), .second, .val (.long p1), .second, .val (.int p2), .val (.int (1 : Int32)), .val (.int ua0), .val (.int ua1), .val (.int ua2), .val (.int ua3), .val (.int ub0), .val (.int ub1), .val (.int ub2), .val (.int ub3), .val (.ref b9), .val (.ref b10), .val (.int (1 : Int32)), .val (.int (0 : Int32)), .unset]) rfl ?_
      show Steps p.tables e below (T12.setTop (mkF m 162 #[.val (.long p0), .second, .val (.long p1), .second, .val (.int p2), .val (.int (1 : Int32)), .val (.int ua0), .val (.int ua1), .val (.int ua2), .val (.int ua3), .val (.int ub0), .val (.int ub1), .val (.int ub2), .val (.int ub3), .val (.ref b9), .val (.ref b10), .val (.int (1 : Int32)), .val (.int (0 : Int32)), .unset] [])) _
      refine XS.iload X12.here hx rfl (hb hby at_162) rfl ?_
      show Steps p.tables e below (T12.setTop (mkF m 164 #[.val (.long p0), .second, .val (.long p1), .second, .val (.int p2), .val (.int (1 : Int32)), .val (.int ua0), .val (.int ua1), .val (.int ua2), .val (.int ua3), .val (.int ub0), .val (.int ub1), .val (.int ub2), .val (.int ub3), .val (.ref b9), .val (.ref b10), .val (.int (1 : Int32)), .val (.int (0 : Int32)), .unset] [(.int (1 : Int32))])) _
      refine XS.ifNo X12.here hx rfl (hb hby at_164) rfl (by decide) ?_
      show Steps p.tables e below (T12.setTop (mkF m 167 #[.val (.long p0), .second, .val (.long p1), .second, .val (.int p2), .val (.int (1 : Int32)), .val (.int ua0), .val (.int ua1), .val (.int ua2), .val (.int ua3), .val (.int ub0), .val (.int ub1), .val (.int ub2), .val (.int ub3), .val (.ref b9), .val (.ref b10), .val (.int (1 : Int32)), .val (.int (0 : Int32)), .unset] [])) _
      refine own_bLe0 X12.here hx hby p0 p1 p2 (1 : Int32) ua0 ua1 ua2 ua3 ub0 ub1 ub2 ub3 (1 : Int32) (0 : Int32) b9 b10 ?_
      show Steps p.tables e below (T12.setTop (mkF m 186 #[.val (.long p0), .second, .val (.long p1), .second, .val (.int p2), .val (.int (1 : Int32)), .val (.int ua0), .val (.int ua1), .val (.int ua2), .val (.int ua3), .val (.int ub0), .val (.int ub1), .val (.int ub2), .val (.int ub3), .val (.ref b9), .val (.ref b10), .val (.int (own_le (1 : Int32) ua0 ub0)), .val (.int (0 : Int32)), .unset] [])) _
      refine own_bLt0 X12.here hx hby p0 p1 p2 (1 : Int32) ua0 ua1 ua2 ua3 ub0 ub1 ub2 ub3 (own_le (1 : Int32) ua0 ub0) (0 : Int32) b9 b10 ?_
      show Steps p.tables e below (T12.setTop (mkF m 205 #[.val (.long p0), .second, .val (.long p1), .second, .val (.int p2), .val (.int (1 : Int32)), .val (.int ua0), .val (.int ua1), .val (.int ua2), .val (.int ua3), .val (.int ub0), .val (.int ub1), .val (.int ub2), .val (.int ub3), .val (.ref b9), .val (.ref b10), .val (.int (own_le (1 : Int32) ua0 ub0)), .val (.int (own_lt (0 : Int32) ua0 ub0)), .unset] [])) _
      refine XS.iload X12.here hx rfl (hb hby at_205) rfl ?_
      show Steps p.tables e below (T12.setTop (mkF m 207 #[.val (.long p0), .second, .val (.long p1), .second, .val (.int p2), .val (.int (1 : Int32)), .val (.int ua0), .val (.int ua1), .val (.int ua2), .val (.int ua3), .val (.int ub0), .val (.int ub1), .val (.int ub2), .val (.int ub3), .val (.ref b9), .val (.ref b10), .val (.int (own_le (1 : Int32) ua0 ub0)), .val (.int (own_lt (0 : Int32) ua0 ub0)), .unset] [(.int (1 : Int32))])) _
      refine XS.iconst X12.here hx rfl (hb hby at_207) ?_
      show Steps p.tables e below (T12.setTop (mkF m 208 #[.val (.long p0), .second, .val (.long p1), .second, .val (.int p2), .val (.int (1 : Int32)), .val (.int ua0), .val (.int ua1), .val (.int ua2), .val (.int ua3), .val (.int ub0), .val (.int ub1), .val (.int ub2), .val (.int ub3), .val (.ref b9), .val (.ref b10), .val (.int (own_le (1 : Int32) ua0 ub0)), .val (.int (own_lt (0 : Int32) ua0 ub0)), .unset] [(.int (1 : Int32)), (.int (1 : Int32))])) _
      refine XS.icmpYes X12.here hx rfl (pc0 := 208) (pc' := 249) rfl (hb hby at_208) rfl (by decide) (by decide) (by decide) ?_
      show Steps p.tables e below (T12.setTop (mkF m 249 #[.val (.long p0), .second, .val (.long p1), .second, .val (.int p2), .val (.int (1 : Int32)), .val (.int ua0), .val (.int ua1), .val (.int ua2), .val (.int ua3), .val (.int ub0), .val (.int ub1), .val (.int ub2), .val (.int ub3), .val (.ref b9), .val (.ref b10), .val (.int (own_le (1 : Int32) ua0 ub0)), .val (.int (own_lt (0 : Int32) ua0 ub0)), .unset] [])) _
      refine XS.iload X12.here hx rfl (hb hby at_249) rfl ?_
      show Steps p.tables e below (T12.setTop (mkF m 251 #[.val (.long p0), .second, .val (.long p1), .second, .val (.int p2), .val (.int (1 : Int32)), .val (.int ua0), .val (.int ua1), .val (.int ua2), .val (.int ua3), .val (.int ub0), .val (.int ub1), .val (.int ub2), .val (.int ub3), .val (.ref b9), .val (.ref b10), .val (.int (own_le (1 : Int32) ua0 ub0)), .val (.int (own_lt (0 : Int32) ua0 ub0)), .unset] [(.int (1 : Int32))])) _
      refine XS.iconst X12.here hx rfl (hb hby at_251) ?_
      show Steps p.tables e below (T12.setTop (mkF m 252 #[.val (.long p0), .second, .val (.long p1), .second, .val (.int p2), .val (.int (1 : Int32)), .val (.int ua0), .val (.int ua1), .val (.int ua2), .val (.int ua3), .val (.int ub0), .val (.int ub1), .val (.int ub2), .val (.int ub3), .val (.ref b9), .val (.ref b10), .val (.int (own_le (1 : Int32) ua0 ub0)), .val (.int (own_lt (0 : Int32) ua0 ub0)), .unset] [(.int (2 : Int32)), (.int (1 : Int32))])) _
      refine XS.icmpYes X12.here hx rfl (pc0 := 252) (pc' := 293) rfl (hb hby at_252) rfl (by decide) (by decide) (by decide) ?_
      show Steps p.tables e below (T12.setTop (mkF m 293 #[.val (.long p0), .second, .val (.long p1), .second, .val (.int p2), .val (.int (1 : Int32)), .val (.int ua0), .val (.int ua1), .val (.int ua2), .val (.int ua3), .val (.int ub0), .val (.int ub1), .val (.int ub2), .val (.int ub3), .val (.ref b9), .val (.ref b10), .val (.int (own_le (1 : Int32) ua0 ub0)), .val (.int (own_lt (0 : Int32) ua0 ub0)), .unset] [])) _
      refine XS.iload X12.here hx rfl (hb hby at_293) rfl ?_
      show Steps p.tables e below (T12.setTop (mkF m 295 #[.val (.long p0), .second, .val (.long p1), .second, .val (.int p2), .val (.int (1 : Int32)), .val (.int ua0), .val (.int ua1), .val (.int ua2), .val (.int ua3), .val (.int ub0), .val (.int ub1), .val (.int ub2), .val (.int ub3), .val (.ref b9), .val (.ref b10), .val (.int (own_le (1 : Int32) ua0 ub0)), .val (.int (own_lt (0 : Int32) ua0 ub0)), .unset] [(.int (1 : Int32))])) _
      refine XS.iconst X12.here hx rfl (hb hby at_295) ?_
      show Steps p.tables e below (T12.setTop (mkF m 296 #[.val (.long p0), .second, .val (.long p1), .second, .val (.int p2), .val (.int (1 : Int32)), .val (.int ua0), .val (.int ua1), .val (.int ua2), .val (.int ua3), .val (.int ub0), .val (.int ub1), .val (.int ub2), .val (.int ub3), .val (.ref b9), .val (.ref b10), .val (.int (own_le (1 : Int32) ua0 ub0)), .val (.int (own_lt (0 : Int32) ua0 ub0)), .unset] [(.int (3 : Int32)), (.int (1 : Int32))])) _
      refine XS.icmpYes X12.here hx rfl (pc0 := 296) (pc' := 337) rfl (hb hby at_296) rfl (by decide) (by decide) (by decide) ?_
      show Steps p.tables e below (T12.setTop (mkF m 337 #[.val (.long p0), .second, .val (.long p1), .second, .val (.int p2), .val (.int (1 : Int32)), .val (.int ua0), .val (.int ua1), .val (.int ua2), .val (.int ua3), .val (.int ub0), .val (.int ub1), .val (.int ub2), .val (.int ub3), .val (.ref b9), .val (.ref b10), .val (.int (own_le (1 : Int32) ua0 ub0)), .val (.int (own_lt (0 : Int32) ua0 ub0)), .unset] [])) _
      refine own_bEx X12.here hx hby p0 p1 p2 (1 : Int32) ua0 ua1 ua2 ua3 ub0 ub1 ub2 ub3 (own_le (1 : Int32) ua0 ub0) (own_lt (0 : Int32) ua0 ub0) b9 b10 ?_
      show Steps p.tables e below (T12.setTop (mkF m 354 #[.val (.long p0), .second, .val (.long p1), .second, .val (.int p2), .val (.int (1 : Int32)), .val (.int ua0), .val (.int ua1), .val (.int ua2), .val (.int ua3), .val (.int ub0), .val (.int ub1), .val (.int ub2), .val (.int ub3), .val (.ref b9), .val (.ref b10), .val (.int (own_le (1 : Int32) ua0 ub0)), .val (.int (own_lt (0 : Int32) ua0 ub0)), .val (.int (own_exp (own_le (1 : Int32) ua0 ub0) (own_lt (0 : Int32) ua0 ub0)))] [])) _
      refine XS.aload X12.here hx rfl (hb hby at_354) rfl rfl ?_
      show Steps p.tables e below (T12.setTop (mkF m 356 #[.val (.long p0), .second, .val (.long p1), .second, .val (.int p2), .val (.int (1 : Int32)), .val (.int ua0), .val (.int ua1), .val (.int ua2), .val (.int ua3), .val (.int ub0), .val (.int ub1), .val (.int ub2), .val (.int ub3), .val (.ref b9), .val (.ref b10), .val (.int (own_le (1 : Int32) ua0 ub0)), .val (.int (own_lt (0 : Int32) ua0 ub0)), .val (.int (own_exp (own_le (1 : Int32) ua0 ub0) (own_lt (0 : Int32) ua0 ub0)))] [(.ref b9)])) _
      refine XS.aload X12.here hx rfl (hb hby at_356) rfl rfl ?_
      show Steps p.tables e below (T12.setTop (mkF m 358 #[.val (.long p0), .second, .val (.long p1), .second, .val (.int p2), .val (.int (1 : Int32)), .val (.int ua0), .val (.int ua1), .val (.int ua2), .val (.int ua3), .val (.int ub0), .val (.int ub1), .val (.int ub2), .val (.int ub3), .val (.ref b9), .val (.ref b10), .val (.int (own_le (1 : Int32) ua0 ub0)), .val (.int (own_lt (0 : Int32) ua0 ub0)), .val (.int (own_exp (own_le (1 : Int32) ua0 ub0) (own_lt (0 : Int32) ua0 ub0)))] [(.ref b10), (.ref b9)])) _
      refine st13 _ ?_
      show Steps p.tables e below (T13.setTop (mkF m 361 #[.val (.long p0), .second, .val (.long p1), .second, .val (.int p2), .val (.int (1 : Int32)), .val (.int ua0), .val (.int ua1), .val (.int ua2), .val (.int ua3), .val (.int ub0), .val (.int ub1), .val (.int ub2), .val (.int ub3), .val (.ref b9), .val (.ref b10), .val (.int (own_le (1 : Int32) ua0 ub0)), .val (.int (own_lt (0 : Int32) ua0 ub0)), .val (.int (own_exp (own_le (1 : Int32) ua0 ub0) (own_lt (0 : Int32) ua0 ub0)))] [(.int (own_dom ([(ua0, ub0)] : List (Int32 × Int32)) 0))])) _
      refine XS.iload X13.here hx rfl (hb hby at_361) rfl ?_
      show Steps p.tables e below (T13.setTop (mkF m 363 #[.val (.long p0), .second, .val (.long p1), .second, .val (.int p2), .val (.int (1 : Int32)), .val (.int ua0), .val (.int ua1), .val (.int ua2), .val (.int ua3), .val (.int ub0), .val (.int ub1), .val (.int ub2), .val (.int ub3), .val (.ref b9), .val (.ref b10), .val (.int (own_le (1 : Int32) ua0 ub0)), .val (.int (own_lt (0 : Int32) ua0 ub0)), .val (.int (own_exp (own_le (1 : Int32) ua0 ub0) (own_lt (0 : Int32) ua0 ub0)))] [(.int (own_exp (own_le (1 : Int32) ua0 ub0) (own_lt (0 : Int32) ua0 ub0))), (.int (own_dom ([(ua0, ub0)] : List (Int32 × Int32)) 0))])) _
      refine XS.icmpNo X13.here hx rfl (hb hby at_363) rfl (teq hfin).2 ?_
      show Steps p.tables e below (T13.setTop (mkF m 366 #[.val (.long p0), .second, .val (.long p1), .second, .val (.int p2), .val (.int (1 : Int32)), .val (.int ua0), .val (.int ua1), .val (.int ua2), .val (.int ua3), .val (.int ub0), .val (.int ub1), .val (.int ub2), .val (.int ub3), .val (.ref b9), .val (.ref b10), .val (.int (own_le (1 : Int32) ua0 ub0)), .val (.int (own_lt (0 : Int32) ua0 ub0)), .val (.int (own_exp (own_le (1 : Int32) ua0 ub0) (own_lt (0 : Int32) ua0 ub0)))] [])) _
      refine XS.iconst X13.here hx rfl (hb hby at_366) ?_
      show Steps p.tables e below (T13.setTop (mkF m 367 #[.val (.long p0), .second, .val (.long p1), .second, .val (.int p2), .val (.int (1 : Int32)), .val (.int ua0), .val (.int ua1), .val (.int ua2), .val (.int ua3), .val (.int ub0), .val (.int ub1), .val (.int ub2), .val (.int ub3), .val (.ref b9), .val (.ref b10), .val (.int (own_le (1 : Int32) ua0 ub0)), .val (.int (own_lt (0 : Int32) ua0 ub0)), .val (.int (own_exp (own_le (1 : Int32) ua0 ub0) (own_lt (0 : Int32) ua0 ub0)))] [(.int (1 : Int32))])) _
      refine XS.goto X13.here hx rfl (pc0 := 367) (pc' := 371) rfl (hb hby at_367) (by decide) (by decide) ?_
      show Steps p.tables e below (T13.setTop (mkF m 371 #[.val (.long p0), .second, .val (.long p1), .second, .val (.int p2), .val (.int (1 : Int32)), .val (.int ua0), .val (.int ua1), .val (.int ua2), .val (.int ua3), .val (.int ub0), .val (.int ub1), .val (.int ub2), .val (.int ub3), .val (.ref b9), .val (.ref b10), .val (.int (own_le (1 : Int32) ua0 ub0)), .val (.int (own_lt (0 : Int32) ua0 ub0)), .val (.int (own_exp (own_le (1 : Int32) ua0 ub0) (own_lt (0 : Int32) ua0 ub0)))] [(.int (1 : Int32))])) _
      exact retN X13 hx (t := .boolean) Bd.returns (by simp) (hb hby at_371) hr
    · exact ⟨rfl, N13⟩
  · skip
    obtain ⟨T9, h9, k9, X9, e9, E9, A9, st9⟩ := newP X8 hx hZ (hw _ (List.mem_of_getElem? (i := 5) rfl)) rfl (g := (mkF m 67 #[.val (.long p0), .second, .val (.long p1), .second, .val (.int p2), .val (.int (2 : Int32)), .val (.int ua0), .val (.int ua1), .val (.int ua2), .val (.int ua3), .val (.int ub0), .val (.int ub1), .val (.int ub2), .val (.int ub3), .unset, .unset, .unset, .unset, .unset] [(.int (2 : Int32))])) rfl (hb hby at_67) rfl (by decide) (cap := 2) (by decide) (by decide) (by decide) (by decide)
    obtain ⟨b9, g9⟩ : ∃ z, z = T8.heap.size := ⟨_, rfl⟩
    rw [← g9] at A9 st9
    have V9 : Arv Z h9 b9 k9 .double (2 : Int32) (List.replicate 2 (.double 0)) (.double 0) := (Arv.new A9 (by decide)).pad (pad_rep [] (.double 0) 2)
    have g9b : n0 ≤ b9 := Nat.le_trans zz8 (Nat.le_of_eq g9.symm)
    obtain ⟨T10, h10, k10, X10, e10, E10, A10, st10⟩ := newP X9 hx hZ (hw _ (List.mem_of_getElem? (i := 5) rfl)) e9 (g := (mkF m 73 #[.val (.long p0), .second, .val (.long p1), .second, .val (.int p2), .val (.int (2 : Int32)), .val (.int ua0), .val (.int ua1), .val (.int ua2), .val (.int ua3), .val (.int ub0), .val (.int ub1), .val (.int ub2), .val (.int ub3), .val (.ref b9), .unset, .unset, .unset, .unset] [(.int (2 : Int32))])) rfl (hb hby at_73) rfl (by decide) (cap := 2) (by decide) (by decide) (by decide) (by decide)
    obtain ⟨b10, g10⟩ : ∃ z, z = h9.size := ⟨_, rfl⟩
    rw [← g10] at A10 st10
    have V10 : Arv Z h10 b10 k10 .double (2 : Int32) (List.replicate 2 (.double 0)) (.double 0) := (Arv.new A10 (by decide)).pad (pad_rep [] (.double 0) 2)
    have g10b : n0 ≤ b10 := Nat.le_trans (Nat.le_trans zz8 E9.1) (Nat.le_of_eq g10.symm)
    have hab : b9 ≠ b10 := Nat.ne_of_lt (Nat.lt_of_lt_of_le V9.lt (Nat.le_of_eq g10.symm))
    have Va := V9.ext E10
    have Vb := V10
    have zz0 : n0 ≤ h10.size := Nat.le_trans (Nat.le_trans zz8 E9.1) E10.1
    obtain ⟨c1, Ar1, qk1, S1, M1, H1, U1⟩ := id Va
    obtain ⟨T11, h11, X11, e11, W11, st11⟩ := stD X10 hx hZ e10 Ar1 (j := (0 : Int32)) (inb_of S1 (by decide)) (g := (mkF m 88 #[.val (.long p0), .second, .val (.long p1), .second, .val (.int p2), .val (.int (2 : Int32)), .val (.int ua0), .val (.int ua1), .val (.int ua2), .val (.int ua3), .val (.int ub0), .val (.int ub1), .val (.int ub2), .val (.int ub3), .val (.ref b9), .val (.ref b10), .unset, .unset, .unset] [(.double (FP.i2d ua0)), (.int (0 : Int32)), (.ref b9)])) rfl rfl (hb hby at_88)
    have N11 := Fr.snoc X11 N8 g9b
    have Va := Arv.set Ar1 qk1 S1 M1 H1 U1 (v := .double (FP.i2d ua0)) rfl W11 0 rfl (Nat.le_of_ble_eq_true rfl)
    have Vb := Vb.other W11 hab.symm
    have zz0 : n0 ≤ h11.size := Nat.le_trans zz0 (Nat.le_of_eq W11.size.symm)
    obtain ⟨c1, Ar1, qk1, S1, M1, H1, U1⟩ := id Vb
    obtain ⟨T12, h12, X12, e12, W12, st12⟩ := stD X11 hx hZ e11 Ar1 (j := (0 : Int32)) (inb_of S1 (by decide)) (g := (mkF m 95 #[.val (.long p0), .second, .val (.long p1), .second, .val (.int p2), .val (.int (2 : Int32)), .val (.int ua0), .val (.int ua1), .val (.int ua2), .val (.int ua3), .val (.int ub0), .val (.int ub1), .val (.int ub2), .val (.int ub3), .val (.ref b9), .val (.ref b10), .unset, .unset, .unset] [(.double (FP.i2d ub0)), (.int (0 : Int32)), (.ref b10)])) rfl rfl (hb hby at_95)
    have N12 := Fr.snoc X12 N11 g10b
    have Vb := Arv.set Ar1 qk1 S1 M1 H1 U1 (v := .double (FP.i2d ub0)) rfl W12 0 rfl (Nat.le_of_ble_eq_true rfl)
    have Va := Va.other W12 hab
    have zz0 : n0 ≤ h12.size := Nat.le_trans zz0 (Nat.le_of_eq W12.size.symm)
    obtain ⟨c1, Ar1, qk1, S1, M1, H1, U1⟩ := id Va
    obtain ⟨T13, h13, X13, e13, W13, st13⟩ := stD X12 hx hZ e12 Ar1 (j := (1 : Int32)) (inb_of S1 (by decide)) (g := (mkF m 108 #[.val (.long p0), .second, .val (.long p1), .second, .val (.int p2), .val (.int (2 : Int32)), .val (.int ua0), .val (.int ua1), .val (.int ua2), .val (.int ua3), .val (.int ub0), .val (.int ub1), .val (.int ub2), .val (.int ub3), .val (.ref b9), .val (.ref b10), .unset, .unset, .unset] [(.double (FP.i2d ua1)), (.int (1 : Int32)), (.ref b9)])) rfl rfl (hb hby at_108)
    have N13 := Fr.snoc X13 N12 g9b
    have Va := Arv.set Ar1 qk1 S1 M1 H1 U1 (v := .double (FP.i2d ua1)) rfl W13 1 rfl (Nat.le_of_ble_eq_true rfl)
    have Vb := Vb.other W13 hab.symm
    have zz0 : n0 ≤ h13.size := Nat.le_trans zz0 (Nat.le_of_eq W13.size.symm)
    obtain ⟨c1, Ar1, qk1, S1, M1, H1, U1⟩ := id Vb
    obtain ⟨T14, h14, X14, e14, W14, st14⟩ := stD X13 hx hZ e13 Ar1 (j := (1 : Int32)) (inb_of S1 (by decide)) (g := (mkF m 115 #[.val (.long p0), .second, .val (.long p1), .second, .val (.int p2), .val (.int (2 : Int32)), .val (.int ua0), .val (.int ua1), .val (.int ua2), .val (.int ua3), .val (.int ub0), .val (.int ub1), .val (.int ub2), .val (.int ub3), .val (.ref b9), .val (.ref b10), .unset, .unset, .unset] [(.double (FP.i2d ub1)), (.int (1 : Int32)), (.ref b10)])) rfl rfl (hb hby at_115)
    have N14 := Fr.snoc X14 N13 g10b
    have Vb := Arv.set Ar1 qk1 S1 M1 H1 U1 (v := .double (FP.i2d ub1)) rfl W14 1 rfl (Nat.le_of_ble_eq_true rfl)
    have Va := Va.other W14 hab
    have zz0 : n0 ≤ h14.size := Nat.le_trans zz0 (Nat.le_of_eq W14.size.symm)
    obtain ⟨_, _, ⟨T15, L15, k15, n15⟩, -, X15, ⟨Lc15, hQ15, l15, y15, z15⟩, st15⟩ := Jvm.LawKit.callS X14 hx (y := (⟨"com/example/gridfront/gridfront/selection/Pareto", "dominates", "([D[D)Z"⟩ : MethodName)) hown (mvT hZ (hw _ (List.mem_of_getElem? (i := 6) rfl))) (mvT hZ (hw _ (List.mem_of_getElem? (i := 7) rfl))) (mvT hZ (hw _ (List.mem_of_getElem? (i := 8) rfl))) (mvT hZ (hw _ (List.mem_of_getElem? (i := 9) rfl))) (by decide) (backOf (W := 0) (rmP l Z a0 hw [] b9 b10 k9 k10 (2 : Int32) ([(ua0, ub0), (ua1, ub1)] : List (Int32 × Int32)) h14 n0 zz0 Va Vb rfl) hZ (hw _ (List.mem_of_getElem? (i := 9) rfl)) (hw _ (List.mem_of_getElem? (i := 8) rfl)) (by decide) (by decide)) (g := (mkF m 358 #[.val (.long p0), .second, .val (.long p1), .second, .val (.int p2), .val (.int (2 : Int32)), .val (.int ua0), .val (.int ua1), .val (.int ua2), .val (.int ua3), .val (.int ub0), .val (.int ub1), .val (.int ub2), .val (.int ub3), .val (.ref b9), .val (.ref b10), .val (.int (own_le (own_le (1 : Int32) ua0 ub0) ua1 ub1)), .val (.int (own_lt (own_lt (0 : Int32) ua0 ub0) ua1 ub1)), .val (.int (own_exp (own_le (own_le (1 : Int32) ua0 ub0) ua1 ub1) (own_lt (own_lt (0 : Int32) ua0 ub0) ua1 ub1)))] [(.ref b10), (.ref b9)])) rfl (by rw [hml]; rfl) (argsL := [(.ref b9), (.ref b10)]) (rest := []) (lenOf pdD rfl) rfl (by show 2 * 0 + _ ≤ _; exact Nat.le_of_eq rfl) (hb hby at_358) (fun _ _ => ⟨rfl, e14, (by decide : 2 + 0 ≤ _), (by decide : 4 + 0 ≤ _)⟩)
    dsimp only [Pt.U, Pt.locs, Pt.cells, Pt.slots] at X15 l15 y15 z15 st15 hQ15
    subst l15 y15 z15
    obtain ⟨rfl, N15q, hh15⟩ := hQ15
    have N15 := Fr.app N14 N15q
    have hfin : own_dom ([(ua0, ub0), (ua1, ub1)] : List (Int32 × Int32)) 0 = (own_exp (own_le (own_le (1 : Int32) ua0 ub0) ua1 ub1) (own_lt (own_lt (0 : Int32) ua0 ub0) ua1 ub1)) := own_law ([(ua0, ub0), (ua1, ub1)] : List (Int32 × Int32)) 0 (Or.inl rfl)
    obtain ⟨fs, hr, hrun, hended, hW, hsame⟩ := X15.leave (v := some (.int (1 : Int32))) (fun h => by rw [Bd.returns] at h; cases h)
    refine ⟨_, _, pre1 _ ?_, hrun, hended, _, _, rfl, ?_, ⟨_, rfl⟩, hW, hsame.mono (by decide) (by decide)⟩
    · skip
      show Steps p.tables e below (T8.setTop (mkF m 65 #[.val (.long p0), .second, .val (.long p1), .second, .val (.int p2), .val (.int (2 : Int32)), .val (.int ua0), .val (.int ua1), .val (.int ua2), .val (.int ua3), .val (.int ub0), .val (.int ub1), .val (.int ub2), .val (.int ub3), .unset, .unset, .unset, .unset, .unset] [])) _
      refine XS.iload X8.here hx rfl (hb hby at_65) rfl ?_
      show Steps p.tables e below (T8.setTop (mkF m 67 #[.val (.long p0), .second, .val (.long p1), .second, .val (.int p2), .val (.int (2 : Int32)), .val (.int ua0), .val (.int ua1), .val (.int ua2), .val (.int ua3), .val (.int ub0), .val (.int ub1), .val (.int ub2), .val (.int ub3), .unset, .unset, .unset, .unset, .unset] [(.int (2 : Int32))])) _
      refine st9 _ ?_
      show Steps p.tables e below (T9.setTop (mkF m 69 #[.val (.long p0), .second, .val (.long p1), .second, .val (.int p2), .val (.int (2 : Int32)), .val (.int ua0), .val (.int ua1), .val (.int ua2), .val (.int ua3), .val (.int ub0), .val (.int ub1), .val (.int ub2), .val (.int ub3), .unset, .unset, .unset, .unset, .unset] [(.ref b9)])) _
      refine XS.astore X9.here hx rfl (hb hby at_69) rfl rfl (l' := #[.val (.long p0), .second, .val (.long p1), .second, .val (.int p2), .val (.int (2 : Int32)), .val (.int ua0), .val (.int ua1), .val (.int ua2), .val (.int ua3), .val (.int ub0), .val (.int ub1), .val (.int ub2), .val (.int ub3), .val (.ref b9), .unset, .unset, .unset, .unset]) rfl ?_
      show Steps p.tables e below (T9.setTop (mkF m 71 #[.val (.long p0), .second, .val (.long p1), .second, .val (.int p2), .val (.int (2 : Int32)), .val (.int ua0), .val (.int ua1), .val (.int ua2), .val (.int ua3), .val (.int ub0), .val (.int ub1), .val (.int ub2), .val (.int ub3), .val (.ref b9), .unset, .unset, .unset, .unset] [])) _
      refine XS.iload X9.here hx rfl (hb hby at_71) rfl ?_
      show Steps p.tables e below (T9.setTop (mkF m 73 #[.val (.long p0), .second, .val (.long p1), .second, .val (.int p2), .val (.int (2 : Int32)), .val (.int ua0), .val (.int ua1), .val (.int ua2), .val (.int ua3), .val (.int ub0), .val (.int ub1), .val (.int ub2), .val (.int ub3), .val (.ref b9), .unset, .unset, .unset, .unset] [(.int (2 : Int32))])) _
      refine st10 _ ?_
      show Steps p.tables e below (T10.setTop (mkF m 75 #[.val (.long p0), .second, .val (.long p1), .second, .val (.int p2), .val (.int (2 : Int32)), .val (.int ua0), .val (.int ua1), .val (.int ua2), .val (.int ua3), .val (.int ub0), .val (.int ub1), .val (.int ub2), .val (.int ub3), .val (.ref b9), .unset, .unset, .unset, .unset] [(.ref b10)])) _
      refine XS.astore X10.here hx rfl (hb hby at_75) rfl rfl (l' := #[.val (.long p0), .second, .val (.long p1), .second, .val (.int p2), .val (.int (2 : Int32)), .val (.int ua0), .val (.int ua1), .val (.int ua2), .val (.int ua3), .val (.int ub0), .val (.int ub1), .val (.int ub2), .val (.int ub3), .val (.ref b9), .val (.ref b10), .unset, .unset, .unset]) rfl ?_
      show Steps p.tables e below (T10.setTop (mkF m 77 #[.val (.long p0), .second, .val (.long p1), .second, .val (.int p2), .val (.int (2 : Int32)), .val (.int ua0), .val (.int ua1), .val (.int ua2), .val (.int ua3), .val (.int ub0), .val (.int ub1), .val (.int ub2), .val (.int ub3), .val (.ref b9), .val (.ref b10), .unset, .unset, .unset] [])) _
      refine XS.iload X10.here hx rfl (hb hby at_77) rfl ?_
      show Steps p.tables e below (T10.setTop (mkF m 79 #[.val (.long p0), .second, .val (.long p1), .second, .val (.int p2), .val (.int (2 : Int32)), .val (.int ua0), .val (.int ua1), .val (.int ua2), .val (.int ua3), .val (.int ub0), .val (.int ub1), .val (.int ub2), .val (.int ub3), .val (.ref b9), .val (.ref b10), .unset, .unset, .unset] [(.int (2 : Int32))])) _
      refine XS.ifNo X10.here hx rfl (hb hby at_79) rfl (by decide) ?_
      show Steps p.tables e below (T10.setTop (mkF m 82 #[.val (.long p0), .second, .val (.long p1), .second, .val (.int p2), .val (.int (2 : Int32)), .val (.int ua0), .val (.int ua1), .val (.int ua2), .val (.int ua3), .val (.int ub0), .val (.int ub1), .val (.int ub2), .val (.int ub3), .val (.ref b9), .val (.ref b10), .unset, .unset, .unset] [])) _
      refine XS.aload X10.here hx rfl (hb hby at_82) rfl rfl ?_
      show Steps p.tables e below (T10.setTop (mkF m 84 #[.val (.long p0), .second, .val (.long p1), .second, .val (.int p2), .val (.int (2 : Int32)), .val (.int ua0), .val (.int ua1), .val (.int ua2), .val (.int ua3), .val (.int ub0), .val (.int ub1), .val (.int ub2), .val (.int ub3), .val (.ref b9), .val (.ref b10), .unset, .unset, .unset] [(.ref b9)])) _
      refine XS.iconst X10.here hx rfl (hb hby at_84) ?_
      show Steps p.tables e below (T10.setTop (mkF m 85 #[.val (.long p0), .second, .val (.long p1), .second, .val (.int p2), .val (.int (2 : Int32)), .val (.int ua0), .val (.int ua1), .val (.int ua2), .val (.int ua3), .val (.int ub0), .val (.int ub1), .val (.int ub2), .val (.int ub3), .val (.ref b9), .val (.ref b10), .unset, .unset, .unset] [(.int (0 : Int32)), (.ref b9)])) _
      refine XS.iload X10.here hx rfl (hb hby at_85) rfl ?_
      show Steps p.tables e below (T10.setTop (mkF m 87 #[.val (.long p0), .second, .val (.long p1), .second, .val (.int p2), .val (.int (2 : Int32)), .val (.int ua0), .val (.int ua1), .val (.int ua2), .val (.int ua3), .val (.int ub0), .val (.int ub1), .val (.int ub2), .val (.int ub3), .val (.ref b9), .val (.ref b10), .unset, .unset, .unset] [(.int ua0), (.int (0 : Int32)), (.ref b9)])) _
      refine XS.i2dS X10.here hx rfl (v := (FP.i2d ua0)) (hb hby at_87) rfl rfl ?_
      show Steps p.tables e below (T10.setTop (mkF m 88 #[.val (.long p0), .second, .val (.long p1), .second, .val (.int p2), .val (.int (2 : Int32)), .val (.int ua0), .val (.int ua1), .val (.int ua2), .val (.int ua3), .val (.int ub0), .val (.int ub1), .val (.int ub2), .val (.int ub3), .val (.ref b9), .val (.ref b10), .unset, .unset, .unset] [(.double (FP.i2d ua0)), (.int (0 : Int32)), (.ref b9)])) _
      refine st11 _ ?_
      show Steps p.tables e below (T11.setTop (mkF m 89 #[.val (.long p0), .second, .val (.long p1), .second, .val (.int p2), .val (.int (2 : Int32)), .val (.int ua0), .val (.int ua1), .val (.int ua2), .val (.int ua3), .val (.int ub0), .val (.int ub1), .val (.int ub2), .val (.int ub3), .val (.ref b9), .val (.ref b10), .unset, .unset, .unset] [])) _
      refine XS.aload X11.here hx rfl (hb hby at_89) rfl rfl ?_
      show Steps p.tables e below (T11.setTop (mkF m 91 #[.val (.long p0), .second, .val (.long p1), .second, .val (.int p2), .val (.int (2 : Int32)), .val (.int ua0), .val (.int ua1), .val (.int ua2), .val (.int ua3), .val (.int ub0), .val (.int ub1), .val (.int ub2), .val (.int ub3), .val (.ref b9), .val (.ref b10), .unset, .unset, .unset] [(.ref b10)])) _
      refine XS.iconst X11.here hx rfl (hb hby at_91) ?_
      show Steps p.tables e below (T11.setTop (mkF m 92 #[.val (.long p0), .second, .val (.long p1), .second, .val (.int p2), .val (.int (2 : Int32)), .val (.int ua0), .val (.int ua1), .val (.int ua2), .val (.int ua3), .val (.int ub0), .val (.int ub1), .val (.int ub2), .val (.int ub3), .val (.ref b9), .val (.ref b10), .unset, .unset, .unset] [(.int (0 : Int32)), (.ref b10)])) _
      refine XS.iload X11.here hx rfl (hb hby at_92) rfl ?_
      show Steps p.tables e below (T11.setTop (mkF m 94 #[.val (.long p0), .second, .val (.long p1), .second, .val (.int p2), .val (.int (2 : Int32)), .val (.int ua0), .val (.int ua1), .val (.int ua2), .val (.int ua3), .val (.int ub0), .val (.int ub1), .val (.int ub2), .val (.int ub3), .val (.ref b9), .val (.ref b10), .unset, .unset, .unset] [(.int ub0), (.int (0 : Int32)), (.ref b10)])) _
      refine XS.i2dS X11.here hx rfl (v := (FP.i2d ub0)) (hb hby at_94) rfl rfl ?_
      show Steps p.tables e below (T11.setTop (mkF m 95 #[.val (.long p0), .second, .val (.long p1), .second, .val (.int p2), .val (.int (2 : Int32)), .val (.int ua0), .val (.int ua1), .val (.int ua2), .val (.int ua3), .val (.int ub0), .val (.int ub1), .val (.int ub2), .val (.int ub3), .val (.ref b9), .val (.ref b10), .unset, .unset, .unset] [(.double (FP.i2d ub0)), (.int (0 : Int32)), (.ref b10)])) _
      refine st12 _ ?_
      show Steps p.tables e below (T12.setTop (mkF m 96 #[.val (.long p0), .second, .val (.long p1), .second, .val (.int p2), .val (.int (2 : Int32)), .val (.int ua0), .val (.int ua1), .val (.int ua2), .val (.int ua3), .val (.int ub0), .val (.int ub1), .val (.int ub2), .val (.int ub3), .val (.ref b9), .val (.ref b10), .unset, .unset, .unset] [])) _
      refine XS.iload X12.here hx rfl (hb hby at_96) rfl ?_
      show Steps p.tables e below (T12.setTop (mkF m 98 #[.val (.long p0), .second, .val (.long p1), .second, .val (.int p2), .val (.int (2 : Int32)), .val (.int ua0), .val (.int ua1), .val (.int ua2), .val (.int ua3), .val (.int ub0), .val (.int ub1), .val (.int ub2), .val (.int ub3), .val (.ref b9), .val (.ref b10), .unset, .unset, .unset] [(.int (2 : Int32))])) _
      refine XS.iconst X12.here hx rfl (hb hby at_98) ?_
      show Steps p.tables e below (T12.setTop (mkF m 99 #[.val (.long p0), .second, .val (.long p1), .second, .val (.int p2), .val (.int (2 : Int32)), .val (.int ua0), .val (.int ua1), .val (.int ua2), .val (.int ua3), .val (.int ub0), .val (.int ub1), .val (.int ub2), .val (.int ub3), .val (.ref b9), .val (.ref b10), .unset, .unset, .unset] [(.int (1 : Int32)), (.int (2 : Int32))])) _
      refine XS.icmpNo X12.here hx rfl (hb hby at_99) rfl (by decide) ?_
      show Steps p.tables e below (T12.setTop (mkF m 102 #[.val (.long p0), .second, .val (.long p1), .second, .val (.int p2), .val (.int (2 : Int32)), .val (.int ua0), .val (.int ua1), .val (.int ua2), .val (.int ua3), .val (.int ub0), .val (.int ub1), .val (.int ub2), .val (.int ub3), .val (.ref b9), .val (.ref b10), .unset, .unset, .unset] [])) _
      refine XS.aload X12.here hx rfl (hb hby at_102) rfl rfl ?_
      show Steps p.tables e below (T12.setTop (mkF m 104 #[.val (.long p0), .second, .val (.long p1), .second, .val (.int p2), .val (.int (2 : Int32)), .val (.int ua0), .val (.int ua1), .val (.int ua2), .val (.int ua3), .val (.int ub0), .val (.int ub1), .val (.int ub2), .val (.int ub3), .val (.ref b9), .val (.ref b10), .unset, .unset, .unset] [(.ref b9)])) _
      refine XS.iconst X12.here hx rfl (hb hby at_104) ?_
      show Steps p.tables e below (T12.setTop (mkF m 105 #[.val (.long p0), .second, .val (.long p1), .second, .val (.int p2), .val (.int (2 : Int32)), .val (.int ua0), .val (.int ua1), .val (.int ua2), .val (.int ua3), .val (.int ub0), .val (.int ub1), .val (.int ub2), .val (.int ub3), .val (.ref b9), .val (.ref b10), .unset, .unset, .unset] [(.int (1 : Int32)), (.ref b9)])) _
      refine XS.iload X12.here hx rfl (hb hby at_105) rfl ?_
      show Steps p.tables e below (T12.setTop (mkF m 107 #[.val (.long p0), .second, .val (.long p1), .second, .val (.int p2), .val (.int (2 : Int32)), .val (.int ua0), .val (.int ua1), .val (.int ua2), .val (.int ua3), .val (.int ub0), .val (.int ub1), .val (.int ub2), .val (.int ub3), .val (.ref b9), .val (.ref b10), .unset, .unset, .unset] [(.int ua1), (.int (1 : Int32)), (.ref b9)])) _
      refine XS.i2dS X12.here hx rfl (v := (FP.i2d ua1)) (hb hby at_107) rfl rfl ?_
      show Steps p.tables e below (T12.setTop (mkF m 108 #[.val (.long p0), .second, .val (.long p1), .second, .val (.int p2), .val (.int (2 : Int32)), .val (.int ua0), .val (.int ua1), .val (.int ua2), .val (.int ua3), .val (.int ub0), .val (.int ub1), .val (.int ub2), .val (.int ub3), .val (.ref b9), .val (.ref b10), .unset, .unset, .unset] [(.double (FP.i2d ua1)), (.int (1 : Int32)), (.ref b9)])) _
      refine st13 _ ?_
      show Steps p.tables e below (T13.setTop (mkF m 109 #[.val (.long p0), .second, .val (.long p1), .second, .val (.int p2), .val (.int (2 : Int32)), .val (.int ua0), .val (.int ua1), .val (.int ua2), .val (.int ua3), .val (.int ub0), .val (.int ub1), .val (.int ub2), .val (.int ub3), .val (.ref b9), .val (.ref b10), .unset, .unset, .unset] [])) _
      refine XS.aload X13.here hx rfl (hb hby at_109) rfl rfl ?_
      show Steps p.tables e below (T13.setTop (mkF m 111 #[.val (.long p0), .second, .val (.long p1), .second, .val (.int p2), .val (.int (2 : Int32)), .val (.int ua0), .val (.int ua1), .val (.int ua2), .val (.int ua3), .val (.int ub0), .val (.int ub1), .val (.int ub2), .val (.int ub3), .val (.ref b9), .val (.ref b10), .unset, .unset, .unset] [(.ref b10)])) _
      refine XS.iconst X13.here hx rfl (hb hby at_111) ?_
      show Steps p.tables e below (T13.setTop (mkF m 112 #[.val (.long p0), .second, .val (.long p1), .second, .val (.int p2), .val (.int (2 : Int32)), .val (.int ua0), .val (.int ua1), .val (.int ua2), .val (.int ua3), .val (.int ub0), .val (.int ub1), .val (.int ub2), .val (.int ub3), .val (.ref b9), .val (.ref b10), .unset, .unset, .unset] [(.int (1 : Int32)), (.ref b10)])) _
      refine XS.iload X13.here hx rfl (hb hby at_112) rfl ?_
      show Steps p.tables e below (T13.setTop (mkF m 114 #[.val (.long p0), .second, .val (.long p1), .second, .val (.int p2), .val (.int (2 : Int32)), .val (.int ua0), .val (.int ua1), .val (.int ua2), .val (.int ua3), .val (.int ub0), .val (.int ub1), .val (.int ub2), .val (.int ub3), .val (.ref b9), .val (.ref b10), .unset, .unset, .unset] [(.int ub1), (.int (1 : Int32)), (.ref b10)])) _
      refine XS.i2dS X13.here hx rfl (v := (FP.i2d ub1)) (hb hby at_114) rfl rfl ?_
      show Steps p.tables e below (T13.setTop (mkF m 115 #[.val (.long p0), .second, .val (.long p1), .second, .val (.int p2), .val (.int (2 : Int32)), .val (.int ua0), .val (.int ua1), .val (.int ua2), .val (.int ua3), .val (.int ub0), .val (.int ub1), .val (.int ub2), .val (.int ub3), .val (.ref b9), .val (.ref b10), .unset, .unset, .unset] [(.double (FP.i2d ub1)), (.int (1 : Int32)), (.ref b10)])) _
      refine st14 _ ?_
      show Steps p.tables e below (T14.setTop (mkF m 116 #[.val (.long p0), .second, .val (.long p1), .second, .val (.int p2), .val (.int (2 : Int32)), .val (.int ua0), .val (.int ua1), .val (.int ua2), .val (.int ua3), .val (.int ub0), .val (.int ub1), .val (.int ub2), .val (.int ub3), .val (.ref b9), .val (.ref b10), .unset, .unset, .unset] [])) _
      refine XS.iload X14.here hx rfl (hb hby at_116) rfl ?_
      show Steps p.tables e below (T14.setTop (mkF m 118 #[.val (.long p0), .second, .val (.long p1), .second, .val (.int p2), .val (.int (2 : Int32)), .val (.int ua0), .val (.int ua1), .val (.int ua2), .val (.int ua3), .val (.int ub0), .val (.int ub1), .val (.int ub2), .val (.int ub3), .val (.ref b9), .val (.ref b10), .unset, .unset, .unset] [(.int (2 : Int32))])) _
      refine XS.iconst X14.here hx rfl (hb hby at_118) ?_
      show Steps p.tables e below (T14.setTop (mkF m 119 #[.val (.long p0), .second, .val (.long p1), .second, .val (.int p2), .val (.int (2 : Int32)), .val (.int ua0), .val (.int ua1), .val (.int ua2), .val (.int ua3), .val (.int ub0), .val (.int ub1), .val (.int ub2), .val (.int ub3), .val (.ref b9), .val (.ref b10), .unset, .unset, .unset] [(.int (2 : Int32)), (.int (2 : Int32))])) _
      refine XS.icmpYes X14.here hx rfl (pc0 := 119) (pc' := 136) rfl (hb hby at_119) rfl (by decide) (by decide) (by decide) ?_
      show Steps p.tables e below (T14.setTop (mkF m 136 #[.val (.long p0), .second, .val (.long p1), .second, .val (.int p2), .val (.int (2 : Int32)), .val (.int ua0), .val (.int ua1), .val (.int ua2), .val (.int ua3), .val (.int ub0), .val (.int ub1), .val (.int ub2), .val (.int ub3), .val (.ref b9), .val (.ref b10), .unset, .unset, .unset] [])) _
      refine XS.iload X14.here hx rfl (hb hby at_136) rfl ?_
      show Steps p.tables e below (T14.setTop (mkF m 138 #[.val (.long p0), .second, .val (.long p1), .second, .val (.int p2), .val (.int (2 : Int32)), .val (.int ua0), .val (.int ua1), .val (.int ua2), .val (.int ua3), .val (.int ub0), .val (.int ub1), .val (.int ub2), .val (.int ub3), .val (.ref b9), .val (.ref b10), .unset, .unset, .unset] [(.int (2 : Int32))])) _
      refine XS.iconst X14.here hx rfl (hb hby at_138) ?_
      show Steps p.tables e below (T14.setTop (mkF m 139 #[.val (.long p0), .second, .val (.long p1), .second, .val (.int p2), .val (.int (2 : Int32)), .val (.int ua0), .val (.int ua1), .val (.int ua2), .val (.int ua3), .val (.int ub0), .val (.int ub1), .val (.int ub2), .val (.int ub3), .val (.ref b9), .val (.ref b10), .unset, .unset, .unset] [(.int (3 : Int32)), (.int (2 : Int32))])) _
      refine XS.icmpYes X14.here hx rfl (pc0 := 139) (pc' := 156) rfl (hb hby at_139) rfl (by decide) (by decide) (by decide) ?_
      show Steps p.tables e below (T14.setTop (mkF m 156 #[.val (.long p0), .second, .val (.long p1), .second, .val (.int p2), .val (.int (2 : Int32)), .val (.int ua0), .val (.int ua1), .val (.int ua2), .val (.int ua3), .val (.int ub0), .val (.int ub1), .val (.int ub2), .val (.int ub3), .val (.ref b9), .val (.ref b10), .unset, .unset, .unset] [])) _
      refine XS.iconst X14.here hx rfl (hb hby at_156) ?_
      show Steps p.tables e below (T14.setTop (mkF m 157 #[.val (.long p0), .second, .val (.long p1), .second, .val (.int p2), .val (.int (2 : Int32)), .val (.int ua0), .val (.int ua1), .val (.int ua2), .val (.int ua3), .val (.int ub0), .val (.int ub1), .val (.int ub2), .val (.int ub3), .val (.ref b9), .val (.ref b10), .unset, .unset, .unset] [(.int (1 : Int32))])) _
      refine XS.istore X14.here hx rfl (hb hby at_157) rfl (l' := #[.val (.long p0), .second, .val (.long p1), .second, .val (.int p2), .val (.int (2 : Int32)), .val (.int ua0), .val (.int ua1), .val (.int ua2), .val (.int ua3), .val (.int ub0), .val (.int ub1), .val (.int ub2), .val (.int ub3), .val (.ref b9), .val (.ref b10), .val (.int (1 : Int32)), .unset, .unset]) rfl ?_
      show Steps p.tables e below (T14.setTop (mkF m 159 #[.val (.long p0), .second, .val (.long p1), .second, .val (.int p2), .val (.int (2 : Int32)), .val (.int ua0), .val (.int ua1), .val (.int ua2), .val (.int ua3), .val (.int ub0), .val (.int ub1), .val (.int ub2), .val (.int ub3), .val (.ref b9), .val (.ref b10), .val (.int (1 : Int32)), .unset, .unset] [])) _
      refine XS.iconst X14.here hx rfl (hb hby at_159) ?_
      show Steps p.tables e below (T14.setTop (mkF m 160 #[.val (.long p0), .second, .val (.long p1), .second, .val (.int p2), .val (.int (2 : Int32)), .val (.int ua0), .val (.int ua1), .val (.int ua2), .val (.int ua3), .val (.int ub0), .val (.int ub1), .val (.int ub2), .val (.int ub3), .val (.ref b9), .val (.ref b10), .val (.int (1 : Int32)), .unset, .unset] [(.int (0 : Int32))])) _
      refine XS.istore X14.here hx rfl (hb hby at_160) rfl (l' := #[.val (.long p0), .second, .val (.long p1), .second, .val (.int p2), .val (.int (2 : Int32)), .val (.int ua0), .val (.int ua1), .val (.int ua2), .val (.int ua3), .val (.int ub0), .val (.int ub1), .val (.int ub2), .val (.int ub3), .val (.ref b9), .val (.ref b10), .val (.int (1 : Int32)), .val (.int (0 : Int32)), .unset]) rfl ?_
      show Steps p.tables e below (T14.setTop (mkF m 162 #[.val (.long p0), .second, .val (.long p1), .second, .val (.int p2), .val (.int (2 : Int32)), .val (.int ua0), .val (.int ua1), .val (.int ua2), .val (.int ua3), .val (.int ub0), .val (.int ub1), .val (.int ub2), .val (.int ub3), .val (.ref b9), .val (.ref b10), .val (.int (1 : Int32)), .val (.int (0 : Int32)), .unset] [])) _
      refine XS.iload X14.here hx rfl (hb hby at_162) rfl ?_
      show Steps p.tables e below (T14.setTop (mkF m 164 #[.val (.long p0), .second, .val (.long p1), .second, .val (.int p2), .val (.int (2 : Int32)), .val (.int ua0), .val (.int ua1), .val (.int ua2), .val (.int ua3), .val (.int ub0), .val (.int ub1), .val (.int ub2), .val (.int ub3), .val (.ref b9), .val (.ref b10), .val (.int (1 : Int32)), .val (.int (0 : Int32)), .unset] [(.int (2 : Int32))])) _
      refine XS.ifNo X14.here hx rfl (hb hby at_164) rfl (by decide) ?_
      show Steps p.tables e below (T14.setTop (mkF m 167 #[.val (.long p0), .second, .val (.long p1), .second, .val (.int p2), .val (.int (2 : Int32)), .val (.int ua0), .val (.int ua1), .val (.int ua2), .val (.int ua3), .val (.int ub0), .val (.int ub1), .val (.int ub2), .val (.int ub3), .val (.ref b9), .val (.ref b10), .val (.int (1 : Int32)), .val (.int (0 : Int32)), .unset] [])) _
      refine own_bLe0 X14.here hx hby p0 p1 p2 (2 : Int32) ua0 ua1 ua2 ua3 ub0 ub1 ub2 ub3 (1 : Int32) (0 : Int32) b9 b10 ?_
      show Steps p.tables e below (T14.setTop (mkF m 186 #[.val (.long p0), .second, .val (.long p1), .second, .val (.int p2), .val (.int (2 : Int32)), .val (.int ua0), .val (.int ua1), .val (.int ua2), .val (.int ua3), .val (.int ub0), .val (.int ub1), .val (.int ub2), .val (.int ub3), .val (.ref b9), .val (.ref b10), .val (.int (own_le (1 : Int32) ua0 ub0)), .val (.int (0 : Int32)), .unset] [])) _
      refine own_bLt0 X14.here hx hby p0 p1 p2 (2 : Int32) ua0 ua1 ua2 ua3 ub0 ub1 ub2 ub3 (own_le (1 : Int32) ua0 ub0) (0 : Int32) b9 b10 ?_
      show Steps p.tables e below (T14.setTop (mkF m 205 #[.val (.long p0), .second, .val (.long p1), .second, .val (.int p2), .val (.int (2 : Int32)), .val (.int ua0), .val (.int ua1), .val (.int ua2), .val (.int ua3), .val (.int ub0), .val (.int ub1), .val (.int ub2), .val (.int ub3), .val (.ref b9), .val (.ref b10), .val (.int (own_le (1 : Int32) ua0 ub0)), .val (.int (own_lt (0 : Int32) ua0 ub0)), .unset] [])) _
      refine XS.iload X14.here hx rfl (hb hby at_205) rfl ?_
      show Steps p.tables e below (T14.setTop (mkF m 207 #[.val (.long p0), .second, .val (.long p1), .second, .val (.int p2), .val (.int (2 : Int32)), .val (.int ua0), .val (.int ua1), .val (.int ua2), .val (.int ua3), .val (.int ub0), .val (.int ub1), .val (.int ub2), .val (.int ub3), .val (.ref b9), .val (.ref b10), .val (.int (own_le (1 : Int32) ua0 ub0)), .val (.int (own_lt (0 : Int32) ua0 ub0)), .unset] [(.int (2 : Int32))])) _
      refine XS.iconst X14.here hx rfl (hb hby at_207) ?_
      show Steps p.tables e below (T14.setTop (mkF m 208 #[.val (.long p0), .second, .val (.long p1), .second, .val (.int p2), .val (.int (2 : Int32)), .val (.int ua0), .val (.int ua1), .val (.int ua2), .val (.int ua3), .val (.int ub0), .val (.int ub1), .val (.int ub2), .val (.int ub3), .val (.ref b9), .val (.ref b10), .val (.int (own_le (1 : Int32) ua0 ub0)), .val (.int (own_lt (0 : Int32) ua0 ub0)), .unset] [(.int (1 : Int32)), (.int (2 : Int32))])) _
      refine XS.icmpNo X14.here hx rfl (hb hby at_208) rfl (by decide) ?_
      show Steps p.tables e below (T14.setTop (mkF m 211 #[.val (.long p0), .second, .val (.long p1), .second, .val (.int p2), .val (.int (2 : Int32)), .val (.int ua0), .val (.int ua1), .val (.int ua2), .val (.int ua3), .val (.int ub0), .val (.int ub1), .val (.int ub2), .val (.int ub3), .val (.ref b9), .val (.ref b10), .val (.int (own_le (1 : Int32) ua0 ub0)), .val (.int (own_lt (0 : Int32) ua0 ub0)), .unset] [])) _
      refine own_bLe1 X14.here hx hby p0 p1 p2 (2 : Int32) ua0 ua1 ua2 ua3 ub0 ub1 ub2 ub3 (own_le (1 : Int32) ua0 ub0) (own_lt (0 : Int32) ua0 ub0) b9 b10 ?_
      show Steps p.tables e below (T14.setTop (mkF m 230 #[.val (.long p0), .second, .val (.long p1), .second, .val (.int p2), .val (.int (2 : Int32)), .val (.int ua0), .val (.int ua1), .val (.int ua2), .val (.int ua3), .val (.int ub0), .val (.int ub1), .val (.int ub2), .val (.int ub3), .val (.ref b9), .val (.ref b10), .val (.int (own_le (own_le (1 : Int32) ua0 ub0) ua1 ub1)), .val (.int (own_lt (0 : Int32) ua0 ub0)), .unset] [])) _
      refine own_bLt1 X14.here hx hby p0 p1 p2 (2 : Int32) ua0 ua1 ua2 ua3 ub0 ub1 ub2 ub3 (own_le (own_le (1 : Int32) ua0 ub0) ua1 ub1) (own_lt (0 : Int32) ua0 ub0) b9 b10 ?_
      show Steps p.tables e below (T14.setTop (mkF m 249 #[.val (.long p0), .second, .val (.long p1), .second, .val (.int p2), .val (.int (2 : Int32)), .val (.int ua0), .val (.int ua1), .val (.int ua2), .val (.int ua3), .val (.int ub0), .val (.int ub1), .val (.int ub2), .val (.int ub3), .val (.ref b9), .val (.ref b10), .val (.int (own_le (own_le (1 : Int32) ua0 ub0) ua1 ub1)), .val (.int (own_lt (own_lt (0 : Int32) ua0 ub0) ua1 ub1)), .unset] [])) _
      refine XS.iload X14.here hx rfl (hb hby at_249) rfl ?_
      show Steps p.tables e below (T14.setTop (mkF m 251 #[.val (.long p0), .second, .val (.long p1), .second, .val (.int p2), .val (.int (2 : Int32)), .val (.int ua0), .val (.int ua1), .val (.int ua2), .val (.int ua3), .val (.int ub0), .val (.int ub1), .val (.int ub2), .val (.int ub3), .val (.ref b9), .val (.ref b10), .val (.int (own_le (own_le (1 : Int32) ua0 ub0) ua1 ub1)), .val (.int (own_lt (own_lt (0 : Int32) ua0 ub0) ua1 ub1)), .unset] [(.int (2 : Int32))])) _
      refine XS.iconst X14.here hx rfl (hb hby at_251) ?_
      show Steps p.tables e below (T14.setTop (mkF m 252 #[.val (.long p0), .second, .val (.long p1), .second, .val (.int p2), .val (.int (2 : Int32)), .val (.int ua0), .val (.int ua1), .val (.int ua2), .val (.int ua3), .val (.int ub0), .val (.int ub1), .val (.int ub2), .val (.int ub3), .val (.ref b9), .val (.ref b10), .val (.int (own_le (own_le (1 : Int32) ua0 ub0) ua1 ub1)), .val (.int (own_lt (own_lt (0 : Int32) ua0 ub0) ua1 ub1)), .unset] [(.int (2 : Int32)), (.int (2 : Int32))])) _
      refine XS.icmpYes X14.here hx rfl (pc0 := 252) (pc' := 293) rfl (hb hby at_252) rfl (by decide) (by decide) (by decide) ?_
      show Steps p.tables e below (T14.setTop (mkF m 293 #[.val (.long p0), .second, .val (.long p1), .second, .val (.int p2), .val (.int (2 : Int32)), .val (.int ua0), .val (.int ua1), .val (.int ua2), .val (.int ua3), .val (.int ub0), .val (.int ub1), .val (.int ub2), .val (.int ub3), .val (.ref b9), .val (.ref b10), .val (.int (own_le (own_le (1 : Int32) ua0 ub0) ua1 ub1)), .val (.int (own_lt (own_lt (0 : Int32) ua0 ub0) ua1 ub1)), .unset] [])) _
      refine XS.iload X14.here hx rfl (hb hby at_293) rfl ?_
      show Steps p.tables e below (T14.setTop (mkF m 295 #[.val (.long p0), .second, .val (.long p1), .second, .val (.int p2), .val (.int (2 : Int32)), .val (.int ua0), .val (.int ua1), .val (.int ua2), .val (.int ua3), .val (.int ub0), .val (.int ub1), .val (.int ub2), .val (.int ub3), .val (.ref b9), .val (.ref b10), .val (.int (own_le (own_le (1 : Int32) ua0 ub0) ua1 ub1)), .val (.int (own_lt (own_lt (0 : Int32) ua0 ub0) ua1 ub1)), .unset] [(.int (2 : Int32))])) _
      refine XS.iconst X14.here hx rfl (hb hby at_295) ?_
      show Steps p.tables e below (T14.setTop (mkF m 296 #[.val (.long p0), .second, .val (.long p1), .second, .val (.int p2), .val (.int (2 : Int32)), .val (.int ua0), .val (.int ua1), .val (.int ua2), .val (.int ua3), .val (.int ub0), .val (.int ub1), .val (.int ub2), .val (.int ub3), .val (.ref b9), .val (.ref b10), .val (.int (own_le (own_le (1 : Int32) ua0 ub0) ua1 ub1)), .val (.int (own_lt (own_lt (0 : Int32) ua0 ub0) ua1 ub1)), .unset] [(.int (3 : Int32)), (.int (2 : Int32))])) _
      refine XS.icmpYes X14.here hx rfl (pc0 := 296) (pc' := 337) rfl (hb hby at_296) rfl (by decide) (by decide) (by decide) ?_
      show Steps p.tables e below (T14.setTop (mkF m 337 #[.val (.long p0), .second, .val (.long p1), .second, .val (.int p2), .val (.int (2 : Int32)), .val (.int ua0), .val (.int ua1), .val (.int ua2), .val (.int ua3), .val (.int ub0), .val (.int ub1), .val (.int ub2), .val (.int ub3), .val (.ref b9), .val (.ref b10), .val (.int (own_le (own_le (1 : Int32) ua0 ub0) ua1 ub1)), .val (.int (own_lt (own_lt (0 : Int32) ua0 ub0) ua1 ub1)), .unset] [])) _
      refine own_bEx X14.here hx hby p0 p1 p2 (2 : Int32) ua0 ua1 ua2 ua3 ub0 ub1 ub2 ub3 (own_le (own_le (1 : Int32) ua0 ub0) ua1 ub1) (own_lt (own_lt (0 : Int32) ua0 ub0) ua1 ub1) b9 b10 ?_
      show Steps p.tables e below (T14.setTop (mkF m 354 #[.val (.long p0), .second, .val (.long p1), .second, .val (.int p2), .val (.int (2 : Int32)), .val (.int ua0), .val (.int ua1), .val (.int ua2), .val (.int ua3), .val (.int ub0), .val (.int ub1), .val (.int ub2), .val (.int ub3), .val (.ref b9), .val (.ref b10), .val (.int (own_le (own_le (1 : Int32) ua0 ub0) ua1 ub1)), .val (.int (own_lt (own_lt (0 : Int32) ua0 ub0) ua1 ub1)), .val (.int (own_exp (own_le (own_le (1 : Int32) ua0 ub0) ua1 ub1) (own_lt (own_lt (0 : Int32) ua0 ub0) ua1 ub1)))] [])) _
      refine XS.aload X14.here hx rfl (hb hby at_354) rfl rfl ?_
      show Steps p.tables e below (T14.setTop (mkF m 356 #[.val (.long p0), .second, .val (.long p1), .second, .val (.int p2), .val (.int (2 : Int32)), .val (.int ua0), .val (.int ua1), .val (.int ua2), .val (.int ua3), .val (.int ub0), .val (.int ub1), .val (.int ub2), .val (.int ub3), .val (.ref b9), .val (.ref b10), .val (.int (own_le (own_le (1 : Int32) ua0 ub0) ua1 ub1)), .val (.int (own_lt (own_lt (0 : Int32) ua0 ub0) ua1 ub1)), .val (.int (own_exp (own_le (own_le (1 : Int32) ua0 ub0) ua1 ub1) (own_lt (own_lt (0 : Int32) ua0 ub0) ua1 ub1)))] [(.ref b9)])) _
      refine XS.aload X14.here hx rfl (hb hby at_356) rfl rfl ?_
      show Steps p.tables e below (T14.setTop (mkF m 358 #[.val (.long p0), .second, .val (.long p1), .second, .val (.int p2), .val (.int (2 : Int32)), .val (.int ua0), .val (.int ua1), .val (.int ua2), .val (.int ua3), .val (.int ub0), .val (.int ub1), .val (.int ub2), .val (.int ub3), .val (.ref b9), .val (.ref b10), .val (.int (own_le (own_le (1 : Int32) ua0 ub0) ua1 ub1)), .val (.int (own_lt (own_lt (0 : Int32) ua0 ub0) ua1 ub1)), .val (.int (own_exp (own_le (own_le (1 : Int32) ua0 ub0) ua1 ub1) (own_lt (own_lt (0 : Int32) ua0 ub0) ua1 ub1)))] [(.ref b10), (.ref b9)])) _
      refine st15 _ ?_
      show Steps p.tables e below (T15.setTop (mkF m 361 #[.val (.long p0), .second, .val (.long p1), .second, .val (.int p2), .val (.int (2 : Int32)), .val (.int ua0), .val (.int ua1), .val (.int ua2), .val (.int ua3), .val (.int ub0), .val (.int ub1), .val (.int ub2), .val (.int ub3), .val (.ref b9), .val (.ref b10), .val (.int (own_le (own_le (1 : Int32) ua0 ub0) ua1 ub1)), .val (.int (own_lt (own_lt (0 : Int32) ua0 ub0) ua1 ub1)), .val (.int (own_exp (own_le (own_le (1 : Int32) ua0 ub0) ua1 ub1) (own_lt (own_lt (0 : Int32) ua0 ub0) ua1 ub1)))] [(.int (own_dom ([(ua0, ub0), (ua1, ub1)] : List (Int32 × Int32)) 0))])) _
      refine XS.iload X15.here hx rfl (hb hby at_361) rfl ?_
      show Steps p.tables e below (T15.setTop (mkF m 363 #[.val (.long p0), .second, .val (.long p1), .second, .val (.int p2), .val (.int (2 : Int32)), .val (.int ua0), .val (.int ua1), .val (.int ua2), .val (.int ua3), .val (.int ub0), .val (.int ub1), .val (.int ub2), .val (.int ub3), .val (.ref b9), .val (.ref b10), .val (.int (own_le (own_le (1 : Int32) ua0 ub0) ua1 ub1)), .val (.int (own_lt (own_lt (0 : Int32) ua0 ub0) ua1 ub1)), .val (.int (own_exp (own_le (own_le (1 : Int32) ua0 ub0) ua1 ub1) (own_lt (own_lt (0 : Int32) ua0 ub0) ua1 ub1)))] [(.int (own_exp (own_le (own_le (1 : Int32) ua0 ub0) ua1 ub1) (own_lt (own_lt (0 : Int32) ua0 ub0) ua1 ub1))), (.int (own_dom ([(ua0, ub0), (ua1, ub1)] : List (Int32 × Int32)) 0))])) _
      refine XS.icmpNo X15.here hx rfl (hb hby at_363) rfl (teq hfin).2 ?_
      show Steps p.tables e below (T15.setTop (mkF m 366 #[.val (.long p0), .second, .val (.long p1), .second, .val (.int p2), .val (.int (2 : Int32)), .val (.int ua0), .val (.int ua1), .val (.int ua2), .val (.int ua3), .val (.int ub0), .val (.int ub1), .val (.int ub2), .val (.int ub3), .val (.ref b9), .val (.ref b10), .val (.int (own_le (own_le (1 : Int32) ua0 ub0) ua1 ub1)), .val (.int (own_lt (own_lt (0 : Int32) ua0 ub0) ua1 ub1)), .val (.int (own_exp (own_le (own_le (1 : Int32) ua0 ub0) ua1 ub1) (own_lt (own_lt (0 : Int32) ua0 ub0) ua1 ub1)))] [])) _
      refine XS.iconst X15.here hx rfl (hb hby at_366) ?_
      show Steps p.tables e below (T15.setTop (mkF m 367 #[.val (.long p0), .second, .val (.long p1), .second, .val (.int p2), .val (.int (2 : Int32)), .val (.int ua0), .val (.int ua1), .val (.int ua2), .val (.int ua3), .val (.int ub0), .val (.int ub1), .val (.int ub2), .val (.int ub3), .val (.ref b9), .val (.ref b10), .val (.int (own_le (own_le (1 : Int32) ua0 ub0) ua1 ub1)), .val (.int (own_lt (own_lt (0 : Int32) ua0 ub0) ua1 ub1)), .val (.int (own_exp (own_le (own_le (1 : Int32) ua0 ub0) ua1 ub1) (own_lt (own_lt (0 : Int32) ua0 ub0) ua1 ub1)))] [(.int (1 : Int32))])) _
      refine XS.goto X15.here hx rfl (pc0 := 367) (pc' := 371) rfl (hb hby at_367) (by decide) (by decide) ?_
      show Steps p.tables e below (T15.setTop (mkF m 371 #[.val (.long p0), .second, .val (.long p1), .second, .val (.int p2), .val (.int (2 : Int32)), .val (.int ua0), .val (.int ua1), .val (.int ua2), .val (.int ua3), .val (.int ub0), .val (.int ub1), .val (.int ub2), .val (.int ub3), .val (.ref b9), .val (.ref b10), .val (.int (own_le (own_le (1 : Int32) ua0 ub0) ua1 ub1)), .val (.int (own_lt (own_lt (0 : Int32) ua0 ub0) ua1 ub1)), .val (.int (own_exp (own_le (own_le (1 : Int32) ua0 ub0) ua1 ub1) (own_lt (own_lt (0 : Int32) ua0 ub0) ua1 ub1)))] [(.int (1 : Int32))])) _
      exact retN X15 hx (t := .boolean) Bd.returns (by simp) (hb hby at_371) hr
    · exact ⟨rfl, N15⟩
  · skip
    obtain ⟨T9, h9, k9, X9, e9, E9, A9, st9⟩ := newP X8 hx hZ (hw _ (List.mem_of_getElem? (i := 5) rfl)) rfl (g := (mkF m 67 #[.val (.long p0), .second, .val (.long p1), .second, .val (.int p2), .val (.int (3 : Int32)), .val (.int ua0), .val (.int ua1), .val (.int ua2), .val (.int ua3), .val (.int ub0), .val (.int ub1), .val (.int ub2), .val (.int ub3), .unset, .unset, .unset, .unset, .unset] [(.int (3 : Int32))])) rfl (hb hby at_67) rfl (by decide) (cap := 3) (by decide) (by decide) (by decide) (by decide)
    obtain ⟨b9, g9⟩ : ∃ z, z = T8.heap.size := ⟨_, rfl⟩
    rw [← g9] at A9 st9
    have V9 : Arv Z h9 b9 k9 .double (3 : Int32) (List.replicate 3 (.double 0)) (.double 0) := (Arv.new A9 (by decide)).pad (pad_rep [] (.double 0) 3)
    have g9b : n0 ≤ b9 := Nat.le_trans zz8 (Nat.le_of_eq g9.symm)
    obtain ⟨T10, h10, k10, X10, e10, E10, A10, st10⟩ := newP X9 hx hZ (hw _ (List.mem_of_getElem? (i := 5) rfl)) e9 (g := (mkF m 73 #[.val (.long p0), .second, .val (.long p1), .second, .val (.int p2), .val (.int (3 : Int32)), .val (.int ua0), .val (.int ua1), .val (.int ua2), .val (.int ua3), .val (.int ub0), .val (.int ub1), .val (.int ub2), .val (.int ub3), .val (.ref b9), .unset, .unset, .unset, .unset] [(.int (3 : Int32))])) rfl (hb hby at_73) rfl (by decide) (cap := 3) (by decide) (by decide) (by decide) (by decide)
    obtain ⟨b10, g10⟩ : ∃ z, z = h9.size := ⟨_, rfl⟩
    rw [← g10] at A10 st10
    have V10 : Arv Z h10 b10 k10 .double (3 : Int32) (List.replicate 3 (.double 0)) (.double 0) := (Arv.new A10 (by decide)).pad (pad_rep [] (.double 0) 3)
    have g10b : n0 ≤ b10 := Nat.le_trans (Nat.le_trans zz8 E9.1) (Nat.le_of_eq g10.symm)
    have hab : b9 ≠ b10 := Nat.ne_of_lt (Nat.lt_of_lt_of_le V9.lt (Nat.le_of_eq g10.symm))
    have Va := V9.ext E10
    have Vb := V10
    have zz0 : n0 ≤ h10.size := Nat.le_trans (Nat.le_trans zz8 E9.1) E10.1
    obtain ⟨c1, Ar1, qk1, S1, M1, H1, U1⟩ := id Va
    obtain ⟨T11, h11, X11, e11, W11, st11⟩ := stD X10 hx hZ e10 Ar1 (j := (0 : Int32)) (inb_of S1 (by decide)) (g := (mkF m 88 #[.val (.long p0), .second, .val (.long p1), .second, .val (.int p2), .val (.int (3 : Int32)), .val (.int ua0), .val (.int ua1), .val (.int ua2), .val (.int ua3), .val (.int ub0), .val (.int ub1), .val (.int ub2), .val (.int ub3), .val (.ref b9), .val (.ref b10), .unset, .unset, .unset] [(.double (FP.i2d ua0)), (.int (0 : Int32)), (.ref b9)])) rfl rfl (hb hby at_88)
    have N11 := Fr.snoc X11 N8 g9b
    have Va := Arv.set Ar1 qk1 S1 M1 H1 U1 (v := .double (FP.i2d ua0)) rfl W11 0 rfl (Nat.le_of_ble_eq_true rfl)
    have Vb := Vb.other W11 hab.symm
    have zz0 : n0 ≤ h11.size := Nat.le_trans zz0 (Nat.le_of_eq W11.size.symm)
    obtain ⟨c1, Ar1, qk1, S1, M1, H1, U1⟩ := id Vb
    obtain ⟨T12, h12, X12, e12, W12, st12⟩ := stD X11 hx hZ e11 Ar1 (j := (0 : Int32)) (inb_of S1 (by decide)) (g := (mkF m 95 #[.val (.long p0), .second, .val (.long p1), .second, .val (.int p2), .val (.int (3 : Int32)), .val (.int ua0), .val (.int ua1), .val (.int ua2), .val (.int ua3), .val (.int ub0), .val (.int ub1), .val (.int ub2), .val (.int ub3), .val (.ref b9), .val (.ref b10), .unset, .unset, .unset] [(.double (FP.i2d ub0)), (.int (0 : Int32)), (.ref b10)])) rfl rfl (hb hby at_95)
    have N12 := Fr.snoc X12 N11 g10b
    have Vb := Arv.set Ar1 qk1 S1 M1 H1 U1 (v := .double (FP.i2d ub0)) rfl W12 0 rfl (Nat.le_of_ble_eq_true rfl)
    have Va := Va.other W12 hab
    have zz0 : n0 ≤ h12.size := Nat.le_trans zz0 (Nat.le_of_eq W12.size.symm)
    obtain ⟨c1, Ar1, qk1, S1, M1, H1, U1⟩ := id Va
    obtain ⟨T13, h13, X13, e13, W13, st13⟩ := stD X12 hx hZ e12 Ar1 (j := (1 : Int32)) (inb_of S1 (by decide)) (g := (mkF m 108 #[.val (.long p0), .second, .val (.long p1), .second, .val (.int p2), .val (.int (3 : Int32)), .val (.int ua0), .val (.int ua1), .val (.int ua2), .val (.int ua3), .val (.int ub0), .val (.int ub1), .val (.int ub2), .val (.int ub3), .val (.ref b9), .val (.ref b10), .unset, .unset, .unset] [(.double (FP.i2d ua1)), (.int (1 : Int32)), (.ref b9)])) rfl rfl (hb hby at_108)
    have N13 := Fr.snoc X13 N12 g9b
    have Va := Arv.set Ar1 qk1 S1 M1 H1 U1 (v := .double (FP.i2d ua1)) rfl W13 1 rfl (Nat.le_of_ble_eq_true rfl)
    have Vb := Vb.other W13 hab.symm
    have zz0 : n0 ≤ h13.size := Nat.le_trans zz0 (Nat.le_of_eq W13.size.symm)
    obtain ⟨c1, Ar1, qk1, S1, M1, H1, U1⟩ := id Vb
    obtain ⟨T14, h14, X14, e14, W14, st14⟩ := stD X13 hx hZ e13 Ar1 (j := (1 : Int32)) (inb_of S1 (by decide)) (g := (mkF m 115 #[.val (.long p0), .second, .val (.long p1), .second, .val (.int p2), .val (.int (3 : Int32)), .val (.int ua0), .val (.int ua1), .val (.int ua2), .val (.int ua3), .val (.int ub0), .val (.int ub1), .val (.int ub2), .val (.int ub3), .val (.ref b9), .val (.ref b10), .unset, .unset, .unset] [(.double (FP.i2d ub1)), (.int (1 : Int32)), (.ref b10)])) rfl rfl (hb hby at_115)
    have N14 := Fr.snoc X14 N13 g10b
    have Vb := Arv.set Ar1 qk1 S1 M1 H1 U1 (v := .double (FP.i2d ub1)) rfl W14 1 rfl (Nat.le_of_ble_eq_true rfl)
    have Va := Va.other W14 hab
    have zz0 : n0 ≤ h14.size := Nat.le_trans zz0 (Nat.le_of_eq W14.size.symm)
    obtain ⟨c1, Ar1, qk1, S1, M1, H1, U1⟩ := id Va
    obtain ⟨T15, h15, X15, e15, W15, st15⟩ := stD X14 hx hZ e14 Ar1 (j := (2 : Int32)) (inb_of S1 (by decide)) (g := (mkF m 128 #[.val (.long p0), .second, .val (.long p1), .second, .val (.int p2), .val (.int (3 : Int32)), .val (.int ua0), .val (.int ua1), .val (.int ua2), .val (.int ua3), .val (.int ub0), .val (.int ub1), .val (.int ub2), .val (.int ub3), .val (.ref b9), .val (.ref b10), .unset, .unset, .unset] [(.double (FP.i2d ua2)), (.int (2 : Int32)), (.ref b9)])) rfl rfl (hb hby at_128)
    have N15 := Fr.snoc X15 N14 g9b
    have Va := Arv.set Ar1 qk1 S1 M1 H1 U1 (v := .double (FP.i2d ua2)) rfl W15 2 rfl (Nat.le_of_ble_eq_true rfl)
    have Vb := Vb.other W15 hab.symm
    have zz0 : n0 ≤ h15.size := Nat.le_trans zz0 (Nat.le_of_eq W15.size.symm)
    obtain ⟨c1, Ar1, qk1, S1, M1, H1, U1⟩ := id Vb
    obtain ⟨T16, h16, X16, e16, W16, st16⟩ := stD X15 hx hZ e15 Ar1 (j := (2 : Int32)) (inb_of S1 (by decide)) (g := (mkF m 135 #[.val (.long p0), .second, .val (.long p1), .second, .val (.int p2), .val (.int (3 : Int32)), .val (.int ua0), .val (.int ua1), .val (.int ua2), .val (.int ua3), .val (.int ub0), .val (.int ub1), .val (.int ub2), .val (.int ub3), .val (.ref b9), .val (.ref b10), .unset, .unset, .unset] [(.double (FP.i2d ub2)), (.int (2 : Int32)), (.ref b10)])) rfl rfl (hb hby at_135)
    have N16 := Fr.snoc X16 N15 g10b
    have Vb := Arv.set Ar1 qk1 S1 M1 H1 U1 (v := .double (FP.i2d ub2)) rfl W16 2 rfl (Nat.le_of_ble_eq_true rfl)
    have Va := Va.other W16 hab
    have zz0 : n0 ≤ h16.size := Nat.le_trans zz0 (Nat.le_of_eq W16.size.symm)
    obtain ⟨_, _, ⟨T17, L17, k17, n17⟩, -, X17, ⟨Lc17, hQ17, l17, y17, z17⟩, st17⟩ := Jvm.LawKit.callS X16 hx (y := (⟨"com/example/gridfront/gridfront/selection/Pareto", "dominates", "([D[D)Z"⟩ : MethodName)) hown (mvT hZ (hw _ (List.mem_of_getElem? (i := 6) rfl))) (mvT hZ (hw _ (List.mem_of_getElem? (i := 7) rfl))) (mvT hZ (hw _ (List.mem_of_getElem? (i := 8) rfl))) (mvT hZ (hw _ (List.mem_of_getElem? (i := 9) rfl))) (by decide) (backOf (W := 0) (rmP l Z a0 hw [] b9 b10 k9 k10 (3 : Int32) ([(ua0, ub0), (ua1, ub1), (ua2, ub2)] : List (Int32 × Int32)) h16 n0 zz0 Va Vb rfl) hZ (hw _ (List.mem_of_getElem? (i := 9) rfl)) (hw _ (List.mem_of_getElem? (i := 8) rfl)) (by decide) (by decide)) (g := (mkF m 358 #[.val (.long p0), .second, .val (.long p1), .second, .val (.int p2), .val (.int (3 : Int32)), .val (.int ua0), .val (.int ua1), .val (.int ua2), .val (.int ua3), .val (.int ub0), .val (.int ub1), .val (.int ub2), .val (.int ub3), .val (.ref b9), .val (.ref b10), .val (.int (own_le (own_le (own_le (1 : Int32) ua0 ub0) ua1 ub1) ua2 ub2)), .val (.int (own_lt (own_lt (own_lt (0 : Int32) ua0 ub0) ua1 ub1) ua2 ub2)), .val (.int (own_exp (own_le (own_le (own_le (1 : Int32) ua0 ub0) ua1 ub1) ua2 ub2) (own_lt (own_lt (own_lt (0 : Int32) ua0 ub0) ua1 ub1) ua2 ub2)))] [(.ref b10), (.ref b9)])) rfl (by rw [hml]; rfl) (argsL := [(.ref b9), (.ref b10)]) (rest := []) (lenOf pdD rfl) rfl (by show 2 * 0 + _ ≤ _; exact Nat.le_of_eq rfl) (hb hby at_358) (fun _ _ => ⟨rfl, e16, (by decide : 2 + 0 ≤ _), (by decide : 6 + 0 ≤ _)⟩)
    dsimp only [Pt.U, Pt.locs, Pt.cells, Pt.slots] at X17 l17 y17 z17 st17 hQ17
    subst l17 y17 z17
    obtain ⟨rfl, N17q, hh17⟩ := hQ17
    have N17 := Fr.app N16 N17q
    have hfin : own_dom ([(ua0, ub0), (ua1, ub1), (ua2, ub2)] : List (Int32 × Int32)) 0 = (own_exp (own_le (own_le (own_le (1 : Int32) ua0 ub0) ua1 ub1) ua2 ub2) (own_lt (own_lt (own_lt (0 : Int32) ua0 ub0) ua1 ub1) ua2 ub2)) := own_law ([(ua0, ub0), (ua1, ub1), (ua2, ub2)] : List (Int32 × Int32)) 0 (Or.inl rfl)
    obtain ⟨fs, hr, hrun, hended, hW, hsame⟩ := X17.leave (v := some (.int (1 : Int32))) (fun h => by rw [Bd.returns] at h; cases h)
    refine ⟨_, _, pre1 _ ?_, hrun, hended, _, _, rfl, ?_, ⟨_, rfl⟩, hW, hsame.mono (by decide) (by decide)⟩
    · skip
      show Steps p.tables e below (T8.setTop (mkF m 65 #[.val (.long p0), .second, .val (.long p1), .second, .val (.int p2), .val (.int (3 : Int32)), .val (.int ua0), .val (.int ua1), .val (.int ua2), .val (.int ua3), .val (.int ub0), .val (.int ub1), .val (.int ub2), .val (.int ub3), .unset, .unset, .unset, .unset, .unset] [])) _
      refine XS.iload X8.here hx rfl (hb hby at_65) rfl ?_
      show Steps p.tables e below (T8.setTop (mkF m 67 #[.val (.long p0), .second, .val (.long p1), .second, .val (.int p2), .val (.int (3 : Int32)), .val (.int ua0), .val (.int ua1), .val (.int ua2), .val (.int ua3), .val (.int ub0), .val (.int ub1), .val (.int ub2), .val (.int ub3), .unset, .unset, .unset, .unset, .unset] [(.int (3 : Int32))])) _
      refine st9 _ ?_
      show Steps p.tables e below (T9.setTop (mkF m 69 #[.val (.long p0), .second, .val (.long p1), .second, .val (.int p2), .val (.int (3 : Int32)), .val (.int ua0), .val (.int ua1), .val (.int ua2), .val (.int ua3), .val (.int ub0), .val (.int ub1), .val (.int ub2), .val (.int ub3), .unset, .unset, .unset, .unset, .unset] [(.ref b9)])) _
      refine XS.astore X9.here hx rfl (hb hby at_69) rfl rfl (l' := #[.val (.long p0), .second, .val (.long p1), .second, .val (.int p2), .val (.int (3 : Int32)), .val (.int ua0), .val (.int ua1), .val (.int ua2), .val (.int ua3), .val (.int ub0), .val (.int ub1), .val (.int ub2), .val (.int ub3), .val (.ref b9), .unset, .unset, .unset, .unset]) rfl ?_
      show Steps p.tables e below (T9.setTop (mkF m 71 #[.val (.long p0), .second, .val (.long p1), .second, .val (.int p2), .val (.int (3 : Int32)), .val (.int ua0), .val (.int ua1), .val (.int ua2), .val (.int ua3), .val (.int ub0), .val (.int ub1), .val (.int ub2), .val (.int ub3), .val (.ref b9), .unset, .unset, .unset, .unset] [])) _
      refine XS.iload X9.here hx rfl (hb hby at_71) rfl ?_
      show Steps p.tables e below (T9.setTop (mkF m 73 #[.val (.long p0), .second, .val (.long p1), .second, .val (.int p2), .val (.int (3 : Int32)), .val (.int ua0), .val (.int ua1), .val (.int ua2), .val (.int ua3), .val (.int ub0), .val (.int ub1), .val (.int ub2), .val (.int ub3), .val (.ref b9), .unset, .unset, .unset, .unset] [(.int (3 : Int32))])) _
      refine st10 _ ?_
      show Steps p.tables e below (T10.setTop (mkF m 75 #[.val (.long p0), .second, .val (.long p1), .second, .val (.int p2), .val (.int (3 : Int32)), .val (.int ua0), .val (.int ua1), .val (.int ua2), .val (.int ua3), .val (.int ub0), .val (.int ub1), .val (.int ub2), .val (.int ub3), .val (.ref b9), .unset, .unset, .unset, .unset] [(.ref b10)])) _
      refine XS.astore X10.here hx rfl (hb hby at_75) rfl rfl (l' := #[.val (.long p0), .second, .val (.long p1), .second, .val (.int p2), .val (.int (3 : Int32)), .val (.int ua0), .val (.int ua1), .val (.int ua2), .val (.int ua3), .val (.int ub0), .val (.int ub1), .val (.int ub2), .val (.int ub3), .val (.ref b9), .val (.ref b10), .unset, .unset, .unset]) rfl ?_
      show Steps p.tables e below (T10.setTop (mkF m 77 #[.val (.long p0), .second, .val (.long p1), .second, .val (.int p2), .val (.int (3 : Int32)), .val (.int ua0), .val (.int ua1), .val (.int ua2), .val (.int ua3), .val (.int ub0), .val (.int ub1), .val (.int ub2), .val (.int ub3), .val (.ref b9), .val (.ref b10), .unset, .unset, .unset] [])) _
      refine XS.iload X10.here hx rfl (hb hby at_77) rfl ?_
      show Steps p.tables e below (T10.setTop (mkF m 79 #[.val (.long p0), .second, .val (.long p1), .second, .val (.int p2), .val (.int (3 : Int32)), .val (.int ua0), .val (.int ua1), .val (.int ua2), .val (.int ua3), .val (.int ub0), .val (.int ub1), .val (.int ub2), .val (.int ub3), .val (.ref b9), .val (.ref b10), .unset, .unset, .unset] [(.int (3 : Int32))])) _
      refine XS.ifNo X10.here hx rfl (hb hby at_79) rfl (by decide) ?_
      show Steps p.tables e below (T10.setTop (mkF m 82 #[.val (.long p0), .second, .val (.long p1), .second, .val (.int p2), .val (.int (3 : Int32)), .val (.int ua0), .val (.int ua1), .val (.int ua2), .val (.int ua3), .val (.int ub0), .val (.int ub1), .val (.int ub2), .val (.int ub3), .val (.ref b9), .val (.ref b10), .unset, .unset, .unset] [])) _
      refine XS.aload X10.here hx rfl (hb hby at_82) rfl rfl ?_
      show Steps p.tables e below (T10.setTop (mkF m 84 #[.val (.long p0), .second, .val (.long p1), .second, .val (.int p2), .val (.int (3 : Int32)), .val (.int ua0), .val (.int ua1), .val (.int ua2), .val (.int ua3), .val (.int ub0), .val (.int ub1), .val (.int ub2), .val (.int ub3), .val (.ref b9), .val (.ref b10), .unset, .unset, .unset] [(.ref b9)])) _
      refine XS.iconst X10.here hx rfl (hb hby at_84) ?_
      show Steps p.tables e below (T10.setTop (mkF m 85 #[.val (.long p0), .second, .val (.long p1), .second, .val (.int p2), .val (.int (3 : Int32)), .val (.int ua0), .val (.int ua1), .val (.int ua2), .val (.int ua3), .val (.int ub0), .val (.int ub1), .val (.int ub2), .val (.int ub3), .val (.ref b9), .val (.ref b10), .unset, .unset, .unset] [(.int (0 : Int32)), (.ref b9)])) _
      refine XS.iload X10.here hx rfl (hb hby at_85) rfl ?_
      show Steps p.tables e below (T10.setTop (mkF m 87 #[.val (.long p0), .second, .val (.long p1), .second, .val (.int p2), .val (.int (3 : Int32)), .val (.int ua0), .val (.int ua1), .val (.int ua2), .val (.int ua3), .val (.int ub0), .val (.int ub1), .val (.int ub2), .val (.int ub3), .val (.ref b9), .val (.ref b10), .unset, .unset, .unset] [(.int ua0), (.int (0 : Int32)), (.ref b9)])) _
      refine XS.i2dS X10.here hx rfl (v := (FP.i2d ua0)) (hb hby at_87) rfl rfl ?_
      show Steps p.tables e below (T10.setTop (mkF m 88 #[.val (.long p0), .second, .val (.long p1), .second, .val (.int p2), .val (.int (3 : Int32)), .val (.int ua0), .val (.int ua1), .val (.int ua2), .val (.int ua3), .val (.int ub0), .val (.int ub1), .val (.int ub2), .val (.int ub3), .val (.ref b9), .val (.ref b10), .unset, .unset, .unset] [(.double (FP.i2d ua0)), (.int (0 : Int32)), (.ref b9)])) _
      refine st11 _ ?_
      show Steps p.tables e below (T11.setTop (mkF m 89 #[.val (.long p0), .second, .val (.long p1), .second, .val (.int p2), .val (.int (3 : Int32)), .val (.int ua0), .val (.int ua1), .val (.int ua2), .val (.int ua3), .val (.int ub0), .val (.int ub1), .val (.int ub2), .val (.int ub3), .val (.ref b9), .val (.ref b10), .unset, .unset, .unset] [])) _
      refine XS.aload X11.here hx rfl (hb hby at_89) rfl rfl ?_
      show Steps p.tables e below (T11.setTop (mkF m 91 #[.val (.long p0), .second, .val (.long p1), .second, .val (.int p2), .val (.int (3 : Int32)), .val (.int ua0), .val (.int ua1), .val (.int ua2), .val (.int ua3), .val (.int ub0), .val (.int ub1), .val (.int ub2), .val (.int ub3), .val (.ref b9), .val (.ref b10), .unset, .unset, .unset] [(.ref b10)])) _
      refine XS.iconst X11.here hx rfl (hb hby at_91) ?_
      show Steps p.tables e below (T11.setTop (mkF m 92 #[.val (.long p0), .second, .val (.long p1), .second, .val (.int p2), .val (.int (3 : Int32)), .val (.int ua0), .val (.int ua1), .val (.int ua2), .val (.int ua3), .val (.int ub0), .val (.int ub1), .val (.int ub2), .val (.int ub3), .val (.ref b9), .val (.ref b10), .unset, .unset, .unset] [(.int (0 : Int32)), (.ref b10)])) _
      refine XS.iload X11.here hx rfl (hb hby at_92) rfl ?_
      show Steps p.tables e below (T11.setTop (mkF m 94 #[.val (.long p0), .second, .val (.long p1), .second, .val (.int p2), .val (.int (3 : Int32)), .val (.int ua0), .val (.int ua1), .val (.int ua2), .val (.int ua3), .val (.int ub0), .val (.int ub1), .val (.int ub2), .val (.int ub3), .val (.ref b9), .val (.ref b10), .unset, .unset, .unset] [(.int ub0), (.int (0 : Int32)), (.ref b10)])) _
      refine XS.i2dS X11.here hx rfl (v := (FP.i2d ub0)) (hb hby at_94) rfl rfl ?_
      show Steps p.tables e below (T11.setTop (mkF m 95 #[.val (.long p0), .second, .val (.long p1), .second, .val (.int p2), .val (.int (3 : Int32)), .val (.int ua0), .val (.int ua1), .val (.int ua2), .val (.int ua3), .val (.int ub0), .val (.int ub1), .val (.int ub2), .val (.int ub3), .val (.ref b9), .val (.ref b10), .unset, .unset, .unset] [(.double (FP.i2d ub0)), (.int (0 : Int32)), (.ref b10)])) _
      refine st12 _ ?_
      show Steps p.tables e below (T12.setTop (mkF m 96 #[.val (.long p0), .second, .val (.long p1), .second, .val (.int p2), .val (.int (3 : Int32)), .val (.int ua0), .val (.int ua1), .val (.int ua2), .val (.int ua3), .val (.int ub0), .val (.int ub1), .val (.int ub2), .val (.int ub3), .val (.ref b9), .val (.ref b10), .unset, .unset, .unset] [])) _
      refine XS.iload X12.here hx rfl (hb hby at_96) rfl ?_
      show Steps p.tables e below (T12.setTop (mkF m 98 #[.val (.long p0), .second, .val (.long p1), .second, .val (.int p2), .val (.int (3 : Int32)), .val (.int ua0), .val (.int ua1), .val (.int ua2), .val (.int ua3), .val (.int ub0), .val (.int ub1), .val (.int ub2), .val (.int ub3), .val (.ref b9), .val (.ref b10), .unset, .unset, .unset] [(.int (3 : Int32))])) _
      refine XS.iconst X12.here hx rfl (hb hby at_98) ?_
      show Steps p.tables e below (T12.setTop (mkF m 99 #[.val (.long p0), .second, .val (.long p1), .second, .val (.int p2), .val (.int (3 : Int32)), .val (.int ua0), .val (.int ua1), .val (.int ua2), .val (.int ua3), .val (.int ub0), .val (.int ub1), .val (.int ub2), .val (.int ub3), .val (.ref b9), .val (.ref b10), .unset, .unset, .unset] [(.int (1 : Int32)), (.int (3 : Int32))])) _
      refine XS.icmpNo X12.here hx rfl (hb hby at_99) rfl (by decide) ?_
      show Steps p.tables e below (T12.setTop (mkF m 102 #[.val (.long p0), .second, .val (.long p1), .second, .val (.int p2), .val (.int (3 : Int32)), .val (.int ua0), .val (.int ua1), .val (.int ua2), .val (.int ua3), .val (.int ub0), .val (.int ub1), .val (.int ub2), .val (.int ub3), .val (.ref b9), .val (.ref b10), .unset, .unset, .unset] [])) _
      refine XS.aload X12.here hx rfl (hb hby at_102) rfl rfl ?_
      show Steps p.tables e below (T12.setTop (mkF m 104 #[.val (.long p0), .second, .val (.long p1), .second, .val (.int p2), .val (.int (3 : Int32)), .val (.int ua0), .val (.int ua1), .val (.int ua2), .val (.int ua3), .val (.int ub0), .val (.int ub1), .val (.int ub2), .val (.int ub3), .val (.ref b9), .val (.ref b10), .unset, .unset, .unset] [(.ref b9)])) _
      refine XS.iconst X12.here hx rfl (hb hby at_104) ?_
      show Steps p.tables e below (T12.setTop (mkF m 105 #[.val (.long p0), .second, .val (.long p1), .second, .val (.int p2), .val (.int (3 : Int32)), .val (.int ua0), .val (.int ua1), .val (.int ua2), .val (.int ua3), .val (.int ub0), .val (.int ub1), .val (.int ub2), .val (.int ub3), .val (.ref b9), .val (.ref b10), .unset, .unset, .unset] [(.int (1 : Int32)), (.ref b9)])) _
      refine XS.iload X12.here hx rfl (hb hby at_105) rfl ?_
      show Steps p.tables e below (T12.setTop (mkF m 107 #[.val (.long p0), .second, .val (.long p1), .second, .val (.int p2), .val (.int (3 : Int32)), .val (.int ua0), .val (.int ua1), .val (.int ua2), .val (.int ua3), .val (.int ub0), .val (.int ub1), .val (.int ub2), .val (.int ub3), .val (.ref b9), .val (.ref b10), .unset, .unset, .unset] [(.int ua1), (.int (1 : Int32)), (.ref b9)])) _
      refine XS.i2dS X12.here hx rfl (v := (FP.i2d ua1)) (hb hby at_107) rfl rfl ?_
      show Steps p.tables e below (T12.setTop (mkF m 108 #[.val (.long p0), .second, .val (.long p1), .second, .val (.int p2), .val (.int (3 : Int32)), .val (.int ua0), .val (.int ua1), .val (.int ua2), .val (.int ua3), .val (.int ub0), .val (.int ub1), .val (.int ub2), .val (.int ub3), .val (.ref b9), .val (.ref b10), .unset, .unset, .unset] [(.double (FP.i2d ua1)), (.int (1 : Int32)), (.ref b9)])) _
      refine st13 _ ?_
      show Steps p.tables e below (T13.setTop (mkF m 109 #[.val (.long p0), .second, .val (.long p1), .second, .val (.int p2), .val (.int (3 : Int32)), .val (.int ua0), .val (.int ua1), .val (.int ua2), .val (.int ua3), .val (.int ub0), .val (.int ub1), .val (.int ub2), .val (.int ub3), .val (.ref b9), .val (.ref b10), .unset, .unset, .unset] [])) _
      refine XS.aload X13.here hx rfl (hb hby at_109) rfl rfl ?_
      show Steps p.tables e below (T13.setTop (mkF m 111 #[.val (.long p0), .second, .val (.long p1), .second, .val (.int p2), .val (.int (3 : Int32)), .val (.int ua0), .val (.int ua1), .val (.int ua2), .val (.int ua3), .val (.int ub0), .val (.int ub1), .val (.int ub2), .val (.int ub3), .val (.ref b9), .val (.ref b10), .unset, .unset, .unset] [(.ref b10)])) _
      refine XS.iconst X13.here hx rfl (hb hby at_111) ?_
      show Steps p.tables e below (T13.setTop (mkF m 112 #[.val (.long p0), .second, .val (.long p1), .second, .val (.int p2), .val (.int (3 : Int32)), .val (.int ua0), .val (.int ua1), .val (.int ua2), .val (.int ua3), .val (.int ub0), .val (.int ub1), .val (.int ub2), .val (.int ub3), .val (.ref b9), .val (.ref b10), .unset, .unset, .unset] [(.int (1 : Int32)), (.ref b10)])) _
      refine XS.iload X13.here hx rfl (hb hby at_112) rfl ?_
      show Steps p.tables e below (T13.setTop (mkF m 114 #[.val (.long p0), .second, .val (.long p1), .second, .val (.int p2), .val (.int (3 : Int32)), .val (.int ua0), .val (.int ua1), .val (.int ua2), .val (.int ua3), .val (.int ub0), .val (.int ub1), .val (.int ub2), .val (.int ub3), .val (.ref b9), .val (.ref b10), .unset, .unset, .unset] [(.int ub1), (.int (1 : Int32)), (.ref b10)])) _
      refine XS.i2dS X13.here hx rfl (v := (FP.i2d ub1)) (hb hby at_114) rfl rfl ?_
      show Steps p.tables e below (T13.setTop (mkF m 115 #[.val (.long p0), .second, .val (.long p1), .second, .val (.int p2), .val (.int (3 : Int32)), .val (.int ua0), .val (.int ua1), .val (.int ua2), .val (.int ua3), .val (.int ub0), .val (.int ub1), .val (.int ub2), .val (.int ub3), .val (.ref b9), .val (.ref b10), .unset, .unset, .unset] [(.double (FP.i2d ub1)), (.int (1 : Int32)), (.ref b10)])) _
      refine st14 _ ?_
      show Steps p.tables e below (T14.setTop (mkF m 116 #[.val (.long p0), .second, .val (.long p1), .second, .val (.int p2), .val (.int (3 : Int32)), .val (.int ua0), .val (.int ua1), .val (.int ua2), .val (.int ua3), .val (.int ub0), .val (.int ub1), .val (.int ub2), .val (.int ub3), .val (.ref b9), .val (.ref b10), .unset, .unset, .unset] [])) _
      refine XS.iload X14.here hx rfl (hb hby at_116) rfl ?_
      show Steps p.tables e below (T14.setTop (mkF m 118 #[.val (.long p0), .second, .val (.long p1), .second, .val (.int p2), .val (.int (3 : Int32)), .val (.int ua0), .val (.int ua1), .val (.int ua2), .val (.int ua3), .val (.int ub0), .val (.int ub1), .val (.int ub2), .val (.int ub3), .val (.ref b9), .val (.ref b10), .unset, .unset, .unset] [(.int (3 : Int32))])) _
      refine XS.iconst X14.here hx rfl (hb hby at_118) ?_
      show Steps p.tables e below (T14.setTop (mkF m 119 #[.val (.long p0), .second, .val (.long p1), .second, .val (.int p2), .val (.int (3 : Int32)), .val (.int ua0), .val (.int ua1), .val (.int ua2), .val (.int ua3), .val (.int ub0), .val (.int ub1), .val (.int ub2), .val (.int ub3), .val (.ref b9), .val (.ref b10), .unset, .unset, .unset] [(.int (2 : Int32)), (.int (3 : Int32))])) _
      refine XS.icmpNo X14.here hx rfl (hb hby at_119) rfl (by decide) ?_
      show Steps p.tables e below (T14.setTop (mkF m 122 #[.val (.long p0), .second, .val (.long p1), .second, .val (.int p2), .val (.int (3 : Int32)), .val (.int ua0), .val (.int ua1), .val (.int ua2), .val (.int ua3), .val (.int ub0), .val (.int ub1), .val (.int ub2), .val (.int ub3), .val (.ref b9), .val (.ref b10), .unset, .unset, .unset] [])) _
      refine XS.aload X14.here hx rfl (hb hby at_122) rfl rfl ?_
      show Steps p.tables e below (T14.setTop (mkF m 124 #[.val (.long p0), .second, .val (.long p1), .second, .val (.int p2), .val (.int (3 : Int32)), .val (.int ua0), .val (.int ua1), .val (.int ua2), .val (.int ua3), .val (.int ub0), .val (.int ub1), .val (.int ub2), .val (.int ub3), .val (.ref b9), .val (.ref b10), .unset, .unset, .unset] [(.ref b9)])) _
      refine XS.iconst X14.here hx rfl (hb hby at_124) ?_
      show Steps p.tables e below (T14.setTop (mkF m 125 #[.val (.long p0), .second, .val (.long p1), .second, .val (.int p2), .val (.int (3 : Int32)), .val (.int ua0), .val (.int ua1), .val (.int ua2), .val (.int ua3), .val (.int ub0), .val (.int ub1), .val (.int ub2), .val (.int ub3), .val (.ref b9), .val (.ref b10), .unset, .unset, .unset] [(.int (2 : Int32)), (.ref b9)])) _
      refine XS.iload X14.here hx rfl (hb hby at_125) rfl ?_
      show Steps p.tables e below (T14.setTop (mkF m 127 #[.val (.long p0), .second, .val (.long p1), .second, .val (.int p2), .val (.int (3 : Int32)), .val (.int ua0), .val (.int ua1), .val (.int ua2), .val (.int ua3), .val (.int ub0), .val (.int ub1), .val (.int ub2), .val (.int ub3), .val (.ref b9), .val (.ref b10), .unset, .unset, .unset] [(.int ua2), (.int (2 : Int32)), (.ref b9)])) _
      refine XS.i2dS X14.here hx rfl (v := (FP.i2d ua2)) (hb hby at_127) rfl rfl ?_
      show Steps p.tables e below (T14.setTop (mkF m 128 #[.val (.long p0), .second, .val (.long p1), .second, .val (.int p2), .val (.int (3 : Int32)), .val (.int ua0), .val (.int ua1), .val (.int ua2), .val (.int ua3), .val (.int ub0), .val (.int ub1), .val (.int ub2), .val (.int ub3), .val (.ref b9), .val (.ref b10), .unset, .unset, .unset] [(.double (FP.i2d ua2)), (.int (2 : Int32)), (.ref b9)])) _
      refine st15 _ ?_
      show Steps p.tables e below (T15.setTop (mkF m 129 #[.val (.long p0), .second, .val (.long p1), .second, .val (.int p2), .val (.int (3 : Int32)), .val (.int ua0), .val (.int ua1), .val (.int ua2), .val (.int ua3), .val (.int ub0), .val (.int ub1), .val (.int ub2), .val (.int ub3), .val (.ref b9), .val (.ref b10), .unset, .unset, .unset] [])) _
      refine XS.aload X15.here hx rfl (hb hby at_129) rfl rfl ?_
      show Steps p.tables e below (T15.setTop (mkF m 131 #[.val (.long p0), .second, .val (.long p1), .second, .val (.int p2), .val (.int (3 : Int32)), .val (.int ua0), .val (.int ua1), .val (.int ua2), .val (.int ua3), .val (.int ub0), .val (.int ub1), .val (.int ub2), .val (.int ub3), .val (.ref b9), .val (.ref b10), .unset, .unset, .unset] [(.ref b10)])) _
      refine XS.iconst X15.here hx rfl (hb hby at_131) ?_
      show Steps p.tables e below (T15.setTop (mkF m 132 #[.val (.long p0), .second, .val (.long p1), .second, .val (.int p2), .val (.int (3 : Int32)), .val (.int ua0), .val (.int ua1), .val (.int ua2), .val (.int ua3), .val (.int ub0), .val (.int ub1), .val (.int ub2), .val (.int ub3), .val (.ref b9), .val (.ref b10), .unset, .unset, .unset] [(.int (2 : Int32)), (.ref b10)])) _
      refine XS.iload X15.here hx rfl (hb hby at_132) rfl ?_
      show Steps p.tables e below (T15.setTop (mkF m 134 #[.val (.long p0), .second, .val (.long p1), .second, .val (.int p2), .val (.int (3 : Int32)), .val (.int ua0), .val (.int ua1), .val (.int ua2), .val (.int ua3), .val (.int ub0), .val (.int ub1), .val (.int ub2), .val (.int ub3), .val (.ref b9), .val (.ref b10), .unset, .unset, .unset] [(.int ub2), (.int (2 : Int32)), (.ref b10)])) _
      refine XS.i2dS X15.here hx rfl (v := (FP.i2d ub2)) (hb hby at_134) rfl rfl ?_
      show Steps p.tables e below (T15.setTop (mkF m 135 #[.val (.long p0), .second, .val (.long p1), .second, .val (.int p2), .val (.int (3 : Int32)), .val (.int ua0), .val (.int ua1), .val (.int ua2), .val (.int ua3), .val (.int ub0), .val (.int ub1), .val (.int ub2), .val (.int ub3), .val (.ref b9), .val (.ref b10), .unset, .unset, .unset] [(.double (FP.i2d ub2)), (.int (2 : Int32)), (.ref b10)])) _
      refine st16 _ ?_
      show Steps p.tables e below (T16.setTop (mkF m 136 #[.val (.long p0), .second, .val (.long p1), .second, .val (.int p2), .val (.int (3 : Int32)), .val (.int ua0), .val (.int ua1), .val (.int ua2), .val (.int ua3), .val (.int ub0), .val (.int ub1), .val (.int ub2), .val (.int ub3), .val (.ref b9), .val (.ref b10), .unset, .unset, .unset] [])) _
      refine XS.iload X16.here hx rfl (hb hby at_136) rfl ?_
      show Steps p.tables e below (T16.setTop (mkF m 138 #[.val (.long p0), .second, .val (.long p1), .second, .val (.int p2), .val (.int (3 : Int32)), .val (.int ua0), .val (.int ua1), .val (.int ua2), .val (.int ua3), .val (.int ub0), .val (.int ub1), .val (.int ub2), .val (.int ub3), .val (.ref b9), .val (.ref b10), .unset, .unset, .unset] [(.int (3 : Int32))])) _
      refine XS.iconst X16.here hx rfl (hb hby at_138) ?_
      show Steps p.tables e below (T16.setTop (mkF m 139 #[.val (.long p0), .second, .val (.long p1), .second, .val (.int p2), .val (.int (3 : Int32)), .val (.int ua0), .val (.int ua1), .val (.int ua2), .val (.int ua3), .val (.int ub0), .val (.int ub1), .val (.int ub2), .val (.int ub3), .val (.ref b9), .val (.ref b10), .unset, .unset, .unset] [(.int (3 : Int32)), (.int (3 : Int32))])) _
      refine XS.icmpYes X16.here hx rfl (pc0 := 139) (pc' := 156) rfl (hb hby at_139) rfl (by decide) (by decide) (by decide) ?_
      show Steps p.tables e below (T16.setTop (mkF m 156 #[.val (.long p0), .second, .val (.long p1), .second, .val (.int p2), .val (.int (3 : Int32)), .val (.int ua0), .val (.int ua1), .val (.int ua2), .val (.int ua3), .val (.int ub0), .val (.int ub1), .val (.int ub2), .val (.int ub3), .val (.ref b9), .val (.ref b10), .unset, .unset, .unset] [])) _
      refine XS.iconst X16.here hx rfl (hb hby at_156) ?_
      show Steps p.tables e below (T16.setTop (mkF m 157 #[.val (.long p0), .second, .val (.long p1), .second, .val (.int p2), .val (.int (3 : Int32)), .val (.int ua0), .val (.int ua1), .val (.int ua2), .val (.int ua3), .val (.int ub0), .val (.int ub1), .val (.int ub2), .val (.int ub3), .val (.ref b9), .val (.ref b10), .unset, .unset, .unset] [(.int (1 : Int32))])) _
      refine XS.istore X16.here hx rfl (hb hby at_157) rfl (l' := #[.val (.long p0), .second, .val (.long p1), .second, .val (.int p2), .val (.int (3 : Int32)), .val (.int ua0), .val (.int ua1), .val (.int ua2), .val (.int ua3), .val (.int ub0), .val (.int ub1), .val (.int ub2), .val (.int ub3), .val (.ref b9), .val (.ref b10), .val (.int (1 : Int32)), .unset, .unset]) rfl ?_
      show Steps p.tables e below (T16.setTop (mkF m 159 #[.val (.long p0), .second, .val (.long p1), .second, .val (.int p2), .val (.int (3 : Int32)), .val (.int ua0), .val (.int ua1), .val (.int ua2), .val (.int ua3), .val (.int ub0), .val (.int ub1), .val (.int ub2), .val (.int ub3), .val (.ref b9), .val (.ref b10), .val (.int (1 : Int32)), .unset, .unset] [])) _
      refine XS.iconst X16.here hx rfl (hb hby at_159) ?_
      show Steps p.tables e below (T16.setTop (mkF m 160 #[.val (.long p0), .second, .val (.long p1), .second, .val (.int p2), .val (.int (3 : Int32)), .val (.int ua0), .val (.int ua1), .val (.int ua2), .val (.int ua3), .val (.int ub0), .val (.int ub1), .val (.int ub2), .val (.int ub3), .val (.ref b9), .val (.ref b10), .val (.int (1 : Int32)), .unset, .unset] [(.int (0 : Int32))])) _
      refine XS.istore X16.here hx rfl (hb hby at_160) rfl (l' := #[.val (.long p0), .second, .val (.long p1), .second, .val (.int p2), .val (.int (3 : Int32)), .val (.int ua0), .val (.int ua1), .val (.int ua2), .val (.int ua3), .val (.int ub0), .val (.int ub1), .val (.int ub2), .val (.int ub3), .val (.ref b9), .val (.ref b10), .val (.int (1 : Int32)), .val (.int (0 : Int32)), .unset]) rfl ?_
      show Steps p.tables e below (T16.setTop (mkF m 162 #[.val (.long p0), .second, .val (.long p1), .second, .val (.int p2), .val (.int (3 : Int32)), .val (.int ua0), .val (.int ua1), .val (.int ua2), .val (.int ua3), .val (.int ub0), .val (.int ub1), .val (.int ub2), .val (.int ub3), .val (.ref b9), .val (.ref b10), .val (.int (1 : Int32)), .val (.int (0 : Int32)), .unset] [])) _
      refine XS.iload X16.here hx rfl (hb hby at_162) rfl ?_
      show Steps p.tables e below (T16.setTop (mkF m 164 #[.val (.long p0), .second, .val (.long p1), .second, .val (.int p2), .val (.int (3 : Int32)), .val (.int ua0), .val (.int ua1), .val (.int ua2), .val (.int ua3), .val (.int ub0), .val (.int ub1), .val (.int ub2), .val (.int ub3), .val (.ref b9), .val (.ref b10), .val (.int (1 : Int32)), .val (.int (0 : Int32)), .unset] [(.int (3 : Int32))])) _
      refine XS.ifNo X16.here hx rfl (hb hby at_164) rfl (by decide) ?_
      show Steps p.tables e below (T16.setTop (mkF m 167 #[.val (.long p0), .second, .val (.long p1), .second, .val (.int p2), .val (.int (3 : Int32)), .val (.int ua0), .val (.int ua1), .val (.int ua2), .val (.int ua3), .val (.int ub0), .val (.int ub1), .val (.int ub2), .val (.int ub3), .val (.ref b9), .val (.ref b10), .val (.int (1 : Int32)), .val (.int (0 : Int32)), .unset] [])) _
      refine own_bLe0 X16.here hx hby p0 p1 p2 (3 : Int32) ua0 ua1 ua2 ua3 ub0 ub1 ub2 ub3 (1 : Int32) (0 : Int32) b9 b10 ?_
      show Steps p.tables e below (T16.setTop (mkF m 186 #[.val (.long p0), .second, .val (.long p1), .second, .val (.int p2), .val (.int (3 : Int32)), .val (.int ua0), .val (.int ua1), .val (.int ua2), .val (.int ua3), .val (.int ub0), .val (.int ub1), .val (.int ub2), .val (.int ub3), .val (.ref b9), .val (.ref b10), .val (.int (own_le (1 : Int32) ua0 ub0)), .val (.int (0 : Int32)), .unset] [])) _
      refine own_bLt0 X16.here hx hby p0 p1 p2 (3 : Int32) ua0 ua1 ua2 ua3 ub0 ub1 ub2 ub3 (own_le (1 : Int32) ua0 ub0) (0 : Int32) b9 b10 ?_
      show Steps p.tables e below (T16.setTop (mkF m 205 #[.val (.long p0), .second, .val (.long p1), .second, .val (.int p2), .val (.int (3 : Int32)), .val (.int ua0), .val (.int ua1), .val (.int ua2), .val (.int ua3), .val (.int ub0), .val (.int ub1), .val (.int ub2), .val (.int ub3), .val (.ref b9), .val (.ref b10), .val (.int (own_le (1 : Int32) ua0 ub0)), .val (.int (own_lt (0 : Int32) ua0 ub0)), .unset] [])) _
      refine XS.iload X16.here hx rfl (hb hby at_205) rfl ?_
      show Steps p.tables e below (T16.setTop (mkF m 207 #[.val (.long p0), .second, .val (.long p1), .second, .val (.int p2), .val (.int (3 : Int32)), .val (.int ua0), .val (.int ua1), .val (.int ua2), .val (.int ua3), .val (.int ub0), .val (.int ub1), .val (.int ub2), .val (.int ub3), .val (.ref b9), .val (.ref b10), .val (.int (own_le (1 : Int32) ua0 ub0)), .val (.int (own_lt (0 : Int32) ua0 ub0)), .unset] [(.int (3 : Int32))])) _
      refine XS.iconst X16.here hx rfl (hb hby at_207) ?_
      show Steps p.tables e below (T16.setTop (mkF m 208 #[.val (.long p0), .second, .val (.long p1), .second, .val (.int p2), .val (.int (3 : Int32)), .val (.int ua0), .val (.int ua1), .val (.int ua2), .val (.int ua3), .val (.int ub0), .val (.int ub1), .val (.int ub2), .val (.int ub3), .val (.ref b9), .val (.ref b10), .val (.int (own_le (1 : Int32) ua0 ub0)), .val (.int (own_lt (0 : Int32) ua0 ub0)), .unset] [(.int (1 : Int32)), (.int (3 : Int32))])) _
      refine XS.icmpNo X16.here hx rfl (hb hby at_208) rfl (by decide) ?_
      show Steps p.tables e below (T16.setTop (mkF m 211 #[.val (.long p0), .second, .val (.long p1), .second, .val (.int p2), .val (.int (3 : Int32)), .val (.int ua0), .val (.int ua1), .val (.int ua2), .val (.int ua3), .val (.int ub0), .val (.int ub1), .val (.int ub2), .val (.int ub3), .val (.ref b9), .val (.ref b10), .val (.int (own_le (1 : Int32) ua0 ub0)), .val (.int (own_lt (0 : Int32) ua0 ub0)), .unset] [])) _
      refine own_bLe1 X16.here hx hby p0 p1 p2 (3 : Int32) ua0 ua1 ua2 ua3 ub0 ub1 ub2 ub3 (own_le (1 : Int32) ua0 ub0) (own_lt (0 : Int32) ua0 ub0) b9 b10 ?_
      show Steps p.tables e below (T16.setTop (mkF m 230 #[.val (.long p0), .second, .val (.long p1), .second, .val (.int p2), .val (.int (3 : Int32)), .val (.int ua0), .val (.int ua1), .val (.int ua2), .val (.int ua3), .val (.int ub0), .val (.int ub1), .val (.int ub2), .val (.int ub3), .val (.ref b9), .val (.ref b10), .val (.int (own_le (own_le (1 : Int32) ua0 ub0) ua1 ub1)), .val (.int (own_lt (0 : Int32) ua0 ub0)), .unset] [])) _
      refine own_bLt1 X16.here hx hby p0 p1 p2 (3 : Int32) ua0 ua1 ua2 ua3 ub0 ub1 ub2 ub3 (own_le (own_le (1 : Int32) ua0 ub0) ua1 ub1) (own_lt (0 : Int32) ua0 ub0) b9 b10 ?_
      show Steps p.tables e below (T16.setTop (mkF m 249 #[.val (.long p0), .second, .val (.long p1), .second, .val (.int p2), .val (.int (3 : Int32)), .val (.int ua0), .val (.int ua1), .val (.int ua2), .val (.int ua3), .val (.int ub0), .val (.int ub1), .val (.int ub2), .val (.int ub3), .val (.ref b9), .val (.ref b10), .val (.int (own_le (own_le (1 : Int32) ua0 ub0) ua1 ub1)), .val (.int (own_lt (own_lt (0 : Int32) ua0 ub0) ua1 ub1)), .unset] [])) _
      refine XS.iload X16.here hx rfl (hb hby at_249) rfl ?_
      show Steps p.tables e below (T16.setTop (mkF m 251 #[.val (.long p0), .second, .val (.long p1), .second, .val (.int p2), .val (.int (3 : Int32)), .val (.int ua0), .val (.int ua1), .val (.int ua2), .val (.int ua3), .val (.int ub0), .val (.int ub1), .val (.int ub2), .val (.int ub3), .val (.ref b9), .val (.ref b10), .val (.int (own_le (own_le (1 : Int32) ua0 ub0) ua1 ub1)), .val (.int (own_lt (own_lt (0 : Int32) ua0 ub0) ua1 ub1)), .unset] [(.int (3 : Int32))])) _
      refine XS.iconst X16.here hx rfl (hb hby at_251) ?_
      show Steps p.tables e below (T16.setTop (mkF m 252 #[.val (.long p0), .second, .val (.long p1), .second, .val (.int p2), .val (.int (3 : Int32)), .val (.int ua0), .val (.int ua1), .val (.int ua2), .val (.int ua3), .val (.int ub0), .val (.int ub1), .val (.int ub2), .val (.int ub3), .val (.ref b9), .val (.ref b10), .val (.int (own_le (own_le (1 : Int32) ua0 ub0) ua1 ub1)), .val (.int (own_lt (own_lt (0 : Int32) ua0 ub0) ua1 ub1)), .unset] [(.int (2 : Int32)), (.int (3 : Int32))])) _
      refine XS.icmpNo X16.here hx rfl (hb hby at_252) rfl (by decide) ?_
      show Steps p.tables e below (T16.setTop (mkF m 255 #[.val (.long p0), .second, .val (.long p1), .second, .val (.int p2), .val (.int (3 : Int32)), .val (.int ua0), .val (.int ua1), .val (.int ua2), .val (.int ua3), .val (.int ub0), .val (.int ub1), .val (.int ub2), .val (.int ub3), .val (.ref b9), .val (.ref b10), .val (.int (own_le (own_le (1 : Int32) ua0 ub0) ua1 ub1)), .val (.int (own_lt (own_lt (0 : Int32) ua0 ub0) ua1 ub1)), .unset] [])) _
      refine own_bLe2 X16.here hx hby p0 p1 p2 (3 : Int32) ua0 ua1 ua2 ua3 ub0 ub1 ub2 ub3 (own_le (own_le (1 : Int32) ua0 ub0) ua1 ub1) (own_lt (own_lt (0 : Int32) ua0 ub0) ua1 ub1) b9 b10 ?_
      show Steps p.tables e below (T16.setTop (mkF m 274 #[.val (.long p0), .second, .val (.long p1), .second, .val (.int p2), .val (.int (3 : Int32)), .val (.int ua0), .val (.int ua1), .val (.int ua2), .val (.int ua3), .val (.int ub0), .val (.int ub1), .val (.int ub2), .val (.int ub3), .val (.ref b9), .val (.ref b10), .val (.int (own_le (own_le (own_le (1 : Int32) ua0 ub0) ua1 ub1) ua2 ub2)), .val (.int (own_lt (own_lt (0 : Int32) ua0 ub0) ua1 ub1)), .unset] [])) _
      refine own_bLt2 X16.here hx hby p0 p1 p2 (3 : Int32) ua0 ua1 ua2 ua3 ub0 ub1 ub2 ub3 (own_le (own_le (own_le (1 : Int32) ua0 ub0) ua1 ub1) ua2 ub2) (own_lt (own_lt (0 : Int32) ua0 ub0) ua1 ub1) b9 b10 ?_
      show Steps p.tables e below (T16.setTop (mkF m 293 #[.val (.long p0), .second, .val (.long p1), .second, .val (.int p2), .val (.int (3 : Int32)), .val (.int ua0), .val (.int ua1), .val (.int ua2), .val (.int ua3), .val (.int ub0), .val (.int ub1), .val (.int ub2), .val (.int ub3), .val (.ref b9), .val (.ref b10), .val (.int (own_le (own_le (own_le (1 : Int32) ua0 ub0) ua1 ub1) ua2 ub2)), .val (.int (own_lt (own_lt (own_lt (0 : Int32) ua0 ub0) ua1 ub1) ua2 ub2)), .unset] [])) _
      refine XS.iload X16.here hx rfl (hb hby at_293) rfl ?_
      show Steps p.tables e below (T16.setTop (mkF m 295 #[.val (.long p0), .second, .val (.long p1), .second, .val (.int p2), .val (.int (3 : Int32)), .val (.int ua0), .val (.int ua1), .val (.int ua2), .val (.int ua3), .val (.int ub0), .val (.int ub1), .val (.int ub2), .val (.int ub3), .val (.ref b9), .val (.ref b10), .val (.int (own_le (own_le (own_le (1 : Int32) ua0 ub0) ua1 ub1) ua2 ub2)), .val (.int (own_lt (own_lt (own_lt (0 : Int32) ua0 ub0) ua1 ub1) ua2 ub2)), .unset] [(.int (3 : Int32))])) _
      refine XS.iconst X16.here hx rfl (hb hby at_295) ?_
      show Steps p.tables e below (T16.setTop (mkF m 296 #[.val (.long p0), .second, .val (.long p1), .second, .val (.int p2), .val (.int (3 : Int32)), .val (.int ua0), .val (.int ua1), .val (.int ua2), .val (.int ua3), .val (.int ub0), .val (.int ub1), .val (.int ub2), .val (.int ub3), .val (.ref b9), .val (.ref b10), .val (.int (own_le (own_le (own_le (1 : Int32) ua0 ub0) ua1 ub1) ua2 ub2)), .val (.int (own_lt (own_lt (own_lt (0 : Int32) ua0 ub0) ua1 ub1) ua2 ub2)), .unset] [(.int (3 : Int32)), (.int (3 : Int32))])) _
      refine XS.icmpYes X16.here hx rfl (pc0 := 296) (pc' := 337) rfl (hb hby at_296) rfl (by decide) (by decide) (by decide) ?_
      show Steps p.tables e below (T16.setTop (mkF m 337 #[.val (.long p0), .second, .val (.long p1), .second, .val (.int p2), .val (.int (3 : Int32)), .val (.int ua0), .val (.int ua1), .val (.int ua2), .val (.int ua3), .val (.int ub0), .val (.int ub1), .val (.int ub2), .val (.int ub3), .val (.ref b9), .val (.ref b10), .val (.int (own_le (own_le (own_le (1 : Int32) ua0 ub0) ua1 ub1) ua2 ub2)), .val (.int (own_lt (own_lt (own_lt (0 : Int32) ua0 ub0) ua1 ub1) ua2 ub2)), .unset] [])) _
      refine own_bEx X16.here hx hby p0 p1 p2 (3 : Int32) ua0 ua1 ua2 ua3 ub0 ub1 ub2 ub3 (own_le (own_le (own_le (1 : Int32) ua0 ub0) ua1 ub1) ua2 ub2) (own_lt (own_lt (own_lt (0 : Int32) ua0 ub0) ua1 ub1) ua2 ub2) b9 b10 ?_
      show Steps p.tables e below (T16.setTop (mkF m 354 #[.val (.long p0), .second, .val (.long p1), .second, .val (.int p2), .val (.int (3 : Int32)), .val (.int ua0), .val (.int ua1), .val (.int ua2), .val (.int ua3), .val (.int ub0), .val (.int ub1), .val (.int ub2), .val (.int ub3), .val (.ref b9), .val (.ref b10), .val (.int (own_le (own_le (own_le (1 : Int32) ua0 ub0) ua1 ub1) ua2 ub2)), .val (.int (own_lt (own_lt (own_lt (0 : Int32) ua0 ub0) ua1 ub1) ua2 ub2)), .val (.int (own_exp (own_le (own_le (own_le (1 : Int32) ua0 ub0) ua1 ub1) ua2 ub2) (own_lt (own_lt (own_lt (0 : Int32) ua0 ub0) ua1 ub1) ua2 ub2)))] [])) _
      refine XS.aload X16.here hx rfl (hb hby at_354) rfl rfl ?_
      show Steps p.tables e below (T16.setTop (mkF m 356 #[.val (.long p0), .second, .val (.long p1), .second, .val (.int p2), .val (.int (3 : Int32)), .val (.int ua0), .val (.int ua1), .val (.int ua2), .val (.int ua3), .val (.int ub0), .val (.int ub1), .val (.int ub2), .val (.int ub3), .val (.ref b9), .val (.ref b10), .val (.int (own_le (own_le (own_le (1 : Int32) ua0 ub0) ua1 ub1) ua2 ub2)), .val (.int (own_lt (own_lt (own_lt (0 : Int32) ua0 ub0) ua1 ub1) ua2 ub2)), .val (.int (own_exp (own_le (own_le (own_le (1 : Int32) ua0 ub0) ua1 ub1) ua2 ub2) (own_lt (own_lt (own_lt (0 : Int32) ua0 ub0) ua1 ub1) ua2 ub2)))] [(.ref b9)])) _
      refine XS.aload X16.here hx rfl (hb hby at_356) rfl rfl ?_
      show Steps p.tables e below (T16.setTop (mkF m 358 #[.val (.long p0), .second, .val (.long p1), .second, .val (.int p2), .val (.int (3 : Int32)), .val (.int ua0), .val (.int ua1), .val (.int ua2), .val (.int ua3), .val (.int ub0), .val (.int ub1), .val (.int ub2), .val (.int ub3), .val (.ref b9), .val (.ref b10), .val (.int (own_le (own_le (own_le (1 : Int32) ua0 ub0) ua1 ub1) ua2 ub2)), .val (.int (own_lt (own_lt (own_lt (0 : Int32) ua0 ub0) ua1 ub1) ua2 ub2)), .val (.int (own_exp (own_le (own_le (own_le (1 : Int32) ua0 ub0) ua1 ub1) ua2 ub2) (own_lt (own_lt (own_lt (0 : Int32) ua0 ub0) ua1 ub1) ua2 ub2)))] [(.ref b10), (.ref b9)])) _
      refine st17 _ ?_
      show Steps p.tables e below (T17.setTop (mkF m 361 #[.val (.long p0), .second, .val (.long p1), .second, .val (.int p2), .val (.int (3 : Int32)), .val (.int ua0), .val (.int ua1), .val (.int ua2), .val (.int ua3), .val (.int ub0), .val (.int ub1), .val (.int ub2), .val (.int ub3), .val (.ref b9), .val (.ref b10), .val (.int (own_le (own_le (own_le (1 : Int32) ua0 ub0) ua1 ub1) ua2 ub2)), .val (.int (own_lt (own_lt (own_lt (0 : Int32) ua0 ub0) ua1 ub1) ua2 ub2)), .val (.int (own_exp (own_le (own_le (own_le (1 : Int32) ua0 ub0) ua1 ub1) ua2 ub2) (own_lt (own_lt (own_lt (0 : Int32) ua0 ub0) ua1 ub1) ua2 ub2)))] [(.int (own_dom ([(ua0, ub0), (ua1, ub1), (ua2, ub2)] : List (Int32 × Int32)) 0))])) _
      refine XS.iload X17.here hx rfl (hb hby at_361) rfl ?_
      show Steps p.tables e below (T17.setTop (mkF m 363 #[.val (.long p0), .second, .val (.long p1), .second, .val (.int p2), .val (.int (3 : Int32)), .val (.int ua0), .val (.int ua1), .val (.int ua2), .val (.int ua3), .val (.int ub0), .val (.int ub1), .val (.int ub2), .val (.int ub3), .val (.ref b9), .val (.ref b10), .val (.int (own_le (own_le (own_le (1 : Int32) ua0 ub0) ua1 ub1) ua2 ub2)), .val (.int (own_lt (own_lt (own_lt (0 : Int32) ua0 ub0) ua1 ub1) ua2 ub2)), .val (.int (own_exp (own_le (own_le (own_le (1 : Int32) ua0 ub0) ua1 ub1) ua2 ub2) (own_lt (own_lt (own_lt (0 : Int32) ua0 ub0) ua1 ub1) ua2 ub2)))] [(.int (own_exp (own_le (own_le (own_le (1 : Int32) ua0 ub0) ua1 ub1) ua2 ub2) (own_lt (own_lt (own_lt (0 : Int32) ua0 ub0) ua1 ub1) ua2 ub2))), (.int (own_dom ([(ua0, ub0), (ua1, ub1), (ua2, ub2)] : List (Int32 × Int32)) 0))])) _
      refine XS.icmpNo X17.here hx rfl (hb hby at_363) rfl (teq hfin).2 ?_
      show Steps p.tables e below (T17.setTop (mkF m 366 #[.val (.long p0), .second, .val (.long p1), .second, .val (.int p2), .val (.int (3 : Int32)), .val (.int ua0), .val (.int ua1), .val (.int ua2), .val (.int ua3), .val (.int ub0), .val (.int ub1), .val (.int ub2), .val (.int ub3), .val (.ref b9), .val (.ref b10), .val (.int (own_le (own_le (own_le (1 : Int32) ua0 ub0) ua1 ub1) ua2 ub2)), .val (.int (own_lt (own_lt (own_lt (0 : Int32) ua0 ub0) ua1 ub1) ua2 ub2)), .val (.int (own_exp (own_le (own_le (own_le (1 : Int32) ua0 ub0) ua1 ub1) ua2 ub2) (own_lt (own_lt (own_lt (0 : Int32) ua0 ub0) ua1 ub1) ua2 ub2)))] [])) _
      refine XS.iconst X17.here hx rfl (hb hby at_366) ?_
      show Steps p.tables e below (T17.setTop (mkF m 367 #[.val (.long p0), .second, .val (.long p1), .second, .val (.int p2), .val (.int (3 : Int32)), .val (.int ua0), .val (.int ua1), .val (.int ua2), .val (.int ua3), .val (.int ub0), .val (.int ub1), .val (.int ub2), .val (.int ub3), .val (.ref b9), .val (.ref b10), .val (.int (own_le (own_le (own_le (1 : Int32) ua0 ub0) ua1 ub1) ua2 ub2)), .val (.int (own_lt (own_lt (own_lt (0 : Int32) ua0 ub0) ua1 ub1) ua2 ub2)), .val (.int (own_exp (own_le (own_le (own_le (1 : Int32) ua0 ub0) ua1 ub1) ua2 ub2) (own_lt (own_lt (own_lt (0 : Int32) ua0 ub0) ua1 ub1) ua2 ub2)))] [(.int (1 : Int32))])) _
      refine XS.goto X17.here hx rfl (pc0 := 367) (pc' := 371) rfl (hb hby at_367) (by decide) (by decide) ?_
      show Steps p.tables e below (T17.setTop (mkF m 371 #[.val (.long p0), .second, .val (.long p1), .second, .val (.int p2), .val (.int (3 : Int32)), .val (.int ua0), .val (.int ua1), .val (.int ua2), .val (.int ua3), .val (.int ub0), .val (.int ub1), .val (.int ub2), .val (.int ub3), .val (.ref b9), .val (.ref b10), .val (.int (own_le (own_le (own_le (1 : Int32) ua0 ub0) ua1 ub1) ua2 ub2)), .val (.int (own_lt (own_lt (own_lt (0 : Int32) ua0 ub0) ua1 ub1) ua2 ub2)), .val (.int (own_exp (own_le (own_le (own_le (1 : Int32) ua0 ub0) ua1 ub1) ua2 ub2) (own_lt (own_lt (own_lt (0 : Int32) ua0 ub0) ua1 ub1) ua2 ub2)))] [(.int (1 : Int32))])) _
      exact retN X17 hx (t := .boolean) Bd.returns (by simp) (hb hby at_371) hr
    · exact ⟨rfl, N17⟩
  · skip
    obtain ⟨T9, h9, k9, X9, e9, E9, A9, st9⟩ := newP X8 hx hZ (hw _ (List.mem_of_getElem? (i := 5) rfl)) rfl (g := (mkF m 67 #[.val (.long p0), .second, .val (.long p1), .second, .val (.int p2), .val (.int (4 : Int32)), .val (.int ua0), .val (.int ua1), .val (.int ua2), .val (.int ua3), .val (.int ub0), .val (.int ub1), .val (.int ub2), .val (.int ub3), .unset, .unset, .unset, .unset, .unset] [(.int (4 : Int32))])) rfl (hb hby at_67) rfl (by decide) (cap := 4) (by decide) (by decide) (by decide) (by decide)
    obtain ⟨b9, g9⟩ : ∃ z, z = T8.heap.size := ⟨_, rfl⟩
    rw [← g9] at A9 st9
    have V9 : Arv Z h9 b9 k9 .double (4 : Int32) (List.replicate 4 (.double 0)) (.double 0) := (Arv.new A9 (by decide)).pad (pad_rep [] (.double 0) 4)
    have g9b : n0 ≤ b9 := Nat.le_trans zz8 (Nat.le_of_eq g9.symm)
    obtain ⟨T10, h10, k10, X10, e10, E10, A10, st10⟩ := newP X9 hx hZ (hw _ (List.mem_of_getElem? (i := 5) rfl)) e9 (g := (mkF m 73 #[.val (.long p0), .second, .val (.long p1), .second, .val (.int p2), .val (.int (4 : Int32)), .val (.int ua0), .val (.int ua1), .val (.int ua2), .val (.int ua3), .val (.int ub0), .val (.int ub1), .val (.int ub2), .val (.int ub3), .val (.ref b9), .unset, .unset, .unset, .unset] [(.int (4 : Int32))])) rfl (hb hby at_73) rfl (by decide) (cap := 4) (by decide) (by decide) (by decide) (by decide)
    obtain ⟨b10, g10⟩ : ∃ z, z = h9.size := ⟨_, rfl⟩
    rw [← g10] at A10 st10
    have V10 : Arv Z h10 b10 k10 .double (4 : Int32) (List.replicate 4 (.double 0)) (.double 0) := (Arv.new A10 (by decide)).pad (pad_rep [] (.double 0) 4)
    have g10b : n0 ≤ b10 := Nat.le_trans (Nat.le_trans zz8 E9.1) (Nat.le_of_eq g10.symm)
    have hab : b9 ≠ b10 := Nat.ne_of_lt (Nat.lt_of_lt_of_le V9.lt (Nat.le_of_eq g10.symm))
    have Va := V9.ext E10
    have Vb := V10
    have zz0 : n0 ≤ h10.size := Nat.le_trans (Nat.le_trans zz8 E9.1) E10.1
    obtain ⟨c1, Ar1, qk1, S1, M1, H1, U1⟩ := id Va
    obtain ⟨T11, h11, X11, e11, W11, st11⟩ := stD X10 hx hZ e10 Ar1 (j := (0 : Int32)) (inb_of S1 (by decide)) (g := (mkF m 88 #[.val (.long p0), .second, .val (.long p1), .second, .val (.int p2), .val (.int (4 : Int32)), .val (.int ua0), .val (.int ua1), .val (.int ua2), .val (.int ua3), .val (.int ub0), .val (.int ub1), .val (.int ub2), .val (.int ub3), .val (.ref b9), .val (.ref b10), .unset, .unset, .unset] [(.double (FP.i2d ua0)), (.int (0 : Int32)), (.ref b9)])) rfl rfl (hb hby at_88)
    have N11 := Fr.snoc X11 N8 g9b
    have Va := Arv.set Ar1 qk1 S1 M1 H1 U1 (v := .double (FP.i2d ua0)) rfl W11 0 rfl (Nat.le_of_ble_eq_true rfl)
    have Vb := Vb.other W11 hab.symm
    have zz0 : n0 ≤ h11.size := Nat.le_trans zz0 (Nat.le_of_eq W11.size.symm)
    obtain ⟨c1, Ar1, qk1, S1, M1, H1, U1⟩ := id Vb
    obtain ⟨T12, h12, X12, e12, W12, st12⟩ := stD X11 hx hZ e11 Ar1 (j := (0 : Int32)) (inb_of S1 (by decide)) (g := (mkF m 95 #[.val (.long p0), .second, .val (.long p1), .second, .val (.int p2), .val (.int (4 : Int32)), .val (.int ua0), .val (.int ua1), .val (.int ua2), .val (.int ua3), .val (.int ub0), .val (.int ub1), .val (.int ub2), .val (.int ub3), .val (.ref b9), .val (.ref b10), .unset, .unset, .unset] [(.double (FP.i2d ub0)), (.int (0 : Int32)), (.ref b10)])) rfl rfl (hb hby at_95)
    have N12 := Fr.snoc X12 N11 g10b
    have Vb := Arv.set Ar1 qk1 S1 M1 H1 U1 (v := .double (FP.i2d ub0)) rfl W12 0 rfl (Nat.le_of_ble_eq_true rfl)
    have Va := Va.other W12 hab
    have zz0 : n0 ≤ h12.size := Nat.le_trans zz0 (Nat.le_of_eq W12.size.symm)
    obtain ⟨c1, Ar1, qk1, S1, M1, H1, U1⟩ := id Va
    obtain ⟨T13, h13, X13, e13, W13, st13⟩ := stD X12 hx hZ e12 Ar1 (j := (1 : Int32)) (inb_of S1 (by decide)) (g := (mkF m 108 #[.val (.long p0), .second, .val (.long p1), .second, .val (.int p2), .val (.int (4 : Int32)), .val (.int ua0), .val (.int ua1), .val (.int ua2), .val (.int ua3), .val (.int ub0), .val (.int ub1), .val (.int ub2), .val (.int ub3), .val (.ref b9), .val (.ref b10), .unset, .unset, .unset] [(.double (FP.i2d ua1)), (.int (1 : Int32)), (.ref b9)])) rfl rfl (hb hby at_108)
    have N13 := Fr.snoc X13 N12 g9b
    have Va := Arv.set Ar1 qk1 S1 M1 H1 U1 (v := .double (FP.i2d ua1)) rfl W13 1 rfl (Nat.le_of_ble_eq_true rfl)
    have Vb := Vb.other W13 hab.symm
    have zz0 : n0 ≤ h13.size := Nat.le_trans zz0 (Nat.le_of_eq W13.size.symm)
    obtain ⟨c1, Ar1, qk1, S1, M1, H1, U1⟩ := id Vb
    obtain ⟨T14, h14, X14, e14, W14, st14⟩ := stD X13 hx hZ e13 Ar1 (j := (1 : Int32)) (inb_of S1 (by decide)) (g := (mkF m 115 #[.val (.long p0), .second, .val (.long p1), .second, .val (.int p2), .val (.int (4 : Int32)), .val (.int ua0), .val (.int ua1), .val (.int ua2), .val (.int ua3), .val (.int ub0), .val (.int ub1), .val (.int ub2), .val (.int ub3), .val (.ref b9), .val (.ref b10), .unset, .unset, .unset] [(.double (FP.i2d ub1)), (.int (1 : Int32)), (.ref b10)])) rfl rfl (hb hby at_115)
    have N14 := Fr.snoc X14 N13 g10b
    have Vb := Arv.set Ar1 qk1 S1 M1 H1 U1 (v := .double (FP.i2d ub1)) rfl W14 1 rfl (Nat.le_of_ble_eq_true rfl)
    have Va := Va.other W14 hab
    have zz0 : n0 ≤ h14.size := Nat.le_trans zz0 (Nat.le_of_eq W14.size.symm)
    obtain ⟨c1, Ar1, qk1, S1, M1, H1, U1⟩ := id Va
    obtain ⟨T15, h15, X15, e15, W15, st15⟩ := stD X14 hx hZ e14 Ar1 (j := (2 : Int32)) (inb_of S1 (by decide)) (g := (mkF m 128 #[.val (.long p0), .second, .val (.long p1), .second, .val (.int p2), .val (.int (4 : Int32)), .val (.int ua0), .val (.int ua1), .val (.int ua2), .val (.int ua3), .val (.int ub0), .val (.int ub1), .val (.int ub2), .val (.int ub3), .val (.ref b9), .val (.ref b10), .unset, .unset, .unset] [(.double (FP.i2d ua2)), (.int (2 : Int32)), (.ref b9)])) rfl rfl (hb hby at_128)
    have N15 := Fr.snoc X15 N14 g9b
    have Va := Arv.set Ar1 qk1 S1 M1 H1 U1 (v := .double (FP.i2d ua2)) rfl W15 2 rfl (Nat.le_of_ble_eq_true rfl)
    have Vb := Vb.other W15 hab.symm
    have zz0 : n0 ≤ h15.size := Nat.le_trans zz0 (Nat.le_of_eq W15.size.symm)
    obtain ⟨c1, Ar1, qk1, S1, M1, H1, U1⟩ := id Vb
    obtain ⟨T16, h16, X16, e16, W16, st16⟩ := stD X15 hx hZ e15 Ar1 (j := (2 : Int32)) (inb_of S1 (by decide)) (g := (mkF m 135 #[.val (.long p0), .second, .val (.long p1), .second, .val (.int p2), .val (.int (4 : Int32)), .val (.int ua0), .val (.int ua1), .val (.int ua2), .val (.int ua3), .val (.int ub0), .val (.int ub1), .val (.int ub2), .val (.int ub3), .val (.ref b9), .val (.ref b10), .unset, .unset, .unset] [(.double (FP.i2d ub2)), (.int (2 : Int32)), (.ref b10)])) rfl rfl (hb hby at_135)
    have N16 := Fr.snoc X16 N15 g10b
    have Vb := Arv.set Ar1 qk1 S1 M1 H1 U1 (v := .double (FP.i2d ub2)) rfl W16 2 rfl (Nat.le_of_ble_eq_true rfl)
    have Va := Va.other W16 hab
    have zz0 : n0 ≤ h16.size := Nat.le_trans zz0 (Nat.le_of_eq W16.size.symm)
    obtain ⟨c1, Ar1, qk1, S1, M1, H1, U1⟩ := id Va
    obtain ⟨T17, h17, X17, e17, W17, st17⟩ := stD X16 hx hZ e16 Ar1 (j := (3 : Int32)) (inb_of S1 (by decide)) (g := (mkF m 148 #[.val (.long p0), .second, .val (.long p1), .second, .val (.int p2), .val (.int (4 : Int32)), .val (.int ua0), .val (.int ua1), .val (.int ua2), .val (.int ua3), .val (.int ub0), .val (.int ub1), .val (.int ub2), .val (.int ub3), .val (.ref b9), .val (.ref b10), .unset, .unset, .unset] [(.double (FP.i2d ua3)), (.int (3 : Int32)), (.ref b9)])) rfl rfl (hb hby at_148)
    have N17 := Fr.snoc X17 N16 g9b
    have Va := Arv.set Ar1 qk1 S1 M1 H1 U1 (v := .double (FP.i2d ua3)) rfl W17 3 rfl (Nat.le_of_ble_eq_true rfl)
    have Vb := Vb.other W17 hab.symm
    have zz0 : n0 ≤ h17.size := Nat.le_trans zz0 (Nat.le_of_eq W17.size.symm)
    obtain ⟨c1, Ar1, qk1, S1, M1, H1, U1⟩ := id Vb
    obtain ⟨T18, h18, X18, e18, W18, st18⟩ := stD X17 hx hZ e17 Ar1 (j := (3 : Int32)) (inb_of S1 (by decide)) (g := (mkF m 155 #[.val (.long p0), .second, .val (.long p1), .second, .val (.int p2), .val (.int (4 : Int32)), .val (.int ua0), .val (.int ua1), .val (.int ua2), .val (.int ua3), .val (.int ub0), .val (.int ub1), .val (.int ub2), .val (.int ub3), .val (.ref b9), .val (.ref b10), .unset, .unset, .unset] [(.double (FP.i2d ub3)), (.int (3 : Int32)), (.ref b10)])) rfl rfl (hb hby at_155)
    have N18 := Fr.snoc X18 N17 g10b
    have Vb := Arv.set Ar1 qk1 S1 M1 H1 U1 (v := .double (FP.i2d ub3)) rfl W18 3 rfl (Nat.le_of_ble_eq_true rfl)
    have Va := Va.other W18 hab
    have zz0 : n0 ≤ h18.size := Nat.le_trans zz0 (Nat.le_of_eq W18.size.symm)
    obtain ⟨_, _, ⟨T19, L19, k19, n19⟩, -, X19, ⟨Lc19, hQ19, l19, y19, z19⟩, st19⟩ := Jvm.LawKit.callS X18 hx (y := (⟨"com/example/gridfront/gridfront/selection/Pareto", "dominates", "([D[D)Z"⟩ : MethodName)) hown (mvT hZ (hw _ (List.mem_of_getElem? (i := 6) rfl))) (mvT hZ (hw _ (List.mem_of_getElem? (i := 7) rfl))) (mvT hZ (hw _ (List.mem_of_getElem? (i := 8) rfl))) (mvT hZ (hw _ (List.mem_of_getElem? (i := 9) rfl))) (by decide) (backOf (W := 0) (rmP l Z a0 hw [] b9 b10 k9 k10 (4 : Int32) ([(ua0, ub0), (ua1, ub1), (ua2, ub2), (ua3, ub3)] : List (Int32 × Int32)) h18 n0 zz0 Va Vb rfl) hZ (hw _ (List.mem_of_getElem? (i := 9) rfl)) (hw _ (List.mem_of_getElem? (i := 8) rfl)) (by decide) (by decide)) (g := (mkF m 358 #[.val (.long p0), .second, .val (.long p1), .second, .val (.int p2), .val (.int (4 : Int32)), .val (.int ua0), .val (.int ua1), .val (.int ua2), .val (.int ua3), .val (.int ub0), .val (.int ub1), .val (.int ub2), .val (.int ub3), .val (.ref b9), .val (.ref b10), .val (.int (own_le (own_le (own_le (own_le (1 : Int32) ua0 ub0) ua1 ub1) ua2 ub2) ua3 ub3)), .val (.int (own_lt (own_lt (own_lt (own_lt (0 : Int32) ua0 ub0) ua1 ub1) ua2 ub2) ua3 ub3)), .val (.int (own_exp (own_le (own_le (own_le (own_le (1 : Int32) ua0 ub0) ua1 ub1) ua2 ub2) ua3 ub3) (own_lt (own_lt (own_lt (own_lt (0 : Int32) ua0 ub0) ua1 ub1) ua2 ub2) ua3 ub3)))] [(.ref b10), (.ref b9)])) rfl (by rw [hml]; rfl) (argsL := [(.ref b9), (.ref b10)]) (rest := []) (lenOf pdD rfl) rfl (by show 2 * 0 + _ ≤ _; exact Nat.le_of_eq rfl) (hb hby at_358) (fun _ _ => ⟨rfl, e18, (by decide : 2 + 0 ≤ _), (by decide : 8 + 0 ≤ _)⟩)
    dsimp only [Pt.U, Pt.locs, Pt.cells, Pt.slots] at X19 l19 y19 z19 st19 hQ19
    subst l19 y19 z19
    obtain ⟨rfl, N19q, hh19⟩ := hQ19
    have N19 := Fr.app N18 N19q
    have hfin : own_dom ([(ua0, ub0), (ua1, ub1), (ua2, ub2), (ua3, ub3)] : List (Int32 × Int32)) 0 = (own_exp (own_le (own_le (own_le (own_le (1 : Int32) ua0 ub0) ua1 ub1) ua2 ub2) ua3 ub3) (own_lt (own_lt (own_lt (own_lt (0 : Int32) ua0 ub0) ua1 ub1) ua2 ub2) ua3 ub3)) := own_law ([(ua0, ub0), (ua1, ub1), (ua2, ub2), (ua3, ub3)] : List (Int32 × Int32)) 0 (Or.inl rfl)
    obtain ⟨fs, hr, hrun, hended, hW, hsame⟩ := X19.leave (v := some (.int (1 : Int32))) (fun h => by rw [Bd.returns] at h; cases h)
    refine ⟨_, _, pre1 _ ?_, hrun, hended, _, _, rfl, ?_, ⟨_, rfl⟩, hW, hsame.mono (by decide) (by decide)⟩
    · skip
      show Steps p.tables e below (T8.setTop (mkF m 65 #[.val (.long p0), .second, .val (.long p1), .second, .val (.int p2), .val (.int (4 : Int32)), .val (.int ua0), .val (.int ua1), .val (.int ua2), .val (.int ua3), .val (.int ub0), .val (.int ub1), .val (.int ub2), .val (.int ub3), .unset, .unset, .unset, .unset, .unset] [])) _
      refine XS.iload X8.here hx rfl (hb hby at_65) rfl ?_
      show Steps p.tables e below (T8.setTop (mkF m 67 #[.val (.long p0), .second, .val (.long p1), .second, .val (.int p2), .val (.int (4 : Int32)), .val (.int ua0), .val (.int ua1), .val (.int ua2), .val (.int ua3), .val (.int ub0), .val (.int ub1), .val (.int ub2), .val (.int ub3), .unset, .unset, .unset, .unset, .unset] [(.int (4 : Int32))])) _
      refine st9 _ ?_
      show Steps p.tables e below (T9.setTop (mkF m 69 #[.val (.long p0), .second, .val (.long p1), .second, .val (.int p2), .val (.int (4 : Int32)), .val (.int ua0), .val (.int ua1), .val (.int ua2), .val (.int ua3), .val (.int ub0), .val (.int ub1), .val (.int ub2), .val (.int ub3), .unset, .unset, .unset, .unset, .unset] [(.ref b9)])) _
      refine XS.astore X9.here hx rfl (hb hby at_69) rfl rfl (l' := #[.val (.long p0), .second, .val (.long p1), .second, .val (.int p2), .val (.int (4 : Int32)), .val (.int ua0), .val (.int ua1), .val (.int ua2), .val (.int ua3), .val (.int ub0), .val (.int ub1), .val (.int ub2), .val (.int ub3), .val (.ref b9), .unset, .unset, .unset, .unset]) rfl ?_
      show Steps p.tables e below (T9.setTop (mkF m 71 #[.val (.long p0), .second, .val (.long p1), .second, .val (.int p2), .val (.int (4 : Int32)), .val (.int ua0), .val (.int ua1), .val (.int ua2), .val (.int ua3), .val (.int ub0), .val (.int ub1), .val (.int ub2), .val (.int ub3), .val (.ref b9), .unset, .unset, .unset, .unset] [])) _
      refine XS.iload X9.here hx rfl (hb hby at_71) rfl ?_
      show Steps p.tables e below (T9.setTop (mkF m 73 #[.val (.long p0), .second, .val (.long p1), .second, .val (.int p2), .val (.int (4 : Int32)), .val (.int ua0), .val (.int ua1), .val (.int ua2), .val (.int ua3), .val (.int ub0), .val (.int ub1), .val (.int ub2), .val (.int ub3), .val (.ref b9), .unset, .unset, .unset, .unset] [(.int (4 : Int32))])) _
      refine st10 _ ?_
      show Steps p.tables e below (T10.setTop (mkF m 75 #[.val (.long p0), .second, .val (.long p1), .second, .val (.int p2), .val (.int (4 : Int32)), .val (.int ua0), .val (.int ua1), .val (.int ua2), .val (.int ua3), .val (.int ub0), .val (.int ub1), .val (.int ub2), .val (.int ub3), .val (.ref b9), .unset, .unset, .unset, .unset] [(.ref b10)])) _
      refine XS.astore X10.here hx rfl (hb hby at_75) rfl rfl (l' := #[.val (.long p0), .second, .val (.long p1), .second, .val (.int p2), .val (.int (4 : Int32)), .val (.int ua0), .val (.int ua1), .val (.int ua2), .val (.int ua3), .val (.int ub0), .val (.int ub1), .val (.int ub2), .val (.int ub3), .val (.ref b9), .val (.ref b10), .unset, .unset, .unset]) rfl ?_
      show Steps p.tables e below (T10.setTop (mkF m 77 #[.val (.long p0), .second, .val (.long p1), .second, .val (.int p2), .val (.int (4 : Int32)), .val (.int ua0), .val (.int ua1), .val (.int ua2), .val (.int ua3), .val (.int ub0), .val (.int ub1), .val (.int ub2), .val (.int ub3), .val (.ref b9), .val (.ref b10), .unset, .unset, .unset] [])) _
      refine XS.iload X10.here hx rfl (hb hby at_77) rfl ?_
      show Steps p.tables e below (T10.setTop (mkF m 79 #[.val (.long p0), .second, .val (.long p1), .second, .val (.int p2), .val (.int (4 : Int32)), .val (.int ua0), .val (.int ua1), .val (.int ua2), .val (.int ua3), .val (.int ub0), .val (.int ub1), .val (.int ub2), .val (.int ub3), .val (.ref b9), .val (.ref b10), .unset, .unset, .unset] [(.int (4 : Int32))])) _
      refine XS.ifNo X10.here hx rfl (hb hby at_79) rfl (by decide) ?_
      show Steps p.tables e below (T10.setTop (mkF m 82 #[.val (.long p0), .second, .val (.long p1), .second, .val (.int p2), .val (.int (4 : Int32)), .val (.int ua0), .val (.int ua1), .val (.int ua2), .val (.int ua3), .val (.int ub0), .val (.int ub1), .val (.int ub2), .val (.int ub3), .val (.ref b9), .val (.ref b10), .unset, .unset, .unset] [])) _
      refine XS.aload X10.here hx rfl (hb hby at_82) rfl rfl ?_
      show Steps p.tables e below (T10.setTop (mkF m 84 #[.val (.long p0), .second, .val (.long p1), .second, .val (.int p2), .val (.int (4 : Int32)), .val (.int ua0), .val (.int ua1), .val (.int ua2), .val (.int ua3), .val (.int ub0), .val (.int ub1), .val (.int ub2), .val (.int ub3), .val (.ref b9), .val (.ref b10), .unset, .unset, .unset] [(.ref b9)])) _
      refine XS.iconst X10.here hx rfl (hb hby at_84) ?_
      show Steps p.tables e below (T10.setTop (mkF m 85 #[.val (.long p0), .second, .val (.long p1), .second, .val (.int p2), .val (.int (4 : Int32)), .val (.int ua0), .val (.int ua1), .val (.int ua2), .val (.int ua3), .val (.int ub0), .val (.int ub1), .val (.int ub2), .val (.int ub3), .val (.ref b9), .val (.ref b10), .unset, .unset, .unset] [(.int (0 : Int32)), (.ref b9)])) _
      refine XS.iload X10.here hx rfl (hb hby at_85) rfl ?_
      show Steps p.tables e below (T10.setTop (mkF m 87 #[.val (.long p0), .second, .val (.long p1), .second, .val (.int p2), .val (.int (4 : Int32)), .val (.int ua0), .val (.int ua1), .val (.int ua2), .val (.int ua3), .val (.int ub0), .val (.int ub1), .val (.int ub2), .val (.int ub3), .val (.ref b9), .val (.ref b10), .unset, .unset, .unset] [(.int ua0), (.int (0 : Int32)), (.ref b9)])) _
      refine XS.i2dS X10.here hx rfl (v := (FP.i2d ua0)) (hb hby at_87) rfl rfl ?_
      show Steps p.tables e below (T10.setTop (mkF m 88 #[.val (.long p0), .second, .val (.long p1), .second, .val (.int p2), .val (.int (4 : Int32)), .val (.int ua0), .val (.int ua1), .val (.int ua2), .val (.int ua3), .val (.int ub0), .val (.int ub1), .val (.int ub2), .val (.int ub3), .val (.ref b9), .val (.ref b10), .unset, .unset, .unset] [(.double (FP.i2d ua0)), (.int (0 : Int32)), (.ref b9)])) _
      refine st11 _ ?_
      show Steps p.tables e below (T11.setTop (mkF m 89 #[.val (.long p0), .second, .val (.long p1), .second, .val (.int p2), .val (.int (4 : Int32)), .val (.int ua0), .val (.int ua1), .val (.int ua2), .val (.int ua3), .val (.int ub0), .val (.int ub1), .val (.int ub2), .val (.int ub3), .val (.ref b9), .val (.ref b10), .unset, .unset, .unset] [])) _
      refine XS.aload X11.here hx rfl (hb hby at_89) rfl rfl ?_
      show Steps p.tables e below (T11.setTop (mkF m 91 #[.val (.long p0), .second, .val (.long p1), .second, .val (.int p2), .val (.int (4 : Int32)), .val (.int ua0), .val (.int ua1), .val (.int ua2), .val (.int ua3), .val (.int ub0), .val (.int ub1), .val (.int ub2), .val (.int ub3), .val (.ref b9), .val (.ref b10), .unset, .unset, .unset] [(.ref b10)])) _
      refine XS.iconst X11.here hx rfl (hb hby at_91) ?_
      show Steps p.tables e below (T11.setTop (mkF m 92 #[.val (.long p0), .second, .val (.long p1), .second, .val (.int p2), .val (.int (4 : Int32)), .val (.int ua0), .val (.int ua1), .val (.int ua2), .val (.int ua3), .val (.int ub0), .val (.int ub1), .val (.int ub2), .val (.int ub3), .val (.ref b9), .val (.ref b10), .unset, .unset, .unset] [(.int (0 : Int32)), (.ref b10)])) _
      refine XS.iload X11.here hx rfl (hb hby at_92) rfl ?_
      show Steps p.tables e below (T11.setTop (mkF m 94 #[.val (.long p0), .second, .val (.long p1), .second, .val (.int p2), .val (.int (4 : Int32)), .val (.int ua0), .val (.int ua1), .val (.int ua2), .val (.int ua3), .val (.int ub0), .val (.int ub1), .val (.int ub2), .val (.int ub3), .val (.ref b9), .val (.ref b10), .unset, .unset, .unset] [(.int ub0), (.int (0 : Int32)), (.ref b10)])) _
      refine XS.i2dS X11.here hx rfl (v := (FP.i2d ub0)) (hb hby at_94) rfl rfl ?_
      show Steps p.tables e below (T11.setTop (mkF m 95 #[.val (.long p0), .second, .val (.long p1), .second, .val (.int p2), .val (.int (4 : Int32)), .val (.int ua0), .val (.int ua1), .val (.int ua2), .val (.int ua3), .val (.int ub0), .val (.int ub1), .val (.int ub2), .val (.int ub3), .val (.ref b9), .val (.ref b10), .unset, .unset, .unset] [(.double (FP.i2d ub0)), (.int (0 : Int32)), (.ref b10)])) _
      refine st12 _ ?_
      show Steps p.tables e below (T12.setTop (mkF m 96 #[.val (.long p0), .second, .val (.long p1), .second, .val (.int p2), .val (.int (4 : Int32)), .val (.int ua0), .val (.int ua1), .val (.int ua2), .val (.int ua3), .val (.int ub0), .val (.int ub1), .val (.int ub2), .val (.int ub3), .val (.ref b9), .val (.ref b10), .unset, .unset, .unset] [])) _
      refine XS.iload X12.here hx rfl (hb hby at_96) rfl ?_
      show Steps p.tables e below (T12.setTop (mkF m 98 #[.val (.long p0), .second, .val (.long p1), .second, .val (.int p2), .val (.int (4 : Int32)), .val (.int ua0), .val (.int ua1), .val (.int ua2), .val (.int ua3), .val (.int ub0), .val (.int ub1), .val (.int ub2), .val (.int ub3), .val (.ref b9), .val (.ref b10), .unset, .unset, .unset] [(.int (4 : Int32))])) _
      refine XS.iconst X12.here hx rfl (hb hby at_98) ?_
      show Steps p.tables e below (T12.setTop (mkF m 99 #[.val (.long p0), .second, .val (.long p1), .second, .val (.int p2), .val (.int (4 : Int32)), .val (.int ua0), .val (.int ua1), .val (.int ua2), .val (.int ua3), .val (.int ub0), .val (.int ub1), .val (.int ub2), .val (.int ub3), .val (.ref b9), .val (.ref b10), .unset, .unset, .unset] [(.int (1 : Int32)), (.int (4 : Int32))])) _
      refine XS.icmpNo X12.here hx rfl (hb hby at_99) rfl (by decide) ?_
      show Steps p.tables e below (T12.setTop (mkF m 102 #[.val (.long p0), .second, .val (.long p1), .second, .val (.int p2), .val (.int (4 : Int32)), .val (.int ua0), .val (.int ua1), .val (.int ua2), .val (.int ua3), .val (.int ub0), .val (.int ub1), .val (.int ub2), .val (.int ub3), .val (.ref b9), .val (.ref b10), .unset, .unset, .unset] [])) _
      refine XS.aload X12.here hx rfl (hb hby at_102) rfl rfl ?_
      show Steps p.tables e below (T12.setTop (mkF m 104 #[.val (.long p0), .second, .val (.long p1), .second, .val (.int p2), .val (.int (4 : Int32)), .val (.int ua0), .val (.int ua1), .val (.int ua2), .val (.int ua3), .val (.int ub0), .val (.int ub1), .val (.int ub2), .val (.int ub3), .val (.ref b9), .val (.ref b10), .unset, .unset, .unset] [(.ref b9)])) _
      refine XS.iconst X12.here hx rfl (hb hby at_104) ?_
      show Steps p.tables e below (T12.setTop (mkF m 105 #[.val (.long p0), .second, .val (.long p1), .second, .val (.int p2), .val (.int (4 : Int32)), .val (.int ua0), .val (.int ua1), .val (.int ua2), .val (.int ua3), .val (.int ub0), .val (.int ub1), .val (.int ub2), .val (.int ub3), .val (.ref b9), .val (.ref b10), .unset, .unset, .unset] [(.int (1 : Int32)), (.ref b9)])) _
      refine XS.iload X12.here hx rfl (hb hby at_105) rfl ?_
      show Steps p.tables e below (T12.setTop (mkF m 107 #[.val (.long p0), .second, .val (.long p1), .second, .val (.int p2), .val (.int (4 : Int32)), .val (.int ua0), .val (.int ua1), .val (.int ua2), .val (.int ua3), .val (.int ub0), .val (.int ub1), .val (.int ub2), .val (.int ub3), .val (.ref b9), .val (.ref b10), .unset, .unset, .unset] [(.int ua1), (.int (1 : Int32)), (.ref b9)])) _
      refine XS.i2dS X12.here hx rfl (v := (FP.i2d ua1)) (hb hby at_107) rfl rfl ?_
      show Steps p.tables e below (T12.setTop (mkF m 108 #[.val (.long p0), .second, .val (.long p1), .second, .val (.int p2), .val (.int (4 : Int32)), .val (.int ua0), .val (.int ua1), .val (.int ua2), .val (.int ua3), .val (.int ub0), .val (.int ub1), .val (.int ub2), .val (.int ub3), .val (.ref b9), .val (.ref b10), .unset, .unset, .unset] [(.double (FP.i2d ua1)), (.int (1 : Int32)), (.ref b9)])) _
      refine st13 _ ?_
      show Steps p.tables e below (T13.setTop (mkF m 109 #[.val (.long p0), .second, .val (.long p1), .second, .val (.int p2), .val (.int (4 : Int32)), .val (.int ua0), .val (.int ua1), .val (.int ua2), .val (.int ua3), .val (.int ub0), .val (.int ub1), .val (.int ub2), .val (.int ub3), .val (.ref b9), .val (.ref b10), .unset, .unset, .unset] [])) _
      refine XS.aload X13.here hx rfl (hb hby at_109) rfl rfl ?_
      show Steps p.tables e below (T13.setTop (mkF m 111 #[.val (.long p0), .second, .val (.long p1), .second, .val (.int p2), .val (.int (4 : Int32)), .val (.int ua0), .val (.int ua1), .val (.int ua2), .val (.int ua3), .val (.int ub0), .val (.int ub1), .val (.int ub2), .val (.int ub3), .val (.ref b9), .val (.ref b10), .unset, .unset, .unset] [(.ref b10)])) _
      refine XS.iconst X13.here hx rfl (hb hby at_111) ?_
      show Steps p.tables e below (T13.setTop (mkF m 112 #[.val (.long p0), .second, .val (.long p1), .second, .val (.int p2), .val (.int (4 : Int32)), .val (.int ua0), .val (.int ua1), .val (.int ua2), .val (.int ua3), .val (.int ub0), .val (.int ub1), .val (.int ub2), .val (.int ub3), .val (.ref b9), .val (.ref b10), .unset, .unset, .unset] [(.int (1 : Int32)), (.ref b10)])) _
      refine XS.iload X13.here hx rfl (hb hby at_112) rfl ?_
      show Steps p.tables e below (T13.setTop (mkF m 114 #[.val (.long p0), .second, .val (.long p1), .second, .val (.int p2), .val (.int (4 : Int32)), .val (.int ua0), .val (.int ua1), .val (.int ua2), .val (.int ua3), .val (.int ub0), .val (.int ub1), .val (.int ub2), .val (.int ub3), .val (.ref b9), .val (.ref b10), .unset, .unset, .unset] [(.int ub1), (.int (1 : Int32)), (.ref b10)])) _
      refine XS.i2dS X13.here hx rfl (v := (FP.i2d ub1)) (hb hby at_114) rfl rfl ?_
      show Steps p.tables e below (T13.setTop (mkF m 115 #[.val (.long p0), .second, .val (.long p1), .second, .val (.int p2), .val (.int (4 : Int32)), .val (.int ua0), .val (.int ua1), .val (.int ua2), .val (.int ua3), .val (.int ub0), .val (.int ub1), .val (.int ub2), .val (.int ub3), .val (.ref b9), .val (.ref b10), .unset, .unset, .unset] [(.double (FP.i2d ub1)), (.int (1 : Int32)), (.ref b10)])) _
      refine st14 _ ?_
      show Steps p.tables e below (T14.setTop (mkF m 116 #[.val (.long p0), .second, .val (.long p1), .second, .val (.int p2), .val (.int (4 : Int32)), .val (.int ua0), .val (.int ua1), .val (.int ua2), .val (.int ua3), .val (.int ub0), .val (.int ub1), .val (.int ub2), .val (.int ub3), .val (.ref b9), .val (.ref b10), .unset, .unset, .unset] [])) _
      refine XS.iload X14.here hx rfl (hb hby at_116) rfl ?_
      show Steps p.tables e below (T14.setTop (mkF m 118 #[.val (.long p0), .second, .val (.long p1), .second, .val (.int p2), .val (.int (4 : Int32)), .val (.int ua0), .val (.int ua1), .val (.int ua2), .val (.int ua3), .val (.int ub0), .val (.int ub1), .val (.int ub2), .val (.int ub3), .val (.ref b9), .val (.ref b10), .unset, .unset, .unset] [(.int (4 : Int32))])) _
      refine XS.iconst X14.here hx rfl (hb hby at_118) ?_
      show Steps p.tables e below (T14.setTop (mkF m 119 #[.val (.long p0), .second, .val (.long p1), .second, .val (.int p2), .val (.int (4 : Int32)), .val (.int ua0), .val (.int ua1), .val (.int ua2), .val (.int ua3), .val (.int ub0), .val (.int ub1), .val (.int ub2), .val (.int ub3), .val (.ref b9), .val (.ref b10), .unset, .unset, .unset] [(.int (2 : Int32)), (.int (4 : Int32))])) _
      refine XS.icmpNo X14.here hx rfl (hb hby at_119) rfl (by decide) ?_
      show Steps p.tables e below (T14.setTop (mkF m 122 #[.val (.long p0), .second, .val (.long p1), .second, .val (.int p2), .val (.int (4 : Int32)), .val (.int ua0), .val (.int ua1), .val (.int ua2), .val (.int ua3), .val (.int ub0), .val (.int ub1), .val (.int ub2), .val (.int ub3), .val (.ref b9), .val (.ref b10), .unset, .unset, .unset] [])) _
      refine XS.aload X14.here hx rfl (hb hby at_122) rfl rfl ?_
      show Steps p.tables e below (T14.setTop (mkF m 124 #[.val (.long p0), .second, .val (.long p1), .second, .val (.int p2), .val (.int (4 : Int32)), .val (.int ua0), .val (.int ua1), .val (.int ua2), .val (.int ua3), .val (.int ub0), .val (.int ub1), .val (.int ub2), .val (.int ub3), .val (.ref b9), .val (.ref b10), .unset, .unset, .unset] [(.ref b9)])) _
      refine XS.iconst X14.here hx rfl (hb hby at_124) ?_
      show Steps p.tables e below (T14.setTop (mkF m 125 #[.val (.long p0), .second, .val (.long p1), .second, .val (.int p2), .val (.int (4 : Int32)), .val (.int ua0), .val (.int ua1), .val (.int ua2), .val (.int ua3), .val (.int ub0), .val (.int ub1), .val (.int ub2), .val (.int ub3), .val (.ref b9), .val (.ref b10), .unset, .unset, .unset] [(.int (2 : Int32)), (.ref b9)])) _
      refine XS.iload X14.here hx rfl (hb hby at_125) rfl ?_
      show Steps p.tables e below (T14.setTop (mkF m 127 #[.val (.long p0), .second, .val (.long p1), .second, .val (.int p2), .val (.int (4 : Int32)), .val (.int ua0), .val (.int ua1), .val (.int ua2), .val (.int ua3), .val (.int ub0), .val (.int ub1), .val (.int ub2), .val (.int ub3), .val (.ref b9), .val (.ref b10), .unset, .unset, .unset] [(.int ua2), (.int (2 : Int32)), (.ref b9)])) _
      refine XS.i2dS X14.here hx rfl (v := (FP.i2d ua2)) (hb hby at_127) rfl rfl ?_
      show Steps p.tables e below (T14.setTop (mkF m 128 #[.val (.long p0), .second, .val (.long p1), .second, .val (.int p2), .val (.int (4 : Int32)), .val (.int ua0), .val (.int ua1), .val (.int ua2), .val (.int ua3), .val (.int ub0), .val (.int ub1), .val (.int ub2), .val (.int ub3), .val (.ref b9), .val (.ref b10), .unset, .unset, .unset] [(.double (FP.i2d ua2)), (.int (2 : Int32)), (.ref b9)])) _
      refine st15 _ ?_
      show Steps p.tables e below (T15.setTop (mkF m 129 #[.val (.long p0), .second, .val (.long p1), .second, .val (.int p2), .val (.int (4 : Int32)), .val (.int ua0), .val (.int ua1), .val (.int ua2), .val (.int ua3), .val (.int ub0), .val (.int ub1), .val (.int ub2), .val (.int ub3), .val (.ref b9), .val (.ref b10), .unset, .unset, .unset] [])) _
      refine XS.aload X15.here hx rfl (hb hby at_129) rfl rfl ?_
      show Steps p.tables e below (T15.setTop (mkF m 131 #[.val (.long p0), .second, .val (.long p1), .second, .val (.int p2), .val (.int (4 : Int32)), .val (.int ua0), .val (.int ua1), .val (.int ua2), .val (.int ua3), .val (.int ub0), .val (.int ub1), .val (.int ub2), .val (.int ub3), .val (.ref b9), .val (.ref b10), .unset, .unset, .unset] [(.ref b10)])) _
      refine XS.iconst X15.here hx rfl (hb hby at_131) ?_
      show Steps p.tables e below (T15.setTop (mkF m 132 #[.val (.long p0), .second, .val (.long p1), .second, .val (.int p2), .val (.int (4 : Int32)), .val (.int ua0), .val (.int ua1), .val (.int ua2), .val (.int ua3), .val (.int ub0), .val (.int ub1), .val (.int ub2), .val (.int ub3), .val (.ref b9), .val (.ref b10), .unset, .unset, .unset] [(.int (2 : Int32)), (.ref b10)])) _
      refine XS.iload X15.here hx rfl (hb hby at_132) rfl ?_
      show Steps p.tables e below (T15.setTop (mkF m 134 #[.val (.long p0), .second, .val (.long p1), .second, .val (.int p2), .val (.int (4 : Int32)), .val (.int ua0), .val (.int ua1), .val (.int ua2), .val (.int ua3), .val (.int ub0), .val (.int ub1), .val (.int ub2), .val (.int ub3), .val (.ref b9), .val (.ref b10), .unset, .unset, .unset] [(.int ub2), (.int (2 : Int32)), (.ref b10)])) _
      refine XS.i2dS X15.here hx rfl (v := (FP.i2d ub2)) (hb hby at_134) rfl rfl ?_
      show Steps p.tables e below (T15.setTop (mkF m 135 #[.val (.long p0), .second, .val (.long p1), .second, .val (.int p2), .val (.int (4 : Int32)), .val (.int ua0), .val (.int ua1), .val (.int ua2), .val (.int ua3), .val (.int ub0), .val (.int ub1), .val (.int ub2), .val (.int ub3), .val (.ref b9), .val (.ref b10), .unset, .unset, .unset] [(.double (FP.i2d ub2)), (.int (2 : Int32)), (.ref b10)])) _
      refine st16 _ ?_
      show Steps p.tables e below (T16.setTop (mkF m 136 #[.val (.long p0), .second, .val (.long p1), .second, .val (.int p2), .val (.int (4 : Int32)), .val (.int ua0), .val (.int ua1), .val (.int ua2), .val (.int ua3), .val (.int ub0), .val (.int ub1), .val (.int ub2), .val (.int ub3), .val (.ref b9), .val (.ref b10), .unset, .unset, .unset] [])) _
      refine XS.iload X16.here hx rfl (hb hby at_136) rfl ?_
      show Steps p.tables e below (T16.setTop (mkF m 138 #[.val (.long p0), .second, .val (.long p1), .second, .val (.int p2), .val (.int (4 : Int32)), .val (.int ua0), .val (.int ua1), .val (.int ua2), .val (.int ua3), .val (.int ub0), .val (.int ub1), .val (.int ub2), .val (.int ub3), .val (.ref b9), .val (.ref b10), .unset, .unset, .unset] [(.int (4 : Int32))])) _
      refine XS.iconst X16.here hx rfl (hb hby at_138) ?_
      show Steps p.tables e below (T16.setTop (mkF m 139 #[.val (.long p0), .second, .val (.long p1), .second, .val (.int p2), .val (.int (4 : Int32)), .val (.int ua0), .val (.int ua1), .val (.int ua2), .val (.int ua3), .val (.int ub0), .val (.int ub1), .val (.int ub2), .val (.int ub3), .val (.ref b9), .val (.ref b10), .unset, .unset, .unset] [(.int (3 : Int32)), (.int (4 : Int32))])) _
      refine XS.icmpNo X16.here hx rfl (hb hby at_139) rfl (by decide) ?_
      show Steps p.tables e below (T16.setTop (mkF m 142 #[.val (.long p0), .second, .val (.long p1), .second, .val (.int p2), .val (.int (4 : Int32)), .val (.int ua0), .val (.int ua1), .val (.int ua2), .val (.int ua3), .val (.int ub0), .val (.int ub1), .val (.int ub2), .val (.int ub3), .val (.ref b9), .val (.ref b10), .unset, .unset, .unset] [])) _
      refine XS.aload X16.here hx rfl (hb hby at_142) rfl rfl ?_
      show Steps p.tables e below (T16.setTop (mkF m 144 #[.val (.long p0), .second, .val (.long p1), .second, .val (.int p2), .val (.int (4 : Int32)), .val (.int ua0), .val (.int ua1), .val (.int ua2), .val (.int ua3), .val (.int ub0), .val (.int ub1), .val (.int ub2), .val (.int ub3), .val (.ref b9), .val (.ref b10), .unset, .unset, .unset] [(.ref b9)])) _
      refine XS.iconst X16.here hx rfl (hb hby at_144) ?_
      show Steps p.tables e below (T16.setTop (mkF m 145 #[.val (.long p0), .second, .val (.long p1), .second, .val (.int p2), .val (.int (4 : Int32)), .val (.int ua0), .val (.int ua1), .val (.int ua2), .val (.int ua3), .val (.int ub0), .val (.int ub1), .val (.int ub2), .val (.int ub3), .val (.ref b9), .val (.ref b10), .unset, .unset, .unset] [(.int (3 : Int32)), (.ref b9)])) _
      refine XS.iload X16.here hx rfl (hb hby at_145) rfl ?_
      show Steps p.tables e below (T16.setTop (mkF m 147 #[.val (.long p0), .second, .val (.long p1), .second, .val (.int p2), .val (.int (4 : Int32)), .val (.int ua0), .val (.int ua1), .val (.int ua2), .val (.int ua3), .val (.int ub0), .val (.int ub1), .val (.int ub2), .val (.int ub3), .val (.ref b9), .val (.ref b10), .unset, .unset, .unset] [(.int ua3), (.int (3 : Int32)), (.ref b9)])) _
      refine XS.i2dS X16.here hx rfl (v := (FP.i2d ua3)) (hb hby at_147) rfl rfl ?_
      show Steps p.tables e below (T16.setTop (mkF m 148 #[.val (.long p0), .second, .val (.long p1), .second, .val (.int p2), .val (.int (4 : Int32)), .val (.int ua0), .val (.int ua1), .val (.int ua2), .val (.int ua3), .val (.int ub0), .val (.int ub1), .val (.int ub2), .val (.int ub3), .val (.ref b9), .val (.ref b10), .unset, .unset, .unset] [(.double (FP.i2d ua3)), (.int (3 : Int32)), (.ref b9)])) _
      refine st17 _ ?_
      show Steps p.tables e below (T17.setTop (mkF m 149 #[.val (.long p0), .second, .val (.long p1), .second, .val (.int p2), .val (.int (4 : Int32)), .val (.int ua0), .val (.int ua1), .val (.int ua2), .val (.int ua3), .val (.int ub0), .val (.int ub1), .val (.int ub2), .val (.int ub3), .val (.ref b9), .val (.ref b10), .unset, .unset, .unset] [])) _
      refine XS.aload X17.here hx rfl (hb hby at_149) rfl rfl ?_
      show Steps p.tables e below (T17.setTop (mkF m 151 #[.val (.long p0), .second, .val (.long p1), .second, .val (.int p2), .val (.int (4 : Int32)), .val (.int ua0), .val (.int ua1), .val (.int ua2), .val (.int ua3), .val (.int ub0), .val (.int ub1), .val (.int ub2), .val (.int ub3), .val (.ref b9), .val (.ref b10), .unset, .unset, .unset] [(.ref b10)])) _
      refine XS.iconst X17.here hx rfl (hb hby at_151) ?_
      show Steps p.tables e below (T17.setTop (mkF m 152 #[.val (.long p0), .second, .val (.long p1), .second, .val (.int p2), .val (.int (4 : Int32)), .val (.int ua0), .val (.int ua1), .val (.int ua2), .val (.int ua3), .val (.int ub0), .val (.int ub1), .val (.int ub2), .val (.int ub3), .val (.ref b9), .val (.ref b10), .unset, .unset, .unset] [(.int (3 : Int32)), (.ref b10)])) _
      refine XS.iload X17.here hx rfl (hb hby at_152) rfl ?_
      show Steps p.tables e below (T17.setTop (mkF m 154 #[.val (.long p0), .second, .val (.long p1), .second, .val (.int p2), .val (.int (4 : Int32)), .val (.int ua0), .val (.int ua1), .val (.int ua2), .val (.int ua3), .val (.int ub0), .val (.int ub1), .val (.int ub2), .val (.int ub3), .val (.ref b9), .val (.ref b10), .unset, .unset, .unset] [(.int ub3), (.int (3 : Int32)), (.ref b10)])) _
      refine XS.i2dS X17.here hx rfl (v := (FP.i2d ub3)) (hb hby at_154) rfl rfl ?_
      show Steps p.tables e below (T17.setTop (mkF m 155 #[.val (.long p0), .second, .val (.long p1), .second, .val (.int p2), .val (.int (4 : Int32)), .val (.int ua0), .val (.int ua1), .val (.int ua2), .val (.int ua3), .val (.int ub0), .val (.int ub1), .val (.int ub2), .val (.int ub3), .val (.ref b9), .val (.ref b10), .unset, .unset, .unset] [(.double (FP.i2d ub3)), (.int (3 : Int32)), (.ref b10)])) _
      refine st18 _ ?_
      show Steps p.tables e below (T18.setTop (mkF m 156 #[.val (.long p0), .second, .val (.long p1), .second, .val (.int p2), .val (.int (4 : Int32)), .val (.int ua0), .val (.int ua1), .val (.int ua2), .val (.int ua3), .val (.int ub0), .val (.int ub1), .val (.int ub2), .val (.int ub3), .val (.ref b9), .val (.ref b10), .unset, .unset, .unset] [])) _
      refine XS.iconst X18.here hx rfl (hb hby at_156) ?_
      show Steps p.tables e below (T18.setTop (mkF m 157 #[.val (.long p0), .second, .val (.long p1), .second, .val (.int p2), .val (.int (4 : Int32)), .val (.int ua0), .val (.int ua1), .val (.int ua2), .val (.int ua3), .val (.int ub0), .val (.int ub1), .val (.int ub2), .val (.int ub3), .val (.ref b9), .val (.ref b10), .unset, .unset, .unset] [(.int (1 : Int32))])) _
      refine XS.istore X18.here hx rfl (hb hby at_157) rfl (l' := #[.val (.long p0), .second, .val (.long p1), .second, .val (.int p2), .val (.int (4 : Int32)), .val (.int ua0), .val (.int ua1), .val (.int ua2), .val (.int ua3), .val (.int ub0), .val (.int ub1), .val (.int ub2), .val (.int ub3), .val (.ref b9), .val (.ref b10), .val (.int (1 : Int32)), .unset, .unset]) rfl ?_
      show Steps p.tables e below (T18.setTop (mkF m 159 #[.val (.long p0), .second, .val (.long p1), .second, .val (.int p2), .val (.int (4 : Int32)), .val (.int ua0), .val (.int ua1), .val (.int ua2), .val (.int ua3), .val (.int ub0), .val (.int ub1), .val (.int ub2), .val (.int ub3), .val (.ref b9), .val (.ref b10), .val (.int (1 : Int32)), .unset, .unset] [])) _
      refine XS.iconst X18.here hx rfl (hb hby at_159) ?_
      show Steps p.tables e below (T18.setTop (mkF m 160 #[.val (.long p0), .second, .val (.long p1), .second, .val (.int p2), .val (.int (4 : Int32)), .val (.int ua0), .val (.int ua1), .val (.int ua2), .val (.int ua3), .val (.int ub0), .val (.int ub1), .val (.int ub2), .val (.int ub3), .val (.ref b9), .val (.ref b10), .val (.int (1 : Int32)), .unset, .unset] [(.int (0 : Int32))])) _
      refine XS.istore X18.here hx rfl (hb hby at_160) rfl (l' := #[.val (.long p0), .second, .val (.long p1), .second, .val (.int p2), .val (.int (4 : Int32)), .val (.int ua0), .val (.int ua1), .val (.int ua2), .val (.int ua3), .val (.int ub0), .val (.int ub1), .val (.int ub2), .val (.int ub3), .val (.ref b9), .val (.ref b10), .val (.int (1 : Int32)), .val (.int (0 : Int32)), .unset]) rfl ?_
      show Steps p.tables e below (T18.setTop (mkF m 162 #[.val (.long p0), .second, .val (.long p1), .second, .val (.int p2), .val (.int (4 : Int32)), .val (.int ua0), .val (.int ua1), .val (.int ua2), .val (.int ua3), .val (.int ub0), .val (.int ub1), .val (.int ub2), .val (.int ub3), .val (.ref b9), .val (.ref b10), .val (.int (1 : Int32)), .val (.int (0 : Int32)), .unset] [])) _
      refine XS.iload X18.here hx rfl (hb hby at_162) rfl ?_
      show Steps p.tables e below (T18.setTop (mkF m 164 #[.val (.long p0), .second, .val (.long p1), .second, .val (.int p2), .val (.int (4 : Int32)), .val (.int ua0), .val (.int ua1), .val (.int ua2), .val (.int ua3), .val (.int ub0), .val (.int ub1), .val (.int ub2), .val (.int ub3), .val (.ref b9), .val (.ref b10), .val (.int (1 : Int32)), .val (.int (0 : Int32)), .unset] [(.int (4 : Int32))])) _
      refine XS.ifNo X18.here hx rfl (hb hby at_164) rfl (by decide) ?_
      show Steps p.tables e below (T18.setTop (mkF m 167 #[.val (.long p0), .second, .val (.long p1), .second, .val (.int p2), .val (.int (4 : Int32)), .val (.int ua0), .val (.int ua1), .val (.int ua2), .val (.int ua3), .val (.int ub0), .val (.int ub1), .val (.int ub2), .val (.int ub3), .val (.ref b9), .val (.ref b10), .val (.int (1 : Int32)), .val (.int (0 : Int32)), .unset] [])) _
      refine own_bLe0 X18.here hx hby p0 p1 p2 (4 : Int32) ua0 ua1 ua2 ua3 ub0 ub1 ub2 ub3 (1 : Int32) (0 : Int32) b9 b10 ?_
      show Steps p.tables e below (T18.setTop (mkF m 186 #[.val (.long p0), .second, .val (.long p1), .second, .val (.int p2), .val (.int (4 : Int32)), .val (.int ua0), .val (.int ua1), .val (.int ua2), .val (.int ua3), .val (.int ub0), .val (.int ub1), .val (.int ub2), .val (.int ub3), .val (.ref b9), .val (.ref b10), .val (.int (own_le (1 : Int32) ua0 ub0)), .val (.int (0 : Int32)), .unset] [])) _
      refine own_bLt0 X18.here hx hby p0 p1 p2 (4 : Int32) ua0 ua1 ua2 ua3 ub0 ub1 ub2 ub3 (own_le (1 : Int32) ua0 ub0) (0 : Int32) b9 b10 ?_
      show Steps p.tables e below (T18.setTop (mkF m 205 #[.val (.long p0), .second, .val (.long p1), .second, .val (.int p2), .val (.int (4 : Int32)), .val (.int ua0), .val (.int ua1), .val (.int ua2), .val (.int ua3), .val (.int ub0), .val (.int ub1), .val (.int ub2), .val (.int ub3), .val (.ref b9), .val (.ref b10), .val (.int (own_le (1 : Int32) ua0 ub0)), .val (.int (own_lt (0 : Int32) ua0 ub0)), .unset] [])) _
      refine XS.iload X18.here hx rfl (hb hby at_205) rfl ?_
      show Steps p.tables e below (T18.setTop (mkF m 207 #[.val (.long p0), .second, .val (.long p1), .second, .val (.int p2), .val (.int (4 : Int32)), .val (.int ua0), .val (.int ua1), .val (.int ua2), .val (.int ua3), .val (.int ub0), .val (.int ub1), .val (.int ub2), .val (.int ub3), .val (.ref b9), .val (.ref b10), .val (.int (own_le (1 : Int32) ua0 ub0)), .val (.int (own_lt (0 : Int32) ua0 ub0)), .unset] [(.int (4 : Int32))])) _
      refine XS.iconst X18.here hx rfl (hb hby at_207) ?_
      show Steps p.tables e below (T18.setTop (mkF m 208 #[.val (.long p0), .second, .val (.long p1), .second, .val (.int p2), .val (.int (4 : Int32)), .val (.int ua0), .val (.int ua1), .val (.int ua2), .val (.int ua3), .val (.int ub0), .val (.int ub1), .val (.int ub2), .val (.int ub3), .val (.ref b9), .val (.ref b10), .val (.int (own_le (1 : Int32) ua0 ub0)), .val (.int (own_lt (0 : Int32) ua0 ub0)), .unset] [(.int (1 : Int32)), (.int (4 : Int32))])) _
      refine XS.icmpNo X18.here hx rfl (hb hby at_208) rfl (by decide) ?_
      show Steps p.tables e below (T18.setTop (mkF m 211 #[.val (.long p0), .second, .val (.long p1), .second, .val (.int p2), .val (.int (4 : Int32)), .val (.int ua0), .val (.int ua1), .val (.int ua2), .val (.int ua3), .val (.int ub0), .val (.int ub1), .val (.int ub2), .val (.int ub3), .val (.ref b9), .val (.ref b10), .val (.int (own_le (1 : Int32) ua0 ub0)), .val (.int (own_lt (0 : Int32) ua0 ub0)), .unset] [])) _
      refine own_bLe1 X18.here hx hby p0 p1 p2 (4 : Int32) ua0 ua1 ua2 ua3 ub0 ub1 ub2 ub3 (own_le (1 : Int32) ua0 ub0) (own_lt (0 : Int32) ua0 ub0) b9 b10 ?_
      show Steps p.tables e below (T18.setTop (mkF m 230 #[.val (.long p0), .second, .val (.long p1), .second, .val (.int p2), .val (.int (4 : Int32)), .val (.int ua0), .val (.int ua1), .val (.int ua2), .val (.int ua3), .val (.int ub0), .val (.int ub1), .val (.int ub2), .val (.int ub3), .val (.ref b9), .val (.ref b10), .val (.int (own_le (own_le (1 : Int32) ua0 ub0) ua1 ub1)), .val (.int (own_lt (0 : Int32) ua0 ub0)), .unset] [])) _
      refine own_bLt1 X18.here hx hby p0 p1 p2 (4 : Int32) ua0 ua1 ua2 ua3 ub0 ub1 ub2 ub3 (own_le (own_le (1 : Int32) ua0 ub0) ua1 ub1) (own_lt (0 : Int32) ua0 ub0) b9 b10 ?_
      show Steps p.tables e below (T18.setTop (mkF m 249 #[.val (.long p0), .second, .val (.long p1), .second, .val (.int p2), .val (.int (4 : Int32)), .val (.int ua0), .val (.int ua1), .val (.int ua2), .val (.int ua3), .val (.int ub0), .val (.int ub1), .val (.int ub2), .val (.int ub3), .val (.ref b9), .val (.ref b10), .val (.int (own_le (own_le (1 : Int32) ua0 ub0) ua1 ub1)), .val (.int (own_lt (own_lt (0 : Int32) ua0 ub0) ua1 ub1)), .unset] [])) _
      refine XS.iload X18.here hx rfl (hb hby at_249) rfl ?_
      show Steps p.tables e below (T18.setTop (mkF m 251 #[.val (.long p0), .second, .val (.long p1), .second, .val (.int p2), .val (.int (4 : Int32)), .val (.int ua0), .val (.int ua1), .val (.int ua2), .val (.int ua3), .val (.int ub0), .val (.int ub1), .val (.int ub2), .val (.int ub3), .val (.ref b9), .val (.ref b10), .val (.int (own_le (own_le (1 : Int32) ua0 ub0) ua1 ub1)), .val (.int (own_lt (own_lt (0 : Int32) ua0 ub0) ua1 ub1)), .unset] [(.int (4 : Int32))])) _
      refine XS.iconst X18.here hx rfl (hb hby at_251) ?_
      show Steps p.tables e below (T18.setTop (mkF m 252 #[.val (.long p0), .second, .val (.long p1), .second, .val (.int p2), .val (.int (4 : Int32)), .val (.int ua0), .val (.int ua1), .val (.int ua2), .val (.int ua3), .val (.int ub0), .val (.int ub1), .val (.int ub2), .val (.int ub3), .val (.ref b9), .val (.ref b10), .val (.int (own_le (own_le (1 : Int32) ua0 ub0) ua1 ub1)), .val (.int (own_lt (own_lt (0 : Int32) ua0 ub0) ua1 ub1)), .unset] [(.int (2 : Int32)), (.int (4 : Int32))])) _
      refine XS.icmpNo X18.here hx rfl (hb hby at_252) rfl (by decide) ?_
      show Steps p.tables e below (T18.setTop (mkF m 255 #[.val (.long p0), .second, .val (.long p1), .second, .val (.int p2), .val (.int (4 : Int32)), .val (.int ua0), .val (.int ua1), .val (.int ua2), .val (.int ua3), .val (.int ub0), .val (.int ub1), .val (.int ub2), .val (.int ub3), .val (.ref b9), .val (.ref b10), .val (.int (own_le (own_le (1 : Int32) ua0 ub0) ua1 ub1)), .val (.int (own_lt (own_lt (0 : Int32) ua0 ub0) ua1 ub1)), .unset] [])) _
      refine own_bLe2 X18.here hx hby p0 p1 p2 (4 : Int32) ua0 ua1 ua2 ua3 ub0 ub1 ub2 ub3 (own_le (own_le (1 : Int32) ua0 ub0) ua1 ub1) (own_lt (own_lt (0 : Int32) ua0 ub0) ua1 ub1) b9 b10 ?_
      show Steps p.tables e below (T18.setTop (mkF m 274 #[.val (.long p0), .second, .val (.long p1), .second, .val (.int p2), .val (.int (4 : Int32)), .val (.int ua0), .val (.int ua1), .val (.int ua2), .val (.int ua3), .val (.int ub0), .val (.int ub1), .val (.int ub2), .val (.int ub3), .val (.ref b9), .val (.ref b10), .val (.int (own_le (own_le (own_le (1 : Int32) ua0 ub0) ua1 ub1) ua2 ub2)), .val (.int (own_lt (own_lt (0 : Int32) ua0 ub0) ua1 ub1)), .unset] [])) _
      refine own_bLt2 X18.here hx hby p0 p1 p2 (4 : Int32) ua0 ua1 ua2 ua3 ub0 ub1 ub2 ub3 (own_le (own_le (own_le (1 : Int32) ua0 ub0) ua1 ub1) ua2 ub2) (own_lt (own_lt (0 : Int32) ua0 ub0) ua1 ub1) b9 b10 ?_
      show Steps p.tables e below (T18.setTop (mkF m 293 #[.val (.long p0), .second, .val (.long p1), .second, .val (.int p2), .val (.int (4 : Int32)), .val (.int ua0), .val (.int ua1), .val (.int ua2), .val (.int ua3), .val (.int ub0), .val (.int ub1), .val (.int ub2), .val (.int ub3), .val (.ref b9), .val (.ref b10), .val (.int (own_le (own_le (own_le (1 : Int32) ua0 ub0) ua1 ub1) ua2 ub2)), .val (.int (own_lt (own_lt (own_lt (0 : Int32) ua0 ub0) ua1 ub1) ua2 ub2)), .unset] [])) _
      refine XS.iload X18.here hx rfl (hb hby at_293) rfl ?_
      show Steps p.tables e below (T18.setTop (mkF m 295 #[.val (.long p0), .second, .val (.long p1), .second, .val (.int p2), .val (.int (4 : Int32)), .val (.int ua0), .val (.int ua1), .val (.int ua2), .val (.int ua3), .val (.int ub0), .val (.int ub1), .val (.int ub2), .val (.int ub3), .val (.ref b9), .val (.ref b10), .val (.int (own_le (own_le (own_le (1 : Int32) ua0 ub0) ua1 ub1) ua2 ub2)), .val (.int (own_lt (own_lt (own_lt (0 : Int32) ua0 ub0) ua1 ub1) ua2 ub2)), .unset] [(.int (4 : Int32))])) _
      refine XS.iconst X18.here hx rfl (hb hby at_295) ?_
      show Steps p.tables e below (T18.setTop (mkF m 296 #[.val (.long p0), .second, .val (.long p1), .second, .val (.int p2), .val (.int (4 : Int32)), .val (.int ua0), .val (.int ua1), .val (.int ua2), .val (.int ua3), .val (.int ub0), .val (.int ub1), .val (.int ub2), .val (.int ub3), .val (.ref b9), .val (.ref b10), .val (.int (own_le (own_le (own_le (1 : Int32) ua0 ub0) ua1 ub1) ua2 ub2)), .val (.int (own_lt (own_lt (own_lt (0 : Int32) ua0 ub0) ua1 ub1) ua2 ub2)), .unset] [(.int (3 : Int32)), (.int (4 : Int32))])) _
      refine XS.icmpNo X18.here hx rfl (hb hby at_296) rfl (by decide) ?_
      show Steps p.tables e below (T18.setTop (mkF m 299 #[.val (.long p0), .second, .val (.long p1), .second, .val (.int p2), .val (.int (4 : Int32)), .val (.int ua0), .val (.int ua1), .val (.int ua2), .val (.int ua3), .val (.int ub0), .val (.int ub1), .val (.int ub2), .val (.int ub3), .val (.ref b9), .val (.ref b10), .val (.int (own_le (own_le (own_le (1 : Int32) ua0 ub0) ua1 ub1) ua2 ub2)), .val (.int (own_lt (own_lt (own_lt (0 : Int32) ua0 ub0) ua1 ub1) ua2 ub2)), .unset] [])) _
      refine own_bLe3 X18.here hx hby p0 p1 p2 (4 : Int32) ua0 ua1 ua2 ua3 ub0 ub1 ub2 ub3 (own_le (own_le (own_le (1 : Int32) ua0 ub0) ua1 ub1) ua2 ub2) (own_lt (own_lt (own_lt (0 : Int32) ua0 ub0) ua1 ub1) ua2 ub2) b9 b10 ?_
      show Steps p.tables e below (T18.setTop (mkF m 318 #[.val (.long p0), .second, .val (.long p1), .second, .val (.int p2), .val (.int (4 : Int32)), .val (.int ua0), .val (.int ua1), .val (.int ua2), .val (.int ua3), .val (.int ub0), .val (.int ub1), .val (.int ub2), .val (.int ub3), .val (.ref b9), .val (.ref b10), .val (.int (own_le (own_le (own_le (own_le (1 : Int32) ua0 ub0) ua1 ub1) ua2 ub2) ua3 ub3)), .val (.int (own_lt (own_lt (own_lt (0 : Int32) ua0 ub0) ua1 ub1) ua2 ub2)), .unset] [])) _
      refine own_bLt3 X18.here hx hby p0 p1 p2 (4 : Int32) ua0 ua1 ua2 ua3 ub0 ub1 ub2 ub3 (own_le (own_le (own_le (own_le (1 : Int32) ua0 ub0) ua1 ub1) ua2 ub2) ua3 ub3) (own_lt (own_lt (own_lt (0 : Int32) ua0 ub0) ua1 ub1) ua2 ub2) b9 b10 ?_
      show Steps p.tables e below (T18.setTop (mkF m 337 #[.val (.long p0), .second, .val (.long p1), .second, .val (.int p2), .val (.int (4 : Int32)), .val (.int ua0), .val (.int ua1), .val (.int ua2), .val (.int ua3), .val (.int ub0), .val (.int ub1), .val (.int ub2), .val (.int ub3), .val (.ref b9), .val (.ref b10), .val (.int (own_le (own_le (own_le (own_le (1 : Int32) ua0 ub0) ua1 ub1) ua2 ub2) ua3 ub3)), .val (.int (own_lt (own_lt (own_lt (own_lt (0 : Int32) ua0 ub0) ua1 ub1) ua2 ub2) ua3 ub3)), .unset] [])) _
      refine own_bEx X18.here hx hby p0 p1 p2 (4 : Int32) ua0 ua1 ua2 ua3 ub0 ub1 ub2 ub3 (own_le (own_le (own_le (own_le (1 : Int32) ua0 ub0) ua1 ub1) ua2 ub2) ua3 ub3) (own_lt (own_lt (own_lt (own_lt (0 : Int32) ua0 ub0) ua1 ub1) ua2 ub2) ua3 ub3) b9 b10 ?_
      show Steps p.tables e below (T18.setTop (mkF m 354 #[.val (.long p0), .second, .val (.long p1), .second, .val (.int p2), .val (.int (4 : Int32)), .val (.int ua0), .val (.int ua1), .val (.int ua2), .val (.int ua3), .val (.int ub0), .val (.int ub1), .val (.int ub2), .val (.int ub3), .val (.ref b9), .val (.ref b10), .val (.int (own_le (own_le (own_le (own_le (1 : Int32) ua0 ub0) ua1 ub1) ua2 ub2) ua3 ub3)), .val (.int (own_lt (own_lt (own_lt (own_lt (0 : Int32) ua0 ub0) ua1 ub1) ua2 ub2) ua3 ub3)), .val (.int (own_exp (own_le (own_le (own_le (own_le (1 : Int32) ua0 ub0) ua1 ub1) ua2 ub2) ua3 ub3) (own_lt (own_lt (own_lt (own_lt (0 : Int32) ua0 ub0) ua1 ub1) ua2 ub2) ua3 ub3)))] [])) _
      refine XS.aload X18.here hx rfl (hb hby at_354) rfl rfl ?_
      show Steps p.tables e below (T18.setTop (mkF m 356 #[.val (.long p0), .second, .val (.long p1), .second, .val (.int p2), .val (.int (4 : Int32)), .val (.int ua0), .val (.int ua1), .val (.int ua2), .val (.int ua3), .val (.int ub0), .val (.int ub1), .val (.int ub2), .val (.int ub3), .val (.ref b9), .val (.ref b10), .val (.int (own_le (own_le (own_le (own_le (1 : Int32) ua0 ub0) ua1 ub1) ua2 ub2) ua3 ub3)), .val (.int (own_lt (own_lt (own_lt (own_lt (0 : Int32) ua0 ub0) ua1 ub1) ua2 ub2) ua3 ub3)), .val (.int (own_exp (own_le (own_le (own_le (own_le (1 : Int32) ua0 ub0) ua1 ub1) ua2 ub2) ua3 ub3) (own_lt (own_lt (own_lt (own_lt (0 : Int32) ua0 ub0) ua1 ub1) ua2 ub2) ua3 ub3)))] [(.ref b9)])) _
      refine XS.aload X18.here hx rfl (hb hby at_356) rfl rfl ?_
      show Steps p.tables e below (T18.setTop (mkF m 358 #[.val (.long p0), .second, .val (.long p1), .second, .val (.int p2), .val (.int (4 : Int32)), .val (.int ua0), .val (.int ua1), .val (.int ua2), .val (.int ua3), .val (.int ub0), .val (.int ub1), .val (.int ub2), .val (.int ub3), .val (.ref b9), .val (.ref b10), .val (.int (own_le (own_le (own_le (own_le (1 : Int32) ua0 ub0) ua1 ub1) ua2 ub2) ua3 ub3)), .val (.int (own_lt (own_lt (own_lt (own_lt (0 : Int32) ua0 ub0) ua1 ub1) ua2 ub2) ua3 ub3)), .val (.int (own_exp (own_le (own_le (own_le (own_le (1 : Int32) ua0 ub0) ua1 ub1) ua2 ub2) ua3 ub3) (own_lt (own_lt (own_lt (own_lt (0 : Int32) ua0 ub0) ua1 ub1) ua2 ub2) ua3 ub3)))] [(.ref b10), (.ref b9)])) _
      refine st19 _ ?_
      show Steps p.tables e below (T19.setTop (mkF m 361 #[.val (.long p0), .second, .val (.long p1), .second, .val (.int p2), .val (.int (4 : Int32)), .val (.int ua0), .val (.int ua1), .val (.int ua2), .val (.int ua3), .val (.int ub0), .val (.int ub1), .val (.int ub2), .val (.int ub3), .val (.ref b9), .val (.ref b10), .val (.int (own_le (own_le (own_le (own_le (1 : Int32) ua0 ub0) ua1 ub1) ua2 ub2) ua3 ub3)), .val (.int (own_lt (own_lt (own_lt (own_lt (0 : Int32) ua0 ub0) ua1 ub1) ua2 ub2) ua3 ub3)), .val (.int (own_exp (own_le (own_le (own_le (own_le (1 : Int32) ua0 ub0) ua1 ub1) ua2 ub2) ua3 ub3) (own_lt (own_lt (own_lt (own_lt (0 : Int32) ua0 ub0) ua1 ub1) ua2 ub2) ua3 ub3)))] [(.int (own_dom ([(ua0, ub0), (ua1, ub1), (ua2, ub2), (ua3, ub3)] : List (Int32 × Int32)) 0))])) _
      refine XS.iload X19.here hx rfl (hb hby at_361) rfl ?_
      show Steps p.tables e below (T19.setTop (mkF m 363 #[.val (.long p0), .second, .val (.long p1), .second, .val (.int p2), .val (.int (4 : Int32)), .val (.int ua0), .val (.int ua1), .val (.int ua2), .val (.int ua3), .val (.int ub0), .val (.int ub1), .val (.int ub2), .val (.int ub3), .val (.ref b9), .val (.ref b10), .val (.int (own_le (own_le (own_le (own_le (1 : Int32) ua0 ub0) ua1 ub1) ua2 ub2) ua3 ub3)), .val (.int (own_lt (own_lt (own_lt (own_lt (0 : Int32) ua0 ub0) ua1 ub1) ua2 ub2) ua3 ub3)), .val (.int (own_exp (own_le (own_le (own_le (own_le (1 : Int32) ua0 ub0) ua1 ub1) ua2 ub2) ua3 ub3) (own_lt (own_lt (own_lt (own_lt (0 : Int32) ua0 ub0) ua1 ub1) ua2 ub2) ua3 ub3)))] [(.int (own_exp (own_le (own_le (own_le (own_le (1 : Int32) ua0 ub0) ua1 ub1) ua2 ub2) ua3 ub3) (own_lt (own_lt (own_lt (own_lt (0 : Int32) ua0 ub0) ua1 ub1) ua2 ub2) ua3 ub3))), (.int (own_dom ([(ua0, ub0), (ua1, ub1), (ua2, ub2), (ua3, ub3)] : List (Int32 × Int32)) 0))])) _
      refine XS.icmpNo X19.here hx rfl (hb hby at_363) rfl (teq hfin).2 ?_
      show Steps p.tables e below (T19.setTop (mkF m 366 #[.val (.long p0), .second, .val (.long p1), .second, .val (.int p2), .val (.int (4 : Int32)), .val (.int ua0), .val (.int ua1), .val (.int ua2), .val (.int ua3), .val (.int ub0), .val (.int ub1), .val (.int ub2), .val (.int ub3), .val (.ref b9), .val (.ref b10), .val (.int (own_le (own_le (own_le (own_le (1 : Int32) ua0 ub0) ua1 ub1) ua2 ub2) ua3 ub3)), .val (.int (own_lt (own_lt (own_lt (own_lt (0 : Int32) ua0 ub0) ua1 ub1) ua2 ub2) ua3 ub3)), .val (.int (own_exp (own_le (own_le (own_le (own_le (1 : Int32) ua0 ub0) ua1 ub1) ua2 ub2) ua3 ub3) (own_lt (own_lt (own_lt (own_lt (0 : Int32) ua0 ub0) ua1 ub1) ua2 ub2) ua3 ub3)))] [])) _
      refine XS.iconst X19.here hx rfl (hb hby at_366) ?_
      show Steps p.tables e below (T19.setTop (mkF m 367 #[.val (.long p0), .second, .val (.long p1), .second, .val (.int p2), .val (.int (4 : Int32)), .val (.int ua0), .val (.int ua1), .val (.int ua2), .val (.int ua3), .val (.int ub0), .val (.int ub1), .val (.int ub2), .val (.int ub3), .val (.ref b9), .val (.ref b10), .val (.int (own_le (own_le (own_le (own_le (1 : Int32) ua0 ub0) ua1 ub1) ua2 ub2) ua3 ub3)), .val (.int (own_lt (own_lt (own_lt (own_lt (0 : Int32) ua0 ub0) ua1 ub1) ua2 ub2) ua3 ub3)), .val (.int (own_exp (own_le (own_le (own_le (own_le (1 : Int32) ua0 ub0) ua1 ub1) ua2 ub2) ua3 ub3) (own_lt (own_lt (own_lt (own_lt (0 : Int32) ua0 ub0) ua1 ub1) ua2 ub2) ua3 ub3)))] [(.int (1 : Int32))])) _
      refine XS.goto X19.here hx rfl (pc0 := 367) (pc' := 371) rfl (hb hby at_367) (by decide) (by decide) ?_
      show Steps p.tables e below (T19.setTop (mkF m 371 #[.val (.long p0), .second, .val (.long p1), .second, .val (.int p2), .val (.int (4 : Int32)), .val (.int ua0), .val (.int ua1), .val (.int ua2), .val (.int ua3), .val (.int ub0), .val (.int ub1), .val (.int ub2), .val (.int ub3), .val (.ref b9), .val (.ref b10), .val (.int (own_le (own_le (own_le (own_le (1 : Int32) ua0 ub0) ua1 ub1) ua2 ub2) ua3 ub3)), .val (.int (own_lt (own_lt (own_lt (own_lt (0 : Int32) ua0 ub0) ua1 ub1) ua2 ub2) ua3 ub3)), .val (.int (own_exp (own_le (own_le (own_le (own_le (1 : Int32) ua0 ub0) ua1 ub1) ua2 ub2) ua3 ub3) (own_lt (own_lt (own_lt (own_lt (0 : Int32) ua0 ub0) ua1 ub1) ua2 ub2) ua3 ub3)))] [(.int (1 : Int32))])) _
      exact retN X19 hx (t := .boolean) Bd.returns (by simp) (hb hby at_371) hr
    · exact ⟨rfl, N19⟩
set_option maxRecDepth 65536 in
set_option maxHeartbeats 40000000 in
theorem comes_1 {Post : Tables → Env → Array Value → State → Outcome → State → Prop} (hpost : ∀ tb e args s v u, (limb_1_1.after args s (.returned v) u = true ∧ limb_1_2.after args s (.returned v) u = true ∧ True) → FrameEnd s (.returned v) u (Jvm.fieldLocs frame_1_writes args s ++ Jvm.arrayLocs frame_1_arrays args s ++ Jvm.staticLocs frame_1_statics s) 16 128 → Post tb e args s (.returned v) u) :
    ArmFor flags0 classFile x code maxLocals ret World_1 tables_1 room_1 Calls_1 rest_1 Pre_1 Post := by
  intro l hfl _ _ p e ha hc hk s m args below hf hA hF happ hP
  obtain ⟨hcalls, hrest, hpre⟩ := hP
  obtain ⟨-, -, -, hnamed, -, -, -, hat⟩ := (Spec.applies_iff hf).mp happ
  obtain ⟨hg, hn⟩ := and_e (Cond.before_iff.mp (show (Jvm.Cond.and given_1 narrow_1).before args s = true from hpre))
  obtain ⟨h1, h2⟩ := and_e hg
  obtain ⟨ha0, hb0⟩ := and_e h2
  obtain ⟨ha1, hb1⟩ := and_e hb0
  obtain ⟨w0, w1, w2, rfl⟩ : ∃ w0 w1 w2 : Value, args = #[w0, w1, w2] := by
    have hs : args.size = 3 := by simpa [Cond.value, given_1] using h1
    obtain ⟨L⟩ := args
    match L, hs with
    | [w0, w1, w2], _ => exact ⟨w0, w1, w2, rfl⟩
  have hw := fun d (hd : d ∈ tables_1) => atoms_spec (ws := Jvm.Cond.code x code maxLocals ret :: tables_1) hat d (List.mem_cons_of_mem _ hd)
  obtain ⟨i0, e0⟩ := isL_v ha0
  obtain rfl : w0 = (.long i0) := Option.some.inj e0
  obtain ⟨i1, e1⟩ := isL_v ha1
  obtain rfl : w1 = (.long i1) := Option.some.inj e1
  obtain ⟨i2, e2⟩ := is_v hb1
  obtain rfl : w2 = (.int i2) := Option.some.inj e2
  obtain ⟨n, o, h1, h2, h3, _, L, rfl, ⟨rfl, N⟩, hq⟩ := rm0 l s _ hw tables_1 i0 i1 i2 s.heap s.heap.size (Nat.le_refl _) p e ha hc hk s m _ below hf ((Spec.applies_iff_loose hf).mp happ).1 ⟨rfl, State.Warmed39.refl s, rfl⟩ trivial
  refine ⟨n, _, h1, h2, h3, hpost _ _ _ _ _ _ ⟨Cond.after_iff.mpr rfl, Cond.after_iff.mpr (eq_i res_at (Term.int_eval (1)) rfl), trivial⟩ ⟨hq.1, hq.2.1, (hq.2.2.sift fun y hy => Or.inr (N y hy)).mono (by decide) (by decide)⟩⟩
theorem main_1_1 : Claimed_1_1 := comes_1 fun _ _ _ _ _ _ h hF => ⟨h.1, hF⟩
theorem main_1_2 : Claimed_1_2 := comes_1 fun _ _ _ _ _ _ h hF => ⟨h.2.1, hF⟩
end Jvm.Pilot.@@N@@
namespace Jvm.Pilot.@@N@@
open Jvm Jvm.ClassFile Sem Op Lib Jvm.Free Jvm.Stand Jvm.Pilot.@@N@@.Jvm.D
/-! MADE BY PROGRAM (witnessworld.py) out of the Statement's table words and the real class files: 9 classes; the members and pool entries that the words name. The judged class is class 1, her method 2. -/
namespace start1
open Jvm.ClassFile
def u (s : String) : CpInfo := .utf8 (stringToUtf16 s)
/-- a pool by its gaps: so many unusable entries, then the entry; so many at the end -/
def gap : Nat → List CpInfo → List CpInfo
  | 0, r => r
  | n + 1, r => .unusable :: gap n r
def poolList (es : List (Nat × CpInfo)) (last : Nat) : List CpInfo := es.foldr (fun e r => gap e.1 (e.2 :: r)) (gap last [])
def pool (es : List (Nat × CpInfo)) (last : Nat) : Array CpInfo := ⟨poolList es last⟩
def fileOf (pool : Array CpInfo) (this : Nat) (attrs : Array Attribute := #[]) (ms : Array MethodInfo := #[]) (fl : Nat := 33) (sup : Nat := 0) (ifs : Array Nat := #[]) (fds : Array FieldInfo := #[]) : ClassFile where
  minorVersion := 0
  majorVersion := 65
  constantPool := pool
  accessFlags := fl
  thisClass := this
  superClass := sup
  interfaces := ifs
  fields := fds
  methods := ms
  attributes := attrs
def plain (name : String) (sup : Option ClassId) : Class where
  name := name
  kind := .ordinary
  loader := none
  accessFlags := 33
  super := sup
  interfaces := #[]
  cf := none
  fields := #[]
  methods := #[]
  instanceTypes := #[]
  staticTypes := #[]
  resolved := #[]
  callSites := []
  init := .initialized
  statics := none
  mirror := none

def pool0 : Array CpInfo := pool [(5, u "<init>"), (0, u "()V"), (1, .class_ 10), (1, u "java/lang/Object")] 113

def k0m0 : Method := { name := "<init>", desc := "()V", sig := { parameters := [], returnType := none }, accessFlags := 1, code := none }
/-- java/lang/Object -/
def k0 : Class := { plain "java/lang/Object" none with
  accessFlags := 33
  interfaces := #[]
  cf := some (fileOf pool0 8 #[] #[{ accessFlags := 1, nameIndex := 5, descriptorIndex := 6, attributes := #[] }] 33 0 #[] #[])
  fields := #[]
  methods := #[k0m0]
  instanceTypes := #[]
  staticTypes := #[]
  resolved := Array.replicate 124 none
  statics := none }

def pool1 : Array CpInfo := pool [(2, .class_ 4), (1, u "java/lang/Object"), (0, u "<init>"), (0, u "()V"), (0, .integer 2147483647), (0, .methodref 9 10), (0, .class_ 11), (0, .nameAndType 12 13), (0, u "com/example/gridfront/gridfront/selection/ParetoDominatesPinLaw"), (0, u "comp"), (0, u "(JI)I"), (0, .methodref 15 16), (0, .class_ 17), (0, .nameAndType 18 19), (0, u "com/example/gridfront/gridfront/selection/Pareto"), (0, u "dominates"), (0, u "([D[D)Z"), (2, u "law"), (0, u "(JJI)Z")] 5

def k1m0 : Method := { name := "<init>", desc := "()V", sig := { parameters := [], returnType := none }, accessFlags := 2, code := none }
def k1c1 : Code := { maxStack := 4, maxLocals := 3, code := method_2_code, exceptionTable := #[], attributes := #[] }
def k1m1 : Method := { name := "comp", desc := "(JI)I", sig := { parameters := [.long, .int], returnType := some .int }, accessFlags := 10, code := some k1c1 }
def k1c2 : Code := { maxStack := 4, maxLocals := 19, code := code, exceptionTable := #[], attributes := #[] }
def k1m2 : Method := { name := "law", desc := "(JJI)Z", sig := { parameters := [.long, .long, .int], returnType := some .boolean }, accessFlags := 9, code := some k1c2 }
/-- com/example/gridfront/gridfront/selection/ParetoDominatesPinLaw -/
def k1 : Class := { plain "com/example/gridfront/gridfront/selection/ParetoDominatesPinLaw" (some 0) with
  accessFlags := 49
  interfaces := #[]
  cf := some (fileOf pool1 9 #[] #[{ accessFlags := 2, nameIndex := 5, descriptorIndex := 6, attributes := #[] }, { accessFlags := 10, nameIndex := 12, descriptorIndex := 13, attributes := #[] }, { accessFlags := 9, nameIndex := 22, descriptorIndex := 23, attributes := #[] }] 49 2 #[] #[])
  fields := #[]
  methods := #[k1m0, k1m1, k1m2]
  instanceTypes := #[]
  staticTypes := #[]
  resolved := Array.replicate 29 none
  statics := none }

def pool2 : Array CpInfo := pool [(2, .class_ 4), (1, u "java/lang/Object"), (0, u "<init>"), (0, u "()V"), (13, .class_ 22), (1, u "com/example/gridfront/gridfront/selection/Pareto"), (0, u "dominates"), (0, u "([D[D)Z")] 36

def k2m0 : Method := { name := "<init>", desc := "()V", sig := { parameters := [], returnType := none }, accessFlags := 2, code := none }
def k2c1 : Code := { maxStack := 5, maxLocals := 4, code := prog_32_method_2_code, exceptionTable := #[], attributes := #[] }
def k2m1 : Method := { name := "dominates", desc := "([D[D)Z", sig := { parameters := [(.array .double), (.array .double)], returnType := some .boolean }, accessFlags := 8, code := some k2c1 }
/-- com/example/gridfront/gridfront/selection/Pareto -/
def k2 : Class := { plain "com/example/gridfront/gridfront/selection/Pareto" (some 0) with
  accessFlags := 48
  interfaces := #[]
  cf := some (fileOf pool2 20 #[] #[{ accessFlags := 2, nameIndex := 5, descriptorIndex := 6, attributes := #[] }, { accessFlags := 8, nameIndex := 23, descriptorIndex := 24, attributes := #[] }] 48 2 #[] #[])
  fields := #[]
  methods := #[k2m0, k2m1]
  instanceTypes := #[]
  staticTypes := #[]
  resolved := Array.replicate 61 none
  statics := none }

def pool3 : Array CpInfo := pool [(1, u "java/lang/Cloneable"), (0, .class_ 1), (0, u "java/lang/Object"), (0, .class_ 3)] 3

/-- java/lang/Cloneable -/
def k3 : Class := { plain "java/lang/Cloneable" (some 0) with
  accessFlags := 1537
  interfaces := #[]
  cf := some (fileOf pool3 2 #[] #[] 1537 4 #[] #[])
  fields := #[]
  methods := #[]
  instanceTypes := #[]
  staticTypes := #[]
  resolved := Array.replicate 8 none
  statics := none }

def pool4 : Array CpInfo := pool [(1, u "java/io/Serializable"), (0, .class_ 1), (0, u "java/lang/Object"), (0, .class_ 3)] 3

/-- java/io/Serializable -/
def k4 : Class := { plain "java/io/Serializable" (some 0) with
  accessFlags := 1537
  interfaces := #[]
  cf := some (fileOf pool4 2 #[] #[] 1537 4 #[] #[])
  fields := #[]
  methods := #[]
  instanceTypes := #[]
  staticTypes := #[]
  resolved := Array.replicate 8 none
  statics := none }

/-- the primitive byte -/
def k5 : Class := { plain "byte" none with kind := .primitive 'B', accessFlags := 0x411 }
/-- [B -/
def k6 : Class := { plain "[B" (some 0) with kind := .array 5 .byte, interfaces := #[3, 4], accessFlags := 1041 }

/-- the primitive double -/
def k7 : Class := { plain "double" none with kind := .primitive 'D', accessFlags := 0x411 }
/-- [D -/
def k8 : Class := { plain "[D" (some 0) with kind := .array 7 .double, interfaces := #[3, 4], accessFlags := 1041 }

def heap : Heap := #[]
def classes : Array Class := #[k0, k1, k2, k3, k4, k5, k6, k7, k8]
def interned : List (Array UInt16 × Addr) := []
def slotsUsed : Nat := 0
def theMethod : MethodId := ⟨1, 2⟩
def args0 : Array Value := #[.long 5, .long 300, .int 3]
def aboutOver (below : List Frame) : State where
  vm := { classes := classes, interned := interned.toArray }
  heap := heap
  slotsUsed := slotsUsed
  threads := #[{ frames := .invoking theMethod args0 :: below }]
def below0 : List Frame := [.native { method := ⟨0, 0⟩, args := #[] }]
def about1 : State := aboutOver below0
def p0 : Program := .bare "" "" ""
def e0 : Env := launch0.env 0 0 0
theorem w_frames : about1.frames = Frame.invoking theMethod args0 :: below0 := rfl
set_option maxRecDepth 65536 in
theorem w_args : argsFit about1.vm theMethod args0 = true := by decide +kernel
set_option maxRecDepth 65536 in
theorem w_heap : heapFits about1 = true := by decide +kernel
set_option maxRecDepth 65536 in
theorem w_runnable : about1.curStatus? = some .runnable := by decide +kernel
set_option maxRecDepth 65536 in
theorem w_alone : about1.alone = true := by decide +kernel
set_option maxRecDepth 65536 in
theorem w_named : about1.methodNamed? x = some theMethod := by decide +kernel
set_option maxRecDepth 65536 in
theorem w_hears : about1.hears theMethod below0 = true := by decide +kernel
set_option maxRecDepth 65536 in
theorem w_ripe : about1.ripe theMethod args0 below0 = true := by decide +kernel
theorem w_running : about1.status = .running := rfl
set_option maxRecDepth 65536 in
theorem w_room : about1.hasRoom e0.platform room_1 = true :=
  launch0.hasRoom_least _ room_1 (by decide +kernel) (by decide +kernel) (by decide +kernel) (by decide +kernel) (by decide +kernel) (by decide +kernel)
theorem allAtoms_all (ts : List Jvm.Cond) (a : Array Jvm.Value) (st : Jvm.State) : (allAtoms ts).before a st = ts.all (fun c => c.before a st) := by
  induction ts with
  | nil => rfl
  | cons c t ih =>
    show (Jvm.Cond.and c (allAtoms t)).before a st = _
    rw [Jvm.Cond.before_and, ih, List.all_cons]
def words1 : List Jvm.Cond := Jvm.Cond.code x code maxLocals ret :: tables_1
/-- a 'code' word, met by the world's own term for the bytes: nothing is compared byte by byte -/
theorem code_word {y : MethodName} {bytes : ByteArray} {mx : Nat} {rt : Option FieldType} {a : Array Value} {s : State} {m : MethodId} {meth : Method} {c : Code} (h1 : s.methodNamed? y = some m) (h2 : s.vm.method? m = some meth) (h3 : meth.code = some c) (h4 : c.code = bytes)
    (h5 : (c.maxLocals == mx && c.exceptionTable.isEmpty && decide (c.maxStack ≤ mostOperands) && decide (meth.sig.returnType = rt) && !meth.locks && decide (parseMethodDescriptor y.desc = some meth.sig)) = true) : (Jvm.Cond.code y bytes mx rt).before a s = true := by
  simp only [Bool.and_eq_true, beq_iff_eq, Bool.not_eq_true', decide_eq_true_eq] at h5
  obtain ⟨⟨⟨⟨⟨g1, g2⟩, g3⟩, g4⟩, g5⟩, g6⟩ := h5
  simp [Cond.before, Cond.holds, Cond.value, h1, h2, h3, h4, g1, g2, g3, g4, g5, g6]
def isCode : Jvm.Cond → Bool
  | .code _ _ _ _ => true
  | _ => false
theorem all_split {L : List Jvm.Cond} {P : Jvm.Cond → Bool} (h1 : L.all (fun c => isCode c || P c) = true) (h2 : ∀ c ∈ L.filter isCode, P c = true) : L.all P = true := by
  refine List.all_eq_true.mpr fun c hc => ?_
  have h := List.all_eq_true.mp h1 c hc
  rcases Bool.eq_false_or_eq_true (isCode c) with hi | hi
  · exact h2 c (List.mem_filter.mpr ⟨hc, hi⟩)
  · simpa [hi] using h
set_option maxRecDepth 65536 in
theorem w_c0 : (Jvm.Cond.code x code maxLocals ret).before args0 about1 = true := code_word (m := ⟨1, 2⟩) (meth := k1m2) (c := k1c2) (by decide +kernel) rfl rfl rfl (by decide +kernel)
set_option maxRecDepth 65536 in
theorem w_c1 : (Jvm.Cond.code ({ cls := "com/example/gridfront/gridfront/selection/ParetoDominatesPinLaw", name := "comp", desc := "(JI)I" } : Jvm.MethodName) method_2_code (3 : Nat) (Option.some Jvm.ClassFile.FieldType.int)).before args0 about1 = true := code_word (m := ⟨1, 1⟩) (meth := k1m1) (c := k1c1) (by decide +kernel) rfl rfl rfl (by decide +kernel)
set_option maxRecDepth 65536 in
theorem w_c2 : (Jvm.Cond.code ({ cls := "com/example/gridfront/gridfront/selection/Pareto", name := "dominates", desc := "([D[D)Z" } : Jvm.MethodName) prog_32_method_2_code (4 : Nat) (Option.some Jvm.ClassFile.FieldType.boolean)).before args0 about1 = true := code_word (m := ⟨2, 1⟩) (meth := k2m1) (c := k2c1) (by decide +kernel) rfl rfl rfl (by decide +kernel)
def codes1 : List Jvm.Cond := [Jvm.Cond.code x code maxLocals ret, Jvm.Cond.code ({ cls := "com/example/gridfront/gridfront/selection/ParetoDominatesPinLaw", name := "comp", desc := "(JI)I" } : Jvm.MethodName) method_2_code (3 : Nat) (Option.some Jvm.ClassFile.FieldType.int), Jvm.Cond.code ({ cls := "com/example/gridfront/gridfront/selection/Pareto", name := "dominates", desc := "([D[D)Z" } : Jvm.MethodName) prog_32_method_2_code (4 : Nat) (Option.some Jvm.ClassFile.FieldType.boolean)]
set_option maxRecDepth 65536 in
theorem codes_eq : words1.filter isCode = codes1 := rfl
theorem w_codes : ∀ c ∈ words1.filter isCode, c.before args0 about1 = true := by
  rw [codes_eq]
  intro c hc
  simp only [codes1, List.mem_cons, List.not_mem_nil, or_false] at hc
  rcases hc with rfl | rfl | rfl
  · exact w_c0
  · exact w_c1
  · exact w_c2
set_option maxRecDepth 65536 in
theorem w_t1 : words1.all (fun c => isCode c || c.before args0 about1) = true := by decide +kernel
theorem w_tables : (allAtoms (Jvm.Cond.code x code maxLocals ret :: tables_1)).before args0 about1 = true := by
  rw [allAtoms_all]
  show words1.all (fun c => c.before args0 about1) = true
  refine all_split ?_ w_codes
  rw [w_t1]
set_option maxRecDepth 65536 in
theorem w_case : (Jvm.Cond.and given_1 narrow_1).before args0 about1 = true := by decide +kernel
theorem w_applies : (headSpec (Jvm.Cond.code x code maxLocals ret :: tables_1) room_1).applies x e0.platform about1 = true :=
  (Spec.applies_iff w_frames).mpr ⟨w_running, w_runnable, w_alone, w_named, w_hears, w_ripe, w_room, w_tables⟩
theorem atStart : AtStart classFile x code maxLocals ret World_1 tables_1 room_1 Calls_1 rest_1 Pre_1 launch0 p0 e0 about1 theMethod args0 below0 :=
  ⟨lists_1, trivial, launch0.admits_env _ _ _, launch0.least_env, fairChoices_fair.cas, fairChoices_fair.clock, w_frames, w_args, w_heap, w_applies, trivial, trivial, w_case⟩
end start1
theorem witness_1 : WitnessClaimed_1 := ⟨start1.p0, start1.e0, start1.about1, start1.theMethod, start1.args0, start1.below0, start1.atStart⟩
end Jvm.Pilot.@@N@@
