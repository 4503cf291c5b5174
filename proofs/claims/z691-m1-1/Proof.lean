import JvmDerived
import JvmDerived.Pilot.@@N@@Statement
import JvmDerived.Pilot.@@N@@Code
set_option linter.unusedVariables false
set_option linter.unusedSimpArgs false
@@BLOCK:NumsL.lean.txt@@
namespace Jvm.RoadKit
open Sem ClassFile Op Lib Jvm.Stand Jvm.Free Jvm.LawKit
section New
variable {p : Program} {l : Launch} {e : Env} {R : Room} {s : State} {m : MethodId} {args : Array Value} {below : List Frame} {meth : Method} {c : Code} {T : State} {locs : List Loc} {cells slots : Nat}
theorem retI (X : Stand p l e R s m args below meth c T locs cells slots) (hx : p.tables.exec = Jvm.exec) {pc : Nat} {Ls : Array Slot} {z : Int32} {rest : List Value} (hret : meth.sig.returnType = some .int) (hd : decode c.code pc = .ok (.ireturn, 1)) {fs : List Frame}
    (hl : ∀ (f : JFrame) (acts : List Action), f.method = m → f.locked = none → f.entered = [] → (doReturn e (T.setTop f) acts (some (.int z))).1 = T.setFrames fs) : Steps p.tables e below (T.setTop (mkF m pc Ls (.int z :: rest))) (T.setFrames fs) := by
  have hm' : T.vm.method? m = some meth := X.method'
  have hn : narrow .int (.int z) = .int z := rfl
  show Steps p.tables e below (T.setTop { method := m, pc := pc, locals := Ls, stack := _ :: rest, locked := none }) _
  jvm_step X.here [X.here.top, hx, hd, hm', hret, hn]
  first | (intro acts; rw [hl _ acts rfl rfl rfl]) | rw [hl _ _ rfl rfl rfl]
  exact Steps.refl _
end New
end Jvm.RoadKit
namespace Jvm.Pilot.@@N@@
open Jvm Jvm.ClassFile Sem Op Lib Jvm.Free Jvm.Stand Jvm.LawKit Jvm.RoadKit Bundle Jvm.Pilot.@@N@@.Jvm.D
theorem own_ns_root {Z : State} {a0 : Array Value} {O K : String} {n : Nat} (w : (Cond.noSuperclass O).before a0 Z = true) (wk : (Cond.instantiable K n).before a0 Z = true) (hn : O ≠ K) : NS Z O K := by
  obtain ⟨c, k, h1, h2, h3, -, -⟩ := Cond.noSuperclass_spec w
  obtain ⟨t, kt, g1, -⟩ := Cond.instantiable_spec wk
  have ne := ids_ne h1 g1 hn
  refine ⟨c, t, h1, g1, fun fuel => ?_⟩
  cases fuel with
  | zero => rfl
  | succ f => simp [Vm.isSubclassAux, ne, h2, h3]
theorem own_ns_no {Z : State} {a0 : Array Value} {C S K : String} {n : Nat} (w : (Cond.superclass C S).before a0 Z = true) (wk : (Cond.instantiable K n).before a0 Z = true) (q : NS Z C K) (hn : C ≠ K) : ∃ c t, Z.vm.findClass C = some c ∧ Z.vm.findClass K = some t ∧ Z.vm.assignable c t = false := by
  obtain ⟨c, t, h0, g0, n3⟩ := q
  obtain ⟨p, k, kp, h1, h2, h3, h4, h5, -, h7⟩ := Cond.superclass_spec h0 w
  obtain ⟨t', kt, g1, g2, g3, g4, -⟩ := Cond.instantiable_spec wk
  cases g0.symm.trans g1
  have g5 : kt.isInterface = false := (Bool.or_eq_false_iff.mp g4).1
  have ne := ids_ne h0 g0 hn
  refine ⟨c, t, h0, g0, ?_⟩
  show Z.vm.assignableAux (255 + 1) c t = false
  simp [Vm.assignableAux, ne, h2, g2, h5, g3, g5, Vm.isSubclass, n3]
theorem d6_0 : decode jdk_18_method_1_code 0 = .ok (.aload_n 0, 1) := by decide +kernel
theorem d6_1 : decode jdk_18_method_1_code 1 = .ok (.invokespecial 1, 3) := by decide +kernel
theorem d6_4 : decode jdk_18_method_1_code 4 = .ok (.return_, 1) := by decide +kernel
theorem pn6 : plainName "java/lang/Number" = true := by first | (simp [plainName, overriddenIn]; done) | decide +kernel
theorem ef6 (m : MethodId) (a1 : Addr) : entryFrame m #[(.ref a1)] 1 = mkF m 0 #[.val (.ref a1)] [] := by first | (simp [entryFrame, mkF, argsToLocals, Value.category]; done) | rfl
def Q6 (Z : State) (a1 : Addr) (h0 : Heap) (n0 : Nat) (v : Option Value) (h : Heap) (L : List Loc) : Prop := v = none ∧ Fr n0 L ∧ h = h0
set_option maxRecDepth 65536 in
set_option maxHeartbeats 40000000 in
theorem rm6 (l : Launch) (Z : State) (a0 : Array Value) (hw : ∀ d ∈ tables_1, d.before a0 Z = true) (ws : List Jvm.Cond) (a1 : Addr) (h0 : Heap) (n0 : Nat) (Z0 : n0 ≤ h0.size) :
    MetFree l (⟨"java/lang/Number", "<init>", "()V"⟩ : MethodName) (head1 (Jvm.Cond.code (⟨"java/lang/Number", "<init>", "()V"⟩ : MethodName) jdk_18_method_1_code 1 none :: ws) ({ frames := 1, cells := 0, slots := 0, locals := 12 } : Room)) (fun a U => a = #[(.ref a1)] ∧ Z.Warmed39 U.vm ∧ U.heap = h0) (fun _ _ _ _ _ => True) (fun _ U o U' => ∃ v L, o = .returned v ∧ Q6 Z a1 h0 n0 v U'.heap L ∧ FrameEnd U o U' L ({ frames := 1, cells := 0, slots := 0, locals := 12 } : Room).cells ({ frames := 1, cells := 0, slots := 0, locals := 12 } : Room).slots) := by
  refine MetFree.of_bodySF (plainFor_of_name pn6) hisR ?_
  intro p e s m args below meth c s₁ Bd hml0 hP hK
  obtain ⟨rfl, hZ, hh⟩ := hP
  have hx := Bd.exec
  have hby := Bd.bytes
  have hml : c.maxLocals = 1 := hml0
  have hown : s.vm.findClass "java/lang/Number" = some m.cls := findClass_of_methodNamed Bd.named
  have hnm := (name_of_methodNamed Bd.named Bd.method).1
  have X0 : Stand p l e ({ frames := 1, cells := 0, slots := 0, locals := 12 } : Room) s m #[(.ref a1)] below meth c s₁ [] 0 0 := Stand.of_body Bd
  have e0 : s₁.heap = h0 := by rw [← hh, Bd.state]; rfl
  have N0 := Fr.nil n0
  have pre0 : ∀ t, Steps p.tables e below (s₁.setTop (mkF m 0 #[.val (.ref a1)] [])) t → Steps p.tables e below (s₁.setTop (entryFrame m #[(.ref a1)] 1)) t := fun t k => castTop (ef6 m a1) k
  obtain ⟨T1, X1, e1, st1⟩ := initO X0 hx hZ hown (hw _ (List.mem_of_getElem? (i := 40) rfl)) (hw _ (List.mem_of_getElem? (i := 7) rfl)) (hw _ (List.mem_of_getElem? (i := 8) rfl)) e0 (g := (mkF m 1 #[.val (.ref a1)] [(.ref a1)])) rfl (by rw [hml]; rfl) rfl (hb hby d6_1) (by decide) (W := 0) (by show 2 * 0 + _ ≤ _; exact Nat.le_of_eq rfl) (by decide)
  obtain ⟨fs, hr, hrun, hended, hW, hsame⟩ := X1.leave (v := none) (fun _ => rfl)
  refine ⟨_, _, pre0 _ ?_, hrun, hended, _, _, rfl, ?_, ⟨_, rfl⟩, hW, hsame.mono (by decide) (by decide)⟩
  · show Steps p.tables e below (s₁.setTop (mkF m 0 #[.val (.ref a1)] [])) _
    refine XS.aloadN X0.here hx rfl (hb hby d6_0) rfl rfl ?_
    show Steps p.tables e below (s₁.setTop (mkF m 1 #[.val (.ref a1)] [(.ref a1)])) _
    refine st1 _ ?_
    show Steps p.tables e below (T1.setTop (mkF m 4 #[.val (.ref a1)] [])) _
    exact X1.returnOut hx Bd.returns (hb hby d6_4) hr
  · show Q6 Z a1 h0 n0 _ T1.heap _
    rw [e1]
    exact ⟨rfl, N0, rfl⟩
theorem d5_0 : decode jdk_35_method_26_code 0 = .ok (.aload_n 0, 1) := by decide +kernel
theorem d5_1 : decode jdk_35_method_26_code 1 = .ok (.invokespecial 270, 3) := by decide +kernel
theorem d5_4 : decode jdk_35_method_26_code 4 = .ok (.aload_n 0, 1) := by decide +kernel
theorem d5_5 : decode jdk_35_method_26_code 5 = .ok (.lload_n 1, 1) := by decide +kernel
theorem d5_6 : decode jdk_35_method_26_code 6 = .ok (.putfield 273, 3) := by decide +kernel
theorem d5_9 : decode jdk_35_method_26_code 9 = .ok (.return_, 1) := by decide +kernel
theorem pn5 : plainName "java/lang/Long" = true := by first | (simp [plainName, overriddenIn]; done) | decide +kernel
theorem pd5_0 : parseMethodDescriptor "()V" = some ⟨[], none⟩ := by decide +kernel
theorem ef5 (m : MethodId) (a1 : Addr) (q2 : Int64) : entryFrame m #[(.ref a1), (.long q2)] 3 = mkF m 0 #[.val (.ref a1), .val (.long q2), .second] [] := by first | (simp [entryFrame, mkF, argsToLocals, Value.category]; done) | rfl
def Q5 (Z : State) (a1 : Addr) (q2 : Int64) (h0 : Heap) (n0 : Nat) (v : Option Value) (h : Heap) (L : List Loc) : Prop := v = none ∧ Fr n0 L ∧ Keep h0 h [a1] ∧ Exa Z h a1 "java/lang/Long" ∧ Fld Z h a1 "java/lang/Long" "value" "J" (.long q2)
set_option maxRecDepth 65536 in
set_option maxHeartbeats 40000000 in
theorem rm5 (l : Launch) (Z : State) (a0 : Array Value) (hw : ∀ d ∈ tables_1, d.before a0 Z = true) (ws : List Jvm.Cond) (a1 : Addr) (q2 : Int64) (h0 : Heap) (n0 : Nat) (Z0 : n0 ≤ h0.size) (E1 : Exa Z h0 a1 "java/lang/Long") (F_value : Fld Z h0 a1 "java/lang/Long" "value" "J" (.long (0 : Int64))) (g1 : n0 ≤ a1) :
    MetFree l (⟨"java/lang/Long", "<init>", "(J)V"⟩ : MethodName) (head1 (Jvm.Cond.code (⟨"java/lang/Long", "<init>", "(J)V"⟩ : MethodName) jdk_35_method_26_code 3 none :: ws) ({ frames := 2, cells := 0, slots := 0, locals := 24 } : Room)) (fun a U => a = #[(.ref a1), (.long q2)] ∧ Z.Warmed39 U.vm ∧ U.heap = h0) (fun _ _ _ _ _ => True) (fun _ U o U' => ∃ v L, o = .returned v ∧ Q5 Z a1 q2 h0 n0 v U'.heap L ∧ FrameEnd U o U' L ({ frames := 2, cells := 0, slots := 0, locals := 24 } : Room).cells ({ frames := 2, cells := 0, slots := 0, locals := 24 } : Room).slots) := by
  refine MetFree.of_bodySF (plainFor_of_name pn5) hisR ?_
  intro p e s m args below meth c s₁ Bd hml0 hP hK
  obtain ⟨rfl, hZ, hh⟩ := hP
  have hx := Bd.exec
  have hby := Bd.bytes
  have hml : c.maxLocals = 3 := hml0
  have hown : s.vm.findClass "java/lang/Long" = some m.cls := findClass_of_methodNamed Bd.named
  have hnm := (name_of_methodNamed Bd.named Bd.method).1
  have X0 : Stand p l e ({ frames := 2, cells := 0, slots := 0, locals := 24 } : Room) s m #[(.ref a1), (.long q2)] below meth c s₁ [] 0 0 := Stand.of_body Bd
  have e0 : s₁.heap = h0 := by rw [← hh, Bd.state]; rfl
  have N0 := Fr.nil n0
  have pre0 : ∀ t, Steps p.tables e below (s₁.setTop (mkF m 0 #[.val (.ref a1), .val (.long q2), .second] [])) t → Steps p.tables e below (s₁.setTop (entryFrame m #[(.ref a1), (.long q2)] 3)) t := fun t k => castTop (ef5 m a1 q2) k
  obtain ⟨_, _, ⟨T1, L1, k1, n1⟩, -, X1, ⟨Lc1, hQ1, l1, y1, z1⟩, st1⟩ := X0.specialBack hx (y := (⟨"java/lang/Number", "<init>", "()V"⟩ : MethodName)) rfl hown (mvT hZ (hw _ (List.mem_of_getElem? (i := 34) rfl))) (mvT hZ (hw _ (List.mem_of_getElem? (i := 35) rfl))) (mvT hZ (hw _ (List.mem_of_getElem? (i := 39) rfl))) (by decide) (backOf (W := 0) (rm6 l Z a0 hw [] a1 h0 n0 Z0 ) hZ (hw _ (List.mem_of_getElem? (i := 39) rfl)) (hw _ (List.mem_of_getElem? (i := 38) rfl)) (by decide) (by decide)) (g := (mkF m 1 #[.val (.ref a1), .val (.long q2), .second] [(.ref a1)])) rfl (by rw [hml]; rfl) (Steps.refl _) (a := a1) (argsL := []) (rest := []) (lenOf pd5_0 rfl) rfl (by show 2 * 0 + _ ≤ _; exact Nat.le_of_eq rfl) (hb hby d5_1) (fun _ _ => ⟨rfl, e0, (by decide : 0 + 0 ≤ _), (by decide : 0 + 0 ≤ _)⟩)
  dsimp only [Pt.U, Pt.locs, Pt.cells, Pt.slots] at X1 l1 y1 z1 st1 hQ1
  subst l1 y1 z1
  obtain ⟨rfl, N1q, e1⟩ := hQ1
  have N1 := Fr.app N0 N1q
  obtain ⟨T2, h2, X2, e2, W2, st2⟩ := putF X1 hx hZ hown (host := "") (Or.inl (hw _ (List.mem_of_getElem? (i := 41) rfl))) Via.refl e1 F_value E1 (Or.inr ⟨(hw _ (List.mem_of_getElem? (i := 42) rfl)), rfl, hnm⟩) (hw _ (List.mem_of_getElem? (i := 29) rfl)) (ty := .long) (by decide) rfl rfl (g := (mkF m 6 #[.val (.ref a1), .val (.long q2), .second] [(.long q2), (.ref a1)])) rfl rfl (hb hby d5_6)
  have f2_E_a1 := E1.wr W2
  have f2_F_a1_value := F_value.same W2
  have N2 := Fr.snoc X2 N1 g1
  have K2 := (Keep.refl h0 [a1]).wr W2 (Or.inl (List.mem_of_getElem? (i := 0) rfl))
  have Z2 : n0 ≤ h2.size := Nat.le_trans Z0 (Keep.of_wr W2).1
  obtain ⟨fs, hr, hrun, hended, hW, hsame⟩ := X2.leave (v := none) (fun _ => rfl)
  refine ⟨_, _, pre0 _ ?_, hrun, hended, _, _, rfl, ?_, ⟨_, rfl⟩, hW, hsame.mono (by decide) (by decide)⟩
  · show Steps p.tables e below (s₁.setTop (mkF m 0 #[.val (.ref a1), .val (.long q2), .second] [])) _
    refine XS.aloadN X0.here hx rfl (hb hby d5_0) rfl rfl ?_
    show Steps p.tables e below (s₁.setTop (mkF m 1 #[.val (.ref a1), .val (.long q2), .second] [(.ref a1)])) _
    refine st1.trans ?_
    show Steps p.tables e below (T1.setTop (mkF m 4 #[.val (.ref a1), .val (.long q2), .second] [])) _
    refine XS.aloadN X1.here hx rfl (hb hby d5_4) rfl rfl ?_
    show Steps p.tables e below (T1.setTop (mkF m 5 #[.val (.ref a1), .val (.long q2), .second] [(.ref a1)])) _
    refine XS.lloadN X1.here hx rfl (hb hby d5_5) rfl ?_
    show Steps p.tables e below (T1.setTop (mkF m 6 #[.val (.ref a1), .val (.long q2), .second] [(.long q2), (.ref a1)])) _
    refine st2 _ ?_
    show Steps p.tables e below (T2.setTop (mkF m 9 #[.val (.ref a1), .val (.long q2), .second] [])) _
    exact X2.returnOut hx Bd.returns (hb hby d5_9) hr
  · show Q5 Z a1 q2 h0 n0 _ T2.heap _
    rw [e2]
    exact ⟨rfl, N2, K2, f2_E_a1, f2_F_a1_value⟩
theorem own_idx (q : Int64) (h1 : ¬ q < (-128 : Int64)) (h2 : ¬ (127 : Int64) < q) : ¬ ((q.toInt32 + (128 : Int32)) < 0 ∨ 256 ≤ ((q.toInt32 + (128 : Int32))).toNatClampNeg) := by
  have a : ¬ q.toInt < -128 := fun z => h1 (Int64.lt_iff_toInt_lt.mpr z)
  have b : ¬ 127 < q.toInt := fun z => h2 (Int64.lt_iff_toInt_lt.mpr z)
  have e : q.toInt32.toInt = q.toInt := Jvm.Kit.i32_of_i64 (by omega) (by omega)
  have g : (q.toInt32 + (128 : Int32)).toInt = q.toInt + 128 := by
    have := Jvm.Kit.i32_add (p := q.toInt32) (q := 128) (by show -2 ^ 31 ≤ q.toInt32.toInt + 128; omega) (by show q.toInt32.toInt + 128 < 2 ^ 31; omega)
    rw [this, e]; rfl
  rintro (z | z)
  · have : (q.toInt32 + (128 : Int32)).toInt < 0 := Int32.lt_iff_toInt_lt.mp z
    omega
  · have : 256 ≤ (q.toInt32 + (128 : Int32)).toInt.toNat := z
    omega
theorem d4_0 : decode jdk_35_method_24_code 0 = .ok (.sipush 128, 3) := by decide +kernel
theorem d4_3 : decode jdk_35_method_24_code 3 = .ok (.istore_n 2, 1) := by decide +kernel
theorem d4_4 : decode jdk_35_method_24_code 4 = .ok (.lload_n 0, 1) := by decide +kernel
theorem d4_5 : decode jdk_35_method_24_code 5 = .ok (.ldc2_w 230, 3) := by decide +kernel
theorem d4_8 : decode jdk_35_method_24_code 8 = .ok (.lcmp, 1) := by decide +kernel
theorem d4_9 : decode jdk_35_method_24_code 9 = .ok (.ifCond .lt 22, 3) := by decide +kernel
theorem d4_12 : decode jdk_35_method_24_code 12 = .ok (.lload_n 0, 1) := by decide +kernel
theorem d4_13 : decode jdk_35_method_24_code 13 = .ok (.ldc2_w 232, 3) := by decide +kernel
theorem d4_16 : decode jdk_35_method_24_code 16 = .ok (.lcmp, 1) := by decide +kernel
theorem d4_17 : decode jdk_35_method_24_code 17 = .ok (.ifCond .gt 14, 3) := by decide +kernel
theorem d4_20 : decode jdk_35_method_24_code 20 = .ok (.getstatic 234, 3) := by decide +kernel
theorem d4_23 : decode jdk_35_method_24_code 23 = .ok (.lload_n 0, 1) := by decide +kernel
theorem d4_24 : decode jdk_35_method_24_code 24 = .ok (.l2i, 1) := by decide +kernel
theorem d4_25 : decode jdk_35_method_24_code 25 = .ok (.sipush 128, 3) := by decide +kernel
theorem d4_28 : decode jdk_35_method_24_code 28 = .ok (.iadd, 1) := by decide +kernel
theorem d4_29 : decode jdk_35_method_24_code 29 = .ok (.aaload, 1) := by decide +kernel
theorem d4_30 : decode jdk_35_method_24_code 30 = .ok (.areturn, 1) := by decide +kernel
theorem d4_31 : decode jdk_35_method_24_code 31 = .ok (.new 1, 3) := by decide +kernel
theorem d4_34 : decode jdk_35_method_24_code 34 = .ok (.dup, 1) := by decide +kernel
theorem d4_35 : decode jdk_35_method_24_code 35 = .ok (.lload_n 0, 1) := by decide +kernel
theorem d4_36 : decode jdk_35_method_24_code 36 = .ok (.invokespecial 240, 3) := by decide +kernel
theorem d4_39 : decode jdk_35_method_24_code 39 = .ok (.areturn, 1) := by decide +kernel
theorem pn4 : plainName "java/lang/Long" = true := by first | (simp [plainName, overriddenIn]; done) | decide +kernel
theorem pd4_0 : parseMethodDescriptor "(J)V" = some ⟨[.long], none⟩ := by decide +kernel
theorem ef4 (m : MethodId) (q1 : Int64) : entryFrame m #[(.long q1)] 3 = mkF m 0 #[.val (.long q1), .second, .unset] [] := by first | (simp [entryFrame, mkF, argsToLocals, Value.category]; done) | rfl
def Q4 (Z : State) (q1 : Int64) (ca : Addr) (clc : Cell) (h0 : Heap) (n0 : Nat) (v : Option Value) (h : Heap) (L : List Loc) : Prop := ∃ r : Addr, v = some (.ref r) ∧ Fr n0 L ∧ Keep h0 h [] ∧ Exa Z h r "java/lang/Long"
set_option maxRecDepth 65536 in
set_option maxHeartbeats 40000000 in
theorem rm4 (l : Launch) (Z : State) (a0 : Array Value) (hw : ∀ d ∈ tables_1, d.before a0 Z = true) (ws : List Jvm.Cond) (q1 : Int64) (ca : Addr) (clc : Cell) (h0 : Heap) (n0 : Nat) (Z0 : n0 ≤ h0.size) (Ol : Old Z n0 h0) (S0 : Sta Z Z.heap "java/lang/Long$LongCache" "cache" "[Ljava/lang/Long;" (.ref ca)) (Arc : Arr Z Z.heap ca clc (.object "java/lang/Long")) (hsz : clc.slots.size = 256) (hel : ∀ j : Int32, ¬ (j < 0 ∨ clc.slots.size ≤ j.toNatClampNeg) → ∃ b : Addr, clc.slots[j.toNatClampNeg]? = some (.ref b) ∧ Exa Z Z.heap b "java/lang/Long") :
    MetFree l (⟨"java/lang/Long", "valueOf", "(J)Ljava/lang/Long;"⟩ : MethodName) (head1 (Jvm.Cond.code (⟨"java/lang/Long", "valueOf", "(J)Ljava/lang/Long;"⟩ : MethodName) jdk_35_method_24_code 3 (some (.object "java/lang/Long")) :: ws) ({ frames := 3, cells := 1, slots := 1, locals := 39 } : Room)) (fun a U => a = #[(.long q1)] ∧ Z.Warmed39 U.vm ∧ U.heap = h0) (fun _ _ _ _ _ => True) (fun _ U o U' => ∃ v L, o = .returned v ∧ Q4 Z q1 ca clc h0 n0 v U'.heap L ∧ FrameEnd U o U' L ({ frames := 3, cells := 1, slots := 1, locals := 39 } : Room).cells ({ frames := 3, cells := 1, slots := 1, locals := 39 } : Room).slots) := by
  refine MetFree.of_bodySF (plainFor_of_name pn4) hisR ?_
  intro p e s m args below meth c s₁ Bd hml0 hP hK
  obtain ⟨rfl, hZ, hh⟩ := hP
  have hx := Bd.exec
  have hby := Bd.bytes
  have hml : c.maxLocals = 3 := hml0
  have hown : s.vm.findClass "java/lang/Long" = some m.cls := findClass_of_methodNamed Bd.named
  have hnm := (name_of_methodNamed Bd.named Bd.method).1
  have X0 : Stand p l e ({ frames := 3, cells := 1, slots := 1, locals := 39 } : Room) s m #[(.long q1)] below meth c s₁ [] 0 0 := Stand.of_body Bd
  have e0 : s₁.heap = h0 := by rw [← hh, Bd.state]; rfl
  have N0 := Fr.nil n0
  have pre0 : ∀ t, Steps p.tables e below (s₁.setTop (mkF m 0 #[.val (.long q1), .second, .unset] [])) t → Steps p.tables e below (s₁.setTop (entryFrame m #[(.long q1)] 3)) t := fun t k => castTop (ef4 m q1) k
  have c1 : ∀ t, Steps p.tables e below (s₁.setTop (mkF m 9 #[.val (.long q1), .second, .val (.int (128 : Int32))] [(.int (lcmpW q1 (-128 : Int64)))])) t → Steps p.tables e below (s₁.setTop (entryFrame m #[(.long q1)] 3)) t := fun t kt => by
    refine pre0 _ ?_
    show Steps p.tables e below (s₁.setTop (mkF m 0 #[.val (.long q1), .second, .unset] [])) _
    refine XS.sipush X0.here hx rfl (hb hby d4_0) ?_
    show Steps p.tables e below (s₁.setTop (mkF m 3 #[.val (.long q1), .second, .unset] [(.int (128 : Int32))])) _
    refine XS.istoreN X0.here hx rfl (hb hby d4_3) rfl (l' := #[.val (.long q1), .second, .val (.int (128 : Int32))]) rfl ?_
    show Steps p.tables e below (s₁.setTop (mkF m 4 #[.val (.long q1), .second, .val (.int (128 : Int32))] [])) _
    refine XS.lloadN X0.here hx rfl (hb hby d4_4) rfl ?_
    show Steps p.tables e below (s₁.setTop (mkF m 5 #[.val (.long q1), .second, .val (.int (128 : Int32))] [(.long q1)])) _
    refine X0.ldc2Long hx hown (mvT hZ (hw _ (List.mem_of_getElem? (i := 26) rfl))) (g := (mkF m 5 #[.val (.long q1), .second, .val (.int (128 : Int32))] [(.long q1)])) rfl (hb hby d4_5) _ ?_
    show Steps p.tables e below (s₁.setTop (mkF m 8 #[.val (.long q1), .second, .val (.int (128 : Int32))] [(.long (-128 : Int64)), (.long q1)])) _
    refine XS.lcmp X0.here hx rfl (hb hby d4_8) rfl ?_
    exact kt
  by_cases hc9 : q1 < (-128 : Int64)
  · obtain ⟨T2, h2, X2, e2, E2, A2, D2, -, st2⟩ := newO X0 hx hZ hown (hw _ (List.mem_of_getElem? (i := 28) rfl)) (hw _ (List.mem_of_getElem? (i := 29) rfl)) (hw _ (List.mem_of_getElem? (i := 24) rfl)) e0 (g := (mkF m 31 #[.val (.long q1), .second, .val (.int (128 : Int32))] [])) rfl (hb hby d4_31) (by decide) (by decide)
    obtain ⟨b2, g2⟩ : ∃ z, z = h0.size := ⟨_, rfl⟩
    rw [← g2] at A2 D2 st2
    have f2_S_java_lang_Long_LongCache_cache := (S0.ext Ol.2).ext E2
    have f2_O := Ol.ext E2
    have g_b2 : n0 ≤ b2 := Nat.le_trans Z0 (Nat.le_of_eq g2.symm)
    have sz_b2 : h0.size ≤ b2 := Nat.le_trans (Keep.refl h0 []).1 (Nat.le_of_eq g2.symm)
    have K2 := (Keep.refl h0 []).ext E2
    have Z2 : n0 ≤ h2.size := Nat.le_trans Z0 E2.1
    have F2_value : Fld Z h2 b2 "java/lang/Long" "value" "J" (.long (0 : Int64)) := D2 (Or.inr (hw _ (List.mem_of_getElem? (i := 42) rfl))) (ty := .long) (by decide)
    obtain ⟨_, _, ⟨T3, L3, k3, n3⟩, -, X3, ⟨Lc3, hQ3, l3, y3, z3⟩, st3⟩ := X2.specialBack hx (y := (⟨"java/lang/Long", "<init>", "(J)V"⟩ : MethodName)) rfl hown (mvT hZ (hw _ (List.mem_of_getElem? (i := 30) rfl))) (mvT hZ (hw _ (List.mem_of_getElem? (i := 31) rfl))) (mvT hZ (hw _ (List.mem_of_getElem? (i := 33) rfl))) (by decide) (backOf (W := 1) (rm5 l Z a0 hw [] b2 q1 h2 n0 Z2 A2 F2_value g_b2) hZ (hw _ (List.mem_of_getElem? (i := 33) rfl)) (hw _ (List.mem_of_getElem? (i := 24) rfl)) (by decide) (by decide)) (g := (mkF m 36 #[.val (.long q1), .second, .val (.int (128 : Int32))] [(.long q1), (.ref b2), (.ref b2)])) rfl (by rw [hml]; rfl) (Steps.refl _) (a := b2) (argsL := [(.long q1)]) (rest := [(.ref b2)]) (lenOf pd4_0 rfl) rfl (by show 2 * 0 + _ ≤ _; exact Nat.le_of_eq rfl) (hb hby d4_36) (fun _ _ => ⟨rfl, e2, (by decide : 1 + 0 ≤ _), (by decide : 1 + 0 ≤ _)⟩)
    dsimp only [Pt.U, Pt.locs, Pt.cells, Pt.slots] at X3 l3 y3 z3 st3 hQ3
    subst l3 y3 z3
    obtain ⟨rfl, N3q, K3q, E3q, F3q_value⟩ := hQ3
    have f3_O := f2_O.keep K3q (allS g_b2 all0)
    have f3_E_b2 := A2.keep K3q
    have N3 := Fr.app N0 N3q
    have Z3 : n0 ≤ T3.heap.size := Nat.le_trans Z2 K3q.1
    have KK3 := Keep.trans K2 K3q (allS (Or.inr sz_b2) all0)
    obtain ⟨fs, hr, hrun, hended, hW, hsame⟩ := X3.leave (v := some (.ref b2)) (fun h => by rw [Bd.returns] at h; cases h)
    refine ⟨_, _, c1 _ ?_, hrun, hended, _, _, rfl, ?_, ⟨_, rfl⟩, hW, hsame.mono (by decide) (by decide)⟩
    · show Steps p.tables e below (s₁.setTop (mkF m 9 #[.val (.long q1), .second, .val (.int (128 : Int32))] [(.int (lcmpW q1 (-128 : Int64)))])) _
      refine XS.ifYes X0.here hx rfl (pc0 := 9) (pc' := 31) rfl (hb hby d4_9) rfl ((if0 _ _).trans (tlt ((lw_lt q1 (-128 : Int64)).mpr hc9)).1) (by decide) (by decide) ?_
      show Steps p.tables e below (s₁.setTop (mkF m 31 #[.val (.long q1), .second, .val (.int (128 : Int32))] [])) _
      refine st2 _ ?_
      show Steps p.tables e below (T2.setTop (mkF m 34 #[.val (.long q1), .second, .val (.int (128 : Int32))] [(.ref b2)])) _
      refine XS.dup X2.here hx rfl (hb hby d4_34) rfl rfl ?_
      show Steps p.tables e below (T2.setTop (mkF m 35 #[.val (.long q1), .second, .val (.int (128 : Int32))] [(.ref b2), (.ref b2)])) _
      refine XS.lloadN X2.here hx rfl (hb hby d4_35) rfl ?_
      show Steps p.tables e below (T2.setTop (mkF m 36 #[.val (.long q1), .second, .val (.int (128 : Int32))] [(.long q1), (.ref b2), (.ref b2)])) _
      refine st3.trans ?_
      show Steps p.tables e below (T3.setTop (mkF m 39 #[.val (.long q1), .second, .val (.int (128 : Int32))] [(.ref b2)])) _
      jvm_step X3.here [X3.here.top, hx, (hb hby d4_39), X3.method', Bd.returns, Value.isRef, FieldType.isReference]
      first | (intro acts; rw [hr _ acts rfl rfl rfl]) | rw [hr _ _ rfl rfl rfl]
      exact Steps.refl _
    · show Q4 Z q1 ca clc h0 n0 _ T3.heap _
      exact ⟨_, rfl, N3, KK3, E3q⟩
  · have c4 : ∀ t, Steps p.tables e below (s₁.setTop (mkF m 17 #[.val (.long q1), .second, .val (.int (128 : Int32))] [(.int (lcmpW q1 (127 : Int64)))])) t → Steps p.tables e below (s₁.setTop (entryFrame m #[(.long q1)] 3)) t := fun t kt => by
      refine c1 _ ?_
      show Steps p.tables e below (s₁.setTop (mkF m 9 #[.val (.long q1), .second, .val (.int (128 : Int32))] [(.int (lcmpW q1 (-128 : Int64)))])) _
      refine XS.ifNo X0.here hx rfl (hb hby d4_9) rfl ((if0 _ _).trans (flt (fun q => hc9 ((lw_lt q1 (-128 : Int64)).mp q))).1) ?_
      show Steps p.tables e below (s₁.setTop (mkF m 12 #[.val (.long q1), .second, .val (.int (128 : Int32))] [])) _
      refine XS.lloadN X0.here hx rfl (hb hby d4_12) rfl ?_
      show Steps p.tables e below (s₁.setTop (mkF m 13 #[.val (.long q1), .second, .val (.int (128 : Int32))] [(.long q1)])) _
      refine X0.ldc2Long hx hown (mvT hZ (hw _ (List.mem_of_getElem? (i := 27) rfl))) (g := (mkF m 13 #[.val (.long q1), .second, .val (.int (128 : Int32))] [(.long q1)])) rfl (hb hby d4_13) _ ?_
      show Steps p.tables e below (s₁.setTop (mkF m 16 #[.val (.long q1), .second, .val (.int (128 : Int32))] [(.long (127 : Int64)), (.long q1)])) _
      refine XS.lcmp X0.here hx rfl (hb hby d4_16) rfl ?_
      exact kt
    by_cases hc17 : (127 : Int64) < q1
    · obtain ⟨T5, h5, X5, e5, E5, A5, D5, -, st5⟩ := newO X0 hx hZ hown (hw _ (List.mem_of_getElem? (i := 28) rfl)) (hw _ (List.mem_of_getElem? (i := 29) rfl)) (hw _ (List.mem_of_getElem? (i := 24) rfl)) e0 (g := (mkF m 31 #[.val (.long q1), .second, .val (.int (128 : Int32))] [])) rfl (hb hby d4_31) (by decide) (by decide)
      obtain ⟨b5, g5⟩ : ∃ z, z = h0.size := ⟨_, rfl⟩
      rw [← g5] at A5 D5 st5
      have f5_S_java_lang_Long_LongCache_cache := (S0.ext Ol.2).ext E5
      have f5_O := Ol.ext E5
      have g_b5 : n0 ≤ b5 := Nat.le_trans Z0 (Nat.le_of_eq g5.symm)
      have sz_b5 : h0.size ≤ b5 := Nat.le_trans (Keep.refl h0 []).1 (Nat.le_of_eq g5.symm)
      have K5 := (Keep.refl h0 []).ext E5
      have Z5 : n0 ≤ h5.size := Nat.le_trans Z0 E5.1
      have F5_value : Fld Z h5 b5 "java/lang/Long" "value" "J" (.long (0 : Int64)) := D5 (Or.inr (hw _ (List.mem_of_getElem? (i := 42) rfl))) (ty := .long) (by decide)
      obtain ⟨_, _, ⟨T6, L6, k6, n6⟩, -, X6, ⟨Lc6, hQ6, l6, y6, z6⟩, st6⟩ := X5.specialBack hx (y := (⟨"java/lang/Long", "<init>", "(J)V"⟩ : MethodName)) rfl hown (mvT hZ (hw _ (List.mem_of_getElem? (i := 30) rfl))) (mvT hZ (hw _ (List.mem_of_getElem? (i := 31) rfl))) (mvT hZ (hw _ (List.mem_of_getElem? (i := 33) rfl))) (by decide) (backOf (W := 1) (rm5 l Z a0 hw [] b5 q1 h5 n0 Z5 A5 F5_value g_b5) hZ (hw _ (List.mem_of_getElem? (i := 33) rfl)) (hw _ (List.mem_of_getElem? (i := 24) rfl)) (by decide) (by decide)) (g := (mkF m 36 #[.val (.long q1), .second, .val (.int (128 : Int32))] [(.long q1), (.ref b5), (.ref b5)])) rfl (by rw [hml]; rfl) (Steps.refl _) (a := b5) (argsL := [(.long q1)]) (rest := [(.ref b5)]) (lenOf pd4_0 rfl) rfl (by show 2 * 0 + _ ≤ _; exact Nat.le_of_eq rfl) (hb hby d4_36) (fun _ _ => ⟨rfl, e5, (by decide : 1 + 0 ≤ _), (by decide : 1 + 0 ≤ _)⟩)
      dsimp only [Pt.U, Pt.locs, Pt.cells, Pt.slots] at X6 l6 y6 z6 st6 hQ6
      subst l6 y6 z6
      obtain ⟨rfl, N6q, K6q, E6q, F6q_value⟩ := hQ6
      have f6_O := f5_O.keep K6q (allS g_b5 all0)
      have f6_E_b5 := A5.keep K6q
      have N6 := Fr.app N0 N6q
      have Z6 : n0 ≤ T6.heap.size := Nat.le_trans Z5 K6q.1
      have KK6 := Keep.trans K5 K6q (allS (Or.inr sz_b5) all0)
      obtain ⟨fs, hr, hrun, hended, hW, hsame⟩ := X6.leave (v := some (.ref b5)) (fun h => by rw [Bd.returns] at h; cases h)
      refine ⟨_, _, c4 _ ?_, hrun, hended, _, _, rfl, ?_, ⟨_, rfl⟩, hW, hsame.mono (by decide) (by decide)⟩
      · show Steps p.tables e below (s₁.setTop (mkF m 17 #[.val (.long q1), .second, .val (.int (128 : Int32))] [(.int (lcmpW q1 (127 : Int64)))])) _
        refine XS.ifYes X0.here hx rfl (pc0 := 17) (pc' := 31) rfl (hb hby d4_17) rfl ((if0 _ _).trans (tlt ((lw_gt q1 (127 : Int64)).mpr hc17)).2.2.1) (by decide) (by decide) ?_
        show Steps p.tables e below (s₁.setTop (mkF m 31 #[.val (.long q1), .second, .val (.int (128 : Int32))] [])) _
        refine st5 _ ?_
        show Steps p.tables e below (T5.setTop (mkF m 34 #[.val (.long q1), .second, .val (.int (128 : Int32))] [(.ref b5)])) _
        refine XS.dup X5.here hx rfl (hb hby d4_34) rfl rfl ?_
        show Steps p.tables e below (T5.setTop (mkF m 35 #[.val (.long q1), .second, .val (.int (128 : Int32))] [(.ref b5), (.ref b5)])) _
        refine XS.lloadN X5.here hx rfl (hb hby d4_35) rfl ?_
        show Steps p.tables e below (T5.setTop (mkF m 36 #[.val (.long q1), .second, .val (.int (128 : Int32))] [(.long q1), (.ref b5), (.ref b5)])) _
        refine st6.trans ?_
        show Steps p.tables e below (T6.setTop (mkF m 39 #[.val (.long q1), .second, .val (.int (128 : Int32))] [(.ref b5)])) _
        jvm_step X6.here [X6.here.top, hx, (hb hby d4_39), X6.method', Bd.returns, Value.isRef, FieldType.isReference]
        first | (intro acts; rw [hr _ acts rfl rfl rfl]) | rw [hr _ _ rfl rfl rfl]
        exact Steps.refl _
      · show Q4 Z q1 ca clc h0 n0 _ T6.heap _
        exact ⟨_, rfl, N6, KK6, E6q⟩
    · obtain ⟨T7, X7, e7, st7⟩ := getS2 X0 hx hZ hown (host := "") (Or.inl (hw _ (List.mem_of_getElem? (i := 46) rfl))) Via.refl e0 (S0.ext Ol.2) (g := (mkF m 20 #[.val (.long q1), .second, .val (.int (128 : Int32))] [])) rfl (hb hby d4_20)
      have hin : ¬ (((q1.toInt32) + (128 : Int32)) < 0 ∨ clc.slots.size ≤ (((q1.toInt32) + (128 : Int32))).toNatClampNeg) := by rw [hsz]; exact (own_idx q1 hc9 hc17)
      obtain ⟨rc, hat, Erc⟩ := hel ((q1.toInt32) + (128 : Int32)) hin
      obtain ⟨fs, hr, hrun, hended, hW, hsame⟩ := X7.leave (v := some (.ref rc)) (fun h => by rw [Bd.returns] at h; cases h)
      refine ⟨_, _, c4 _ ?_, hrun, hended, _, _, rfl, ?_, ⟨_, rfl⟩, hW, hsame.mono (by decide) (by decide)⟩
      · show Steps p.tables e below (s₁.setTop (mkF m 17 #[.val (.long q1), .second, .val (.int (128 : Int32))] [(.int (lcmpW q1 (127 : Int64)))])) _
        refine XS.ifNo X0.here hx rfl (hb hby d4_17) rfl ((if0 _ _).trans (flt (fun q => hc17 ((lw_gt q1 (127 : Int64)).mp q))).2.2.1) ?_
        show Steps p.tables e below (s₁.setTop (mkF m 20 #[.val (.long q1), .second, .val (.int (128 : Int32))] [])) _
        refine st7 _ ?_
        show Steps p.tables e below (T7.setTop (mkF m 23 #[.val (.long q1), .second, .val (.int (128 : Int32))] [(.ref ca)])) _
        refine XS.lloadN X7.here hx rfl (hb hby d4_23) rfl ?_
        show Steps p.tables e below (T7.setTop (mkF m 24 #[.val (.long q1), .second, .val (.int (128 : Int32))] [(.long q1), (.ref ca)])) _
        refine XS.l2i X7.here hx rfl (hb hby d4_24) rfl ?_
        show Steps p.tables e below (T7.setTop (mkF m 25 #[.val (.long q1), .second, .val (.int (128 : Int32))] [(.int (q1.toInt32)), (.ref ca)])) _
        refine XS.sipush X7.here hx rfl (hb hby d4_25) ?_
        show Steps p.tables e below (T7.setTop (mkF m 28 #[.val (.long q1), .second, .val (.int (128 : Int32))] [(.int (128 : Int32)), (.int (q1.toInt32)), (.ref ca)])) _
        refine XS.iadd X7.here hx rfl (hb hby d4_28) rfl ?_
        show Steps p.tables e below (T7.setTop (mkF m 29 #[.val (.long q1), .second, .val (.int (128 : Int32))] [(.int ((q1.toInt32) + (128 : Int32))), (.ref ca)])) _
        refine X7.aaload hx (j := ((q1.toInt32) + (128 : Int32))) (v := (.ref rc)) (by first | exact (Arc.ext Ol.2).1 | (rw [e7]; exact (Arc.ext Ol.2).1)) (State.isArrayOf_alike hZ.alike Arc.2.1) rfl Arc.2.2 hin hat (g := (mkF m 29 #[.val (.long q1), .second, .val (.int (128 : Int32))] [(.int ((q1.toInt32) + (128 : Int32))), (.ref ca)])) rfl rfl (hb hby d4_29) _ ?_
        show Steps p.tables e below (T7.setTop (mkF m 30 #[.val (.long q1), .second, .val (.int (128 : Int32))] [(.ref rc)])) _
        jvm_step X7.here [X7.here.top, hx, (hb hby d4_30), X7.method', Bd.returns, Value.isRef, FieldType.isReference]
        first | (intro acts; rw [hr _ acts rfl rfl rfl]) | rw [hr _ _ rfl rfl rfl]
        exact Steps.refl _
      · show Q4 Z q1 ca clc h0 n0 _ T7.heap _
        rw [e7]
        exact ⟨_, rfl, N0, (Keep.refl h0 []), (Erc.ext Ol.2)⟩
theorem d1_0 : decode prog_31_method_1_code 0 = .ok (.aload_n 0, 1) := by decide +kernel
theorem d1_1 : decode prog_31_method_1_code 1 = .ok (.invokespecial 1, 3) := by decide +kernel
theorem d1_4 : decode prog_31_method_1_code 4 = .ok (.aload_n 0, 1) := by decide +kernel
theorem d1_5 : decode prog_31_method_1_code 5 = .ok (.iload_n 1, 1) := by decide +kernel
theorem d1_6 : decode prog_31_method_1_code 6 = .ok (.putfield 7, 3) := by decide +kernel
theorem d1_9 : decode prog_31_method_1_code 9 = .ok (.aload_n 0, 1) := by decide +kernel
theorem d1_10 : decode prog_31_method_1_code 10 = .ok (.lload_n 2, 1) := by decide +kernel
theorem d1_11 : decode prog_31_method_1_code 11 = .ok (.putfield 13, 3) := by decide +kernel
theorem d1_14 : decode prog_31_method_1_code 14 = .ok (.aload_n 0, 1) := by decide +kernel
theorem d1_15 : decode prog_31_method_1_code 15 = .ok (.lload 4, 2) := by decide +kernel
theorem d1_17 : decode prog_31_method_1_code 17 = .ok (.putfield 17, 3) := by decide +kernel
theorem d1_20 : decode prog_31_method_1_code 20 = .ok (.return_, 1) := by decide +kernel
theorem pn1 : plainName "com/example/vestline/vestline/Holdings" = true := by first | (simp [plainName, overriddenIn]; done) | decide +kernel
theorem ef1 (m : MethodId) (a1 : Addr) (p2 : Int32) (q3 : Int64) (q4 : Int64) : entryFrame m #[(.ref a1), (.int p2), (.long q3), (.long q4)] 6 = mkF m 0 #[.val (.ref a1), .val (.int p2), .val (.long q3), .second, .val (.long q4), .second] [] := by first | (simp [entryFrame, mkF, argsToLocals, Value.category]; done) | rfl
def Q1 (Z : State) (a1 : Addr) (p2 : Int32) (q3 : Int64) (q4 : Int64) (h0 : Heap) (n0 : Nat) (v : Option Value) (h : Heap) (L : List Loc) : Prop := v = none ∧ Fr n0 L ∧ Keep h0 h [a1] ∧ Exa Z h a1 "com/example/vestline/vestline/Holdings" ∧ Fld Z h a1 "com/example/vestline/vestline/Holdings" "participants" "I" (.int p2) ∧ Fld Z h a1 "com/example/vestline/vestline/Holdings" "shares" "J" (.long q3) ∧ Fld Z h a1 "com/example/vestline/vestline/Holdings" "cash" "J" (.long q4)
set_option maxRecDepth 65536 in
set_option maxHeartbeats 40000000 in
theorem rm1 (l : Launch) (Z : State) (a0 : Array Value) (hw : ∀ d ∈ tables_1, d.before a0 Z = true) (ws : List Jvm.Cond) (a1 : Addr) (p2 : Int32) (q3 : Int64) (q4 : Int64) (h0 : Heap) (n0 : Nat) (Z0 : n0 ≤ h0.size) (E1 : Exa Z h0 a1 "com/example/vestline/vestline/Holdings") (F_participants : Fld Z h0 a1 "com/example/vestline/vestline/Holdings" "participants" "I" (.int (0 : Int32))) (F_shares : Fld Z h0 a1 "com/example/vestline/vestline/Holdings" "shares" "J" (.long (0 : Int64))) (F_cash : Fld Z h0 a1 "com/example/vestline/vestline/Holdings" "cash" "J" (.long (0 : Int64))) (g1 : n0 ≤ a1) :
    MetFree l (⟨"com/example/vestline/vestline/Holdings", "<init>", "(IJJ)V"⟩ : MethodName) (head1 (Jvm.Cond.code (⟨"com/example/vestline/vestline/Holdings", "<init>", "(IJJ)V"⟩ : MethodName) prog_31_method_1_code 6 none :: ws) ({ frames := 1, cells := 0, slots := 0, locals := 12 } : Room)) (fun a U => a = #[(.ref a1), (.int p2), (.long q3), (.long q4)] ∧ Z.Warmed39 U.vm ∧ U.heap = h0) (fun _ _ _ _ _ => True) (fun _ U o U' => ∃ v L, o = .returned v ∧ Q1 Z a1 p2 q3 q4 h0 n0 v U'.heap L ∧ FrameEnd U o U' L ({ frames := 1, cells := 0, slots := 0, locals := 12 } : Room).cells ({ frames := 1, cells := 0, slots := 0, locals := 12 } : Room).slots) := by
  refine MetFree.of_bodySF (plainFor_of_name pn1) hisR ?_
  intro p e s m args below meth c s₁ Bd hml0 hP hK
  obtain ⟨rfl, hZ, hh⟩ := hP
  have hx := Bd.exec
  have hby := Bd.bytes
  have hml : c.maxLocals = 6 := hml0
  have hown : s.vm.findClass "com/example/vestline/vestline/Holdings" = some m.cls := findClass_of_methodNamed Bd.named
  have hnm := (name_of_methodNamed Bd.named Bd.method).1
  have X0 : Stand p l e ({ frames := 1, cells := 0, slots := 0, locals := 12 } : Room) s m #[(.ref a1), (.int p2), (.long q3), (.long q4)] below meth c s₁ [] 0 0 := Stand.of_body Bd
  have e0 : s₁.heap = h0 := by rw [← hh, Bd.state]; rfl
  have N0 := Fr.nil n0
  have pre0 : ∀ t, Steps p.tables e below (s₁.setTop (mkF m 0 #[.val (.ref a1), .val (.int p2), .val (.long q3), .second, .val (.long q4), .second] [])) t → Steps p.tables e below (s₁.setTop (entryFrame m #[(.ref a1), (.int p2), (.long q3), (.long q4)] 6)) t := fun t k => castTop (ef1 m a1 p2 q3 q4) k
  obtain ⟨T1, X1, e1, st1⟩ := initO X0 hx hZ hown (hw _ (List.mem_of_getElem? (i := 6) rfl)) (hw _ (List.mem_of_getElem? (i := 7) rfl)) (hw _ (List.mem_of_getElem? (i := 8) rfl)) e0 (g := (mkF m 1 #[.val (.ref a1), .val (.int p2), .val (.long q3), .second, .val (.long q4), .second] [(.ref a1)])) rfl (by rw [hml]; rfl) rfl (hb hby d1_1) (by decide) (W := 0) (by show 2 * 0 + _ ≤ _; exact Nat.le_of_eq rfl) (by decide)
  obtain ⟨T2, h2, X2, e2, W2, st2⟩ := putF X1 hx hZ hown (host := "") (Or.inl (hw _ (List.mem_of_getElem? (i := 9) rfl))) Via.refl e1 F_participants E1 (Or.inr ⟨(hw _ (List.mem_of_getElem? (i := 10) rfl)), rfl, hnm⟩) (hw _ (List.mem_of_getElem? (i := 1) rfl)) (ty := .int) (by decide) rfl rfl (g := (mkF m 6 #[.val (.ref a1), .val (.int p2), .val (.long q3), .second, .val (.long q4), .second] [(.int p2), (.ref a1)])) rfl rfl (hb hby d1_6)
  have f2_E_a1 := E1.wr W2
  have f2_F_a1_participants := F_participants.same W2
  have f2_F_a1_shares := F_shares.other W2 (Or.inr (slot_ne (Or.inr (hw _ (List.mem_of_getElem? (i := 12) rfl))) (Or.inr (hw _ (List.mem_of_getElem? (i := 10) rfl))) (by decide) (t := .long) (t' := .int) (by decide) (by decide)))
  have f2_F_a1_cash := F_cash.other W2 (Or.inr (slot_ne (Or.inr (hw _ (List.mem_of_getElem? (i := 14) rfl))) (Or.inr (hw _ (List.mem_of_getElem? (i := 10) rfl))) (by decide) (t := .long) (t' := .int) (by decide) (by decide)))
  have N2 := Fr.snoc X2 N0 g1
  have K2 := (Keep.refl h0 [a1]).wr W2 (Or.inl (List.mem_of_getElem? (i := 0) rfl))
  have Z2 : n0 ≤ h2.size := Nat.le_trans Z0 (Keep.of_wr W2).1
  obtain ⟨T3, h3, X3, e3, W3, st3⟩ := putF X2 hx hZ hown (host := "") (Or.inl (hw _ (List.mem_of_getElem? (i := 11) rfl))) Via.refl e2 f2_F_a1_shares f2_E_a1 (Or.inr ⟨(hw _ (List.mem_of_getElem? (i := 12) rfl)), rfl, hnm⟩) (hw _ (List.mem_of_getElem? (i := 1) rfl)) (ty := .long) (by decide) rfl rfl (g := (mkF m 11 #[.val (.ref a1), .val (.int p2), .val (.long q3), .second, .val (.long q4), .second] [(.long q3), (.ref a1)])) rfl rfl (hb hby d1_11)
  have f3_E_a1 := f2_E_a1.wr W3
  have f3_F_a1_participants := f2_F_a1_participants.other W3 (Or.inr (slot_ne (Or.inr (hw _ (List.mem_of_getElem? (i := 10) rfl))) (Or.inr (hw _ (List.mem_of_getElem? (i := 12) rfl))) (by decide) (t := .int) (t' := .long) (by decide) (by decide)))
  have f3_F_a1_shares := f2_F_a1_shares.same W3
  have f3_F_a1_cash := f2_F_a1_cash.other W3 (Or.inr (slot_ne (Or.inr (hw _ (List.mem_of_getElem? (i := 14) rfl))) (Or.inr (hw _ (List.mem_of_getElem? (i := 12) rfl))) (by decide) (t := .long) (t' := .long) (by decide) (by decide)))
  have N3 := Fr.snoc X3 N2 g1
  have K3 := K2.wr W3 (Or.inl (List.mem_of_getElem? (i := 0) rfl))
  have Z3 : n0 ≤ h3.size := Nat.le_trans Z2 (Keep.of_wr W3).1
  obtain ⟨T4, h4, X4, e4, W4, st4⟩ := putF X3 hx hZ hown (host := "") (Or.inl (hw _ (List.mem_of_getElem? (i := 13) rfl))) Via.refl e3 f3_F_a1_cash f3_E_a1 (Or.inr ⟨(hw _ (List.mem_of_getElem? (i := 14) rfl)), rfl, hnm⟩) (hw _ (List.mem_of_getElem? (i := 1) rfl)) (ty := .long) (by decide) rfl rfl (g := (mkF m 17 #[.val (.ref a1), .val (.int p2), .val (.long q3), .second, .val (.long q4), .second] [(.long q4), (.ref a1)])) rfl rfl (hb hby d1_17)
  have f4_E_a1 := f3_E_a1.wr W4
  have f4_F_a1_participants := f3_F_a1_participants.other W4 (Or.inr (slot_ne (Or.inr (hw _ (List.mem_of_getElem? (i := 10) rfl))) (Or.inr (hw _ (List.mem_of_getElem? (i := 14) rfl))) (by decide) (t := .int) (t' := .long) (by decide) (by decide)))
  have f4_F_a1_shares := f3_F_a1_shares.other W4 (Or.inr (slot_ne (Or.inr (hw _ (List.mem_of_getElem? (i := 12) rfl))) (Or.inr (hw _ (List.mem_of_getElem? (i := 14) rfl))) (by decide) (t := .long) (t' := .long) (by decide) (by decide)))
  have f4_F_a1_cash := f3_F_a1_cash.same W4
  have N4 := Fr.snoc X4 N3 g1
  have K4 := K3.wr W4 (Or.inl (List.mem_of_getElem? (i := 0) rfl))
  have Z4 : n0 ≤ h4.size := Nat.le_trans Z3 (Keep.of_wr W4).1
  obtain ⟨fs, hr, hrun, hended, hW, hsame⟩ := X4.leave (v := none) (fun _ => rfl)
  refine ⟨_, _, pre0 _ ?_, hrun, hended, _, _, rfl, ?_, ⟨_, rfl⟩, hW, hsame.mono (by decide) (by decide)⟩
  · show Steps p.tables e below (s₁.setTop (mkF m 0 #[.val (.ref a1), .val (.int p2), .val (.long q3), .second, .val (.long q4), .second] [])) _
    refine XS.aloadN X0.here hx rfl (hb hby d1_0) rfl rfl ?_
    show Steps p.tables e below (s₁.setTop (mkF m 1 #[.val (.ref a1), .val (.int p2), .val (.long q3), .second, .val (.long q4), .second] [(.ref a1)])) _
    refine st1 _ ?_
    show Steps p.tables e below (T1.setTop (mkF m 4 #[.val (.ref a1), .val (.int p2), .val (.long q3), .second, .val (.long q4), .second] [])) _
    refine XS.aloadN X1.here hx rfl (hb hby d1_4) rfl rfl ?_
    show Steps p.tables e below (T1.setTop (mkF m 5 #[.val (.ref a1), .val (.int p2), .val (.long q3), .second, .val (.long q4), .second] [(.ref a1)])) _
    refine XS.iloadN X1.here hx rfl (hb hby d1_5) rfl ?_
    show Steps p.tables e below (T1.setTop (mkF m 6 #[.val (.ref a1), .val (.int p2), .val (.long q3), .second, .val (.long q4), .second] [(.int p2), (.ref a1)])) _
    refine st2 _ ?_
    show Steps p.tables e below (T2.setTop (mkF m 9 #[.val (.ref a1), .val (.int p2), .val (.long q3), .second, .val (.long q4), .second] [])) _
    refine XS.aloadN X2.here hx rfl (hb hby d1_9) rfl rfl ?_
    show Steps p.tables e below (T2.setTop (mkF m 10 #[.val (.ref a1), .val (.int p2), .val (.long q3), .second, .val (.long q4), .second] [(.ref a1)])) _
    refine XS.lloadN X2.here hx rfl (hb hby d1_10) rfl ?_
    show Steps p.tables e below (T2.setTop (mkF m 11 #[.val (.ref a1), .val (.int p2), .val (.long q3), .second, .val (.long q4), .second] [(.long q3), (.ref a1)])) _
    refine st3 _ ?_
    show Steps p.tables e below (T3.setTop (mkF m 14 #[.val (.ref a1), .val (.int p2), .val (.long q3), .second, .val (.long q4), .second] [])) _
    refine XS.aloadN X3.here hx rfl (hb hby d1_14) rfl rfl ?_
    show Steps p.tables e below (T3.setTop (mkF m 15 #[.val (.ref a1), .val (.int p2), .val (.long q3), .second, .val (.long q4), .second] [(.ref a1)])) _
    refine XS.lload X3.here hx rfl (hb hby d1_15) rfl ?_
    show Steps p.tables e below (T3.setTop (mkF m 17 #[.val (.ref a1), .val (.int p2), .val (.long q3), .second, .val (.long q4), .second] [(.long q4), (.ref a1)])) _
    refine st4 _ ?_
    show Steps p.tables e below (T4.setTop (mkF m 20 #[.val (.ref a1), .val (.int p2), .val (.long q3), .second, .val (.long q4), .second] [])) _
    exact X4.returnOut hx Bd.returns (hb hby d1_20) hr
  · show Q1 Z a1 p2 q3 q4 h0 n0 _ T4.heap _
    rw [e4]
    exact ⟨rfl, N4, K4, f4_E_a1, f4_F_a1_participants, f4_F_a1_shares, f4_F_a1_cash⟩
theorem d3_0 : decode prog_31_method_6_code 0 = .ok (.aload_n 1, 1) := by decide +kernel
theorem d3_1 : decode prog_31_method_6_code 1 = .ok (.instanceof 8, 3) := by decide +kernel
theorem d3_4 : decode prog_31_method_6_code 4 = .ok (.ifCond .ne 5, 3) := by decide +kernel
theorem d3_9 : decode prog_31_method_6_code 9 = .ok (.aload_n 1, 1) := by decide +kernel
theorem d3_10 : decode prog_31_method_6_code 10 = .ok (.checkcast 8, 3) := by decide +kernel
theorem d3_13 : decode prog_31_method_6_code 13 = .ok (.astore_n 2, 1) := by decide +kernel
theorem d3_14 : decode prog_31_method_6_code 14 = .ok (.aload_n 0, 1) := by decide +kernel
theorem d3_15 : decode prog_31_method_6_code 15 = .ok (.getfield 7, 3) := by decide +kernel
theorem d3_18 : decode prog_31_method_6_code 18 = .ok (.aload_n 2, 1) := by decide +kernel
theorem d3_19 : decode prog_31_method_6_code 19 = .ok (.getfield 7, 3) := by decide +kernel
theorem d3_22 : decode prog_31_method_6_code 22 = .ok (.if_icmp .ne 31, 3) := by decide +kernel
theorem d3_25 : decode prog_31_method_6_code 25 = .ok (.aload_n 0, 1) := by decide +kernel
theorem d3_26 : decode prog_31_method_6_code 26 = .ok (.getfield 13, 3) := by decide +kernel
theorem d3_29 : decode prog_31_method_6_code 29 = .ok (.aload_n 2, 1) := by decide +kernel
theorem d3_30 : decode prog_31_method_6_code 30 = .ok (.getfield 13, 3) := by decide +kernel
theorem d3_33 : decode prog_31_method_6_code 33 = .ok (.lcmp, 1) := by decide +kernel
theorem d3_34 : decode prog_31_method_6_code 34 = .ok (.ifCond .ne 19, 3) := by decide +kernel
theorem d3_37 : decode prog_31_method_6_code 37 = .ok (.aload_n 0, 1) := by decide +kernel
theorem d3_38 : decode prog_31_method_6_code 38 = .ok (.getfield 17, 3) := by decide +kernel
theorem d3_41 : decode prog_31_method_6_code 41 = .ok (.aload_n 2, 1) := by decide +kernel
theorem d3_42 : decode prog_31_method_6_code 42 = .ok (.getfield 17, 3) := by decide +kernel
theorem d3_45 : decode prog_31_method_6_code 45 = .ok (.lcmp, 1) := by decide +kernel
theorem d3_46 : decode prog_31_method_6_code 46 = .ok (.ifCond .ne 7, 3) := by decide +kernel
theorem d3_49 : decode prog_31_method_6_code 49 = .ok (.iconst 1, 1) := by decide +kernel
theorem d3_50 : decode prog_31_method_6_code 50 = .ok (.goto 4, 3) := by decide +kernel
theorem d3_53 : decode prog_31_method_6_code 53 = .ok (.iconst 0, 1) := by decide +kernel
theorem d3_54 : decode prog_31_method_6_code 54 = .ok (.ireturn, 1) := by decide +kernel
theorem pn3H : plainName "com/example/vestline/vestline/Holdings" = true := by first | (simp [plainName, overriddenIn]; done) | decide +kernel
theorem ef3H (m : MethodId) (a1 : Addr) (a2 : Addr) : entryFrame m #[(.ref a1), (.ref a2)] 3 = mkF m 0 #[.val (.ref a1), .val (.ref a2), .unset] [] := by first | (simp [entryFrame, mkF, argsToLocals, Value.category]; done) | rfl
def own_eqH (w_participants_a1 : Int32) (w_shares_a1 : Int64) (w_cash_a1 : Int64) (w_participants_a2 : Int32) (w_shares_a2 : Int64) (w_cash_a2 : Int64) : Int32 := (if w_participants_a1 = w_participants_a2 then (if w_shares_a1 = w_shares_a2 then (if w_cash_a1 = w_cash_a2 then (1 : Int32) else (0 : Int32)) else (0 : Int32)) else (0 : Int32))
def Q3H (Z : State) (a1 : Addr) (a2 : Addr) (w_participants_a1 : Int32) (w_shares_a1 : Int64) (w_cash_a1 : Int64) (w_participants_a2 : Int32) (w_shares_a2 : Int64) (w_cash_a2 : Int64) (h0 : Heap) (n0 : Nat) (v : Option Value) (h : Heap) (L : List Loc) : Prop := v = some (.int (own_eqH w_participants_a1 w_shares_a1 w_cash_a1 w_participants_a2 w_shares_a2 w_cash_a2)) ∧ Fr n0 L ∧ h = h0
set_option maxRecDepth 65536 in
set_option maxHeartbeats 40000000 in
theorem rm3H (l : Launch) (Z : State) (a0 : Array Value) (hw : ∀ d ∈ tables_1, d.before a0 Z = true) (ws : List Jvm.Cond) (a1 : Addr) (a2 : Addr) (w_participants_a1 : Int32) (w_shares_a1 : Int64) (w_cash_a1 : Int64) (w_participants_a2 : Int32) (w_shares_a2 : Int64) (w_cash_a2 : Int64) (h0 : Heap) (n0 : Nat) (Z0 : n0 ≤ h0.size) (F_participants_a1 : Fld Z h0 a1 "com/example/vestline/vestline/Holdings" "participants" "I" (.int w_participants_a1)) (F_shares_a1 : Fld Z h0 a1 "com/example/vestline/vestline/Holdings" "shares" "J" (.long w_shares_a1)) (F_cash_a1 : Fld Z h0 a1 "com/example/vestline/vestline/Holdings" "cash" "J" (.long w_cash_a1)) (F_participants_a2 : Fld Z h0 a2 "com/example/vestline/vestline/Holdings" "participants" "I" (.int w_participants_a2)) (F_shares_a2 : Fld Z h0 a2 "com/example/vestline/vestline/Holdings" "shares" "J" (.long w_shares_a2)) (F_cash_a2 : Fld Z h0 a2 "com/example/vestline/vestline/Holdings" "cash" "J" (.long w_cash_a2)) (E2 : Exa Z h0 a2 "com/example/vestline/vestline/Holdings") :
    MetFree l (⟨"com/example/vestline/vestline/Holdings", "equals", "(Ljava/lang/Object;)Z"⟩ : MethodName) (head1 (Jvm.Cond.code (⟨"com/example/vestline/vestline/Holdings", "equals", "(Ljava/lang/Object;)Z"⟩ : MethodName) prog_31_method_6_code 3 (some .boolean) :: ws) ({ frames := 0, cells := 0, slots := 0, locals := 0 } : Room)) (fun a U => a = #[(.ref a1), (.ref a2)] ∧ Z.Warmed39 U.vm ∧ U.heap = h0) (fun _ _ _ _ _ => True) (fun _ U o U' => ∃ v L, o = .returned v ∧ Q3H Z a1 a2 w_participants_a1 w_shares_a1 w_cash_a1 w_participants_a2 w_shares_a2 w_cash_a2 h0 n0 v U'.heap L ∧ FrameEnd U o U' L ({ frames := 0, cells := 0, slots := 0, locals := 0 } : Room).cells ({ frames := 0, cells := 0, slots := 0, locals := 0 } : Room).slots) := by
  refine MetFree.of_bodySF (plainFor_of_name pn3H) hisR ?_
  intro p e s m args below meth c s₁ Bd hml0 hP hK
  obtain ⟨rfl, hZ, hh⟩ := hP
  have hx := Bd.exec
  have hby := Bd.bytes
  have hml : c.maxLocals = 3 := hml0
  have hown : s.vm.findClass "com/example/vestline/vestline/Holdings" = some m.cls := findClass_of_methodNamed Bd.named
  have hnm := (name_of_methodNamed Bd.named Bd.method).1
  have X0 : Stand p l e ({ frames := 0, cells := 0, slots := 0, locals := 0 } : Room) s m #[(.ref a1), (.ref a2)] below meth c s₁ [] 0 0 := Stand.of_body Bd
  have e0 : s₁.heap = h0 := by rw [← hh, Bd.state]; rfl
  have N0 := Fr.nil n0
  have pre0 : ∀ t, Steps p.tables e below (s₁.setTop (mkF m 0 #[.val (.ref a1), .val (.ref a2), .unset] [])) t → Steps p.tables e below (s₁.setTop (entryFrame m #[(.ref a1), (.ref a2)] 3)) t := fun t k => castTop (ef3H m a1 a2) k
  obtain ⟨T1, X1, e1, st1⟩ := instY X0 hx hZ hown (hw _ (List.mem_of_getElem? (i := 20) rfl)) e0 (Ins.self E2) (g := (mkF m 1 #[.val (.ref a1), .val (.ref a2), .unset] [(.ref a2)])) rfl rfl (hb hby d3_1)
  obtain ⟨T2, X2, e2, st2⟩ := castY X1 hx hZ hown (hw _ (List.mem_of_getElem? (i := 20) rfl)) e1 (Ins.self E2) (g := (mkF m 10 #[.val (.ref a1), .val (.ref a2), .unset] [(.ref a2)])) rfl rfl (hb hby d3_10)
  obtain ⟨T3, X3, e3, st3⟩ := getF X2 hx hZ hown (host := "") (Or.inl (hw _ (List.mem_of_getElem? (i := 9) rfl))) Via.refl e2 F_participants_a1 (g := (mkF m 15 #[.val (.ref a1), .val (.ref a2), .val (.ref a2)] [(.ref a1)])) rfl rfl (hb hby d3_15)
  obtain ⟨T4, X4, e4, st4⟩ := getF X3 hx hZ hown (host := "") (Or.inl (hw _ (List.mem_of_getElem? (i := 9) rfl))) Via.refl e3 F_participants_a2 (g := (mkF m 19 #[.val (.ref a1), .val (.ref a2), .val (.ref a2)] [(.ref a2), (.int w_participants_a1)])) rfl rfl (hb hby d3_19)
  have c5 : ∀ t, Steps p.tables e below (T4.setTop (mkF m 22 #[.val (.ref a1), .val (.ref a2), .val (.ref a2)] [(.int w_participants_a2), (.int w_participants_a1)])) t → Steps p.tables e below (s₁.setTop (entryFrame m #[(.ref a1), (.ref a2)] 3)) t := fun t kt => by
    refine pre0 _ ?_
    show Steps p.tables e below (s₁.setTop (mkF m 0 #[.val (.ref a1), .val (.ref a2), .unset] [])) _
    refine XS.aloadN X0.here hx rfl (hb hby d3_0) rfl rfl ?_
    show Steps p.tables e below (s₁.setTop (mkF m 1 #[.val (.ref a1), .val (.ref a2), .unset] [(.ref a2)])) _
    refine st1 _ ?_
    show Steps p.tables e below (T1.setTop (mkF m 4 #[.val (.ref a1), .val (.ref a2), .unset] [(.int (1 : Int32))])) _
    refine XS.ifYes X1.here hx rfl (pc0 := 4) (pc' := 9) rfl (hb hby d3_4) rfl ((if0 _ _).trans (feq (by decide)).2) (by decide) (by decide) ?_
    show Steps p.tables e below (T1.setTop (mkF m 9 #[.val (.ref a1), .val (.ref a2), .unset] [])) _
    refine XS.aloadN X1.here hx rfl (hb hby d3_9) rfl rfl ?_
    show Steps p.tables e below (T1.setTop (mkF m 10 #[.val (.ref a1), .val (.ref a2), .unset] [(.ref a2)])) _
    refine st2 _ ?_
    show Steps p.tables e below (T2.setTop (mkF m 13 #[.val (.ref a1), .val (.ref a2), .unset] [(.ref a2)])) _
    refine XS.astoreN X2.here hx rfl (hb hby d3_13) rfl rfl (l' := #[.val (.ref a1), .val (.ref a2), .val (.ref a2)]) rfl ?_
    show Steps p.tables e below (T2.setTop (mkF m 14 #[.val (.ref a1), .val (.ref a2), .val (.ref a2)] [])) _
    refine XS.aloadN X2.here hx rfl (hb hby d3_14) rfl rfl ?_
    show Steps p.tables e below (T2.setTop (mkF m 15 #[.val (.ref a1), .val (.ref a2), .val (.ref a2)] [(.ref a1)])) _
    refine st3 _ ?_
    show Steps p.tables e below (T3.setTop (mkF m 18 #[.val (.ref a1), .val (.ref a2), .val (.ref a2)] [(.int w_participants_a1)])) _
    refine XS.aloadN X3.here hx rfl (hb hby d3_18) rfl rfl ?_
    show Steps p.tables e below (T3.setTop (mkF m 19 #[.val (.ref a1), .val (.ref a2), .val (.ref a2)] [(.ref a2), (.int w_participants_a1)])) _
    refine st4 _ ?_
    exact kt
  by_cases hc22 : w_participants_a1 = w_participants_a2
  · obtain ⟨T6, X6, e6, st6⟩ := getF X4 hx hZ hown (host := "") (Or.inl (hw _ (List.mem_of_getElem? (i := 11) rfl))) Via.refl e4 F_shares_a1 (g := (mkF m 26 #[.val (.ref a1), .val (.ref a2), .val (.ref a2)] [(.ref a1)])) rfl rfl (hb hby d3_26)
    obtain ⟨T7, X7, e7, st7⟩ := getF X6 hx hZ hown (host := "") (Or.inl (hw _ (List.mem_of_getElem? (i := 11) rfl))) Via.refl e6 F_shares_a2 (g := (mkF m 30 #[.val (.ref a1), .val (.ref a2), .val (.ref a2)] [(.ref a2), (.long w_shares_a1)])) rfl rfl (hb hby d3_30)
    have c8 : ∀ t, Steps p.tables e below (T7.setTop (mkF m 34 #[.val (.ref a1), .val (.ref a2), .val (.ref a2)] [(.int (lcmpW w_shares_a1 w_shares_a2))])) t → Steps p.tables e below (s₁.setTop (entryFrame m #[(.ref a1), (.ref a2)] 3)) t := fun t kt => by
      refine c5 _ ?_
      show Steps p.tables e below (T4.setTop (mkF m 22 #[.val (.ref a1), .val (.ref a2), .val (.ref a2)] [(.int w_participants_a2), (.int w_participants_a1)])) _
      refine XS.icmpNo X4.here hx rfl (hb hby d3_22) rfl (teq hc22).2 ?_
      show Steps p.tables e below (T4.setTop (mkF m 25 #[.val (.ref a1), .val (.ref a2), .val (.ref a2)] [])) _
      refine XS.aloadN X4.here hx rfl (hb hby d3_25) rfl rfl ?_
      show Steps p.tables e below (T4.setTop (mkF m 26 #[.val (.ref a1), .val (.ref a2), .val (.ref a2)] [(.ref a1)])) _
      refine st6 _ ?_
      show Steps p.tables e below (T6.setTop (mkF m 29 #[.val (.ref a1), .val (.ref a2), .val (.ref a2)] [(.long w_shares_a1)])) _
      refine XS.aloadN X6.here hx rfl (hb hby d3_29) rfl rfl ?_
      show Steps p.tables e below (T6.setTop (mkF m 30 #[.val (.ref a1), .val (.ref a2), .val (.ref a2)] [(.ref a2), (.long w_shares_a1)])) _
      refine st7 _ ?_
      show Steps p.tables e below (T7.setTop (mkF m 33 #[.val (.ref a1), .val (.ref a2), .val (.ref a2)] [(.long w_shares_a2), (.long w_shares_a1)])) _
      refine XS.lcmp X7.here hx rfl (hb hby d3_33) rfl ?_
      exact kt
    by_cases hc34 : w_shares_a1 = w_shares_a2
    · obtain ⟨T9, X9, e9, st9⟩ := getF X7 hx hZ hown (host := "") (Or.inl (hw _ (List.mem_of_getElem? (i := 13) rfl))) Via.refl e7 F_cash_a1 (g := (mkF m 38 #[.val (.ref a1), .val (.ref a2), .val (.ref a2)] [(.ref a1)])) rfl rfl (hb hby d3_38)
      obtain ⟨T10, X10, e10, st10⟩ := getF X9 hx hZ hown (host := "") (Or.inl (hw _ (List.mem_of_getElem? (i := 13) rfl))) Via.refl e9 F_cash_a2 (g := (mkF m 42 #[.val (.ref a1), .val (.ref a2), .val (.ref a2)] [(.ref a2), (.long w_cash_a1)])) rfl rfl (hb hby d3_42)
      have c11 : ∀ t, Steps p.tables e below (T10.setTop (mkF m 46 #[.val (.ref a1), .val (.ref a2), .val (.ref a2)] [(.int (lcmpW w_cash_a1 w_cash_a2))])) t → Steps p.tables e below (s₁.setTop (entryFrame m #[(.ref a1), (.ref a2)] 3)) t := fun t kt => by
        refine c8 _ ?_
        show Steps p.tables e below (T7.setTop (mkF m 34 #[.val (.ref a1), .val (.ref a2), .val (.ref a2)] [(.int (lcmpW w_shares_a1 w_shares_a2))])) _
        refine XS.ifNo X7.here hx rfl (hb hby d3_34) rfl ((if0 _ _).trans (teq ((lw_eq w_shares_a1 w_shares_a2).mpr hc34)).2) ?_
        show Steps p.tables e below (T7.setTop (mkF m 37 #[.val (.ref a1), .val (.ref a2), .val (.ref a2)] [])) _
        refine XS.aloadN X7.here hx rfl (hb hby d3_37) rfl rfl ?_
        show Steps p.tables e below (T7.setTop (mkF m 38 #[.val (.ref a1), .val (.ref a2), .val (.ref a2)] [(.ref a1)])) _
        refine st9 _ ?_
        show Steps p.tables e below (T9.setTop (mkF m 41 #[.val (.ref a1), .val (.ref a2), .val (.ref a2)] [(.long w_cash_a1)])) _
        refine XS.aloadN X9.here hx rfl (hb hby d3_41) rfl rfl ?_
        show Steps p.tables e below (T9.setTop (mkF m 42 #[.val (.ref a1), .val (.ref a2), .val (.ref a2)] [(.ref a2), (.long w_cash_a1)])) _
        refine st10 _ ?_
        show Steps p.tables e below (T10.setTop (mkF m 45 #[.val (.ref a1), .val (.ref a2), .val (.ref a2)] [(.long w_cash_a2), (.long w_cash_a1)])) _
        refine XS.lcmp X10.here hx rfl (hb hby d3_45) rfl ?_
        exact kt
      by_cases hc46 : w_cash_a1 = w_cash_a2
      · obtain ⟨fs, hr, hrun, hended, hW, hsame⟩ := X10.leave (v := some (.int (1 : Int32))) (fun h => by rw [Bd.returns] at h; cases h)
        refine ⟨_, _, c11 _ ?_, hrun, hended, _, _, rfl, ?_, ⟨_, rfl⟩, hW, hsame.mono (by decide) (by decide)⟩
        · show Steps p.tables e below (T10.setTop (mkF m 46 #[.val (.ref a1), .val (.ref a2), .val (.ref a2)] [(.int (lcmpW w_cash_a1 w_cash_a2))])) _
          refine XS.ifNo X10.here hx rfl (hb hby d3_46) rfl ((if0 _ _).trans (teq ((lw_eq w_cash_a1 w_cash_a2).mpr hc46)).2) ?_
          show Steps p.tables e below (T10.setTop (mkF m 49 #[.val (.ref a1), .val (.ref a2), .val (.ref a2)] [])) _
          refine XS.iconst X10.here hx rfl (hb hby d3_49) ?_
          show Steps p.tables e below (T10.setTop (mkF m 50 #[.val (.ref a1), .val (.ref a2), .val (.ref a2)] [(.int (1 : Int32))])) _
          refine XS.goto X10.here hx rfl (pc0 := 50) (pc' := 54) rfl (hb hby d3_50) (by decide) (by decide) ?_
          show Steps p.tables e below (T10.setTop (mkF m 54 #[.val (.ref a1), .val (.ref a2), .val (.ref a2)] [(.int (1 : Int32))])) _
          exact retN X10 hx (t := .boolean) Bd.returns (by simp) (hb hby d3_54) hr
        · show Q3H Z a1 a2 w_participants_a1 w_shares_a1 w_cash_a1 w_participants_a2 w_shares_a2 w_cash_a2 h0 n0 _ T10.heap _
          rw [e10]
          have hv : (own_eqH w_participants_a1 w_shares_a1 w_cash_a1 w_participants_a2 w_shares_a2 w_cash_a2) = (1 : Int32) := by unfold own_eqH; rw [if_pos hc22, if_pos hc34, if_pos hc46]
          exact ⟨by rw [hv], N0, rfl⟩
      · obtain ⟨fs, hr, hrun, hended, hW, hsame⟩ := X10.leave (v := some (.int (0 : Int32))) (fun h => by rw [Bd.returns] at h; cases h)
        refine ⟨_, _, c11 _ ?_, hrun, hended, _, _, rfl, ?_, ⟨_, rfl⟩, hW, hsame.mono (by decide) (by decide)⟩
        · show Steps p.tables e below (T10.setTop (mkF m 46 #[.val (.ref a1), .val (.ref a2), .val (.ref a2)] [(.int (lcmpW w_cash_a1 w_cash_a2))])) _
          refine XS.ifYes X10.here hx rfl (pc0 := 46) (pc' := 53) rfl (hb hby d3_46) rfl ((if0 _ _).trans (feq (fun q => hc46 ((lw_eq w_cash_a1 w_cash_a2).mp q))).2) (by decide) (by decide) ?_
          show Steps p.tables e below (T10.setTop (mkF m 53 #[.val (.ref a1), .val (.ref a2), .val (.ref a2)] [])) _
          refine XS.iconst X10.here hx rfl (hb hby d3_53) ?_
          show Steps p.tables e below (T10.setTop (mkF m 54 #[.val (.ref a1), .val (.ref a2), .val (.ref a2)] [(.int (0 : Int32))])) _
          exact retN X10 hx (t := .boolean) Bd.returns (by simp) (hb hby d3_54) hr
        · show Q3H Z a1 a2 w_participants_a1 w_shares_a1 w_cash_a1 w_participants_a2 w_shares_a2 w_cash_a2 h0 n0 _ T10.heap _
          rw [e10]
          have hv : (own_eqH w_participants_a1 w_shares_a1 w_cash_a1 w_participants_a2 w_shares_a2 w_cash_a2) = (0 : Int32) := by unfold own_eqH; rw [if_pos hc22, if_pos hc34, if_neg hc46]
          exact ⟨by rw [hv], N0, rfl⟩
    · obtain ⟨fs, hr, hrun, hended, hW, hsame⟩ := X7.leave (v := some (.int (0 : Int32))) (fun h => by rw [Bd.returns] at h; cases h)
      refine ⟨_, _, c8 _ ?_, hrun, hended, _, _, rfl, ?_, ⟨_, rfl⟩, hW, hsame.mono (by decide) (by decide)⟩
      · show Steps p.tables e below (T7.setTop (mkF m 34 #[.val (.ref a1), .val (.ref a2), .val (.ref a2)] [(.int (lcmpW w_shares_a1 w_shares_a2))])) _
        refine XS.ifYes X7.here hx rfl (pc0 := 34) (pc' := 53) rfl (hb hby d3_34) rfl ((if0 _ _).trans (feq (fun q => hc34 ((lw_eq w_shares_a1 w_shares_a2).mp q))).2) (by decide) (by decide) ?_
        show Steps p.tables e below (T7.setTop (mkF m 53 #[.val (.ref a1), .val (.ref a2), .val (.ref a2)] [])) _
        refine XS.iconst X7.here hx rfl (hb hby d3_53) ?_
        show Steps p.tables e below (T7.setTop (mkF m 54 #[.val (.ref a1), .val (.ref a2), .val (.ref a2)] [(.int (0 : Int32))])) _
        exact retN X7 hx (t := .boolean) Bd.returns (by simp) (hb hby d3_54) hr
      · show Q3H Z a1 a2 w_participants_a1 w_shares_a1 w_cash_a1 w_participants_a2 w_shares_a2 w_cash_a2 h0 n0 _ T7.heap _
        rw [e7]
        have hv : (own_eqH w_participants_a1 w_shares_a1 w_cash_a1 w_participants_a2 w_shares_a2 w_cash_a2) = (0 : Int32) := by unfold own_eqH; rw [if_pos hc22, if_neg hc34]
        exact ⟨by rw [hv], N0, rfl⟩
  · obtain ⟨fs, hr, hrun, hended, hW, hsame⟩ := X4.leave (v := some (.int (0 : Int32))) (fun h => by rw [Bd.returns] at h; cases h)
    refine ⟨_, _, c5 _ ?_, hrun, hended, _, _, rfl, ?_, ⟨_, rfl⟩, hW, hsame.mono (by decide) (by decide)⟩
    · show Steps p.tables e below (T4.setTop (mkF m 22 #[.val (.ref a1), .val (.ref a2), .val (.ref a2)] [(.int w_participants_a2), (.int w_participants_a1)])) _
      refine XS.icmpYes X4.here hx rfl (pc0 := 22) (pc' := 53) rfl (hb hby d3_22) rfl (feq hc22).2 (by decide) (by decide) ?_
      show Steps p.tables e below (T4.setTop (mkF m 53 #[.val (.ref a1), .val (.ref a2), .val (.ref a2)] [])) _
      refine XS.iconst X4.here hx rfl (hb hby d3_53) ?_
      show Steps p.tables e below (T4.setTop (mkF m 54 #[.val (.ref a1), .val (.ref a2), .val (.ref a2)] [(.int (0 : Int32))])) _
      exact retN X4 hx (t := .boolean) Bd.returns (by simp) (hb hby d3_54) hr
    · show Q3H Z a1 a2 w_participants_a1 w_shares_a1 w_cash_a1 w_participants_a2 w_shares_a2 w_cash_a2 h0 n0 _ T4.heap _
      rw [e4]
      have hv : (own_eqH w_participants_a1 w_shares_a1 w_cash_a1 w_participants_a2 w_shares_a2 w_cash_a2) = (0 : Int32) := by unfold own_eqH; rw [if_neg hc22]
      exact ⟨by rw [hv], N0, rfl⟩
theorem d3_7 : decode prog_31_method_6_code 7 = .ok (.iconst 0, 1) := by decide +kernel
theorem d3_8 : decode prog_31_method_6_code 8 = .ok (.ireturn, 1) := by decide +kernel
theorem pn3N : plainName "com/example/vestline/vestline/Holdings" = true := by first | (simp [plainName, overriddenIn]; done) | decide +kernel
theorem ef3N (m : MethodId) (a1 : Addr) : entryFrame m #[(.ref a1), .null] 3 = mkF m 0 #[.val (.ref a1), .val .null, .unset] [] := by first | (simp [entryFrame, mkF, argsToLocals, Value.category]; done) | rfl
def Q3N (Z : State) (a1 : Addr) (h0 : Heap) (n0 : Nat) (v : Option Value) (h : Heap) (L : List Loc) : Prop := v = some (.int (0 : Int32)) ∧ Fr n0 L ∧ h = h0
set_option maxRecDepth 65536 in
set_option maxHeartbeats 40000000 in
theorem rm3N (l : Launch) (Z : State) (a0 : Array Value) (hw : ∀ d ∈ tables_1, d.before a0 Z = true) (ws : List Jvm.Cond) (a1 : Addr) (h0 : Heap) (n0 : Nat) (Z0 : n0 ≤ h0.size) :
    MetFree l (⟨"com/example/vestline/vestline/Holdings", "equals", "(Ljava/lang/Object;)Z"⟩ : MethodName) (head1 (Jvm.Cond.code (⟨"com/example/vestline/vestline/Holdings", "equals", "(Ljava/lang/Object;)Z"⟩ : MethodName) prog_31_method_6_code 3 (some .boolean) :: ws) ({ frames := 0, cells := 0, slots := 0, locals := 0 } : Room)) (fun a U => a = #[(.ref a1), .null] ∧ Z.Warmed39 U.vm ∧ U.heap = h0) (fun _ _ _ _ _ => True) (fun _ U o U' => ∃ v L, o = .returned v ∧ Q3N Z a1 h0 n0 v U'.heap L ∧ FrameEnd U o U' L ({ frames := 0, cells := 0, slots := 0, locals := 0 } : Room).cells ({ frames := 0, cells := 0, slots := 0, locals := 0 } : Room).slots) := by
  refine MetFree.of_bodySF (plainFor_of_name pn3N) hisR ?_
  intro p e s m args below meth c s₁ Bd hml0 hP hK
  obtain ⟨rfl, hZ, hh⟩ := hP
  have hx := Bd.exec
  have hby := Bd.bytes
  have hml : c.maxLocals = 3 := hml0
  have hown : s.vm.findClass "com/example/vestline/vestline/Holdings" = some m.cls := findClass_of_methodNamed Bd.named
  have hnm := (name_of_methodNamed Bd.named Bd.method).1
  have X0 : Stand p l e ({ frames := 0, cells := 0, slots := 0, locals := 0 } : Room) s m #[(.ref a1), .null] below meth c s₁ [] 0 0 := Stand.of_body Bd
  have e0 : s₁.heap = h0 := by rw [← hh, Bd.state]; rfl
  have N0 := Fr.nil n0
  have pre0 : ∀ t, Steps p.tables e below (s₁.setTop (mkF m 0 #[.val (.ref a1), .val .null, .unset] [])) t → Steps p.tables e below (s₁.setTop (entryFrame m #[(.ref a1), .null] 3)) t := fun t k => castTop (ef3N m a1) k
  obtain ⟨fs, hr, hrun, hended, hW, hsame⟩ := X0.leave (v := some (.int (0 : Int32))) (fun h => by rw [Bd.returns] at h; cases h)
  refine ⟨_, _, pre0 _ ?_, hrun, hended, _, _, rfl, ?_, ⟨_, rfl⟩, hW, hsame.mono (by decide) (by decide)⟩
  · show Steps p.tables e below (s₁.setTop (mkF m 0 #[.val (.ref a1), .val .null, .unset] [])) _
    refine XS.aloadN X0.here hx rfl (hb hby d3_0) rfl rfl ?_
    show Steps p.tables e below (s₁.setTop (mkF m 1 #[.val (.ref a1), .val .null, .unset] [.null])) _
    refine X0.instanceofNull hx (g := (mkF m 1 #[.val (.ref a1), .val .null, .unset] [.null])) rfl rfl (hb hby d3_1) _ ?_
    show Steps p.tables e below (s₁.setTop (mkF m 4 #[.val (.ref a1), .val .null, .unset] [(.int (0 : Int32))])) _
    refine XS.ifNo X0.here hx rfl (hb hby d3_4) rfl ((if0 _ _).trans (teq (by decide)).2) ?_
    show Steps p.tables e below (s₁.setTop (mkF m 7 #[.val (.ref a1), .val .null, .unset] [])) _
    refine XS.iconst X0.here hx rfl (hb hby d3_7) ?_
    show Steps p.tables e below (s₁.setTop (mkF m 8 #[.val (.ref a1), .val .null, .unset] [(.int (0 : Int32))])) _
    exact retN X0 hx (t := .boolean) Bd.returns (by simp) (hb hby d3_8) hr
  · show Q3N Z a1 h0 n0 _ s₁.heap _
    rw [e0]
    exact ⟨rfl, N0, rfl⟩
theorem pn3L : plainName "com/example/vestline/vestline/Holdings" = true := by first | (simp [plainName, overriddenIn]; done) | decide +kernel
theorem ef3L (m : MethodId) (a1 : Addr) (a2 : Addr) : entryFrame m #[(.ref a1), (.ref a2)] 3 = mkF m 0 #[.val (.ref a1), .val (.ref a2), .unset] [] := by first | (simp [entryFrame, mkF, argsToLocals, Value.category]; done) | rfl
def Q3L (Z : State) (a1 : Addr) (a2 : Addr) (h0 : Heap) (n0 : Nat) (v : Option Value) (h : Heap) (L : List Loc) : Prop := v = some (.int (0 : Int32)) ∧ Fr n0 L ∧ h = h0
set_option maxRecDepth 65536 in
set_option maxHeartbeats 40000000 in
theorem rm3L (l : Launch) (Z : State) (a0 : Array Value) (hw : ∀ d ∈ tables_1, d.before a0 Z = true) (ws : List Jvm.Cond) (a1 : Addr) (a2 : Addr) (h0 : Heap) (n0 : Nat) (Z0 : n0 ≤ h0.size) (E2 : Exa Z h0 a2 "java/lang/Long") :
    MetFree l (⟨"com/example/vestline/vestline/Holdings", "equals", "(Ljava/lang/Object;)Z"⟩ : MethodName) (head1 (Jvm.Cond.code (⟨"com/example/vestline/vestline/Holdings", "equals", "(Ljava/lang/Object;)Z"⟩ : MethodName) prog_31_method_6_code 3 (some .boolean) :: ws) ({ frames := 0, cells := 0, slots := 0, locals := 0 } : Room)) (fun a U => a = #[(.ref a1), (.ref a2)] ∧ Z.Warmed39 U.vm ∧ U.heap = h0) (fun _ _ _ _ _ => True) (fun _ U o U' => ∃ v L, o = .returned v ∧ Q3L Z a1 a2 h0 n0 v U'.heap L ∧ FrameEnd U o U' L ({ frames := 0, cells := 0, slots := 0, locals := 0 } : Room).cells ({ frames := 0, cells := 0, slots := 0, locals := 0 } : Room).slots) := by
  refine MetFree.of_bodySF (plainFor_of_name pn3L) hisR ?_
  intro p e s m args below meth c s₁ Bd hml0 hP hK
  obtain ⟨rfl, hZ, hh⟩ := hP
  have hx := Bd.exec
  have hby := Bd.bytes
  have hml : c.maxLocals = 3 := hml0
  have hown : s.vm.findClass "com/example/vestline/vestline/Holdings" = some m.cls := findClass_of_methodNamed Bd.named
  have hnm := (name_of_methodNamed Bd.named Bd.method).1
  have X0 : Stand p l e ({ frames := 0, cells := 0, slots := 0, locals := 0 } : Room) s m #[(.ref a1), (.ref a2)] below meth c s₁ [] 0 0 := Stand.of_body Bd
  have e0 : s₁.heap = h0 := by rw [← hh, Bd.state]; rfl
  have N0 := Fr.nil n0
  have pre0 : ∀ t, Steps p.tables e below (s₁.setTop (mkF m 0 #[.val (.ref a1), .val (.ref a2), .unset] [])) t → Steps p.tables e below (s₁.setTop (entryFrame m #[(.ref a1), (.ref a2)] 3)) t := fun t k => castTop (ef3L m a1 a2) k
  obtain ⟨T1, X1, e1, st1⟩ := instNo X0 hx hZ hown (hw _ (List.mem_of_getElem? (i := 20) rfl)) e0 E2 (own_ns_no (hw _ (List.mem_of_getElem? (i := 43) rfl)) (hw _ (List.mem_of_getElem? (i := 1) rfl)) (NS.step (hw _ (List.mem_of_getElem? (i := 43) rfl)) (NS.step (hw _ (List.mem_of_getElem? (i := 44) rfl)) (own_ns_root (hw _ (List.mem_of_getElem? (i := 45) rfl)) (hw _ (List.mem_of_getElem? (i := 1) rfl)) (by decide)) (by decide)) (by decide)) (by decide)) (g := (mkF m 1 #[.val (.ref a1), .val (.ref a2), .unset] [(.ref a2)])) rfl rfl (hb hby d3_1)
  obtain ⟨fs, hr, hrun, hended, hW, hsame⟩ := X1.leave (v := some (.int (0 : Int32))) (fun h => by rw [Bd.returns] at h; cases h)
  refine ⟨_, _, pre0 _ ?_, hrun, hended, _, _, rfl, ?_, ⟨_, rfl⟩, hW, hsame.mono (by decide) (by decide)⟩
  · show Steps p.tables e below (s₁.setTop (mkF m 0 #[.val (.ref a1), .val (.ref a2), .unset] [])) _
    refine XS.aloadN X0.here hx rfl (hb hby d3_0) rfl rfl ?_
    show Steps p.tables e below (s₁.setTop (mkF m 1 #[.val (.ref a1), .val (.ref a2), .unset] [(.ref a2)])) _
    refine st1 _ ?_
    show Steps p.tables e below (T1.setTop (mkF m 4 #[.val (.ref a1), .val (.ref a2), .unset] [(.int (0 : Int32))])) _
    refine XS.ifNo X1.here hx rfl (hb hby d3_4) rfl ((if0 _ _).trans (teq (by decide)).2) ?_
    show Steps p.tables e below (T1.setTop (mkF m 7 #[.val (.ref a1), .val (.ref a2), .unset] [])) _
    refine XS.iconst X1.here hx rfl (hb hby d3_7) ?_
    show Steps p.tables e below (T1.setTop (mkF m 8 #[.val (.ref a1), .val (.ref a2), .unset] [(.int (0 : Int32))])) _
    exact retN X1 hx (t := .boolean) Bd.returns (by simp) (hb hby d3_8) hr
  · show Q3L Z a1 a2 h0 n0 _ T1.heap _
    rw [e1]
    exact ⟨rfl, N0, rfl⟩
theorem own_x32 (p d : Int32) : (p = (p ^^^ d)) = (d = 0) := propext ⟨fun h => by
    have : p ^^^ p = p ^^^ (p ^^^ d) := congrArg (fun z => p ^^^ z) h
    rw [← Int32.xor_assoc, Int32.xor_self, Int32.zero_xor] at this
    exact this.symm, fun h => by rw [h, Int32.xor_zero]⟩
theorem own_x64 (p d : Int64) : (p = (p ^^^ d)) = (d = 0) := propext ⟨fun h => by
    have : p ^^^ p = p ^^^ (p ^^^ d) := congrArg (fun z => p ^^^ z) h
    rw [← Int64.xor_assoc, Int64.xor_self, Int64.zero_xor] at this
    exact this.symm, fun h => by rw [h, Int64.xor_zero]⟩
theorem own_exp (p d : Int32) (s ds c dc : Int64) : own_eqH p s c (p ^^^ d) (s ^^^ ds) (c ^^^ dc) = (if d = (0 : Int32) then (if ds = (0 : Int64) then (if dc = (0 : Int64) then (1 : Int32) else (0 : Int32)) else (0 : Int32)) else (0 : Int32)) := by
  unfold own_eqH
  simp only [own_x32, own_x64]
theorem own_swap (p p' : Int32) (s s' c c' : Int64) : own_eqH p s c p' s' c' = own_eqH p' s' c' p s c := by
  unfold own_eqH
  simp only [@eq_comm _ p p', @eq_comm _ s s', @eq_comm _ c c']
theorem own_refl (p : Int32) (s c : Int64) : own_eqH p s c p s c = 1 := by
  unfold own_eqH
  rw [if_pos rfl, if_pos rfl, if_pos rfl]
theorem pn0 : plainName "com/example/vestline/vestline/HoldingsEqualsPinLaw" = true := by first | (simp [plainName, overriddenIn]; done) | decide +kernel
theorem pd0_0 : parseMethodDescriptor "(IJJ)V" = some ⟨[.int, .long, .long], none⟩ := by decide +kernel
theorem pd0_1 : parseMethodDescriptor "(Ljava/lang/Object;)Z" = some ⟨[(.object "java/lang/Object")], some .boolean⟩ := by decide +kernel
theorem pd0_2 : parseMethodDescriptor "(J)Ljava/lang/Long;" = some ⟨[.long], some (.object "java/lang/Long")⟩ := by decide +kernel
theorem ef0 (m : MethodId) (q1 : Int64) (q2 : Int64) (q3 : Int64) (q4 : Int64) (q5 : Int64) (p6 : Int32) : entryFrame m #[(.long q1), (.long q2), (.long q3), (.long q4), (.long q5), (.int p6)] maxLocals = mkF m 0 #[.val (.long q1), .second, .val (.long q2), .second, .val (.long q3), .second, .val (.long q4), .second, .val (.long q5), .second, .val (.int p6), .unset, .unset, .unset, .unset, .unset, .unset, .unset, .unset, .unset, .unset, .unset, .unset, .unset, .unset, .unset, .unset, .unset] [] := by first | (simp [entryFrame, mkF, argsToLocals, Value.category, maxLocals]; done) | rfl
def Q0 (Z : State) (q1 : Int64) (q2 : Int64) (q3 : Int64) (q4 : Int64) (q5 : Int64) (p6 : Int32) (ca : Addr) (clc : Cell) (h0 : Heap) (n0 : Nat) (v : Option Value) (h : Heap) (L : List Loc) : Prop := v = some (.int (1 : Int32)) ∧ Fr n0 L
set_option maxRecDepth 65536 in
set_option maxHeartbeats 40000000 in
theorem rm0 (l : Launch) (Z : State) (a0 : Array Value) (hw : ∀ d ∈ tables_1, d.before a0 Z = true) (ws : List Jvm.Cond) (q1 : Int64) (q2 : Int64) (q3 : Int64) (q4 : Int64) (q5 : Int64) (p6 : Int32) (ca : Addr) (clc : Cell) (h0 : Heap) (n0 : Nat) (Z0 : n0 ≤ h0.size) (Ol : Old Z n0 h0) (S0 : Sta Z Z.heap "java/lang/Long$LongCache" "cache" "[Ljava/lang/Long;" (.ref ca)) (Arc : Arr Z Z.heap ca clc (.object "java/lang/Long")) (hsz : clc.slots.size = 256) (hel : ∀ j : Int32, ¬ (j < 0 ∨ clc.slots.size ≤ j.toNatClampNeg) → ∃ b : Addr, clc.slots[j.toNatClampNeg]? = some (.ref b) ∧ Exa Z Z.heap b "java/lang/Long") :
    MetFree l x (head1 (Jvm.Cond.code x code maxLocals ret :: ws) room_1) (fun a U => a = #[(.long q1), (.long q2), (.long q3), (.long q4), (.long q5), (.int p6)] ∧ Z.Warmed39 U.vm ∧ U.heap = h0) (fun _ _ _ _ _ => True) (fun _ U o U' => ∃ v L, o = .returned v ∧ Q0 Z q1 q2 q3 q4 q5 p6 ca clc h0 n0 v U'.heap L ∧ FrameEnd U o U' L room_1.cells room_1.slots) := by
  refine MetFree.of_bodySF (plainFor_of_name pn0) hisR ?_
  intro p e s m args below meth c s₁ Bd hml0 hP hK
  obtain ⟨rfl, hZ, hh⟩ := hP
  have hx := Bd.exec
  have hby := Bd.bytes
  have hml : c.maxLocals = 28 := hml0
  have hown : s.vm.findClass "com/example/vestline/vestline/HoldingsEqualsPinLaw" = some m.cls := findClass_of_methodNamed Bd.named
  have hnm := (name_of_methodNamed Bd.named Bd.method).1
  have X0 : Stand p l e room_1 s m #[(.long q1), (.long q2), (.long q3), (.long q4), (.long q5), (.int p6)] below meth c s₁ [] 0 0 := Stand.of_body Bd
  have e0 : s₁.heap = h0 := by rw [← hh, Bd.state]; rfl
  have N0 := Fr.nil n0
  have pre0 : ∀ t, Steps p.tables e below (s₁.setTop (mkF m 0 #[.val (.long q1), .second, .val (.long q2), .second, .val (.long q3), .second, .val (.long q4), .second, .val (.long q5), .second, .val (.int p6), .unset, .unset, .unset, .unset, .unset, .unset, .unset, .unset, .unset, .unset, .unset, .unset, .unset, .unset, .unset, .unset, .unset] [])) t → Steps p.tables e below (s₁.setTop (entryFrame m #[(.long q1), (.long q2), (.long q3), (.long q4), (.long q5), (.int p6)] maxLocals)) t := fun t k => castTop (ef0 m q1 q2 q3 q4 q5 p6) k
  obtain ⟨j4_S0, ej4_S0⟩ : ∃ z : Int32, z = (if (p6 &&& (1 : Int32)) = (0 : Int32) then (((q1.toUInt64 >>> ((32 : Int32) &&& 0x3f).toInt64.toUInt64).toInt64).toInt32) else (0 : Int32)) := ⟨_, rfl⟩
  have sg4 : ∀ t, Steps p.tables e below (s₁.setTop (mkF m 20 #[.val (.long q1), .second, .val (.long q2), .second, .val (.long q3), .second, .val (.long q4), .second, .val (.long q5), .second, .val (.int p6), .val (.int (q1.toInt32)), .unset, .unset, .unset, .unset, .unset, .unset, .unset, .unset, .unset, .unset, .unset, .unset, .unset, .unset, .unset, .unset] [(.int j4_S0)])) t → Steps p.tables e below (s₁.setTop (mkF m 4 #[.val (.long q1), .second, .val (.long q2), .second, .val (.long q3), .second, .val (.long q4), .second, .val (.long q5), .second, .val (.int p6), .val (.int (q1.toInt32)), .unset, .unset, .unset, .unset, .unset, .unset, .unset, .unset, .unset, .unset, .unset, .unset, .unset, .unset, .unset, .unset] [])) t := fun t kt => by
    show Steps p.tables e below (s₁.setTop (mkF m 4 #[.val (.long q1), .second, .val (.long q2), .second, .val (.long q3), .second, .val (.long q4), .second, .val (.long q5), .second, .val (.int p6), .val (.int (q1.toInt32)), .unset, .unset, .unset, .unset, .unset, .unset, .unset, .unset, .unset, .unset, .unset, .unset, .unset, .unset, .unset, .unset] [])) _
    refine XS.iload X0.here hx rfl (hb hby at_4) rfl ?_
    show Steps p.tables e below (s₁.setTop (mkF m 6 #[.val (.long q1), .second, .val (.long q2), .second, .val (.long q3), .second, .val (.long q4), .second, .val (.long q5), .second, .val (.int p6), .val (.int (q1.toInt32)), .unset, .unset, .unset, .unset, .unset, .unset, .unset, .unset, .unset, .unset, .unset, .unset, .unset, .unset, .unset, .unset] [(.int p6)])) _
    refine XS.iconst X0.here hx rfl (hb hby at_6) ?_
    show Steps p.tables e below (s₁.setTop (mkF m 7 #[.val (.long q1), .second, .val (.long q2), .second, .val (.long q3), .second, .val (.long q4), .second, .val (.long q5), .second, .val (.int p6), .val (.int (q1.toInt32)), .unset, .unset, .unset, .unset, .unset, .unset, .unset, .unset, .unset, .unset, .unset, .unset, .unset, .unset, .unset, .unset] [(.int (1 : Int32)), (.int p6)])) _
    refine XS.iand X0.here hx rfl (hb hby at_7) rfl ?_
    by_cases hc8 : (p6 &&& (1 : Int32)) = (0 : Int32)
    · have qj4_S0 : j4_S0 = (((q1.toUInt64 >>> ((32 : Int32) &&& 0x3f).toInt64.toUInt64).toInt64).toInt32) := by rw [ej4_S0, if_pos hc8]
      rw [qj4_S0] at kt
      show Steps p.tables e below (s₁.setTop (mkF m 8 #[.val (.long q1), .second, .val (.long q2), .second, .val (.long q3), .second, .val (.long q4), .second, .val (.long q5), .second, .val (.int p6), .val (.int (q1.toInt32)), .unset, .unset, .unset, .unset, .unset, .unset, .unset, .unset, .unset, .unset, .unset, .unset, .unset, .unset, .unset, .unset] [(.int (p6 &&& (1 : Int32)))])) _
      refine XS.ifYes X0.here hx rfl (pc0 := 8) (pc' := 15) rfl (hb hby at_8) rfl ((if0 _ _).trans (teq hc8).1) (by decide) (by decide) ?_
      show Steps p.tables e below (s₁.setTop (mkF m 15 #[.val (.long q1), .second, .val (.long q2), .second, .val (.long q3), .second, .val (.long q4), .second, .val (.long q5), .second, .val (.int p6), .val (.int (q1.toInt32)), .unset, .unset, .unset, .unset, .unset, .unset, .unset, .unset, .unset, .unset, .unset, .unset, .unset, .unset, .unset, .unset] [])) _
      refine XS.lloadN X0.here hx rfl (hb hby at_15) rfl ?_
      show Steps p.tables e below (s₁.setTop (mkF m 16 #[.val (.long q1), .second, .val (.long q2), .second, .val (.long q3), .second, .val (.long q4), .second, .val (.long q5), .second, .val (.int p6), .val (.int (q1.toInt32)), .unset, .unset, .unset, .unset, .unset, .unset, .unset, .unset, .unset, .unset, .unset, .unset, .unset, .unset, .unset, .unset] [(.long q1)])) _
      refine XS.bipush X0.here hx rfl (hb hby at_16) ?_
      show Steps p.tables e below (s₁.setTop (mkF m 18 #[.val (.long q1), .second, .val (.long q2), .second, .val (.long q3), .second, .val (.long q4), .second, .val (.long q5), .second, .val (.int p6), .val (.int (q1.toInt32)), .unset, .unset, .unset, .unset, .unset, .unset, .unset, .unset, .unset, .unset, .unset, .unset, .unset, .unset, .unset, .unset] [(.int (32 : Int32)), (.long q1)])) _
      refine XS.lushr X0.here hx rfl (hb hby at_18) rfl ?_
      show Steps p.tables e below (s₁.setTop (mkF m 19 #[.val (.long q1), .second, .val (.long q2), .second, .val (.long q3), .second, .val (.long q4), .second, .val (.long q5), .second, .val (.int p6), .val (.int (q1.toInt32)), .unset, .unset, .unset, .unset, .unset, .unset, .unset, .unset, .unset, .unset, .unset, .unset, .unset, .unset, .unset, .unset] [(.long ((q1.toUInt64 >>> ((32 : Int32) &&& 0x3f).toInt64.toUInt64).toInt64))])) _
      refine XS.l2i X0.here hx rfl (hb hby at_19) rfl ?_
      exact kt
    · have qj4_S0 : j4_S0 = (0 : Int32) := by rw [ej4_S0, if_neg hc8]
      rw [qj4_S0] at kt
      show Steps p.tables e below (s₁.setTop (mkF m 8 #[.val (.long q1), .second, .val (.long q2), .second, .val (.long q3), .second, .val (.long q4), .second, .val (.long q5), .second, .val (.int p6), .val (.int (q1.toInt32)), .unset, .unset, .unset, .unset, .unset, .unset, .unset, .unset, .unset, .unset, .unset, .unset, .unset, .unset, .unset, .unset] [(.int (p6 &&& (1 : Int32)))])) _
      refine XS.ifNo X0.here hx rfl (hb hby at_8) rfl ((if0 _ _).trans (feq hc8).1) ?_
      show Steps p.tables e below (s₁.setTop (mkF m 11 #[.val (.long q1), .second, .val (.long q2), .second, .val (.long q3), .second, .val (.long q4), .second, .val (.long q5), .second, .val (.int p6), .val (.int (q1.toInt32)), .unset, .unset, .unset, .unset, .unset, .unset, .unset, .unset, .unset, .unset, .unset, .unset, .unset, .unset, .unset, .unset] [])) _
      refine XS.iconst X0.here hx rfl (hb hby at_11) ?_
      show Steps p.tables e below (s₁.setTop (mkF m 12 #[.val (.long q1), .second, .val (.long q2), .second, .val (.long q3), .second, .val (.long q4), .second, .val (.long q5), .second, .val (.int p6), .val (.int (q1.toInt32)), .unset, .unset, .unset, .unset, .unset, .unset, .unset, .unset, .unset, .unset, .unset, .unset, .unset, .unset, .unset, .unset] [(.int (0 : Int32))])) _
      refine XS.goto X0.here hx rfl (pc0 := 12) (pc' := 20) rfl (hb hby at_12) (by decide) (by decide) ?_
      exact kt
  obtain ⟨j22_S0, ej22_S0⟩ : ∃ z : Int64, z = (if (p6 &&& (2 : Int32)) = (0 : Int32) then q4 else (0 : Int64)) := ⟨_, rfl⟩
  have sg22 : ∀ t, Steps p.tables e below (s₁.setTop (mkF m 35 #[.val (.long q1), .second, .val (.long q2), .second, .val (.long q3), .second, .val (.long q4), .second, .val (.long q5), .second, .val (.int p6), .val (.int (q1.toInt32)), .val (.int j4_S0), .unset, .unset, .unset, .unset, .unset, .unset, .unset, .unset, .unset, .unset, .unset, .unset, .unset, .unset, .unset] [(.long j22_S0)])) t → Steps p.tables e below (s₁.setTop (mkF m 22 #[.val (.long q1), .second, .val (.long q2), .second, .val (.long q3), .second, .val (.long q4), .second, .val (.long q5), .second, .val (.int p6), .val (.int (q1.toInt32)), .val (.int j4_S0), .unset, .unset, .unset, .unset, .unset, .unset, .unset, .unset, .unset, .unset, .unset, .unset, .unset, .unset, .unset] [])) t := fun t kt => by
    show Steps p.tables e below (s₁.setTop (mkF m 22 #[.val (.long q1), .second, .val (.long q2), .second, .val (.long q3), .second, .val (.long q4), .second, .val (.long q5), .second, .val (.int p6), .val (.int (q1.toInt32)), .val (.int j4_S0), .unset, .unset, .unset, .unset, .unset, .unset, .unset, .unset, .unset, .unset, .unset, .unset, .unset, .unset, .unset] [])) _
    refine XS.iload X0.here hx rfl (hb hby at_22) rfl ?_
    show Steps p.tables e below (s₁.setTop (mkF m 24 #[.val (.long q1), .second, .val (.long q2), .second, .val (.long q3), .second, .val (.long q4), .second, .val (.long q5), .second, .val (.int p6), .val (.int (q1.toInt32)), .val (.int j4_S0), .unset, .unset, .unset, .unset, .unset, .unset, .unset, .unset, .unset, .unset, .unset, .unset, .unset, .unset, .unset] [(.int p6)])) _
    refine XS.iconst X0.here hx rfl (hb hby at_24) ?_
    show Steps p.tables e below (s₁.setTop (mkF m 25 #[.val (.long q1), .second, .val (.long q2), .second, .val (.long q3), .second, .val (.long q4), .second, .val (.long q5), .second, .val (.int p6), .val (.int (q1.toInt32)), .val (.int j4_S0), .unset, .unset, .unset, .unset, .unset, .unset, .unset, .unset, .unset, .unset, .unset, .unset, .unset, .unset, .unset] [(.int (2 : Int32)), (.int p6)])) _
    refine XS.iand X0.here hx rfl (hb hby at_25) rfl ?_
    by_cases hc26 : (p6 &&& (2 : Int32)) = (0 : Int32)
    · have qj22_S0 : j22_S0 = q4 := by rw [ej22_S0, if_pos hc26]
      rw [qj22_S0] at kt
      show Steps p.tables e below (s₁.setTop (mkF m 26 #[.val (.long q1), .second, .val (.long q2), .second, .val (.long q3), .second, .val (.long q4), .second, .val (.long q5), .second, .val (.int p6), .val (.int (q1.toInt32)), .val (.int j4_S0), .unset, .unset, .unset, .unset, .unset, .unset, .unset, .unset, .unset, .unset, .unset, .unset, .unset, .unset, .unset] [(.int (p6 &&& (2 : Int32)))])) _
      refine XS.ifYes X0.here hx rfl (pc0 := 26) (pc' := 33) rfl (hb hby at_26) rfl ((if0 _ _).trans (teq hc26).1) (by decide) (by decide) ?_
      show Steps p.tables e below (s₁.setTop (mkF m 33 #[.val (.long q1), .second, .val (.long q2), .second, .val (.long q3), .second, .val (.long q4), .second, .val (.long q5), .second, .val (.int p6), .val (.int (q1.toInt32)), .val (.int j4_S0), .unset, .unset, .unset, .unset, .unset, .unset, .unset, .unset, .unset, .unset, .unset, .unset, .unset, .unset, .unset] [])) _
      refine XS.lload X0.here hx rfl (hb hby at_33) rfl ?_
      exact kt
    · have qj22_S0 : j22_S0 = (0 : Int64) := by rw [ej22_S0, if_neg hc26]
      rw [qj22_S0] at kt
      show Steps p.tables e below (s₁.setTop (mkF m 26 #[.val (.long q1), .second, .val (.long q2), .second, .val (.long q3), .second, .val (.long q4), .second, .val (.long q5), .second, .val (.int p6), .val (.int (q1.toInt32)), .val (.int j4_S0), .unset, .unset, .unset, .unset, .unset, .unset, .unset, .unset, .unset, .unset, .unset, .unset, .unset, .unset, .unset] [(.int (p6 &&& (2 : Int32)))])) _
      refine XS.ifNo X0.here hx rfl (hb hby at_26) rfl ((if0 _ _).trans (feq hc26).1) ?_
      show Steps p.tables e below (s₁.setTop (mkF m 29 #[.val (.long q1), .second, .val (.long q2), .second, .val (.long q3), .second, .val (.long q4), .second, .val (.long q5), .second, .val (.int p6), .val (.int (q1.toInt32)), .val (.int j4_S0), .unset, .unset, .unset, .unset, .unset, .unset, .unset, .unset, .unset, .unset, .unset, .unset, .unset, .unset, .unset] [])) _
      refine XS.lconst X0.here hx rfl (hb hby at_29) ?_
      show Steps p.tables e below (s₁.setTop (mkF m 30 #[.val (.long q1), .second, .val (.long q2), .second, .val (.long q3), .second, .val (.long q4), .second, .val (.long q5), .second, .val (.int p6), .val (.int (q1.toInt32)), .val (.int j4_S0), .unset, .unset, .unset, .unset, .unset, .unset, .unset, .unset, .unset, .unset, .unset, .unset, .unset, .unset, .unset] [(.long (0 : Int64))])) _
      refine XS.goto X0.here hx rfl (pc0 := 30) (pc' := 35) rfl (hb hby at_30) (by decide) (by decide) ?_
      exact kt
  obtain ⟨j37_S0, ej37_S0⟩ : ∃ z : Int64, z = (if (p6 &&& (4 : Int32)) = (0 : Int32) then q5 else (0 : Int64)) := ⟨_, rfl⟩
  have sg37 : ∀ t, Steps p.tables e below (s₁.setTop (mkF m 50 #[.val (.long q1), .second, .val (.long q2), .second, .val (.long q3), .second, .val (.long q4), .second, .val (.long q5), .second, .val (.int p6), .val (.int (q1.toInt32)), .val (.int j4_S0), .val (.long j22_S0), .second, .unset, .unset, .unset, .unset, .unset, .unset, .unset, .unset, .unset, .unset, .unset, .unset, .unset] [(.long j37_S0)])) t → Steps p.tables e below (s₁.setTop (mkF m 37 #[.val (.long q1), .second, .val (.long q2), .second, .val (.long q3), .second, .val (.long q4), .second, .val (.long q5), .second, .val (.int p6), .val (.int (q1.toInt32)), .val (.int j4_S0), .val (.long j22_S0), .second, .unset, .unset, .unset, .unset, .unset, .unset, .unset, .unset, .unset, .unset, .unset, .unset, .unset] [])) t := fun t kt => by
    show Steps p.tables e below (s₁.setTop (mkF m 37 #[.val (.long q1), .second, .val (.long q2), .second, .val (.long q3), .second, .val (.long q4), .second, .val (.long q5), .second, .val (.int p6), .val (.int (q1.toInt32)), .val (.int j4_S0), .val (.long j22_S0), .second, .unset, .unset, .unset, .unset, .unset, .unset, .unset, .unset, .unset, .unset, .unset, .unset, .unset] [])) _
    refine XS.iload X0.here hx rfl (hb hby at_37) rfl ?_
    show Steps p.tables e below (s₁.setTop (mkF m 39 #[.val (.long q1), .second, .val (.long q2), .second, .val (.long q3), .second, .val (.long q4), .second, .val (.long q5), .second, .val (.int p6), .val (.int (q1.toInt32)), .val (.int j4_S0), .val (.long j22_S0), .second, .unset, .unset, .unset, .unset, .unset, .unset, .unset, .unset, .unset, .unset, .unset, .unset, .unset] [(.int p6)])) _
    refine XS.iconst X0.here hx rfl (hb hby at_39) ?_
    show Steps p.tables e below (s₁.setTop (mkF m 40 #[.val (.long q1), .second, .val (.long q2), .second, .val (.long q3), .second, .val (.long q4), .second, .val (.long q5), .second, .val (.int p6), .val (.int (q1.toInt32)), .val (.int j4_S0), .val (.long j22_S0), .second, .unset, .unset, .unset, .unset, .unset, .unset, .unset, .unset, .unset, .unset, .unset, .unset, .unset] [(.int (4 : Int32)), (.int p6)])) _
    refine XS.iand X0.here hx rfl (hb hby at_40) rfl ?_
    by_cases hc41 : (p6 &&& (4 : Int32)) = (0 : Int32)
    · have qj37_S0 : j37_S0 = q5 := by rw [ej37_S0, if_pos hc41]
      rw [qj37_S0] at kt
      show Steps p.tables e below (s₁.setTop (mkF m 41 #[.val (.long q1), .second, .val (.long q2), .second, .val (.long q3), .second, .val (.long q4), .second, .val (.long q5), .second, .val (.int p6), .val (.int (q1.toInt32)), .val (.int j4_S0), .val (.long j22_S0), .second, .unset, .unset, .unset, .unset, .unset, .unset, .unset, .unset, .unset, .unset, .unset, .unset, .unset] [(.int (p6 &&& (4 : Int32)))])) _
      refine XS.ifYes X0.here hx rfl (pc0 := 41) (pc' := 48) rfl (hb hby at_41) rfl ((if0 _ _).trans (teq hc41).1) (by decide) (by decide) ?_
      show Steps p.tables e below (s₁.setTop (mkF m 48 #[.val (.long q1), .second, .val (.long q2), .second, .val (.long q3), .second, .val (.long q4), .second, .val (.long q5), .second, .val (.int p6), .val (.int (q1.toInt32)), .val (.int j4_S0), .val (.long j22_S0), .second, .unset, .unset, .unset, .unset, .unset, .unset, .unset, .unset, .unset, .unset, .unset, .unset, .unset] [])) _
      refine XS.lload X0.here hx rfl (hb hby at_48) rfl ?_
      exact kt
    · have qj37_S0 : j37_S0 = (0 : Int64) := by rw [ej37_S0, if_neg hc41]
      rw [qj37_S0] at kt
      show Steps p.tables e below (s₁.setTop (mkF m 41 #[.val (.long q1), .second, .val (.long q2), .second, .val (.long q3), .second, .val (.long q4), .second, .val (.long q5), .second, .val (.int p6), .val (.int (q1.toInt32)), .val (.int j4_S0), .val (.long j22_S0), .second, .unset, .unset, .unset, .unset, .unset, .unset, .unset, .unset, .unset, .unset, .unset, .unset, .unset] [(.int (p6 &&& (4 : Int32)))])) _
      refine XS.ifNo X0.here hx rfl (hb hby at_41) rfl ((if0 _ _).trans (feq hc41).1) ?_
      show Steps p.tables e below (s₁.setTop (mkF m 44 #[.val (.long q1), .second, .val (.long q2), .second, .val (.long q3), .second, .val (.long q4), .second, .val (.long q5), .second, .val (.int p6), .val (.int (q1.toInt32)), .val (.int j4_S0), .val (.long j22_S0), .second, .unset, .unset, .unset, .unset, .unset, .unset, .unset, .unset, .unset, .unset, .unset, .unset, .unset] [])) _
      refine XS.lconst X0.here hx rfl (hb hby at_44) ?_
      show Steps p.tables e below (s₁.setTop (mkF m 45 #[.val (.long q1), .second, .val (.long q2), .second, .val (.long q3), .second, .val (.long q4), .second, .val (.long q5), .second, .val (.int p6), .val (.int (q1.toInt32)), .val (.int j4_S0), .val (.long j22_S0), .second, .unset, .unset, .unset, .unset, .unset, .unset, .unset, .unset, .unset, .unset, .unset, .unset, .unset] [(.long (0 : Int64))])) _
      refine XS.goto X0.here hx rfl (pc0 := 45) (pc' := 50) rfl (hb hby at_45) (by decide) (by decide) ?_
      exact kt
  obtain ⟨T1, h1, X1, e1, E1, A1, D1, -, st1⟩ := newO X0 hx hZ hown (hw _ (List.mem_of_getElem? (i := 0) rfl)) (hw _ (List.mem_of_getElem? (i := 1) rfl)) (hw _ (List.mem_of_getElem? (i := 2) rfl)) e0 (g := (mkF m 72 #[.val (.long q1), .second, .val (.long q2), .second, .val (.long q3), .second, .val (.long q4), .second, .val (.long q5), .second, .val (.int p6), .val (.int (q1.toInt32)), .val (.int j4_S0), .val (.long j22_S0), .second, .val (.long j37_S0), .second, .val (.int ((q1.toInt32) ^^^ j4_S0)), .val (.long (q2 ^^^ j22_S0)), .second, .val (.long (q3 ^^^ j37_S0)), .second, .unset, .unset, .unset, .unset, .unset, .unset] [])) rfl (hb hby at_72) (by decide) (by decide)
  obtain ⟨b1, g1⟩ : ∃ z, z = h0.size := ⟨_, rfl⟩
  rw [← g1] at A1 D1 st1
  have f1_O := Ol.ext E1
  have g_b1 : n0 ≤ b1 := Nat.le_trans Z0 (Nat.le_of_eq g1.symm)
  have Z1 : n0 ≤ h1.size := Nat.le_trans Z0 E1.1
  have F1_participants : Fld Z h1 b1 "com/example/vestline/vestline/Holdings" "participants" "I" (.int (0 : Int32)) := D1 (Or.inr (hw _ (List.mem_of_getElem? (i := 10) rfl))) (ty := .int) (by decide)
  have F1_shares : Fld Z h1 b1 "com/example/vestline/vestline/Holdings" "shares" "J" (.long (0 : Int64)) := D1 (Or.inr (hw _ (List.mem_of_getElem? (i := 12) rfl))) (ty := .long) (by decide)
  have F1_cash : Fld Z h1 b1 "com/example/vestline/vestline/Holdings" "cash" "J" (.long (0 : Int64)) := D1 (Or.inr (hw _ (List.mem_of_getElem? (i := 14) rfl))) (ty := .long) (by decide)
  obtain ⟨_, _, ⟨T2, L2, k2, n2⟩, -, X2, ⟨Lc2, hQ2, l2, y2, z2⟩, st2⟩ := X1.specialBack hx (y := (⟨"com/example/vestline/vestline/Holdings", "<init>", "(IJJ)V"⟩ : MethodName)) rfl hown (mvT hZ (hw _ (List.mem_of_getElem? (i := 3) rfl))) (mvT hZ (hw _ (List.mem_of_getElem? (i := 4) rfl))) (mvT hZ (hw _ (List.mem_of_getElem? (i := 5) rfl))) (by decide) (backOf (W := 1) (rm1 l Z a0 hw [] b1 (q1.toInt32) q2 q3 h1 n0 Z1 A1 F1_participants F1_shares F1_cash g_b1) hZ (hw _ (List.mem_of_getElem? (i := 5) rfl)) (hw _ (List.mem_of_getElem? (i := 2) rfl)) (by decide) (by decide)) (g := (mkF m 81 #[.val (.long q1), .second, .val (.long q2), .second, .val (.long q3), .second, .val (.long q4), .second, .val (.long q5), .second, .val (.int p6), .val (.int (q1.toInt32)), .val (.int j4_S0), .val (.long j22_S0), .second, .val (.long j37_S0), .second, .val (.int ((q1.toInt32) ^^^ j4_S0)), .val (.long (q2 ^^^ j22_S0)), .second, .val (.long (q3 ^^^ j37_S0)), .second, .unset, .unset, .unset, .unset, .unset, .unset] [(.long q3), (.long q2), (.int (q1.toInt32)), (.ref b1), (.ref b1)])) rfl (by rw [hml]; rfl) (Steps.refl _) (a := b1) (argsL := [(.int (q1.toInt32)), (.long q2), (.long q3)]) (rest := [(.ref b1)]) (lenOf pd0_0 rfl) rfl (by show 2 * 0 + _ ≤ _; exact Nat.le_of_eq rfl) (hb hby at_81) (fun _ _ => ⟨rfl, e1, (by decide : 1 + 0 ≤ _), (by decide : 3 + 0 ≤ _)⟩)
  dsimp only [Pt.U, Pt.locs, Pt.cells, Pt.slots] at X2 l2 y2 z2 st2 hQ2
  subst l2 y2 z2
  obtain ⟨rfl, N2q, K2q, E2q, F2q_participants, F2q_shares, F2q_cash⟩ := hQ2
  have f2_O := f1_O.keep K2q (allS g_b1 all0)
  have f2_E_b1 := A1.keep K2q
  have N2 := Fr.app N0 N2q
  have Z2 : n0 ≤ T2.heap.size := Nat.le_trans Z1 K2q.1
  obtain ⟨T3, h3, X3, e3, E3, A3, D3, -, st3⟩ := newO X2 hx hZ hown (hw _ (List.mem_of_getElem? (i := 0) rfl)) (hw _ (List.mem_of_getElem? (i := 1) rfl)) (hw _ (List.mem_of_getElem? (i := 2) rfl)) rfl (g := (mkF m 86 #[.val (.long q1), .second, .val (.long q2), .second, .val (.long q3), .second, .val (.long q4), .second, .val (.long q5), .second, .val (.int p6), .val (.int (q1.toInt32)), .val (.int j4_S0), .val (.long j22_S0), .second, .val (.long j37_S0), .second, .val (.int ((q1.toInt32) ^^^ j4_S0)), .val (.long (q2 ^^^ j22_S0)), .second, .val (.long (q3 ^^^ j37_S0)), .second, .val (.ref b1), .unset, .unset, .unset, .unset, .unset] [])) rfl (hb hby at_86) (by decide) (by decide)
  obtain ⟨b3, g3⟩ : ∃ z, z = T2.heap.size := ⟨_, rfl⟩
  rw [← g3] at A3 D3 st3
  have ne_b1_b3 : b1 ≠ b3 := Nat.ne_of_lt (Nat.lt_of_lt_of_le E2q.lt (Nat.le_of_eq g3.symm))
  have f3_O := f2_O.ext E3
  have f3_E_b1 := E2q.ext E3
  have f3_F_b1_participants := F2q_participants.ext E3
  have f3_F_b1_shares := F2q_shares.ext E3
  have f3_F_b1_cash := F2q_cash.ext E3
  have g_b3 : n0 ≤ b3 := Nat.le_trans Z2 (Nat.le_of_eq g3.symm)
  have Z3 : n0 ≤ h3.size := Nat.le_trans Z2 E3.1
  have F3_participants : Fld Z h3 b3 "com/example/vestline/vestline/Holdings" "participants" "I" (.int (0 : Int32)) := D3 (Or.inr (hw _ (List.mem_of_getElem? (i := 10) rfl))) (ty := .int) (by decide)
  have F3_shares : Fld Z h3 b3 "com/example/vestline/vestline/Holdings" "shares" "J" (.long (0 : Int64)) := D3 (Or.inr (hw _ (List.mem_of_getElem? (i := 12) rfl))) (ty := .long) (by decide)
  have F3_cash : Fld Z h3 b3 "com/example/vestline/vestline/Holdings" "cash" "J" (.long (0 : Int64)) := D3 (Or.inr (hw _ (List.mem_of_getElem? (i := 14) rfl))) (ty := .long) (by decide)
  obtain ⟨_, _, ⟨T4, L4, k4, n4⟩, -, X4, ⟨Lc4, hQ4, l4, y4, z4⟩, st4⟩ := X3.specialBack hx (y := (⟨"com/example/vestline/vestline/Holdings", "<init>", "(IJJ)V"⟩ : MethodName)) rfl hown (mvT hZ (hw _ (List.mem_of_getElem? (i := 3) rfl))) (mvT hZ (hw _ (List.mem_of_getElem? (i := 4) rfl))) (mvT hZ (hw _ (List.mem_of_getElem? (i := 5) rfl))) (by decide) (backOf (W := 1) (rm1 l Z a0 hw [] b3 ((q1.toInt32) ^^^ j4_S0) (q2 ^^^ j22_S0) (q3 ^^^ j37_S0) h3 n0 Z3 A3 F3_participants F3_shares F3_cash g_b3) hZ (hw _ (List.mem_of_getElem? (i := 5) rfl)) (hw _ (List.mem_of_getElem? (i := 2) rfl)) (by decide) (by decide)) (g := (mkF m 96 #[.val (.long q1), .second, .val (.long q2), .second, .val (.long q3), .second, .val (.long q4), .second, .val (.long q5), .second, .val (.int p6), .val (.int (q1.toInt32)), .val (.int j4_S0), .val (.long j22_S0), .second, .val (.long j37_S0), .second, .val (.int ((q1.toInt32) ^^^ j4_S0)), .val (.long (q2 ^^^ j22_S0)), .second, .val (.long (q3 ^^^ j37_S0)), .second, .val (.ref b1), .unset, .unset, .unset, .unset, .unset] [(.long (q3 ^^^ j37_S0)), (.long (q2 ^^^ j22_S0)), (.int ((q1.toInt32) ^^^ j4_S0)), (.ref b3), (.ref b3)])) rfl (by rw [hml]; rfl) (Steps.refl _) (a := b3) (argsL := [(.int ((q1.toInt32) ^^^ j4_S0)), (.long (q2 ^^^ j22_S0)), (.long (q3 ^^^ j37_S0))]) (rest := [(.ref b3)]) (lenOf pd0_0 rfl) rfl (by show 2 * 0 + _ ≤ _; exact Nat.le_of_eq rfl) (hb hby at_96) (fun _ _ => ⟨rfl, e3, (by decide : 2 + 0 ≤ _), (by decide : 6 + 0 ≤ _)⟩)
  dsimp only [Pt.U, Pt.locs, Pt.cells, Pt.slots] at X4 l4 y4 z4 st4 hQ4
  subst l4 y4 z4
  obtain ⟨rfl, N4q, K4q, E4q, F4q_participants, F4q_shares, F4q_cash⟩ := hQ4
  have f4_O := f3_O.keep K4q (allS g_b3 all0)
  have f4_E_b1 := f3_E_b1.keep K4q
  have f4_F_b1_participants := f3_F_b1_participants.keep K4q (ninS ne_b1_b3 nin0)
  have f4_F_b1_shares := f3_F_b1_shares.keep K4q (ninS ne_b1_b3 nin0)
  have f4_F_b1_cash := f3_F_b1_cash.keep K4q (ninS ne_b1_b3 nin0)
  have f4_E_b3 := A3.keep K4q
  have N4 := Fr.app N2 N4q
  have Z4 : n0 ≤ T4.heap.size := Nat.le_trans Z3 K4q.1
  have c5 : ∀ t, Steps p.tables e below (T4.setTop (mkF m 111 #[.val (.long q1), .second, .val (.long q2), .second, .val (.long q3), .second, .val (.long q4), .second, .val (.long q5), .second, .val (.int p6), .val (.int (q1.toInt32)), .val (.int j4_S0), .val (.long j22_S0), .second, .val (.long j37_S0), .second, .val (.int ((q1.toInt32) ^^^ j4_S0)), .val (.long (q2 ^^^ j22_S0)), .second, .val (.long (q3 ^^^ j37_S0)), .second, .val (.ref b1), .val (.ref b3), .val (.int (((p6.toUInt32 >>> ((3 : Int32) &&& 31).toUInt32).toInt32) &&& (3 : Int32))), .unset, .unset, .unset] [(.int (((p6.toUInt32 >>> ((3 : Int32) &&& 31).toUInt32).toInt32) &&& (3 : Int32)))])) t → Steps p.tables e below (s₁.setTop (entryFrame m #[(.long q1), (.long q2), (.long q3), (.long q4), (.long q5), (.int p6)] maxLocals)) t := fun t kt => by
    refine pre0 _ ?_
    show Steps p.tables e below (s₁.setTop (mkF m 0 #[.val (.long q1), .second, .val (.long q2), .second, .val (.long q3), .second, .val (.long q4), .second, .val (.long q5), .second, .val (.int p6), .unset, .unset, .unset, .unset, .unset, .unset, .unset, .unset, .unset, .unset, .unset, .unset, .unset, .unset, .unset, .unset, .unset] [])) _
    refine XS.lloadN X0.here hx rfl (hb hby at_0) rfl ?_
    show Steps p.tables e below (s₁.setTop (mkF m 1 #[.val (.long q1), .second, .val (.long q2), .second, .val (.long q3), .second, .val (.long q4), .second, .val (.long q5), .second, .val (.int p6), .unset, .unset, .unset, .unset, .unset, .unset, .unset, .unset, .unset, .unset, .unset, .unset, .unset, .unset, .unset, .unset, .unset] [(.long q1)])) _
    refine XS.l2i X0.here hx rfl (hb hby at_1) rfl ?_
    show Steps p.tables e below (s₁.setTop (mkF m 2 #[.val (.long q1), .second, .val (.long q2), .second, .val (.long q3), .second, .val (.long q4), .second, .val (.long q5), .second, .val (.int p6), .unset, .unset, .unset, .unset, .unset, .unset, .unset, .unset, .unset, .unset, .unset, .unset, .unset, .unset, .unset, .unset, .unset] [(.int (q1.toInt32))])) _
    refine XS.istore X0.here hx rfl (hb hby at_2) rfl (l' := #[.val (.long q1), .second, .val (.long q2), .second, .val (.long q3), .second, .val (.long q4), .second, .val (.long q5), .second, .val (.int p6), .val (.int (q1.toInt32)), .unset, .unset, .unset, .unset, .unset, .unset, .unset, .unset, .unset, .unset, .unset, .unset, .unset, .unset, .unset, .unset]) rfl ?_
    show Steps p.tables e below (s₁.setTop (mkF m 4 #[.val (.long q1), .second, .val (.long q2), .second, .val (.long q3), .second, .val (.long q4), .second, .val (.long q5), .second, .val (.int p6), .val (.int (q1.toInt32)), .unset, .unset, .unset, .unset, .unset, .unset, .unset, .unset, .unset, .unset, .unset, .unset, .unset, .unset, .unset, .unset] [])) _
    refine sg4 _ ?_
    show Steps p.tables e below (s₁.setTop (mkF m 20 #[.val (.long q1), .second, .val (.long q2), .second, .val (.long q3), .second, .val (.long q4), .second, .val (.long q5), .second, .val (.int p6), .val (.int (q1.toInt32)), .unset, .unset, .unset, .unset, .unset, .unset, .unset, .unset, .unset, .unset, .unset, .unset, .unset, .unset, .unset, .unset] [(.int j4_S0)])) _
    refine XS.istore X0.here hx rfl (hb hby at_20) rfl (l' := #[.val (.long q1), .second, .val (.long q2), .second, .val (.long q3), .second, .val (.long q4), .second, .val (.long q5), .second, .val (.int p6), .val (.int (q1.toInt32)), .val (.int j4_S0), .unset, .unset, .unset, .unset, .unset, .unset, .unset, .unset, .unset, .unset, .unset, .unset, .unset, .unset, .unset]) rfl ?_
    show Steps p.tables e below (s₁.setTop (mkF m 22 #[.val (.long q1), .second, .val (.long q2), .second, .val (.long q3), .second, .val (.long q4), .second, .val (.long q5), .second, .val (.int p6), .val (.int (q1.toInt32)), .val (.int j4_S0), .unset, .unset, .unset, .unset, .unset, .unset, .unset, .unset, .unset, .unset, .unset, .unset, .unset, .unset, .unset] [])) _
    refine sg22 _ ?_
    show Steps p.tables e below (s₁.setTop (mkF m 35 #[.val (.long q1), .second, .val (.long q2), .second, .val (.long q3), .second, .val (.long q4), .second, .val (.long q5), .second, .val (.int p6), .val (.int (q1.toInt32)), .val (.int j4_S0), .unset, .unset, .unset, .unset, .unset, .unset, .unset, .unset, .unset, .unset, .unset, .unset, .unset, .unset, .unset] [(.long j22_S0)])) _
    refine XS.lstore X0.here hx rfl (hb hby at_35) rfl (l' := #[.val (.long q1), .second, .val (.long q2), .second, .val (.long q3), .second, .val (.long q4), .second, .val (.long q5), .second, .val (.int p6), .val (.int (q1.toInt32)), .val (.int j4_S0), .val (.long j22_S0), .second, .unset, .unset, .unset, .unset, .unset, .unset, .unset, .unset, .unset, .unset, .unset, .unset, .unset]) rfl ?_
    show Steps p.tables e below (s₁.setTop (mkF m 37 #[.val (.long q1), .second, .val (.long q2), .second, .val (.long q3), .second, .val (.long q4), .second, .val (.long q5), .second, .val (.int p6), .val (.int (q1.toInt32)), .val (.int j4_S0), .val (.long j22_S0), .second, .unset, .unset, .unset, .unset, .unset, .unset, .unset, .unset, .unset, .unset, .unset, .unset, .unset] [])) _
    refine sg37 _ ?_
    show Steps p.tables e below (s₁.setTop (mkF m 50 #[.val (.long q1), .second, .val (.long q2), .second, .val (.long q3), .second, .val (.long q4), .second, .val (.long q5), .second, .val (.int p6), .val (.int (q1.toInt32)), .val (.int j4_S0), .val (.long j22_S0), .second, .unset, .unset, .unset, .unset, .unset, .unset, .unset, .unset, .unset, .unset, .unset, .unset, .unset] [(.long j37_S0)])) _
    refine XS.lstore X0.here hx rfl (hb hby at_50) rfl (l' := #[.val (.long q1), .second, .val (.long q2), .second, .val (.long q3), .second, .val (.long q4), .second, .val (.long q5), .second, .val (.int p6), .val (.int (q1.toInt32)), .val (.int j4_S0), .val (.long j22_S0), .second, .val (.long j37_S0), .second, .unset, .unset, .unset, .unset, .unset, .unset, .unset, .unset, .unset, .unset, .unset]) rfl ?_
    show Steps p.tables e below (s₁.setTop (mkF m 52 #[.val (.long q1), .second, .val (.long q2), .second, .val (.long q3), .second, .val (.long q4), .second, .val (.long q5), .second, .val (.int p6), .val (.int (q1.toInt32)), .val (.int j4_S0), .val (.long j22_S0), .second, .val (.long j37_S0), .second, .unset, .unset, .unset, .unset, .unset, .unset, .unset, .unset, .unset, .unset, .unset] [])) _
    refine XS.iload X0.here hx rfl (hb hby at_52) rfl ?_
    show Steps p.tables e below (s₁.setTop (mkF m 54 #[.val (.long q1), .second, .val (.long q2), .second, .val (.long q3), .second, .val (.long q4), .second, .val (.long q5), .second, .val (.int p6), .val (.int (q1.toInt32)), .val (.int j4_S0), .val (.long j22_S0), .second, .val (.long j37_S0), .second, .unset, .unset, .unset, .unset, .unset, .unset, .unset, .unset, .unset, .unset, .unset] [(.int (q1.toInt32))])) _
    refine XS.iload X0.here hx rfl (hb hby at_54) rfl ?_
    show Steps p.tables e below (s₁.setTop (mkF m 56 #[.val (.long q1), .second, .val (.long q2), .second, .val (.long q3), .second, .val (.long q4), .second, .val (.long q5), .second, .val (.int p6), .val (.int (q1.toInt32)), .val (.int j4_S0), .val (.long j22_S0), .second, .val (.long j37_S0), .second, .unset, .unset, .unset, .unset, .unset, .unset, .unset, .unset, .unset, .unset, .unset] [(.int j4_S0), (.int (q1.toInt32))])) _
    refine XS.ixor X0.here hx rfl (hb hby at_56) rfl ?_
    show Steps p.tables e below (s₁.setTop (mkF m 57 #[.val (.long q1), .second, .val (.long q2), .second, .val (.long q3), .second, .val (.long q4), .second, .val (.long q5), .second, .val (.int p6), .val (.int (q1.toInt32)), .val (.int j4_S0), .val (.long j22_S0), .second, .val (.long j37_S0), .second, .unset, .unset, .unset, .unset, .unset, .unset, .unset, .unset, .unset, .unset, .unset] [(.int ((q1.toInt32) ^^^ j4_S0))])) _
    refine XS.istore X0.here hx rfl (hb hby at_57) rfl (l' := #[.val (.long q1), .second, .val (.long q2), .second, .val (.long q3), .second, .val (.long q4), .second, .val (.long q5), .second, .val (.int p6), .val (.int (q1.toInt32)), .val (.int j4_S0), .val (.long j22_S0), .second, .val (.long j37_S0), .second, .val (.int ((q1.toInt32) ^^^ j4_S0)), .unset, .unset, .unset, .unset, .unset, .unset, .unset, .unset, .unset, .unset]) rfl ?_
    show Steps p.tables e below (s₁.setTop (mkF m 59 #[.val (.long q1), .second, .val (.long q2), .second, .val (.long q3), .second, .val (.long q4), .second, .val (.long q5), .second, .val (.int p6), .val (.int (q1.toInt32)), .val (.int j4_S0), .val (.long j22_S0), .second, .val (.long j37_S0), .second, .val (.int ((q1.toInt32) ^^^ j4_S0)), .unset, .unset, .unset, .unset, .unset, .unset, .unset, .unset, .unset, .unset] [])) _
    refine XS.lloadN X0.here hx rfl (hb hby at_59) rfl ?_
    show Steps p.tables e below (s₁.setTop (mkF m 60 #[.val (.long q1), .second, .val (.long q2), .second, .val (.long q3), .second, .val (.long q4), .second, .val (.long q5), .second, .val (.int p6), .val (.int (q1.toInt32)), .val (.int j4_S0), .val (.long j22_S0), .second, .val (.long j37_S0), .second, .val (.int ((q1.toInt32) ^^^ j4_S0)), .unset, .unset, .unset, .unset, .unset, .unset, .unset, .unset, .unset, .unset] [(.long q2)])) _
    refine XS.lload X0.here hx rfl (hb hby at_60) rfl ?_
    show Steps p.tables e below (s₁.setTop (mkF m 62 #[.val (.long q1), .second, .val (.long q2), .second, .val (.long q3), .second, .val (.long q4), .second, .val (.long q5), .second, .val (.int p6), .val (.int (q1.toInt32)), .val (.int j4_S0), .val (.long j22_S0), .second, .val (.long j37_S0), .second, .val (.int ((q1.toInt32) ^^^ j4_S0)), .unset, .unset, .unset, .unset, .unset, .unset, .unset, .unset, .unset, .unset] [(.long j22_S0), (.long q2)])) _
    refine XS.lxor X0.here hx rfl (hb hby at_62) rfl ?_
    show Steps p.tables e below (s₁.setTop (mkF m 63 #[.val (.long q1), .second, .val (.long q2), .second, .val (.long q3), .second, .val (.long q4), .second, .val (.long q5), .second, .val (.int p6), .val (.int (q1.toInt32)), .val (.int j4_S0), .val (.long j22_S0), .second, .val (.long j37_S0), .second, .val (.int ((q1.toInt32) ^^^ j4_S0)), .unset, .unset, .unset, .unset, .unset, .unset, .unset, .unset, .unset, .unset] [(.long (q2 ^^^ j22_S0))])) _
    refine XS.lstore X0.here hx rfl (hb hby at_63) rfl (l' := #[.val (.long q1), .second, .val (.long q2), .second, .val (.long q3), .second, .val (.long q4), .second, .val (.long q5), .second, .val (.int p6), .val (.int (q1.toInt32)), .val (.int j4_S0), .val (.long j22_S0), .second, .val (.long j37_S0), .second, .val (.int ((q1.toInt32) ^^^ j4_S0)), .val (.long (q2 ^^^ j22_S0)), .second, .unset, .unset, .unset, .unset, .unset, .unset, .unset, .unset]) rfl ?_
    show Steps p.tables e below (s₁.setTop (mkF m 65 #[.val (.long q1), .second, .val (.long q2), .second, .val (.long q3), .second, .val (.long q4), .second, .val (.long q5), .second, .val (.int p6), .val (.int (q1.toInt32)), .val (.int j4_S0), .val (.long j22_S0), .second, .val (.long j37_S0), .second, .val (.int ((q1.toInt32) ^^^ j4_S0)), .val (.long (q2 ^^^ j22_S0)), .second, .unset, .unset, .unset, .unset, .unset, .unset, .unset, .unset] [])) _
    refine XS.lload X0.here hx rfl (hb hby at_65) rfl ?_
    show Steps p.tables e below (s₁.setTop (mkF m 67 #[.val (.long q1), .second, .val (.long q2), .second, .val (.long q3), .second, .val (.long q4), .second, .val (.long q5), .second, .val (.int p6), .val (.int (q1.toInt32)), .val (.int j4_S0), .val (.long j22_S0), .second, .val (.long j37_S0), .second, .val (.int ((q1.toInt32) ^^^ j4_S0)), .val (.long (q2 ^^^ j22_S0)), .second, .unset, .unset, .unset, .unset, .unset, .unset, .unset, .unset] [(.long q3)])) _
    refine XS.lload X0.here hx rfl (hb hby at_67) rfl ?_
    show Steps p.tables e below (s₁.setTop (mkF m 69 #[.val (.long q1), .second, .val (.long q2), .second, .val (.long q3), .second, .val (.long q4), .second, .val (.long q5), .second, .val (.int p6), .val (.int (q1.toInt32)), .val (.int j4_S0), .val (.long j22_S0), .second, .val (.long j37_S0), .second, .val (.int ((q1.toInt32) ^^^ j4_S0)), .val (.long (q2 ^^^ j22_S0)), .second, .unset, .unset, .unset, .unset, .unset, .unset, .unset, .unset] [(.long j37_S0), (.long q3)])) _
    refine XS.lxor X0.here hx rfl (hb hby at_69) rfl ?_
    show Steps p.tables e below (s₁.setTop (mkF m 70 #[.val (.long q1), .second, .val (.long q2), .second, .val (.long q3), .second, .val (.long q4), .second, .val (.long q5), .second, .val (.int p6), .val (.int (q1.toInt32)), .val (.int j4_S0), .val (.long j22_S0), .second, .val (.long j37_S0), .second, .val (.int ((q1.toInt32) ^^^ j4_S0)), .val (.long (q2 ^^^ j22_S0)), .second, .unset, .unset, .unset, .unset, .unset, .unset, .unset, .unset] [(.long (q3 ^^^ j37_S0))])) _
    refine XS.lstore X0.here hx rfl (hb hby at_70) rfl (l' := #[.val (.long q1), .second, .val (.long q2), .second, .val (.long q3), .second, .val (.long q4), .second, .val (.long q5), .second, .val (.int p6), .val (.int (q1.toInt32)), .val (.int j4_S0), .val (.long j22_S0), .second, .val (.long j37_S0), .second, .val (.int ((q1.toInt32) ^^^ j4_S0)), .val (.long (q2 ^^^ j22_S0)), .second, .val (.long (q3 ^^^ j37_S0)), .second, .unset, .unset, .unset, .unset, .unset, .unset]) rfl ?_
    show Steps p.tables e below (s₁.setTop (mkF m 72 #[.val (.long q1), .second, .val (.long q2), .second, .val (.long q3), .second, .val (.long q4), .second, .val (.long q5), .second, .val (.int p6), .val (.int (q1.toInt32)), .val (.int j4_S0), .val (.long j22_S0), .second, .val (.long j37_S0), .second, .val (.int ((q1.toInt32) ^^^ j4_S0)), .val (.long (q2 ^^^ j22_S0)), .second, .val (.long (q3 ^^^ j37_S0)), .second, .unset, .unset, .unset, .unset, .unset, .unset] [])) _
    refine st1 _ ?_
    show Steps p.tables e below (T1.setTop (mkF m 75 #[.val (.long q1), .second, .val (.long q2), .second, .val (.long q3), .second, .val (.long q4), .second, .val (.long q5), .second, .val (.int p6), .val (.int (q1.toInt32)), .val (.int j4_S0), .val (.long j22_S0), .second, .val (.long j37_S0), .second, .val (.int ((q1.toInt32) ^^^ j4_S0)), .val (.long (q2 ^^^ j22_S0)), .second, .val (.long (q3 ^^^ j37_S0)), .second, .unset, .unset, .unset, .unset, .unset, .unset] [(.ref b1)])) _
    refine XS.dup X1.here hx rfl (hb hby at_75) rfl rfl ?_
    show Steps p.tables e below (T1.setTop (mkF m 76 #[.val (.long q1), .second, .val (.long q2), .second, .val (.long q3), .second, .val (.long q4), .second, .val (.long q5), .second, .val (.int p6), .val (.int (q1.toInt32)), .val (.int j4_S0), .val (.long j22_S0), .second, .val (.long j37_S0), .second, .val (.int ((q1.toInt32) ^^^ j4_S0)), .val (.long (q2 ^^^ j22_S0)), .second, .val (.long (q3 ^^^ j37_S0)), .second, .unset, .unset, .unset, .unset, .unset, .unset] [(.ref b1), (.ref b1)])) _
    refine XS.iload X1.here hx rfl (hb hby at_76) rfl ?_
    show Steps p.tables e below (T1.setTop (mkF m 78 #[.val (.long q1), .second, .val (.long q2), .second, .val (.long q3), .second, .val (.long q4), .second, .val (.long q5), .second, .val (.int p6), .val (.int (q1.toInt32)), .val (.int j4_S0), .val (.long j22_S0), .second, .val (.long j37_S0), .second, .val (.int ((q1.toInt32) ^^^ j4_S0)), .val (.long (q2 ^^^ j22_S0)), .second, .val (.long (q3 ^^^ j37_S0)), .second, .unset, .unset, .unset, .unset, .unset, .unset] [(.int (q1.toInt32)), (.ref b1), (.ref b1)])) _
    refine XS.lloadN X1.here hx rfl (hb hby at_78) rfl ?_
    show Steps p.tables e below (T1.setTop (mkF m 79 #[.val (.long q1), .second, .val (.long q2), .second, .val (.long q3), .second, .val (.long q4), .second, .val (.long q5), .second, .val (.int p6), .val (.int (q1.toInt32)), .val (.int j4_S0), .val (.long j22_S0), .second, .val (.long j37_S0), .second, .val (.int ((q1.toInt32) ^^^ j4_S0)), .val (.long (q2 ^^^ j22_S0)), .second, .val (.long (q3 ^^^ j37_S0)), .second, .unset, .unset, .unset, .unset, .unset, .unset] [(.long q2), (.int (q1.toInt32)), (.ref b1), (.ref b1)])) _
    refine XS.lload X1.here hx rfl (hb hby at_79) rfl ?_
    show Steps p.tables e below (T1.setTop (mkF m 81 #[.val (.long q1), .second, .val (.long q2), .second, .val (.long q3), .second, .val (.long q4), .second, .val (.long q5), .second, .val (.int p6), .val (.int (q1.toInt32)), .val (.int j4_S0), .val (.long j22_S0), .second, .val (.long j37_S0), .second, .val (.int ((q1.toInt32) ^^^ j4_S0)), .val (.long (q2 ^^^ j22_S0)), .second, .val (.long (q3 ^^^ j37_S0)), .second, .unset, .unset, .unset, .unset, .unset, .unset] [(.long q3), (.long q2), (.int (q1.toInt32)), (.ref b1), (.ref b1)])) _
    refine st2.trans ?_
    show Steps p.tables e below (T2.setTop (mkF m 84 #[.val (.long q1), .second, .val (.long q2), .second, .val (.long q3), .second, .val (.long q4), .second, .val (.long q5), .second, .val (.int p6), .val (.int (q1.toInt32)), .val (.int j4_S0), .val (.long j22_S0), .second, .val (.long j37_S0), .second, .val (.int ((q1.toInt32) ^^^ j4_S0)), .val (.long (q2 ^^^ j22_S0)), .second, .val (.long (q3 ^^^ j37_S0)), .second, .unset, .unset, .unset, .unset, .unset, .unset] [(.ref b1)])) _
    refine XS.astore X2.here hx rfl (hb hby at_84) rfl rfl (l' := #[.val (.long q1), .second, .val (.long q2), .second, .val (.long q3), .second, .val (.long q4), .second, .val (.long q5), .second, .val (.int p6), .val (.int (q1.toInt32)), .val (.int j4_S0), .val (.long j22_S0), .second, .val (.long j37_S0), .second, .val (.int ((q1.toInt32) ^^^ j4_S0)), .val (.long (q2 ^^^ j22_S0)), .second, .val (.long (q3 ^^^ j37_S0)), .second, .val (.ref b1), .unset, .unset, .unset, .unset, .unset]) rfl ?_
    show Steps p.tables e below (T2.setTop (mkF m 86 #[.val (.long q1), .second, .val (.long q2), .second, .val (.long q3), .second, .val (.long q4), .second, .val (.long q5), .second, .val (.int p6), .val (.int (q1.toInt32)), .val (.int j4_S0), .val (.long j22_S0), .second, .val (.long j37_S0), .second, .val (.int ((q1.toInt32) ^^^ j4_S0)), .val (.long (q2 ^^^ j22_S0)), .second, .val (.long (q3 ^^^ j37_S0)), .second, .val (.ref b1), .unset, .unset, .unset, .unset, .unset] [])) _
    refine st3 _ ?_
    show Steps p.tables e below (T3.setTop (mkF m 89 #[.val (.long q1), .second, .val (.long q2), .second, .val (.long q3), .second, .val (.long q4), .second, .val (.long q5), .second, .val (.int p6), .val (.int (q1.toInt32)), .val (.int j4_S0), .val (.long j22_S0), .second, .val (.long j37_S0), .second, .val (.int ((q1.toInt32) ^^^ j4_S0)), .val (.long (q2 ^^^ j22_S0)), .second, .val (.long (q3 ^^^ j37_S0)), .second, .val (.ref b1), .unset, .unset, .unset, .unset, .unset] [(.ref b3)])) _
    refine XS.dup X3.here hx rfl (hb hby at_89) rfl rfl ?_
    show Steps p.tables e below (T3.setTop (mkF m 90 #[.val (.long q1), .second, .val (.long q2), .second, .val (.long q3), .second, .val (.long q4), .second, .val (.long q5), .second, .val (.int p6), .val (.int (q1.toInt32)), .val (.int j4_S0), .val (.long j22_S0), .second, .val (.long j37_S0), .second, .val (.int ((q1.toInt32) ^^^ j4_S0)), .val (.long (q2 ^^^ j22_S0)), .second, .val (.long (q3 ^^^ j37_S0)), .second, .val (.ref b1), .unset, .unset, .unset, .unset, .unset] [(.ref b3), (.ref b3)])) _
    refine XS.iload X3.here hx rfl (hb hby at_90) rfl ?_
    show Steps p.tables e below (T3.setTop (mkF m 92 #[.val (.long q1), .second, .val (.long q2), .second, .val (.long q3), .second, .val (.long q4), .second, .val (.long q5), .second, .val (.int p6), .val (.int (q1.toInt32)), .val (.int j4_S0), .val (.long j22_S0), .second, .val (.long j37_S0), .second, .val (.int ((q1.toInt32) ^^^ j4_S0)), .val (.long (q2 ^^^ j22_S0)), .second, .val (.long (q3 ^^^ j37_S0)), .second, .val (.ref b1), .unset, .unset, .unset, .unset, .unset] [(.int ((q1.toInt32) ^^^ j4_S0)), (.ref b3), (.ref b3)])) _
    refine XS.lload X3.here hx rfl (hb hby at_92) rfl ?_
    show Steps p.tables e below (T3.setTop (mkF m 94 #[.val (.long q1), .second, .val (.long q2), .second, .val (.long q3), .second, .val (.long q4), .second, .val (.long q5), .second, .val (.int p6), .val (.int (q1.toInt32)), .val (.int j4_S0), .val (.long j22_S0), .second, .val (.long j37_S0), .second, .val (.int ((q1.toInt32) ^^^ j4_S0)), .val (.long (q2 ^^^ j22_S0)), .second, .val (.long (q3 ^^^ j37_S0)), .second, .val (.ref b1), .unset, .unset, .unset, .unset, .unset] [(.long (q2 ^^^ j22_S0)), (.int ((q1.toInt32) ^^^ j4_S0)), (.ref b3), (.ref b3)])) _
    refine XS.lload X3.here hx rfl (hb hby at_94) rfl ?_
    show Steps p.tables e below (T3.setTop (mkF m 96 #[.val (.long q1), .second, .val (.long q2), .second, .val (.long q3), .second, .val (.long q4), .second, .val (.long q5), .second, .val (.int p6), .val (.int (q1.toInt32)), .val (.int j4_S0), .val (.long j22_S0), .second, .val (.long j37_S0), .second, .val (.int ((q1.toInt32) ^^^ j4_S0)), .val (.long (q2 ^^^ j22_S0)), .second, .val (.long (q3 ^^^ j37_S0)), .second, .val (.ref b1), .unset, .unset, .unset, .unset, .unset] [(.long (q3 ^^^ j37_S0)), (.long (q2 ^^^ j22_S0)), (.int ((q1.toInt32) ^^^ j4_S0)), (.ref b3), (.ref b3)])) _
    refine st4.trans ?_
    show Steps p.tables e below (T4.setTop (mkF m 99 #[.val (.long q1), .second, .val (.long q2), .second, .val (.long q3), .second, .val (.long q4), .second, .val (.long q5), .second, .val (.int p6), .val (.int (q1.toInt32)), .val (.int j4_S0), .val (.long j22_S0), .second, .val (.long j37_S0), .second, .val (.int ((q1.toInt32) ^^^ j4_S0)), .val (.long (q2 ^^^ j22_S0)), .second, .val (.long (q3 ^^^ j37_S0)), .second, .val (.ref b1), .unset, .unset, .unset, .unset, .unset] [(.ref b3)])) _
    refine XS.astore X4.here hx rfl (hb hby at_99) rfl rfl (l' := #[.val (.long q1), .second, .val (.long q2), .second, .val (.long q3), .second, .val (.long q4), .second, .val (.long q5), .second, .val (.int p6), .val (.int (q1.toInt32)), .val (.int j4_S0), .val (.long j22_S0), .second, .val (.long j37_S0), .second, .val (.int ((q1.toInt32) ^^^ j4_S0)), .val (.long (q2 ^^^ j22_S0)), .second, .val (.long (q3 ^^^ j37_S0)), .second, .val (.ref b1), .val (.ref b3), .unset, .unset, .unset, .unset]) rfl ?_
    show Steps p.tables e below (T4.setTop (mkF m 101 #[.val (.long q1), .second, .val (.long q2), .second, .val (.long q3), .second, .val (.long q4), .second, .val (.long q5), .second, .val (.int p6), .val (.int (q1.toInt32)), .val (.int j4_S0), .val (.long j22_S0), .second, .val (.long j37_S0), .second, .val (.int ((q1.toInt32) ^^^ j4_S0)), .val (.long (q2 ^^^ j22_S0)), .second, .val (.long (q3 ^^^ j37_S0)), .second, .val (.ref b1), .val (.ref b3), .unset, .unset, .unset, .unset] [])) _
    refine XS.iload X4.here hx rfl (hb hby at_101) rfl ?_
    show Steps p.tables e below (T4.setTop (mkF m 103 #[.val (.long q1), .second, .val (.long q2), .second, .val (.long q3), .second, .val (.long q4), .second, .val (.long q5), .second, .val (.int p6), .val (.int (q1.toInt32)), .val (.int j4_S0), .val (.long j22_S0), .second, .val (.long j37_S0), .second, .val (.int ((q1.toInt32) ^^^ j4_S0)), .val (.long (q2 ^^^ j22_S0)), .second, .val (.long (q3 ^^^ j37_S0)), .second, .val (.ref b1), .val (.ref b3), .unset, .unset, .unset, .unset] [(.int p6)])) _
    refine XS.iconst X4.here hx rfl (hb hby at_103) ?_
    show Steps p.tables e below (T4.setTop (mkF m 104 #[.val (.long q1), .second, .val (.long q2), .second, .val (.long q3), .second, .val (.long q4), .second, .val (.long q5), .second, .val (.int p6), .val (.int (q1.toInt32)), .val (.int j4_S0), .val (.long j22_S0), .second, .val (.long j37_S0), .second, .val (.int ((q1.toInt32) ^^^ j4_S0)), .val (.long (q2 ^^^ j22_S0)), .second, .val (.long (q3 ^^^ j37_S0)), .second, .val (.ref b1), .val (.ref b3), .unset, .unset, .unset, .unset] [(.int (3 : Int32)), (.int p6)])) _
    refine XS.iushr X4.here hx rfl (hb hby at_104) rfl ?_
    show Steps p.tables e below (T4.setTop (mkF m 105 #[.val (.long q1), .second, .val (.long q2), .second, .val (.long q3), .second, .val (.long q4), .second, .val (.long q5), .second, .val (.int p6), .val (.int (q1.toInt32)), .val (.int j4_S0), .val (.long j22_S0), .second, .val (.long j37_S0), .second, .val (.int ((q1.toInt32) ^^^ j4_S0)), .val (.long (q2 ^^^ j22_S0)), .second, .val (.long (q3 ^^^ j37_S0)), .second, .val (.ref b1), .val (.ref b3), .unset, .unset, .unset, .unset] [(.int ((p6.toUInt32 >>> ((3 : Int32) &&& 31).toUInt32).toInt32))])) _
    refine XS.iconst X4.here hx rfl (hb hby at_105) ?_
    show Steps p.tables e below (T4.setTop (mkF m 106 #[.val (.long q1), .second, .val (.long q2), .second, .val (.long q3), .second, .val (.long q4), .second, .val (.long q5), .second, .val (.int p6), .val (.int (q1.toInt32)), .val (.int j4_S0), .val (.long j22_S0), .second, .val (.long j37_S0), .second, .val (.int ((q1.toInt32) ^^^ j4_S0)), .val (.long (q2 ^^^ j22_S0)), .second, .val (.long (q3 ^^^ j37_S0)), .second, .val (.ref b1), .val (.ref b3), .unset, .unset, .unset, .unset] [(.int (3 : Int32)), (.int ((p6.toUInt32 >>> ((3 : Int32) &&& 31).toUInt32).toInt32))])) _
    refine XS.iand X4.here hx rfl (hb hby at_106) rfl ?_
    show Steps p.tables e below (T4.setTop (mkF m 107 #[.val (.long q1), .second, .val (.long q2), .second, .val (.long q3), .second, .val (.long q4), .second, .val (.long q5), .second, .val (.int p6), .val (.int (q1.toInt32)), .val (.int j4_S0), .val (.long j22_S0), .second, .val (.long j37_S0), .second, .val (.int ((q1.toInt32) ^^^ j4_S0)), .val (.long (q2 ^^^ j22_S0)), .second, .val (.long (q3 ^^^ j37_S0)), .second, .val (.ref b1), .val (.ref b3), .unset, .unset, .unset, .unset] [(.int (((p6.toUInt32 >>> ((3 : Int32) &&& 31).toUInt32).toInt32) &&& (3 : Int32)))])) _
    refine XS.istore X4.here hx rfl (hb hby at_107) rfl (l' := #[.val (.long q1), .second, .val (.long q2), .second, .val (.long q3), .second, .val (.long q4), .second, .val (.long q5), .second, .val (.int p6), .val (.int (q1.toInt32)), .val (.int j4_S0), .val (.long j22_S0), .second, .val (.long j37_S0), .second, .val (.int ((q1.toInt32) ^^^ j4_S0)), .val (.long (q2 ^^^ j22_S0)), .second, .val (.long (q3 ^^^ j37_S0)), .second, .val (.ref b1), .val (.ref b3), .val (.int (((p6.toUInt32 >>> ((3 : Int32) &&& 31).toUInt32).toInt32) &&& (3 : Int32))), .unset, .unset, .unset]) rfl ?_
    show Steps p.tables e below (T4.setTop (mkF m 109 #[.val (.long q1), .second, .val (.long q2), .second, .val (.long q3), .second, .val (.long q4), .second, .val (.long q5), .second, .val (.int p6), .val (.int (q1.toInt32)), .val (.int j4_S0), .val (.long j22_S0), .second, .val (.long j37_S0), .second, .val (.int ((q1.toInt32) ^^^ j4_S0)), .val (.long (q2 ^^^ j22_S0)), .second, .val (.long (q3 ^^^ j37_S0)), .second, .val (.ref b1), .val (.ref b3), .val (.int (((p6.toUInt32 >>> ((3 : Int32) &&& 31).toUInt32).toInt32) &&& (3 : Int32))), .unset, .unset, .unset] [])) _
    refine XS.iload X4.here hx rfl (hb hby at_109) rfl ?_
    exact kt
  by_cases hc111 : (((p6.toUInt32 >>> ((3 : Int32) &&& 31).toUInt32).toInt32) &&& (3 : Int32)) = (0 : Int32)
  · obtain ⟨j118_S0t, ej118_S0t⟩ : ∃ z : Int32, z = (if j4_S0 = (0 : Int32) then (if j22_S0 = (0 : Int64) then (if j37_S0 = (0 : Int64) then (1 : Int32) else (0 : Int32)) else (0 : Int32)) else (0 : Int32)) := ⟨_, rfl⟩
    have sg118t : ∀ t, Steps p.tables e below (T4.setTop (mkF m 142 #[.val (.long q1), .second, .val (.long q2), .second, .val (.long q3), .second, .val (.long q4), .second, .val (.long q5), .second, .val (.int p6), .val (.int (q1.toInt32)), .val (.int j4_S0), .val (.long j22_S0), .second, .val (.long j37_S0), .second, .val (.int ((q1.toInt32) ^^^ j4_S0)), .val (.long (q2 ^^^ j22_S0)), .second, .val (.long (q3 ^^^ j37_S0)), .second, .val (.ref b1), .val (.ref b3), .val (.int (((p6.toUInt32 >>> ((3 : Int32) &&& 31).toUInt32).toInt32) &&& (3 : Int32))), .val (.ref b3), .unset, .unset] [(.int j118_S0t)])) t → Steps p.tables e below (T4.setTop (mkF m 118 #[.val (.long q1), .second, .val (.long q2), .second, .val (.long q3), .second, .val (.long q4), .second, .val (.long q5), .second, .val (.int p6), .val (.int (q1.toInt32)), .val (.int j4_S0), .val (.long j22_S0), .second, .val (.long j37_S0), .second, .val (.int ((q1.toInt32) ^^^ j4_S0)), .val (.long (q2 ^^^ j22_S0)), .second, .val (.long (q3 ^^^ j37_S0)), .second, .val (.ref b1), .val (.ref b3), .val (.int (((p6.toUInt32 >>> ((3 : Int32) &&& 31).toUInt32).toInt32) &&& (3 : Int32))), .val (.ref b3), .unset, .unset] [])) t := fun t kt => by
      show Steps p.tables e below (T4.setTop (mkF m 118 #[.val (.long q1), .second, .val (.long q2), .second, .val (.long q3), .second, .val (.long q4), .second, .val (.long q5), .second, .val (.int p6), .val (.int (q1.toInt32)), .val (.int j4_S0), .val (.long j22_S0), .second, .val (.long j37_S0), .second, .val (.int ((q1.toInt32) ^^^ j4_S0)), .val (.long (q2 ^^^ j22_S0)), .second, .val (.long (q3 ^^^ j37_S0)), .second, .val (.ref b1), .val (.ref b3), .val (.int (((p6.toUInt32 >>> ((3 : Int32) &&& 31).toUInt32).toInt32) &&& (3 : Int32))), .val (.ref b3), .unset, .unset] [])) _
      refine XS.iload X4.here hx rfl (hb hby at_118) rfl ?_
      by_cases hc120 : j4_S0 = (0 : Int32)
      · show Steps p.tables e below (T4.setTop (mkF m 120 #[.val (.long q1), .second, .val (.long q2), .second, .val (.long q3), .second, .val (.long q4), .second, .val (.long q5), .second, .val (.int p6), .val (.int (q1.toInt32)), .val (.int j4_S0), .val (.long j22_S0), .second, .val (.long j37_S0), .second, .val (.int ((q1.toInt32) ^^^ j4_S0)), .val (.long (q2 ^^^ j22_S0)), .second, .val (.long (q3 ^^^ j37_S0)), .second, .val (.ref b1), .val (.ref b3), .val (.int (((p6.toUInt32 >>> ((3 : Int32) &&& 31).toUInt32).toInt32) &&& (3 : Int32))), .val (.ref b3), .unset, .unset] [(.int j4_S0)])) _
        refine XS.ifNo X4.here hx rfl (hb hby at_120) rfl ((if0 _ _).trans (teq hc120).2) ?_
        show Steps p.tables e below (T4.setTop (mkF m 123 #[.val (.long q1), .second, .val (.long q2), .second, .val (.long q3), .second, .val (.long q4), .second, .val (.long q5), .second, .val (.int p6), .val (.int (q1.toInt32)), .val (.int j4_S0), .val (.long j22_S0), .second, .val (.long j37_S0), .second, .val (.int ((q1.toInt32) ^^^ j4_S0)), .val (.long (q2 ^^^ j22_S0)), .second, .val (.long (q3 ^^^ j37_S0)), .second, .val (.ref b1), .val (.ref b3), .val (.int (((p6.toUInt32 >>> ((3 : Int32) &&& 31).toUInt32).toInt32) &&& (3 : Int32))), .val (.ref b3), .unset, .unset] [])) _
        refine XS.lload X4.here hx rfl (hb hby at_123) rfl ?_
        show Steps p.tables e below (T4.setTop (mkF m 125 #[.val (.long q1), .second, .val (.long q2), .second, .val (.long q3), .second, .val (.long q4), .second, .val (.long q5), .second, .val (.int p6), .val (.int (q1.toInt32)), .val (.int j4_S0), .val (.long j22_S0), .second, .val (.long j37_S0), .second, .val (.int ((q1.toInt32) ^^^ j4_S0)), .val (.long (q2 ^^^ j22_S0)), .second, .val (.long (q3 ^^^ j37_S0)), .second, .val (.ref b1), .val (.ref b3), .val (.int (((p6.toUInt32 >>> ((3 : Int32) &&& 31).toUInt32).toInt32) &&& (3 : Int32))), .val (.ref b3), .unset, .unset] [(.long j22_S0)])) _
        refine XS.lconst X4.here hx rfl (hb hby at_125) ?_
        show Steps p.tables e below (T4.setTop (mkF m 126 #[.val (.long q1), .second, .val (.long q2), .second, .val (.long q3), .second, .val (.long q4), .second, .val (.long q5), .second, .val (.int p6), .val (.int (q1.toInt32)), .val (.int j4_S0), .val (.long j22_S0), .second, .val (.long j37_S0), .second, .val (.int ((q1.toInt32) ^^^ j4_S0)), .val (.long (q2 ^^^ j22_S0)), .second, .val (.long (q3 ^^^ j37_S0)), .second, .val (.ref b1), .val (.ref b3), .val (.int (((p6.toUInt32 >>> ((3 : Int32) &&& 31).toUInt32).toInt32) &&& (3 : Int32))), .val (.ref b3), .unset, .unset] [(.long (0 : Int64)), (.long j22_S0)])) _
        refine XS.lcmp X4.here hx rfl (hb hby at_126) rfl ?_
        by_cases hc127 : j22_S0 = (0 : Int64)
        · show Steps p.tables e below (T4.setTop (mkF m 127 #[.val (.long q1), .second, .val (.long q2), .second, .val (.long q3), .second, .val (.long q4), .second, .val (.long q5), .second, .val (.int p6), .val (.int (q1.toInt32)), .val (.int j4_S0), .val (.long j22_S0), .second, .val (.long j37_S0), .second, .val (.int ((q1.toInt32) ^^^ j4_S0)), .val (.long (q2 ^^^ j22_S0)), .second, .val (.long (q3 ^^^ j37_S0)), .second, .val (.ref b1), .val (.ref b3), .val (.int (((p6.toUInt32 >>> ((3 : Int32) &&& 31).toUInt32).toInt32) &&& (3 : Int32))), .val (.ref b3), .unset, .unset] [(.int (lcmpW j22_S0 (0 : Int64)))])) _
          refine XS.ifNo X4.here hx rfl (hb hby at_127) rfl ((if0 _ _).trans (teq ((lw_eq j22_S0 (0 : Int64)).mpr hc127)).2) ?_
          show Steps p.tables e below (T4.setTop (mkF m 130 #[.val (.long q1), .second, .val (.long q2), .second, .val (.long q3), .second, .val (.long q4), .second, .val (.long q5), .second, .val (.int p6), .val (.int (q1.toInt32)), .val (.int j4_S0), .val (.long j22_S0), .second, .val (.long j37_S0), .second, .val (.int ((q1.toInt32) ^^^ j4_S0)), .val (.long (q2 ^^^ j22_S0)), .second, .val (.long (q3 ^^^ j37_S0)), .second, .val (.ref b1), .val (.ref b3), .val (.int (((p6.toUInt32 >>> ((3 : Int32) &&& 31).toUInt32).toInt32) &&& (3 : Int32))), .val (.ref b3), .unset, .unset] [])) _
          refine XS.lload X4.here hx rfl (hb hby at_130) rfl ?_
          show Steps p.tables e below (T4.setTop (mkF m 132 #[.val (.long q1), .second, .val (.long q2), .second, .val (.long q3), .second, .val (.long q4), .second, .val (.long q5), .second, .val (.int p6), .val (.int (q1.toInt32)), .val (.int j4_S0), .val (.long j22_S0), .second, .val (.long j37_S0), .second, .val (.int ((q1.toInt32) ^^^ j4_S0)), .val (.long (q2 ^^^ j22_S0)), .second, .val (.long (q3 ^^^ j37_S0)), .second, .val (.ref b1), .val (.ref b3), .val (.int (((p6.toUInt32 >>> ((3 : Int32) &&& 31).toUInt32).toInt32) &&& (3 : Int32))), .val (.ref b3), .unset, .unset] [(.long j37_S0)])) _
          refine XS.lconst X4.here hx rfl (hb hby at_132) ?_
          show Steps p.tables e below (T4.setTop (mkF m 133 #[.val (.long q1), .second, .val (.long q2), .second, .val (.long q3), .second, .val (.long q4), .second, .val (.long q5), .second, .val (.int p6), .val (.int (q1.toInt32)), .val (.int j4_S0), .val (.long j22_S0), .second, .val (.long j37_S0), .second, .val (.int ((q1.toInt32) ^^^ j4_S0)), .val (.long (q2 ^^^ j22_S0)), .second, .val (.long (q3 ^^^ j37_S0)), .second, .val (.ref b1), .val (.ref b3), .val (.int (((p6.toUInt32 >>> ((3 : Int32) &&& 31).toUInt32).toInt32) &&& (3 : Int32))), .val (.ref b3), .unset, .unset] [(.long (0 : Int64)), (.long j37_S0)])) _
          refine XS.lcmp X4.here hx rfl (hb hby at_133) rfl ?_
          by_cases hc134 : j37_S0 = (0 : Int64)
          · have qj118_S0t : j118_S0t = (1 : Int32) := by rw [ej118_S0t, if_pos hc120, if_pos hc127, if_pos hc134]
            rw [qj118_S0t] at kt
            show Steps p.tables e below (T4.setTop (mkF m 134 #[.val (.long q1), .second, .val (.long q2), .second, .val (.long q3), .second, .val (.long q4), .second, .val (.long q5), .second, .val (.int p6), .val (.int (q1.toInt32)), .val (.int j4_S0), .val (.long j22_S0), .second, .val (.long j37_S0), .second, .val (.int ((q1.toInt32) ^^^ j4_S0)), .val (.long (q2 ^^^ j22_S0)), .second, .val (.long (q3 ^^^ j37_S0)), .second, .val (.ref b1), .val (.ref b3), .val (.int (((p6.toUInt32 >>> ((3 : Int32) &&& 31).toUInt32).toInt32) &&& (3 : Int32))), .val (.ref b3), .unset, .unset] [(.int (lcmpW j37_S0 (0 : Int64)))])) _
            refine XS.ifNo X4.here hx rfl (hb hby at_134) rfl ((if0 _ _).trans (teq ((lw_eq j37_S0 (0 : Int64)).mpr hc134)).2) ?_
            show Steps p.tables e below (T4.setTop (mkF m 137 #[.val (.long q1), .second, .val (.long q2), .second, .val (.long q3), .second, .val (.long q4), .second, .val (.long q5), .second, .val (.int p6), .val (.int (q1.toInt32)), .val (.int j4_S0), .val (.long j22_S0), .second, .val (.long j37_S0), .second, .val (.int ((q1.toInt32) ^^^ j4_S0)), .val (.long (q2 ^^^ j22_S0)), .second, .val (.long (q3 ^^^ j37_S0)), .second, .val (.ref b1), .val (.ref b3), .val (.int (((p6.toUInt32 >>> ((3 : Int32) &&& 31).toUInt32).toInt32) &&& (3 : Int32))), .val (.ref b3), .unset, .unset] [])) _
            refine XS.iconst X4.here hx rfl (hb hby at_137) ?_
            show Steps p.tables e below (T4.setTop (mkF m 138 #[.val (.long q1), .second, .val (.long q2), .second, .val (.long q3), .second, .val (.long q4), .second, .val (.long q5), .second, .val (.int p6), .val (.int (q1.toInt32)), .val (.int j4_S0), .val (.long j22_S0), .second, .val (.long j37_S0), .second, .val (.int ((q1.toInt32) ^^^ j4_S0)), .val (.long (q2 ^^^ j22_S0)), .second, .val (.long (q3 ^^^ j37_S0)), .second, .val (.ref b1), .val (.ref b3), .val (.int (((p6.toUInt32 >>> ((3 : Int32) &&& 31).toUInt32).toInt32) &&& (3 : Int32))), .val (.ref b3), .unset, .unset] [(.int (1 : Int32))])) _
            refine XS.goto X4.here hx rfl (pc0 := 138) (pc' := 142) rfl (hb hby at_138) (by decide) (by decide) ?_
            exact kt
          · have qj118_S0t : j118_S0t = (0 : Int32) := by rw [ej118_S0t, if_pos hc120, if_pos hc127, if_neg hc134]
            rw [qj118_S0t] at kt
            show Steps p.tables e below (T4.setTop (mkF m 134 #[.val (.long q1), .second, .val (.long q2), .second, .val (.long q3), .second, .val (.long q4), .second, .val (.long q5), .second, .val (.int p6), .val (.int (q1.toInt32)), .val (.int j4_S0), .val (.long j22_S0), .second, .val (.long j37_S0), .second, .val (.int ((q1.toInt32) ^^^ j4_S0)), .val (.long (q2 ^^^ j22_S0)), .second, .val (.long (q3 ^^^ j37_S0)), .second, .val (.ref b1), .val (.ref b3), .val (.int (((p6.toUInt32 >>> ((3 : Int32) &&& 31).toUInt32).toInt32) &&& (3 : Int32))), .val (.ref b3), .unset, .unset] [(.int (lcmpW j37_S0 (0 : Int64)))])) _
            refine XS.ifYes X4.here hx rfl (pc0 := 134) (pc' := 141) rfl (hb hby at_134) rfl ((if0 _ _).trans (feq (fun q => hc134 ((lw_eq j37_S0 (0 : Int64)).mp q))).2) (by decide) (by decide) ?_
            show Steps p.tables e below (T4.setTop (mkF m 141 #[.val (.long q1), .second, .val (.long q2), .second, .val (.long q3), .second, .val (.long q4), .second, .val (.long q5), .second, .val (.int p6), .val (.int (q1.toInt32)), .val (.int j4_S0), .val (.long j22_S0), .second, .val (.long j37_S0), .second, .val (.int ((q1.toInt32) ^^^ j4_S0)), .val (.long (q2 ^^^ j22_S0)), .second, .val (.long (q3 ^^^ j37_S0)), .second, .val (.ref b1), .val (.ref b3), .val (.int (((p6.toUInt32 >>> ((3 : Int32) &&& 31).toUInt32).toInt32) &&& (3 : Int32))), .val (.ref b3), .unset, .unset] [])) _
            refine XS.iconst X4.here hx rfl (hb hby at_141) ?_
            exact kt
        · have qj118_S0t : j118_S0t = (0 : Int32) := by rw [ej118_S0t, if_pos hc120, if_neg hc127]
          rw [qj118_S0t] at kt
          show Steps p.tables e below (T4.setTop (mkF m 127 #[.val (.long q1), .second, .val (.long q2), .second, .val (.long q3), .second, .val (.long q4), .second, .val (.long q5), .second, .val (.int p6), .val (.int (q1.toInt32)), .val (.int j4_S0), .val (.long j22_S0), .second, .val (.long j37_S0), .second, .val (.int ((q1.toInt32) ^^^ j4_S0)), .val (.long (q2 ^^^ j22_S0)), .second, .val (.long (q3 ^^^ j37_S0)), .second, .val (.ref b1), .val (.ref b3), .val (.int (((p6.toUInt32 >>> ((3 : Int32) &&& 31).toUInt32).toInt32) &&& (3 : Int32))), .val (.ref b3), .unset, .unset] [(.int (lcmpW j22_S0 (0 : Int64)))])) _
          refine XS.ifYes X4.here hx rfl (pc0 := 127) (pc' := 141) rfl (hb hby at_127) rfl ((if0 _ _).trans (feq (fun q => hc127 ((lw_eq j22_S0 (0 : Int64)).mp q))).2) (by decide) (by decide) ?_
          show Steps p.tables e below (T4.setTop (mkF m 141 #[.val (.long q1), .second, .val (.long q2), .second, .val (.long q3), .second, .val (.long q4), .second, .val (.long q5), .second, .val (.int p6), .val (.int (q1.toInt32)), .val (.int j4_S0), .val (.long j22_S0), .second, .val (.long j37_S0), .second, .val (.int ((q1.toInt32) ^^^ j4_S0)), .val (.long (q2 ^^^ j22_S0)), .second, .val (.long (q3 ^^^ j37_S0)), .second, .val (.ref b1), .val (.ref b3), .val (.int (((p6.toUInt32 >>> ((3 : Int32) &&& 31).toUInt32).toInt32) &&& (3 : Int32))), .val (.ref b3), .unset, .unset] [])) _
          refine XS.iconst X4.here hx rfl (hb hby at_141) ?_
          exact kt
      · have qj118_S0t : j118_S0t = (0 : Int32) := by rw [ej118_S0t, if_neg hc120]
        rw [qj118_S0t] at kt
        show Steps p.tables e below (T4.setTop (mkF m 120 #[.val (.long q1), .second, .val (.long q2), .second, .val (.long q3), .second, .val (.long q4), .second, .val (.long q5), .second, .val (.int p6), .val (.int (q1.toInt32)), .val (.int j4_S0), .val (.long j22_S0), .second, .val (.long j37_S0), .second, .val (.int ((q1.toInt32) ^^^ j4_S0)), .val (.long (q2 ^^^ j22_S0)), .second, .val (.long (q3 ^^^ j37_S0)), .second, .val (.ref b1), .val (.ref b3), .val (.int (((p6.toUInt32 >>> ((3 : Int32) &&& 31).toUInt32).toInt32) &&& (3 : Int32))), .val (.ref b3), .unset, .unset] [(.int j4_S0)])) _
        refine XS.ifYes X4.here hx rfl (pc0 := 120) (pc' := 141) rfl (hb hby at_120) rfl ((if0 _ _).trans (feq hc120).2) (by decide) (by decide) ?_
        show Steps p.tables e below (T4.setTop (mkF m 141 #[.val (.long q1), .second, .val (.long q2), .second, .val (.long q3), .second, .val (.long q4), .second, .val (.long q5), .second, .val (.int p6), .val (.int (q1.toInt32)), .val (.int j4_S0), .val (.long j22_S0), .second, .val (.long j37_S0), .second, .val (.int ((q1.toInt32) ^^^ j4_S0)), .val (.long (q2 ^^^ j22_S0)), .second, .val (.long (q3 ^^^ j37_S0)), .second, .val (.ref b1), .val (.ref b3), .val (.int (((p6.toUInt32 >>> ((3 : Int32) &&& 31).toUInt32).toInt32) &&& (3 : Int32))), .val (.ref b3), .unset, .unset] [])) _
        refine XS.iconst X4.here hx rfl (hb hby at_141) ?_
        exact kt
    obtain ⟨cq6, kq6, q6a, q6b, q6c⟩ := isOf hZ rfl f4_E_b1
    obtain ⟨_, _, ⟨T6, L6, k6, n6⟩, -, X6, ⟨Lc6, hQ6, l6, y6, z6⟩, st6⟩ := X4.virtualBack hx (y := (⟨"com/example/vestline/vestline/Holdings", "equals", "(Ljava/lang/Object;)Z"⟩ : MethodName)) (z := (⟨"com/example/vestline/vestline/Holdings", "equals", "(Ljava/lang/Object;)Z"⟩ : MethodName)) hown (mvT hZ (hw _ (List.mem_of_getElem? (i := 15) rfl))) (mvT hZ (hw _ (List.mem_of_getElem? (i := 16) rfl))) (notFace_of_selects (args := #[]) (mvT hZ (hw _ (List.mem_of_getElem? (i := 18) rfl)))) (mvT hZ (hw _ (List.mem_of_getElem? (i := 18) rfl))) (mvT hZ (hw _ (List.mem_of_getElem? (i := 17) rfl))) (by decide) (backOf (W := 0) (rm3H l Z a0 hw [] b1 b3 (q1.toInt32) q2 q3 ((q1.toInt32) ^^^ j4_S0) (q2 ^^^ j22_S0) (q3 ^^^ j37_S0) T4.heap n0 Z4 f4_F_b1_participants f4_F_b1_shares f4_F_b1_cash F4q_participants F4q_shares F4q_cash E4q) hZ (hw _ (List.mem_of_getElem? (i := 19) rfl)) (hw _ (List.mem_of_getElem? (i := 2) rfl)) (by decide) (by decide)) q6a q6c (g := (mkF m 191 #[.val (.long q1), .second, .val (.long q2), .second, .val (.long q3), .second, .val (.long q4), .second, .val (.long q5), .second, .val (.int p6), .val (.int (q1.toInt32)), .val (.int j4_S0), .val (.long j22_S0), .second, .val (.long j37_S0), .second, .val (.int ((q1.toInt32) ^^^ j4_S0)), .val (.long (q2 ^^^ j22_S0)), .second, .val (.long (q3 ^^^ j37_S0)), .second, .val (.ref b1), .val (.ref b3), .val (.int (((p6.toUInt32 >>> ((3 : Int32) &&& 31).toUInt32).toInt32) &&& (3 : Int32))), .val (.ref b3), .val (.int j118_S0t), .unset] [(.ref b3), (.ref b1)])) rfl (by rw [hml]; rfl) (Steps.refl _) (argsL := [(.ref b3)]) (rest := []) (lenOf pd0_1 rfl) rfl (by show 2 * 0 + _ ≤ _; exact Nat.le_of_eq rfl) (hb hby at_191) (fun _ _ => ⟨rfl, rfl, (by decide : 2 + 0 ≤ _), (by decide : 6 + 0 ≤ _)⟩)
    dsimp only [Pt.U, Pt.locs, Pt.cells, Pt.slots] at X6 l6 y6 z6 st6 hQ6
    subst l6 y6 z6
    obtain ⟨rfl, N6q, e6⟩ := hQ6
    have N6 := Fr.app N4 N6q
    obtain ⟨cq7, kq7, q7a, q7b, q7c⟩ := isOf hZ e6 E4q
    obtain ⟨_, _, ⟨T7, L7, k7, n7⟩, -, X7, ⟨Lc7, hQ7, l7, y7, z7⟩, st7⟩ := X6.virtualBack hx (y := (⟨"com/example/vestline/vestline/Holdings", "equals", "(Ljava/lang/Object;)Z"⟩ : MethodName)) (z := (⟨"com/example/vestline/vestline/Holdings", "equals", "(Ljava/lang/Object;)Z"⟩ : MethodName)) hown (mvT hZ (hw _ (List.mem_of_getElem? (i := 15) rfl))) (mvT hZ (hw _ (List.mem_of_getElem? (i := 16) rfl))) (notFace_of_selects (args := #[]) (mvT hZ (hw _ (List.mem_of_getElem? (i := 18) rfl)))) (mvT hZ (hw _ (List.mem_of_getElem? (i := 18) rfl))) (mvT hZ (hw _ (List.mem_of_getElem? (i := 17) rfl))) (by decide) (backOf (W := 0) (rm3H l Z a0 hw [] b3 b1 ((q1.toInt32) ^^^ j4_S0) (q2 ^^^ j22_S0) (q3 ^^^ j37_S0) (q1.toInt32) q2 q3 T4.heap n0 Z4 F4q_participants F4q_shares F4q_cash f4_F_b1_participants f4_F_b1_shares f4_F_b1_cash f4_E_b1) hZ (hw _ (List.mem_of_getElem? (i := 19) rfl)) (hw _ (List.mem_of_getElem? (i := 2) rfl)) (by decide) (by decide)) q7a q7c (g := (mkF m 212 #[.val (.long q1), .second, .val (.long q2), .second, .val (.long q3), .second, .val (.long q4), .second, .val (.long q5), .second, .val (.int p6), .val (.int (q1.toInt32)), .val (.int j4_S0), .val (.long j22_S0), .second, .val (.long j37_S0), .second, .val (.int ((q1.toInt32) ^^^ j4_S0)), .val (.long (q2 ^^^ j22_S0)), .second, .val (.long (q3 ^^^ j37_S0)), .second, .val (.ref b1), .val (.ref b3), .val (.int (((p6.toUInt32 >>> ((3 : Int32) &&& 31).toUInt32).toInt32) &&& (3 : Int32))), .val (.ref b3), .val (.int j118_S0t), .val (.int (own_eqH (q1.toInt32) q2 q3 ((q1.toInt32) ^^^ j4_S0) (q2 ^^^ j22_S0) (q3 ^^^ j37_S0)))] [(.ref b1), (.ref b3)])) rfl (by rw [hml]; rfl) (Steps.refl _) (argsL := [(.ref b1)]) (rest := []) (lenOf pd0_1 rfl) rfl (by show 2 * 0 + _ ≤ _; exact Nat.le_of_eq rfl) (hb hby at_212) (fun _ _ => ⟨rfl, e6, (by decide : 2 + 0 ≤ _), (by decide : 6 + 0 ≤ _)⟩)
    dsimp only [Pt.U, Pt.locs, Pt.cells, Pt.slots] at X7 l7 y7 z7 st7 hQ7
    subst l7 y7 z7
    obtain ⟨rfl, N7q, e7⟩ := hQ7
    have N7 := Fr.app N6 N7q
    obtain ⟨fs, hr, hrun, hended, hW, hsame⟩ := X7.leave (v := some (.int (1 : Int32))) (fun h => by rw [Bd.returns] at h; cases h)
    refine ⟨_, _, c5 _ ?_, hrun, hended, _, _, rfl, ?_, ⟨_, rfl⟩, hW, hsame.mono (by decide) (by decide)⟩
    · show Steps p.tables e below (T4.setTop (mkF m 111 #[.val (.long q1), .second, .val (.long q2), .second, .val (.long q3), .second, .val (.long q4), .second, .val (.long q5), .second, .val (.int p6), .val (.int (q1.toInt32)), .val (.int j4_S0), .val (.long j22_S0), .second, .val (.long j37_S0), .second, .val (.int ((q1.toInt32) ^^^ j4_S0)), .val (.long (q2 ^^^ j22_S0)), .second, .val (.long (q3 ^^^ j37_S0)), .second, .val (.ref b1), .val (.ref b3), .val (.int (((p6.toUInt32 >>> ((3 : Int32) &&& 31).toUInt32).toInt32) &&& (3 : Int32))), .unset, .unset, .unset] [(.int (((p6.toUInt32 >>> ((3 : Int32) &&& 31).toUInt32).toInt32) &&& (3 : Int32)))])) _
      refine XS.ifNo X4.here hx rfl (hb hby at_111) rfl ((if0 _ _).trans (teq hc111).2) ?_
      show Steps p.tables e below (T4.setTop (mkF m 114 #[.val (.long q1), .second, .val (.long q2), .second, .val (.long q3), .second, .val (.long q4), .second, .val (.long q5), .second, .val (.int p6), .val (.int (q1.toInt32)), .val (.int j4_S0), .val (.long j22_S0), .second, .val (.long j37_S0), .second, .val (.int ((q1.toInt32) ^^^ j4_S0)), .val (.long (q2 ^^^ j22_S0)), .second, .val (.long (q3 ^^^ j37_S0)), .second, .val (.ref b1), .val (.ref b3), .val (.int (((p6.toUInt32 >>> ((3 : Int32) &&& 31).toUInt32).toInt32) &&& (3 : Int32))), .unset, .unset, .unset] [])) _
      refine XS.aload X4.here hx rfl (hb hby at_114) rfl rfl ?_
      show Steps p.tables e below (T4.setTop (mkF m 116 #[.val (.long q1), .second, .val (.long q2), .second, .val (.long q3), .second, .val (.long q4), .second, .val (.long q5), .second, .val (.int p6), .val (.int (q1.toInt32)), .val (.int j4_S0), .val (.long j22_S0), .second, .val (.long j37_S0), .second, .val (.int ((q1.toInt32) ^^^ j4_S0)), .val (.long (q2 ^^^ j22_S0)), .second, .val (.long (q3 ^^^ j37_S0)), .second, .val (.ref b1), .val (.ref b3), .val (.int (((p6.toUInt32 >>> ((3 : Int32) &&& 31).toUInt32).toInt32) &&& (3 : Int32))), .unset, .unset, .unset] [(.ref b3)])) _
      refine XS.astore X4.here hx rfl (hb hby at_116) rfl rfl (l' := #[.val (.long q1), .second, .val (.long q2), .second, .val (.long q3), .second, .val (.long q4), .second, .val (.long q5), .second, .val (.int p6), .val (.int (q1.toInt32)), .val (.int j4_S0), .val (.long j22_S0), .second, .val (.long j37_S0), .second, .val (.int ((q1.toInt32) ^^^ j4_S0)), .val (.long (q2 ^^^ j22_S0)), .second, .val (.long (q3 ^^^ j37_S0)), .second, .val (.ref b1), .val (.ref b3), .val (.int (((p6.toUInt32 >>> ((3 : Int32) &&& 31).toUInt32).toInt32) &&& (3 : Int32))), .val (.ref b3), .unset, .unset]) rfl ?_
      show Steps p.tables e below (T4.setTop (mkF m 118 #[.val (.long q1), .second, .val (.long q2), .second, .val (.long q3), .second, .val (.long q4), .second, .val (.long q5), .second, .val (.int p6), .val (.int (q1.toInt32)), .val (.int j4_S0), .val (.long j22_S0), .second, .val (.long j37_S0), .second, .val (.int ((q1.toInt32) ^^^ j4_S0)), .val (.long (q2 ^^^ j22_S0)), .second, .val (.long (q3 ^^^ j37_S0)), .second, .val (.ref b1), .val (.ref b3), .val (.int (((p6.toUInt32 >>> ((3 : Int32) &&& 31).toUInt32).toInt32) &&& (3 : Int32))), .val (.ref b3), .unset, .unset] [])) _
      refine sg118t _ ?_
      show Steps p.tables e below (T4.setTop (mkF m 142 #[.val (.long q1), .second, .val (.long q2), .second, .val (.long q3), .second, .val (.long q4), .second, .val (.long q5), .second, .val (.int p6), .val (.int (q1.toInt32)), .val (.int j4_S0), .val (.long j22_S0), .second, .val (.long j37_S0), .second, .val (.int ((q1.toInt32) ^^^ j4_S0)), .val (.long (q2 ^^^ j22_S0)), .second, .val (.long (q3 ^^^ j37_S0)), .second, .val (.ref b1), .val (.ref b3), .val (.int (((p6.toUInt32 >>> ((3 : Int32) &&& 31).toUInt32).toInt32) &&& (3 : Int32))), .val (.ref b3), .unset, .unset] [(.int j118_S0t)])) _
      refine XS.istore X4.here hx rfl (hb hby at_142) rfl (l' := #[.val (.long q1), .second, .val (.long q2), .second, .val (.long q3), .second, .val (.long q4), .second, .val (.long q5), .second, .val (.int p6), .val (.int (q1.toInt32)), .val (.int j4_S0), .val (.long j22_S0), .second, .val (.long j37_S0), .second, .val (.int ((q1.toInt32) ^^^ j4_S0)), .val (.long (q2 ^^^ j22_S0)), .second, .val (.long (q3 ^^^ j37_S0)), .second, .val (.ref b1), .val (.ref b3), .val (.int (((p6.toUInt32 >>> ((3 : Int32) &&& 31).toUInt32).toInt32) &&& (3 : Int32))), .val (.ref b3), .val (.int j118_S0t), .unset]) rfl ?_
      show Steps p.tables e below (T4.setTop (mkF m 144 #[.val (.long q1), .second, .val (.long q2), .second, .val (.long q3), .second, .val (.long q4), .second, .val (.long q5), .second, .val (.int p6), .val (.int (q1.toInt32)), .val (.int j4_S0), .val (.long j22_S0), .second, .val (.long j37_S0), .second, .val (.int ((q1.toInt32) ^^^ j4_S0)), .val (.long (q2 ^^^ j22_S0)), .second, .val (.long (q3 ^^^ j37_S0)), .second, .val (.ref b1), .val (.ref b3), .val (.int (((p6.toUInt32 >>> ((3 : Int32) &&& 31).toUInt32).toInt32) &&& (3 : Int32))), .val (.ref b3), .val (.int j118_S0t), .unset] [])) _
      refine XS.goto X4.here hx rfl (pc0 := 144) (pc' := 187) rfl (hb hby at_144) (by decide) (by decide) ?_
      show Steps p.tables e below (T4.setTop (mkF m 187 #[.val (.long q1), .second, .val (.long q2), .second, .val (.long q3), .second, .val (.long q4), .second, .val (.long q5), .second, .val (.int p6), .val (.int (q1.toInt32)), .val (.int j4_S0), .val (.long j22_S0), .second, .val (.long j37_S0), .second, .val (.int ((q1.toInt32) ^^^ j4_S0)), .val (.long (q2 ^^^ j22_S0)), .second, .val (.long (q3 ^^^ j37_S0)), .second, .val (.ref b1), .val (.ref b3), .val (.int (((p6.toUInt32 >>> ((3 : Int32) &&& 31).toUInt32).toInt32) &&& (3 : Int32))), .val (.ref b3), .val (.int j118_S0t), .unset] [])) _
      refine XS.aload X4.here hx rfl (hb hby at_187) rfl rfl ?_
      show Steps p.tables e below (T4.setTop (mkF m 189 #[.val (.long q1), .second, .val (.long q2), .second, .val (.long q3), .second, .val (.long q4), .second, .val (.long q5), .second, .val (.int p6), .val (.int (q1.toInt32)), .val (.int j4_S0), .val (.long j22_S0), .second, .val (.long j37_S0), .second, .val (.int ((q1.toInt32) ^^^ j4_S0)), .val (.long (q2 ^^^ j22_S0)), .second, .val (.long (q3 ^^^ j37_S0)), .second, .val (.ref b1), .val (.ref b3), .val (.int (((p6.toUInt32 >>> ((3 : Int32) &&& 31).toUInt32).toInt32) &&& (3 : Int32))), .val (.ref b3), .val (.int j118_S0t), .unset] [(.ref b1)])) _
      refine XS.aload X4.here hx rfl (hb hby at_189) rfl rfl ?_
      show Steps p.tables e below (T4.setTop (mkF m 191 #[.val (.long q1), .second, .val (.long q2), .second, .val (.long q3), .second, .val (.long q4), .second, .val (.long q5), .second, .val (.int p6), .val (.int (q1.toInt32)), .val (.int j4_S0), .val (.long j22_S0), .second, .val (.long j37_S0), .second, .val (.int ((q1.toInt32) ^^^ j4_S0)), .val (.long (q2 ^^^ j22_S0)), .second, .val (.long (q3 ^^^ j37_S0)), .second, .val (.ref b1), .val (.ref b3), .val (.int (((p6.toUInt32 >>> ((3 : Int32) &&& 31).toUInt32).toInt32) &&& (3 : Int32))), .val (.ref b3), .val (.int j118_S0t), .unset] [(.ref b3), (.ref b1)])) _
      refine st6.trans ?_
      show Steps p.tables e below (T6.setTop (mkF m 194 #[.val (.long q1), .second, .val (.long q2), .second, .val (.long q3), .second, .val (.long q4), .second, .val (.long q5), .second, .val (.int p6), .val (.int (q1.toInt32)), .val (.int j4_S0), .val (.long j22_S0), .second, .val (.long j37_S0), .second, .val (.int ((q1.toInt32) ^^^ j4_S0)), .val (.long (q2 ^^^ j22_S0)), .second, .val (.long (q3 ^^^ j37_S0)), .second, .val (.ref b1), .val (.ref b3), .val (.int (((p6.toUInt32 >>> ((3 : Int32) &&& 31).toUInt32).toInt32) &&& (3 : Int32))), .val (.ref b3), .val (.int j118_S0t), .unset] [(.int (own_eqH (q1.toInt32) q2 q3 ((q1.toInt32) ^^^ j4_S0) (q2 ^^^ j22_S0) (q3 ^^^ j37_S0)))])) _
      refine XS.istore X6.here hx rfl (hb hby at_194) rfl (l' := #[.val (.long q1), .second, .val (.long q2), .second, .val (.long q3), .second, .val (.long q4), .second, .val (.long q5), .second, .val (.int p6), .val (.int (q1.toInt32)), .val (.int j4_S0), .val (.long j22_S0), .second, .val (.long j37_S0), .second, .val (.int ((q1.toInt32) ^^^ j4_S0)), .val (.long (q2 ^^^ j22_S0)), .second, .val (.long (q3 ^^^ j37_S0)), .second, .val (.ref b1), .val (.ref b3), .val (.int (((p6.toUInt32 >>> ((3 : Int32) &&& 31).toUInt32).toInt32) &&& (3 : Int32))), .val (.ref b3), .val (.int j118_S0t), .val (.int (own_eqH (q1.toInt32) q2 q3 ((q1.toInt32) ^^^ j4_S0) (q2 ^^^ j22_S0) (q3 ^^^ j37_S0)))]) rfl ?_
      show Steps p.tables e below (T6.setTop (mkF m 196 #[.val (.long q1), .second, .val (.long q2), .second, .val (.long q3), .second, .val (.long q4), .second, .val (.long q5), .second, .val (.int p6), .val (.int (q1.toInt32)), .val (.int j4_S0), .val (.long j22_S0), .second, .val (.long j37_S0), .second, .val (.int ((q1.toInt32) ^^^ j4_S0)), .val (.long (q2 ^^^ j22_S0)), .second, .val (.long (q3 ^^^ j37_S0)), .second, .val (.ref b1), .val (.ref b3), .val (.int (((p6.toUInt32 >>> ((3 : Int32) &&& 31).toUInt32).toInt32) &&& (3 : Int32))), .val (.ref b3), .val (.int j118_S0t), .val (.int (own_eqH (q1.toInt32) q2 q3 ((q1.toInt32) ^^^ j4_S0) (q2 ^^^ j22_S0) (q3 ^^^ j37_S0)))] [])) _
      refine XS.iload X6.here hx rfl (hb hby at_196) rfl ?_
      show Steps p.tables e below (T6.setTop (mkF m 198 #[.val (.long q1), .second, .val (.long q2), .second, .val (.long q3), .second, .val (.long q4), .second, .val (.long q5), .second, .val (.int p6), .val (.int (q1.toInt32)), .val (.int j4_S0), .val (.long j22_S0), .second, .val (.long j37_S0), .second, .val (.int ((q1.toInt32) ^^^ j4_S0)), .val (.long (q2 ^^^ j22_S0)), .second, .val (.long (q3 ^^^ j37_S0)), .second, .val (.ref b1), .val (.ref b3), .val (.int (((p6.toUInt32 >>> ((3 : Int32) &&& 31).toUInt32).toInt32) &&& (3 : Int32))), .val (.ref b3), .val (.int j118_S0t), .val (.int (own_eqH (q1.toInt32) q2 q3 ((q1.toInt32) ^^^ j4_S0) (q2 ^^^ j22_S0) (q3 ^^^ j37_S0)))] [(.int (((p6.toUInt32 >>> ((3 : Int32) &&& 31).toUInt32).toInt32) &&& (3 : Int32)))])) _
      refine XS.ifNo X6.here hx rfl (hb hby at_198) rfl ((if0 _ _).trans (teq hc111).2) ?_
      show Steps p.tables e below (T6.setTop (mkF m 201 #[.val (.long q1), .second, .val (.long q2), .second, .val (.long q3), .second, .val (.long q4), .second, .val (.long q5), .second, .val (.int p6), .val (.int (q1.toInt32)), .val (.int j4_S0), .val (.long j22_S0), .second, .val (.long j37_S0), .second, .val (.int ((q1.toInt32) ^^^ j4_S0)), .val (.long (q2 ^^^ j22_S0)), .second, .val (.long (q3 ^^^ j37_S0)), .second, .val (.ref b1), .val (.ref b3), .val (.int (((p6.toUInt32 >>> ((3 : Int32) &&& 31).toUInt32).toInt32) &&& (3 : Int32))), .val (.ref b3), .val (.int j118_S0t), .val (.int (own_eqH (q1.toInt32) q2 q3 ((q1.toInt32) ^^^ j4_S0) (q2 ^^^ j22_S0) (q3 ^^^ j37_S0)))] [])) _
      refine XS.iload X6.here hx rfl (hb hby at_201) rfl ?_
      show Steps p.tables e below (T6.setTop (mkF m 203 #[.val (.long q1), .second, .val (.long q2), .second, .val (.long q3), .second, .val (.long q4), .second, .val (.long q5), .second, .val (.int p6), .val (.int (q1.toInt32)), .val (.int j4_S0), .val (.long j22_S0), .second, .val (.long j37_S0), .second, .val (.int ((q1.toInt32) ^^^ j4_S0)), .val (.long (q2 ^^^ j22_S0)), .second, .val (.long (q3 ^^^ j37_S0)), .second, .val (.ref b1), .val (.ref b3), .val (.int (((p6.toUInt32 >>> ((3 : Int32) &&& 31).toUInt32).toInt32) &&& (3 : Int32))), .val (.ref b3), .val (.int j118_S0t), .val (.int (own_eqH (q1.toInt32) q2 q3 ((q1.toInt32) ^^^ j4_S0) (q2 ^^^ j22_S0) (q3 ^^^ j37_S0)))] [(.int (own_eqH (q1.toInt32) q2 q3 ((q1.toInt32) ^^^ j4_S0) (q2 ^^^ j22_S0) (q3 ^^^ j37_S0)))])) _
      refine XS.iload X6.here hx rfl (hb hby at_203) rfl ?_
      show Steps p.tables e below (T6.setTop (mkF m 205 #[.val (.long q1), .second, .val (.long q2), .second, .val (.long q3), .second, .val (.long q4), .second, .val (.long q5), .second, .val (.int p6), .val (.int (q1.toInt32)), .val (.int j4_S0), .val (.long j22_S0), .second, .val (.long j37_S0), .second, .val (.int ((q1.toInt32) ^^^ j4_S0)), .val (.long (q2 ^^^ j22_S0)), .second, .val (.long (q3 ^^^ j37_S0)), .second, .val (.ref b1), .val (.ref b3), .val (.int (((p6.toUInt32 >>> ((3 : Int32) &&& 31).toUInt32).toInt32) &&& (3 : Int32))), .val (.ref b3), .val (.int j118_S0t), .val (.int (own_eqH (q1.toInt32) q2 q3 ((q1.toInt32) ^^^ j4_S0) (q2 ^^^ j22_S0) (q3 ^^^ j37_S0)))] [(.int j118_S0t), (.int (own_eqH (q1.toInt32) q2 q3 ((q1.toInt32) ^^^ j4_S0) (q2 ^^^ j22_S0) (q3 ^^^ j37_S0)))])) _
      refine XS.icmpNo X6.here hx rfl (hb hby at_205) rfl (teq ((own_exp _ _ _ _ _ _).trans ej118_S0t.symm)).2 ?_
      show Steps p.tables e below (T6.setTop (mkF m 208 #[.val (.long q1), .second, .val (.long q2), .second, .val (.long q3), .second, .val (.long q4), .second, .val (.long q5), .second, .val (.int p6), .val (.int (q1.toInt32)), .val (.int j4_S0), .val (.long j22_S0), .second, .val (.long j37_S0), .second, .val (.int ((q1.toInt32) ^^^ j4_S0)), .val (.long (q2 ^^^ j22_S0)), .second, .val (.long (q3 ^^^ j37_S0)), .second, .val (.ref b1), .val (.ref b3), .val (.int (((p6.toUInt32 >>> ((3 : Int32) &&& 31).toUInt32).toInt32) &&& (3 : Int32))), .val (.ref b3), .val (.int j118_S0t), .val (.int (own_eqH (q1.toInt32) q2 q3 ((q1.toInt32) ^^^ j4_S0) (q2 ^^^ j22_S0) (q3 ^^^ j37_S0)))] [])) _
      refine XS.aload X6.here hx rfl (hb hby at_208) rfl rfl ?_
      show Steps p.tables e below (T6.setTop (mkF m 210 #[.val (.long q1), .second, .val (.long q2), .second, .val (.long q3), .second, .val (.long q4), .second, .val (.long q5), .second, .val (.int p6), .val (.int (q1.toInt32)), .val (.int j4_S0), .val (.long j22_S0), .second, .val (.long j37_S0), .second, .val (.int ((q1.toInt32) ^^^ j4_S0)), .val (.long (q2 ^^^ j22_S0)), .second, .val (.long (q3 ^^^ j37_S0)), .second, .val (.ref b1), .val (.ref b3), .val (.int (((p6.toUInt32 >>> ((3 : Int32) &&& 31).toUInt32).toInt32) &&& (3 : Int32))), .val (.ref b3), .val (.int j118_S0t), .val (.int (own_eqH (q1.toInt32) q2 q3 ((q1.toInt32) ^^^ j4_S0) (q2 ^^^ j22_S0) (q3 ^^^ j37_S0)))] [(.ref b3)])) _
      refine XS.aload X6.here hx rfl (hb hby at_210) rfl rfl ?_
      show Steps p.tables e below (T6.setTop (mkF m 212 #[.val (.long q1), .second, .val (.long q2), .second, .val (.long q3), .second, .val (.long q4), .second, .val (.long q5), .second, .val (.int p6), .val (.int (q1.toInt32)), .val (.int j4_S0), .val (.long j22_S0), .second, .val (.long j37_S0), .second, .val (.int ((q1.toInt32) ^^^ j4_S0)), .val (.long (q2 ^^^ j22_S0)), .second, .val (.long (q3 ^^^ j37_S0)), .second, .val (.ref b1), .val (.ref b3), .val (.int (((p6.toUInt32 >>> ((3 : Int32) &&& 31).toUInt32).toInt32) &&& (3 : Int32))), .val (.ref b3), .val (.int j118_S0t), .val (.int (own_eqH (q1.toInt32) q2 q3 ((q1.toInt32) ^^^ j4_S0) (q2 ^^^ j22_S0) (q3 ^^^ j37_S0)))] [(.ref b1), (.ref b3)])) _
      refine st7.trans ?_
      show Steps p.tables e below (T7.setTop (mkF m 215 #[.val (.long q1), .second, .val (.long q2), .second, .val (.long q3), .second, .val (.long q4), .second, .val (.long q5), .second, .val (.int p6), .val (.int (q1.toInt32)), .val (.int j4_S0), .val (.long j22_S0), .second, .val (.long j37_S0), .second, .val (.int ((q1.toInt32) ^^^ j4_S0)), .val (.long (q2 ^^^ j22_S0)), .second, .val (.long (q3 ^^^ j37_S0)), .second, .val (.ref b1), .val (.ref b3), .val (.int (((p6.toUInt32 >>> ((3 : Int32) &&& 31).toUInt32).toInt32) &&& (3 : Int32))), .val (.ref b3), .val (.int j118_S0t), .val (.int (own_eqH (q1.toInt32) q2 q3 ((q1.toInt32) ^^^ j4_S0) (q2 ^^^ j22_S0) (q3 ^^^ j37_S0)))] [(.int (own_eqH ((q1.toInt32) ^^^ j4_S0) (q2 ^^^ j22_S0) (q3 ^^^ j37_S0) (q1.toInt32) q2 q3))])) _
      refine XS.iload X7.here hx rfl (hb hby at_215) rfl ?_
      show Steps p.tables e below (T7.setTop (mkF m 217 #[.val (.long q1), .second, .val (.long q2), .second, .val (.long q3), .second, .val (.long q4), .second, .val (.long q5), .second, .val (.int p6), .val (.int (q1.toInt32)), .val (.int j4_S0), .val (.long j22_S0), .second, .val (.long j37_S0), .second, .val (.int ((q1.toInt32) ^^^ j4_S0)), .val (.long (q2 ^^^ j22_S0)), .second, .val (.long (q3 ^^^ j37_S0)), .second, .val (.ref b1), .val (.ref b3), .val (.int (((p6.toUInt32 >>> ((3 : Int32) &&& 31).toUInt32).toInt32) &&& (3 : Int32))), .val (.ref b3), .val (.int j118_S0t), .val (.int (own_eqH (q1.toInt32) q2 q3 ((q1.toInt32) ^^^ j4_S0) (q2 ^^^ j22_S0) (q3 ^^^ j37_S0)))] [(.int j118_S0t), (.int (own_eqH ((q1.toInt32) ^^^ j4_S0) (q2 ^^^ j22_S0) (q3 ^^^ j37_S0) (q1.toInt32) q2 q3))])) _
      refine XS.icmpNo X7.here hx rfl (hb hby at_217) rfl (teq ((own_swap _ _ _ _ _ _).trans ((own_exp _ _ _ _ _ _).trans ej118_S0t.symm))).2 ?_
      show Steps p.tables e below (T7.setTop (mkF m 220 #[.val (.long q1), .second, .val (.long q2), .second, .val (.long q3), .second, .val (.long q4), .second, .val (.long q5), .second, .val (.int p6), .val (.int (q1.toInt32)), .val (.int j4_S0), .val (.long j22_S0), .second, .val (.long j37_S0), .second, .val (.int ((q1.toInt32) ^^^ j4_S0)), .val (.long (q2 ^^^ j22_S0)), .second, .val (.long (q3 ^^^ j37_S0)), .second, .val (.ref b1), .val (.ref b3), .val (.int (((p6.toUInt32 >>> ((3 : Int32) &&& 31).toUInt32).toInt32) &&& (3 : Int32))), .val (.ref b3), .val (.int j118_S0t), .val (.int (own_eqH (q1.toInt32) q2 q3 ((q1.toInt32) ^^^ j4_S0) (q2 ^^^ j22_S0) (q3 ^^^ j37_S0)))] [])) _
      refine XS.iconst X7.here hx rfl (hb hby at_220) ?_
      show Steps p.tables e below (T7.setTop (mkF m 221 #[.val (.long q1), .second, .val (.long q2), .second, .val (.long q3), .second, .val (.long q4), .second, .val (.long q5), .second, .val (.int p6), .val (.int (q1.toInt32)), .val (.int j4_S0), .val (.long j22_S0), .second, .val (.long j37_S0), .second, .val (.int ((q1.toInt32) ^^^ j4_S0)), .val (.long (q2 ^^^ j22_S0)), .second, .val (.long (q3 ^^^ j37_S0)), .second, .val (.ref b1), .val (.ref b3), .val (.int (((p6.toUInt32 >>> ((3 : Int32) &&& 31).toUInt32).toInt32) &&& (3 : Int32))), .val (.ref b3), .val (.int j118_S0t), .val (.int (own_eqH (q1.toInt32) q2 q3 ((q1.toInt32) ^^^ j4_S0) (q2 ^^^ j22_S0) (q3 ^^^ j37_S0)))] [(.int (1 : Int32))])) _
      refine XS.goto X7.here hx rfl (pc0 := 221) (pc' := 225) rfl (hb hby at_221) (by decide) (by decide) ?_
      show Steps p.tables e below (T7.setTop (mkF m 225 #[.val (.long q1), .second, .val (.long q2), .second, .val (.long q3), .second, .val (.long q4), .second, .val (.long q5), .second, .val (.int p6), .val (.int (q1.toInt32)), .val (.int j4_S0), .val (.long j22_S0), .second, .val (.long j37_S0), .second, .val (.int ((q1.toInt32) ^^^ j4_S0)), .val (.long (q2 ^^^ j22_S0)), .second, .val (.long (q3 ^^^ j37_S0)), .second, .val (.ref b1), .val (.ref b3), .val (.int (((p6.toUInt32 >>> ((3 : Int32) &&& 31).toUInt32).toInt32) &&& (3 : Int32))), .val (.ref b3), .val (.int j118_S0t), .val (.int (own_eqH (q1.toInt32) q2 q3 ((q1.toInt32) ^^^ j4_S0) (q2 ^^^ j22_S0) (q3 ^^^ j37_S0)))] [(.int (1 : Int32))])) _
      exact retN X7 hx (t := .boolean) Bd.returns (by simp) (hb hby at_225) hr
    · show Q0 Z q1 q2 q3 q4 q5 p6 ca clc h0 n0 _ T7.heap _
      rw [e7]
      exact ⟨rfl, N7⟩
  · have c8 : ∀ t, Steps p.tables e below (T4.setTop (mkF m 150 #[.val (.long q1), .second, .val (.long q2), .second, .val (.long q3), .second, .val (.long q4), .second, .val (.long q5), .second, .val (.int p6), .val (.int (q1.toInt32)), .val (.int j4_S0), .val (.long j22_S0), .second, .val (.long j37_S0), .second, .val (.int ((q1.toInt32) ^^^ j4_S0)), .val (.long (q2 ^^^ j22_S0)), .second, .val (.long (q3 ^^^ j37_S0)), .second, .val (.ref b1), .val (.ref b3), .val (.int (((p6.toUInt32 >>> ((3 : Int32) &&& 31).toUInt32).toInt32) &&& (3 : Int32))), .unset, .unset, .unset] [(.int (1 : Int32)), (.int (((p6.toUInt32 >>> ((3 : Int32) &&& 31).toUInt32).toInt32) &&& (3 : Int32)))])) t → Steps p.tables e below (s₁.setTop (entryFrame m #[(.long q1), (.long q2), (.long q3), (.long q4), (.long q5), (.int p6)] maxLocals)) t := fun t kt => by
      refine c5 _ ?_
      show Steps p.tables e below (T4.setTop (mkF m 111 #[.val (.long q1), .second, .val (.long q2), .second, .val (.long q3), .second, .val (.long q4), .second, .val (.long q5), .second, .val (.int p6), .val (.int (q1.toInt32)), .val (.int j4_S0), .val (.long j22_S0), .second, .val (.long j37_S0), .second, .val (.int ((q1.toInt32) ^^^ j4_S0)), .val (.long (q2 ^^^ j22_S0)), .second, .val (.long (q3 ^^^ j37_S0)), .second, .val (.ref b1), .val (.ref b3), .val (.int (((p6.toUInt32 >>> ((3 : Int32) &&& 31).toUInt32).toInt32) &&& (3 : Int32))), .unset, .unset, .unset] [(.int (((p6.toUInt32 >>> ((3 : Int32) &&& 31).toUInt32).toInt32) &&& (3 : Int32)))])) _
      refine XS.ifYes X4.here hx rfl (pc0 := 111) (pc' := 147) rfl (hb hby at_111) rfl ((if0 _ _).trans (feq hc111).2) (by decide) (by decide) ?_
      show Steps p.tables e below (T4.setTop (mkF m 147 #[.val (.long q1), .second, .val (.long q2), .second, .val (.long q3), .second, .val (.long q4), .second, .val (.long q5), .second, .val (.int p6), .val (.int (q1.toInt32)), .val (.int j4_S0), .val (.long j22_S0), .second, .val (.long j37_S0), .second, .val (.int ((q1.toInt32) ^^^ j4_S0)), .val (.long (q2 ^^^ j22_S0)), .second, .val (.long (q3 ^^^ j37_S0)), .second, .val (.ref b1), .val (.ref b3), .val (.int (((p6.toUInt32 >>> ((3 : Int32) &&& 31).toUInt32).toInt32) &&& (3 : Int32))), .unset, .unset, .unset] [])) _
      refine XS.iload X4.here hx rfl (hb hby at_147) rfl ?_
      show Steps p.tables e below (T4.setTop (mkF m 149 #[.val (.long q1), .second, .val (.long q2), .second, .val (.long q3), .second, .val (.long q4), .second, .val (.long q5), .second, .val (.int p6), .val (.int (q1.toInt32)), .val (.int j4_S0), .val (.long j22_S0), .second, .val (.long j37_S0), .second, .val (.int ((q1.toInt32) ^^^ j4_S0)), .val (.long (q2 ^^^ j22_S0)), .second, .val (.long (q3 ^^^ j37_S0)), .second, .val (.ref b1), .val (.ref b3), .val (.int (((p6.toUInt32 >>> ((3 : Int32) &&& 31).toUInt32).toInt32) &&& (3 : Int32))), .unset, .unset, .unset] [(.int (((p6.toUInt32 >>> ((3 : Int32) &&& 31).toUInt32).toInt32) &&& (3 : Int32)))])) _
      refine XS.iconst X4.here hx rfl (hb hby at_149) ?_
      exact kt
    by_cases hc150 : (((p6.toUInt32 >>> ((3 : Int32) &&& 31).toUInt32).toInt32) &&& (3 : Int32)) = (1 : Int32)
    · obtain ⟨cq9, kq9, q9a, q9b, q9c⟩ := isOf hZ rfl f4_E_b1
      obtain ⟨_, _, ⟨T9, L9, k9, n9⟩, -, X9, ⟨Lc9, hQ9, l9, y9, z9⟩, st9⟩ := X4.virtualBack hx (y := (⟨"com/example/vestline/vestline/Holdings", "equals", "(Ljava/lang/Object;)Z"⟩ : MethodName)) (z := (⟨"com/example/vestline/vestline/Holdings", "equals", "(Ljava/lang/Object;)Z"⟩ : MethodName)) hown (mvT hZ (hw _ (List.mem_of_getElem? (i := 15) rfl))) (mvT hZ (hw _ (List.mem_of_getElem? (i := 16) rfl))) (notFace_of_selects (args := #[]) (mvT hZ (hw _ (List.mem_of_getElem? (i := 18) rfl)))) (mvT hZ (hw _ (List.mem_of_getElem? (i := 18) rfl))) (mvT hZ (hw _ (List.mem_of_getElem? (i := 17) rfl))) (by decide) (backOf (W := 0) (rm3N l Z a0 hw [] b1 T4.heap n0 Z4 ) hZ (hw _ (List.mem_of_getElem? (i := 19) rfl)) (hw _ (List.mem_of_getElem? (i := 2) rfl)) (by decide) (by decide)) q9a q9c (g := (mkF m 191 #[.val (.long q1), .second, .val (.long q2), .second, .val (.long q3), .second, .val (.long q4), .second, .val (.long q5), .second, .val (.int p6), .val (.int (q1.toInt32)), .val (.int j4_S0), .val (.long j22_S0), .second, .val (.long j37_S0), .second, .val (.int ((q1.toInt32) ^^^ j4_S0)), .val (.long (q2 ^^^ j22_S0)), .second, .val (.long (q3 ^^^ j37_S0)), .second, .val (.ref b1), .val (.ref b3), .val (.int (((p6.toUInt32 >>> ((3 : Int32) &&& 31).toUInt32).toInt32) &&& (3 : Int32))), .val .null, .val (.int (0 : Int32)), .unset] [.null, (.ref b1)])) rfl (by rw [hml]; rfl) (Steps.refl _) (argsL := [.null]) (rest := []) (lenOf pd0_1 rfl) rfl (by show 2 * 0 + _ ≤ _; exact Nat.le_of_eq rfl) (hb hby at_191) (fun _ _ => ⟨rfl, rfl, (by decide : 2 + 0 ≤ _), (by decide : 6 + 0 ≤ _)⟩)
      dsimp only [Pt.U, Pt.locs, Pt.cells, Pt.slots] at X9 l9 y9 z9 st9 hQ9
      subst l9 y9 z9
      obtain ⟨rfl, N9q, e9⟩ := hQ9
      have N9 := Fr.app N4 N9q
      obtain ⟨fs, hr, hrun, hended, hW, hsame⟩ := X9.leave (v := some (.int (1 : Int32))) (fun h => by rw [Bd.returns] at h; cases h)
      refine ⟨_, _, c8 _ ?_, hrun, hended, _, _, rfl, ?_, ⟨_, rfl⟩, hW, hsame.mono (by decide) (by decide)⟩
      · show Steps p.tables e below (T4.setTop (mkF m 150 #[.val (.long q1), .second, .val (.long q2), .second, .val (.long q3), .second, .val (.long q4), .second, .val (.long q5), .second, .val (.int p6), .val (.int (q1.toInt32)), .val (.int j4_S0), .val (.long j22_S0), .second, .val (.long j37_S0), .second, .val (.int ((q1.toInt32) ^^^ j4_S0)), .val (.long (q2 ^^^ j22_S0)), .second, .val (.long (q3 ^^^ j37_S0)), .second, .val (.ref b1), .val (.ref b3), .val (.int (((p6.toUInt32 >>> ((3 : Int32) &&& 31).toUInt32).toInt32) &&& (3 : Int32))), .unset, .unset, .unset] [(.int (1 : Int32)), (.int (((p6.toUInt32 >>> ((3 : Int32) &&& 31).toUInt32).toInt32) &&& (3 : Int32)))])) _
        refine XS.icmpNo X4.here hx rfl (hb hby at_150) rfl (teq hc150).2 ?_
        show Steps p.tables e below (T4.setTop (mkF m 153 #[.val (.long q1), .second, .val (.long q2), .second, .val (.long q3), .second, .val (.long q4), .second, .val (.long q5), .second, .val (.int p6), .val (.int (q1.toInt32)), .val (.int j4_S0), .val (.long j22_S0), .second, .val (.long j37_S0), .second, .val (.int ((q1.toInt32) ^^^ j4_S0)), .val (.long (q2 ^^^ j22_S0)), .second, .val (.long (q3 ^^^ j37_S0)), .second, .val (.ref b1), .val (.ref b3), .val (.int (((p6.toUInt32 >>> ((3 : Int32) &&& 31).toUInt32).toInt32) &&& (3 : Int32))), .unset, .unset, .unset] [])) _
        refine XS.aconstNull X4.here hx rfl (hb hby at_153) ?_
        show Steps p.tables e below (T4.setTop (mkF m 154 #[.val (.long q1), .second, .val (.long q2), .second, .val (.long q3), .second, .val (.long q4), .second, .val (.long q5), .second, .val (.int p6), .val (.int (q1.toInt32)), .val (.int j4_S0), .val (.long j22_S0), .second, .val (.long j37_S0), .second, .val (.int ((q1.toInt32) ^^^ j4_S0)), .val (.long (q2 ^^^ j22_S0)), .second, .val (.long (q3 ^^^ j37_S0)), .second, .val (.ref b1), .val (.ref b3), .val (.int (((p6.toUInt32 >>> ((3 : Int32) &&& 31).toUInt32).toInt32) &&& (3 : Int32))), .unset, .unset, .unset] [.null])) _
        refine XS.astore X4.here hx rfl (hb hby at_154) rfl rfl (l' := #[.val (.long q1), .second, .val (.long q2), .second, .val (.long q3), .second, .val (.long q4), .second, .val (.long q5), .second, .val (.int p6), .val (.int (q1.toInt32)), .val (.int j4_S0), .val (.long j22_S0), .second, .val (.long j37_S0), .second, .val (.int ((q1.toInt32) ^^^ j4_S0)), .val (.long (q2 ^^^ j22_S0)), .second, .val (.long (q3 ^^^ j37_S0)), .second, .val (.ref b1), .val (.ref b3), .val (.int (((p6.toUInt32 >>> ((3 : Int32) &&& 31).toUInt32).toInt32) &&& (3 : Int32))), .val .null, .unset, .unset]) rfl ?_
        show Steps p.tables e below (T4.setTop (mkF m 156 #[.val (.long q1), .second, .val (.long q2), .second, .val (.long q3), .second, .val (.long q4), .second, .val (.long q5), .second, .val (.int p6), .val (.int (q1.toInt32)), .val (.int j4_S0), .val (.long j22_S0), .second, .val (.long j37_S0), .second, .val (.int ((q1.toInt32) ^^^ j4_S0)), .val (.long (q2 ^^^ j22_S0)), .second, .val (.long (q3 ^^^ j37_S0)), .second, .val (.ref b1), .val (.ref b3), .val (.int (((p6.toUInt32 >>> ((3 : Int32) &&& 31).toUInt32).toInt32) &&& (3 : Int32))), .val .null, .unset, .unset] [])) _
        refine XS.iconst X4.here hx rfl (hb hby at_156) ?_
        show Steps p.tables e below (T4.setTop (mkF m 157 #[.val (.long q1), .second, .val (.long q2), .second, .val (.long q3), .second, .val (.long q4), .second, .val (.long q5), .second, .val (.int p6), .val (.int (q1.toInt32)), .val (.int j4_S0), .val (.long j22_S0), .second, .val (.long j37_S0), .second, .val (.int ((q1.toInt32) ^^^ j4_S0)), .val (.long (q2 ^^^ j22_S0)), .second, .val (.long (q3 ^^^ j37_S0)), .second, .val (.ref b1), .val (.ref b3), .val (.int (((p6.toUInt32 >>> ((3 : Int32) &&& 31).toUInt32).toInt32) &&& (3 : Int32))), .val .null, .unset, .unset] [(.int (0 : Int32))])) _
        refine XS.istore X4.here hx rfl (hb hby at_157) rfl (l' := #[.val (.long q1), .second, .val (.long q2), .second, .val (.long q3), .second, .val (.long q4), .second, .val (.long q5), .second, .val (.int p6), .val (.int (q1.toInt32)), .val (.int j4_S0), .val (.long j22_S0), .second, .val (.long j37_S0), .second, .val (.int ((q1.toInt32) ^^^ j4_S0)), .val (.long (q2 ^^^ j22_S0)), .second, .val (.long (q3 ^^^ j37_S0)), .second, .val (.ref b1), .val (.ref b3), .val (.int (((p6.toUInt32 >>> ((3 : Int32) &&& 31).toUInt32).toInt32) &&& (3 : Int32))), .val .null, .val (.int (0 : Int32)), .unset]) rfl ?_
        show Steps p.tables e below (T4.setTop (mkF m 159 #[.val (.long q1), .second, .val (.long q2), .second, .val (.long q3), .second, .val (.long q4), .second, .val (.long q5), .second, .val (.int p6), .val (.int (q1.toInt32)), .val (.int j4_S0), .val (.long j22_S0), .second, .val (.long j37_S0), .second, .val (.int ((q1.toInt32) ^^^ j4_S0)), .val (.long (q2 ^^^ j22_S0)), .second, .val (.long (q3 ^^^ j37_S0)), .second, .val (.ref b1), .val (.ref b3), .val (.int (((p6.toUInt32 >>> ((3 : Int32) &&& 31).toUInt32).toInt32) &&& (3 : Int32))), .val .null, .val (.int (0 : Int32)), .unset] [])) _
        refine XS.goto X4.here hx rfl (pc0 := 159) (pc' := 187) rfl (hb hby at_159) (by decide) (by decide) ?_
        show Steps p.tables e below (T4.setTop (mkF m 187 #[.val (.long q1), .second, .val (.long q2), .second, .val (.long q3), .second, .val (.long q4), .second, .val (.long q5), .second, .val (.int p6), .val (.int (q1.toInt32)), .val (.int j4_S0), .val (.long j22_S0), .second, .val (.long j37_S0), .second, .val (.int ((q1.toInt32) ^^^ j4_S0)), .val (.long (q2 ^^^ j22_S0)), .second, .val (.long (q3 ^^^ j37_S0)), .second, .val (.ref b1), .val (.ref b3), .val (.int (((p6.toUInt32 >>> ((3 : Int32) &&& 31).toUInt32).toInt32) &&& (3 : Int32))), .val .null, .val (.int (0 : Int32)), .unset] [])) _
        refine XS.aload X4.here hx rfl (hb hby at_187) rfl rfl ?_
        show Steps p.tables e below (T4.setTop (mkF m 189 #[.val (.long q1), .second, .val (.long q2), .second, .val (.long q3), .second, .val (.long q4), .second, .val (.long q5), .second, .val (.int p6), .val (.int (q1.toInt32)), .val (.int j4_S0), .val (.long j22_S0), .second, .val (.long j37_S0), .second, .val (.int ((q1.toInt32) ^^^ j4_S0)), .val (.long (q2 ^^^ j22_S0)), .second, .val (.long (q3 ^^^ j37_S0)), .second, .val (.ref b1), .val (.ref b3), .val (.int (((p6.toUInt32 >>> ((3 : Int32) &&& 31).toUInt32).toInt32) &&& (3 : Int32))), .val .null, .val (.int (0 : Int32)), .unset] [(.ref b1)])) _
        refine XS.aload X4.here hx rfl (hb hby at_189) rfl rfl ?_
        show Steps p.tables e below (T4.setTop (mkF m 191 #[.val (.long q1), .second, .val (.long q2), .second, .val (.long q3), .second, .val (.long q4), .second, .val (.long q5), .second, .val (.int p6), .val (.int (q1.toInt32)), .val (.int j4_S0), .val (.long j22_S0), .second, .val (.long j37_S0), .second, .val (.int ((q1.toInt32) ^^^ j4_S0)), .val (.long (q2 ^^^ j22_S0)), .second, .val (.long (q3 ^^^ j37_S0)), .second, .val (.ref b1), .val (.ref b3), .val (.int (((p6.toUInt32 >>> ((3 : Int32) &&& 31).toUInt32).toInt32) &&& (3 : Int32))), .val .null, .val (.int (0 : Int32)), .unset] [.null, (.ref b1)])) _
        refine st9.trans ?_
        show Steps p.tables e below (T9.setTop (mkF m 194 #[.val (.long q1), .second, .val (.long q2), .second, .val (.long q3), .second, .val (.long q4), .second, .val (.long q5), .second, .val (.int p6), .val (.int (q1.toInt32)), .val (.int j4_S0), .val (.long j22_S0), .second, .val (.long j37_S0), .second, .val (.int ((q1.toInt32) ^^^ j4_S0)), .val (.long (q2 ^^^ j22_S0)), .second, .val (.long (q3 ^^^ j37_S0)), .second, .val (.ref b1), .val (.ref b3), .val (.int (((p6.toUInt32 >>> ((3 : Int32) &&& 31).toUInt32).toInt32) &&& (3 : Int32))), .val .null, .val (.int (0 : Int32)), .unset] [(.int (0 : Int32))])) _
        refine XS.istore X9.here hx rfl (hb hby at_194) rfl (l' := #[.val (.long q1), .second, .val (.long q2), .second, .val (.long q3), .second, .val (.long q4), .second, .val (.long q5), .second, .val (.int p6), .val (.int (q1.toInt32)), .val (.int j4_S0), .val (.long j22_S0), .second, .val (.long j37_S0), .second, .val (.int ((q1.toInt32) ^^^ j4_S0)), .val (.long (q2 ^^^ j22_S0)), .second, .val (.long (q3 ^^^ j37_S0)), .second, .val (.ref b1), .val (.ref b3), .val (.int (((p6.toUInt32 >>> ((3 : Int32) &&& 31).toUInt32).toInt32) &&& (3 : Int32))), .val .null, .val (.int (0 : Int32)), .val (.int (0 : Int32))]) rfl ?_
        show Steps p.tables e below (T9.setTop (mkF m 196 #[.val (.long q1), .second, .val (.long q2), .second, .val (.long q3), .second, .val (.long q4), .second, .val (.long q5), .second, .val (.int p6), .val (.int (q1.toInt32)), .val (.int j4_S0), .val (.long j22_S0), .second, .val (.long j37_S0), .second, .val (.int ((q1.toInt32) ^^^ j4_S0)), .val (.long (q2 ^^^ j22_S0)), .second, .val (.long (q3 ^^^ j37_S0)), .second, .val (.ref b1), .val (.ref b3), .val (.int (((p6.toUInt32 >>> ((3 : Int32) &&& 31).toUInt32).toInt32) &&& (3 : Int32))), .val .null, .val (.int (0 : Int32)), .val (.int (0 : Int32))] [])) _
        refine XS.iload X9.here hx rfl (hb hby at_196) rfl ?_
        show Steps p.tables e below (T9.setTop (mkF m 198 #[.val (.long q1), .second, .val (.long q2), .second, .val (.long q3), .second, .val (.long q4), .second, .val (.long q5), .second, .val (.int p6), .val (.int (q1.toInt32)), .val (.int j4_S0), .val (.long j22_S0), .second, .val (.long j37_S0), .second, .val (.int ((q1.toInt32) ^^^ j4_S0)), .val (.long (q2 ^^^ j22_S0)), .second, .val (.long (q3 ^^^ j37_S0)), .second, .val (.ref b1), .val (.ref b3), .val (.int (((p6.toUInt32 >>> ((3 : Int32) &&& 31).toUInt32).toInt32) &&& (3 : Int32))), .val .null, .val (.int (0 : Int32)), .val (.int (0 : Int32))] [(.int (((p6.toUInt32 >>> ((3 : Int32) &&& 31).toUInt32).toInt32) &&& (3 : Int32)))])) _
        refine XS.ifYes X9.here hx rfl (pc0 := 198) (pc' := 226) rfl (hb hby at_198) rfl ((if0 _ _).trans (feq hc111).2) (by decide) (by decide) ?_
        show Steps p.tables e below (T9.setTop (mkF m 226 #[.val (.long q1), .second, .val (.long q2), .second, .val (.long q3), .second, .val (.long q4), .second, .val (.long q5), .second, .val (.int p6), .val (.int (q1.toInt32)), .val (.int j4_S0), .val (.long j22_S0), .second, .val (.long j37_S0), .second, .val (.int ((q1.toInt32) ^^^ j4_S0)), .val (.long (q2 ^^^ j22_S0)), .second, .val (.long (q3 ^^^ j37_S0)), .second, .val (.ref b1), .val (.ref b3), .val (.int (((p6.toUInt32 >>> ((3 : Int32) &&& 31).toUInt32).toInt32) &&& (3 : Int32))), .val .null, .val (.int (0 : Int32)), .val (.int (0 : Int32))] [])) _
        refine XS.iload X9.here hx rfl (hb hby at_226) rfl ?_
        show Steps p.tables e below (T9.setTop (mkF m 228 #[.val (.long q1), .second, .val (.long q2), .second, .val (.long q3), .second, .val (.long q4), .second, .val (.long q5), .second, .val (.int p6), .val (.int (q1.toInt32)), .val (.int j4_S0), .val (.long j22_S0), .second, .val (.long j37_S0), .second, .val (.int ((q1.toInt32) ^^^ j4_S0)), .val (.long (q2 ^^^ j22_S0)), .second, .val (.long (q3 ^^^ j37_S0)), .second, .val (.ref b1), .val (.ref b3), .val (.int (((p6.toUInt32 >>> ((3 : Int32) &&& 31).toUInt32).toInt32) &&& (3 : Int32))), .val .null, .val (.int (0 : Int32)), .val (.int (0 : Int32))] [(.int (0 : Int32))])) _
        refine XS.iload X9.here hx rfl (hb hby at_228) rfl ?_
        show Steps p.tables e below (T9.setTop (mkF m 230 #[.val (.long q1), .second, .val (.long q2), .second, .val (.long q3), .second, .val (.long q4), .second, .val (.long q5), .second, .val (.int p6), .val (.int (q1.toInt32)), .val (.int j4_S0), .val (.long j22_S0), .second, .val (.long j37_S0), .second, .val (.int ((q1.toInt32) ^^^ j4_S0)), .val (.long (q2 ^^^ j22_S0)), .second, .val (.long (q3 ^^^ j37_S0)), .second, .val (.ref b1), .val (.ref b3), .val (.int (((p6.toUInt32 >>> ((3 : Int32) &&& 31).toUInt32).toInt32) &&& (3 : Int32))), .val .null, .val (.int (0 : Int32)), .val (.int (0 : Int32))] [(.int (0 : Int32)), (.int (0 : Int32))])) _
        refine XS.icmpNo X9.here hx rfl (hb hby at_230) rfl (teq (by decide)).2 ?_
        show Steps p.tables e below (T9.setTop (mkF m 233 #[.val (.long q1), .second, .val (.long q2), .second, .val (.long q3), .second, .val (.long q4), .second, .val (.long q5), .second, .val (.int p6), .val (.int (q1.toInt32)), .val (.int j4_S0), .val (.long j22_S0), .second, .val (.long j37_S0), .second, .val (.int ((q1.toInt32) ^^^ j4_S0)), .val (.long (q2 ^^^ j22_S0)), .second, .val (.long (q3 ^^^ j37_S0)), .second, .val (.ref b1), .val (.ref b3), .val (.int (((p6.toUInt32 >>> ((3 : Int32) &&& 31).toUInt32).toInt32) &&& (3 : Int32))), .val .null, .val (.int (0 : Int32)), .val (.int (0 : Int32))] [])) _
        refine XS.iconst X9.here hx rfl (hb hby at_233) ?_
        show Steps p.tables e below (T9.setTop (mkF m 234 #[.val (.long q1), .second, .val (.long q2), .second, .val (.long q3), .second, .val (.long q4), .second, .val (.long q5), .second, .val (.int p6), .val (.int (q1.toInt32)), .val (.int j4_S0), .val (.long j22_S0), .second, .val (.long j37_S0), .second, .val (.int ((q1.toInt32) ^^^ j4_S0)), .val (.long (q2 ^^^ j22_S0)), .second, .val (.long (q3 ^^^ j37_S0)), .second, .val (.ref b1), .val (.ref b3), .val (.int (((p6.toUInt32 >>> ((3 : Int32) &&& 31).toUInt32).toInt32) &&& (3 : Int32))), .val .null, .val (.int (0 : Int32)), .val (.int (0 : Int32))] [(.int (1 : Int32))])) _
        refine XS.goto X9.here hx rfl (pc0 := 234) (pc' := 238) rfl (hb hby at_234) (by decide) (by decide) ?_
        show Steps p.tables e below (T9.setTop (mkF m 238 #[.val (.long q1), .second, .val (.long q2), .second, .val (.long q3), .second, .val (.long q4), .second, .val (.long q5), .second, .val (.int p6), .val (.int (q1.toInt32)), .val (.int j4_S0), .val (.long j22_S0), .second, .val (.long j37_S0), .second, .val (.int ((q1.toInt32) ^^^ j4_S0)), .val (.long (q2 ^^^ j22_S0)), .second, .val (.long (q3 ^^^ j37_S0)), .second, .val (.ref b1), .val (.ref b3), .val (.int (((p6.toUInt32 >>> ((3 : Int32) &&& 31).toUInt32).toInt32) &&& (3 : Int32))), .val .null, .val (.int (0 : Int32)), .val (.int (0 : Int32))] [(.int (1 : Int32))])) _
        exact retN X9 hx (t := .boolean) Bd.returns (by simp) (hb hby at_238) hr
      · show Q0 Z q1 q2 q3 q4 q5 p6 ca clc h0 n0 _ T9.heap _
        rw [e9]
        exact ⟨rfl, N9⟩
    · have c10 : ∀ t, Steps p.tables e below (T4.setTop (mkF m 165 #[.val (.long q1), .second, .val (.long q2), .second, .val (.long q3), .second, .val (.long q4), .second, .val (.long q5), .second, .val (.int p6), .val (.int (q1.toInt32)), .val (.int j4_S0), .val (.long j22_S0), .second, .val (.long j37_S0), .second, .val (.int ((q1.toInt32) ^^^ j4_S0)), .val (.long (q2 ^^^ j22_S0)), .second, .val (.long (q3 ^^^ j37_S0)), .second, .val (.ref b1), .val (.ref b3), .val (.int (((p6.toUInt32 >>> ((3 : Int32) &&& 31).toUInt32).toInt32) &&& (3 : Int32))), .unset, .unset, .unset] [(.int (2 : Int32)), (.int (((p6.toUInt32 >>> ((3 : Int32) &&& 31).toUInt32).toInt32) &&& (3 : Int32)))])) t → Steps p.tables e below (s₁.setTop (entryFrame m #[(.long q1), (.long q2), (.long q3), (.long q4), (.long q5), (.int p6)] maxLocals)) t := fun t kt => by
        refine c8 _ ?_
        show Steps p.tables e below (T4.setTop (mkF m 150 #[.val (.long q1), .second, .val (.long q2), .second, .val (.long q3), .second, .val (.long q4), .second, .val (.long q5), .second, .val (.int p6), .val (.int (q1.toInt32)), .val (.int j4_S0), .val (.long j22_S0), .second, .val (.long j37_S0), .second, .val (.int ((q1.toInt32) ^^^ j4_S0)), .val (.long (q2 ^^^ j22_S0)), .second, .val (.long (q3 ^^^ j37_S0)), .second, .val (.ref b1), .val (.ref b3), .val (.int (((p6.toUInt32 >>> ((3 : Int32) &&& 31).toUInt32).toInt32) &&& (3 : Int32))), .unset, .unset, .unset] [(.int (1 : Int32)), (.int (((p6.toUInt32 >>> ((3 : Int32) &&& 31).toUInt32).toInt32) &&& (3 : Int32)))])) _
        refine XS.icmpYes X4.here hx rfl (pc0 := 150) (pc' := 162) rfl (hb hby at_150) rfl (feq hc150).2 (by decide) (by decide) ?_
        show Steps p.tables e below (T4.setTop (mkF m 162 #[.val (.long q1), .second, .val (.long q2), .second, .val (.long q3), .second, .val (.long q4), .second, .val (.long q5), .second, .val (.int p6), .val (.int (q1.toInt32)), .val (.int j4_S0), .val (.long j22_S0), .second, .val (.long j37_S0), .second, .val (.int ((q1.toInt32) ^^^ j4_S0)), .val (.long (q2 ^^^ j22_S0)), .second, .val (.long (q3 ^^^ j37_S0)), .second, .val (.ref b1), .val (.ref b3), .val (.int (((p6.toUInt32 >>> ((3 : Int32) &&& 31).toUInt32).toInt32) &&& (3 : Int32))), .unset, .unset, .unset] [])) _
        refine XS.iload X4.here hx rfl (hb hby at_162) rfl ?_
        show Steps p.tables e below (T4.setTop (mkF m 164 #[.val (.long q1), .second, .val (.long q2), .second, .val (.long q3), .second, .val (.long q4), .second, .val (.long q5), .second, .val (.int p6), .val (.int (q1.toInt32)), .val (.int j4_S0), .val (.long j22_S0), .second, .val (.long j37_S0), .second, .val (.int ((q1.toInt32) ^^^ j4_S0)), .val (.long (q2 ^^^ j22_S0)), .second, .val (.long (q3 ^^^ j37_S0)), .second, .val (.ref b1), .val (.ref b3), .val (.int (((p6.toUInt32 >>> ((3 : Int32) &&& 31).toUInt32).toInt32) &&& (3 : Int32))), .unset, .unset, .unset] [(.int (((p6.toUInt32 >>> ((3 : Int32) &&& 31).toUInt32).toInt32) &&& (3 : Int32)))])) _
        refine XS.iconst X4.here hx rfl (hb hby at_164) ?_
        exact kt
      by_cases hc165 : (((p6.toUInt32 >>> ((3 : Int32) &&& 31).toUInt32).toInt32) &&& (3 : Int32)) = (2 : Int32)
      · obtain ⟨_, _, ⟨T11, L11, k11, n11⟩, -, X11, ⟨Lc11, hQ11, l11, y11, z11⟩, st11⟩ := Jvm.LawKit.callS X4 hx (y := (⟨"java/lang/Long", "valueOf", "(J)Ljava/lang/Long;"⟩ : MethodName)) hown (mvT hZ (hw _ (List.mem_of_getElem? (i := 22) rfl))) (mvT hZ (hw _ (List.mem_of_getElem? (i := 23) rfl))) (mvT hZ (hw _ (List.mem_of_getElem? (i := 24) rfl))) (mvT hZ (hw _ (List.mem_of_getElem? (i := 25) rfl))) (by decide) (backOf (W := 0) (rm4 l Z a0 hw [] q2 ca clc T4.heap n0 Z4 f4_O S0 Arc hsz hel) hZ (hw _ (List.mem_of_getElem? (i := 25) rfl)) (hw _ (List.mem_of_getElem? (i := 24) rfl)) (by decide) (by decide)) (g := (mkF m 169 #[.val (.long q1), .second, .val (.long q2), .second, .val (.long q3), .second, .val (.long q4), .second, .val (.long q5), .second, .val (.int p6), .val (.int (q1.toInt32)), .val (.int j4_S0), .val (.long j22_S0), .second, .val (.long j37_S0), .second, .val (.int ((q1.toInt32) ^^^ j4_S0)), .val (.long (q2 ^^^ j22_S0)), .second, .val (.long (q3 ^^^ j37_S0)), .second, .val (.ref b1), .val (.ref b3), .val (.int (((p6.toUInt32 >>> ((3 : Int32) &&& 31).toUInt32).toInt32) &&& (3 : Int32))), .unset, .unset, .unset] [(.long q2)])) rfl (by rw [hml]; rfl) (argsL := [(.long q2)]) (rest := []) (lenOf pd0_2 rfl) rfl (by show 2 * 0 + _ ≤ _; exact Nat.le_of_eq rfl) (hb hby at_169) (fun _ _ => ⟨rfl, rfl, (by decide : 2 + 1 ≤ _), (by decide : 6 + 1 ≤ _)⟩)
        dsimp only [Pt.U, Pt.locs, Pt.cells, Pt.slots] at X11 l11 y11 z11 st11 hQ11
        subst l11 y11 z11
        obtain ⟨r11, rfl, N11q, K11q, E11q⟩ := hQ11
        have f11_O := f4_O.keep K11q all0
        have f11_E_b1 := f4_E_b1.keep K11q
        have f11_F_b1_participants := f4_F_b1_participants.keep K11q nin0
        have f11_F_b1_shares := f4_F_b1_shares.keep K11q nin0
        have f11_F_b1_cash := f4_F_b1_cash.keep K11q nin0
        have f11_E_b3 := E4q.keep K11q
        have f11_F_b3_participants := F4q_participants.keep K11q nin0
        have f11_F_b3_shares := F4q_shares.keep K11q nin0
        have f11_F_b3_cash := F4q_cash.keep K11q nin0
        have N11 := Fr.app N4 N11q
        have Z11 : n0 ≤ T11.heap.size := Nat.le_trans Z4 K11q.1
        obtain ⟨cq12, kq12, q12a, q12b, q12c⟩ := isOf hZ rfl f11_E_b1
        obtain ⟨_, _, ⟨T12, L12, k12, n12⟩, -, X12, ⟨Lc12, hQ12, l12, y12, z12⟩, st12⟩ := X11.virtualBack hx (y := (⟨"com/example/vestline/vestline/Holdings", "equals", "(Ljava/lang/Object;)Z"⟩ : MethodName)) (z := (⟨"com/example/vestline/vestline/Holdings", "equals", "(Ljava/lang/Object;)Z"⟩ : MethodName)) hown (mvT hZ (hw _ (List.mem_of_getElem? (i := 15) rfl))) (mvT hZ (hw _ (List.mem_of_getElem? (i := 16) rfl))) (notFace_of_selects (args := #[]) (mvT hZ (hw _ (List.mem_of_getElem? (i := 18) rfl)))) (mvT hZ (hw _ (List.mem_of_getElem? (i := 18) rfl))) (mvT hZ (hw _ (List.mem_of_getElem? (i := 17) rfl))) (by decide) (backOf (W := 0) (rm3L l Z a0 hw [] b1 r11 T11.heap n0 Z11 E11q) hZ (hw _ (List.mem_of_getElem? (i := 19) rfl)) (hw _ (List.mem_of_getElem? (i := 2) rfl)) (by decide) (by decide)) q12a q12c (g := (mkF m 191 #[.val (.long q1), .second, .val (.long q2), .second, .val (.long q3), .second, .val (.long q4), .second, .val (.long q5), .second, .val (.int p6), .val (.int (q1.toInt32)), .val (.int j4_S0), .val (.long j22_S0), .second, .val (.long j37_S0), .second, .val (.int ((q1.toInt32) ^^^ j4_S0)), .val (.long (q2 ^^^ j22_S0)), .second, .val (.long (q3 ^^^ j37_S0)), .second, .val (.ref b1), .val (.ref b3), .val (.int (((p6.toUInt32 >>> ((3 : Int32) &&& 31).toUInt32).toInt32) &&& (3 : Int32))), .val (.ref r11), .val (.int (0 : Int32)), .unset] [(.ref r11), (.ref b1)])) rfl (by rw [hml]; rfl) (Steps.refl _) (argsL := [(.ref r11)]) (rest := []) (lenOf pd0_1 rfl) rfl (by show 2 * 0 + _ ≤ _; exact Nat.le_of_eq rfl) (hb hby at_191) (fun _ _ => ⟨rfl, rfl, (by decide : 3 + 0 ≤ _), (by decide : 7 + 0 ≤ _)⟩)
        dsimp only [Pt.U, Pt.locs, Pt.cells, Pt.slots] at X12 l12 y12 z12 st12 hQ12
        subst l12 y12 z12
        obtain ⟨rfl, N12q, e12⟩ := hQ12
        have N12 := Fr.app N11 N12q
        obtain ⟨fs, hr, hrun, hended, hW, hsame⟩ := X12.leave (v := some (.int (1 : Int32))) (fun h => by rw [Bd.returns] at h; cases h)
        refine ⟨_, _, c10 _ ?_, hrun, hended, _, _, rfl, ?_, ⟨_, rfl⟩, hW, hsame.mono (by decide) (by decide)⟩
        · show Steps p.tables e below (T4.setTop (mkF m 165 #[.val (.long q1), .second, .val (.long q2), .second, .val (.long q3), .second, .val (.long q4), .second, .val (.long q5), .second, .val (.int p6), .val (.int (q1.toInt32)), .val (.int j4_S0), .val (.long j22_S0), .second, .val (.long j37_S0), .second, .val (.int ((q1.toInt32) ^^^ j4_S0)), .val (.long (q2 ^^^ j22_S0)), .second, .val (.long (q3 ^^^ j37_S0)), .second, .val (.ref b1), .val (.ref b3), .val (.int (((p6.toUInt32 >>> ((3 : Int32) &&& 31).toUInt32).toInt32) &&& (3 : Int32))), .unset, .unset, .unset] [(.int (2 : Int32)), (.int (((p6.toUInt32 >>> ((3 : Int32) &&& 31).toUInt32).toInt32) &&& (3 : Int32)))])) _
          refine XS.icmpNo X4.here hx rfl (hb hby at_165) rfl (teq hc165).2 ?_
          show Steps p.tables e below (T4.setTop (mkF m 168 #[.val (.long q1), .second, .val (.long q2), .second, .val (.long q3), .second, .val (.long q4), .second, .val (.long q5), .second, .val (.int p6), .val (.int (q1.toInt32)), .val (.int j4_S0), .val (.long j22_S0), .second, .val (.long j37_S0), .second, .val (.int ((q1.toInt32) ^^^ j4_S0)), .val (.long (q2 ^^^ j22_S0)), .second, .val (.long (q3 ^^^ j37_S0)), .second, .val (.ref b1), .val (.ref b3), .val (.int (((p6.toUInt32 >>> ((3 : Int32) &&& 31).toUInt32).toInt32) &&& (3 : Int32))), .unset, .unset, .unset] [])) _
          refine XS.lloadN X4.here hx rfl (hb hby at_168) rfl ?_
          show Steps p.tables e below (T4.setTop (mkF m 169 #[.val (.long q1), .second, .val (.long q2), .second, .val (.long q3), .second, .val (.long q4), .second, .val (.long q5), .second, .val (.int p6), .val (.int (q1.toInt32)), .val (.int j4_S0), .val (.long j22_S0), .second, .val (.long j37_S0), .second, .val (.int ((q1.toInt32) ^^^ j4_S0)), .val (.long (q2 ^^^ j22_S0)), .second, .val (.long (q3 ^^^ j37_S0)), .second, .val (.ref b1), .val (.ref b3), .val (.int (((p6.toUInt32 >>> ((3 : Int32) &&& 31).toUInt32).toInt32) &&& (3 : Int32))), .unset, .unset, .unset] [(.long q2)])) _
          refine st11 _ ?_
          show Steps p.tables e below (T11.setTop (mkF m 172 #[.val (.long q1), .second, .val (.long q2), .second, .val (.long q3), .second, .val (.long q4), .second, .val (.long q5), .second, .val (.int p6), .val (.int (q1.toInt32)), .val (.int j4_S0), .val (.long j22_S0), .second, .val (.long j37_S0), .second, .val (.int ((q1.toInt32) ^^^ j4_S0)), .val (.long (q2 ^^^ j22_S0)), .second, .val (.long (q3 ^^^ j37_S0)), .second, .val (.ref b1), .val (.ref b3), .val (.int (((p6.toUInt32 >>> ((3 : Int32) &&& 31).toUInt32).toInt32) &&& (3 : Int32))), .unset, .unset, .unset] [(.ref r11)])) _
          refine XS.astore X11.here hx rfl (hb hby at_172) rfl rfl (l' := #[.val (.long q1), .second, .val (.long q2), .second, .val (.long q3), .second, .val (.long q4), .second, .val (.long q5), .second, .val (.int p6), .val (.int (q1.toInt32)), .val (.int j4_S0), .val (.long j22_S0), .second, .val (.long j37_S0), .second, .val (.int ((q1.toInt32) ^^^ j4_S0)), .val (.long (q2 ^^^ j22_S0)), .second, .val (.long (q3 ^^^ j37_S0)), .second, .val (.ref b1), .val (.ref b3), .val (.int (((p6.toUInt32 >>> ((3 : Int32) &&& 31).toUInt32).toInt32) &&& (3 : Int32))), .val (.ref r11), .unset, .unset]) rfl ?_
          show Steps p.tables e below (T11.setTop (mkF m 174 #[.val (.long q1), .second, .val (.long q2), .second, .val (.long q3), .second, .val (.long q4), .second, .val (.long q5), .second, .val (.int p6), .val (.int (q1.toInt32)), .val (.int j4_S0), .val (.long j22_S0), .second, .val (.long j37_S0), .second, .val (.int ((q1.toInt32) ^^^ j4_S0)), .val (.long (q2 ^^^ j22_S0)), .second, .val (.long (q3 ^^^ j37_S0)), .second, .val (.ref b1), .val (.ref b3), .val (.int (((p6.toUInt32 >>> ((3 : Int32) &&& 31).toUInt32).toInt32) &&& (3 : Int32))), .val (.ref r11), .unset, .unset] [])) _
          refine XS.iconst X11.here hx rfl (hb hby at_174) ?_
          show Steps p.tables e below (T11.setTop (mkF m 175 #[.val (.long q1), .second, .val (.long q2), .second, .val (.long q3), .second, .val (.long q4), .second, .val (.long q5), .second, .val (.int p6), .val (.int (q1.toInt32)), .val (.int j4_S0), .val (.long j22_S0), .second, .val (.long j37_S0), .second, .val (.int ((q1.toInt32) ^^^ j4_S0)), .val (.long (q2 ^^^ j22_S0)), .second, .val (.long (q3 ^^^ j37_S0)), .second, .val (.ref b1), .val (.ref b3), .val (.int (((p6.toUInt32 >>> ((3 : Int32) &&& 31).toUInt32).toInt32) &&& (3 : Int32))), .val (.ref r11), .unset, .unset] [(.int (0 : Int32))])) _
          refine XS.istore X11.here hx rfl (hb hby at_175) rfl (l' := #[.val (.long q1), .second, .val (.long q2), .second, .val (.long q3), .second, .val (.long q4), .second, .val (.long q5), .second, .val (.int p6), .val (.int (q1.toInt32)), .val (.int j4_S0), .val (.long j22_S0), .second, .val (.long j37_S0), .second, .val (.int ((q1.toInt32) ^^^ j4_S0)), .val (.long (q2 ^^^ j22_S0)), .second, .val (.long (q3 ^^^ j37_S0)), .second, .val (.ref b1), .val (.ref b3), .val (.int (((p6.toUInt32 >>> ((3 : Int32) &&& 31).toUInt32).toInt32) &&& (3 : Int32))), .val (.ref r11), .val (.int (0 : Int32)), .unset]) rfl ?_
          show Steps p.tables e below (T11.setTop (mkF m 177 #[.val (.long q1), .second, .val (.long q2), .second, .val (.long q3), .second, .val (.long q4), .second, .val (.long q5), .second, .val (.int p6), .val (.int (q1.toInt32)), .val (.int j4_S0), .val (.long j22_S0), .second, .val (.long j37_S0), .second, .val (.int ((q1.toInt32) ^^^ j4_S0)), .val (.long (q2 ^^^ j22_S0)), .second, .val (.long (q3 ^^^ j37_S0)), .second, .val (.ref b1), .val (.ref b3), .val (.int (((p6.toUInt32 >>> ((3 : Int32) &&& 31).toUInt32).toInt32) &&& (3 : Int32))), .val (.ref r11), .val (.int (0 : Int32)), .unset] [])) _
          refine XS.goto X11.here hx rfl (pc0 := 177) (pc' := 187) rfl (hb hby at_177) (by decide) (by decide) ?_
          show Steps p.tables e below (T11.setTop (mkF m 187 #[.val (.long q1), .second, .val (.long q2), .second, .val (.long q3), .second, .val (.long q4), .second, .val (.long q5), .second, .val (.int p6), .val (.int (q1.toInt32)), .val (.int j4_S0), .val (.long j22_S0), .second, .val (.long j37_S0), .second, .val (.int ((q1.toInt32) ^^^ j4_S0)), .val (.long (q2 ^^^ j22_S0)), .second, .val (.long (q3 ^^^ j37_S0)), .second, .val (.ref b1), .val (.ref b3), .val (.int (((p6.toUInt32 >>> ((3 : Int32) &&& 31).toUInt32).toInt32) &&& (3 : Int32))), .val (.ref r11), .val (.int (0 : Int32)), .unset] [])) _
          refine XS.aload X11.here hx rfl (hb hby at_187) rfl rfl ?_
          show Steps p.tables e below (T11.setTop (mkF m 189 #[.val (.long q1), .second, .val (.long q2), .second, .val (.long q3), .second, .val (.long q4), .second, .val (.long q5), .second, .val (.int p6), .val (.int (q1.toInt32)), .val (.int j4_S0), .val (.long j22_S0), .second, .val (.long j37_S0), .second, .val (.int ((q1.toInt32) ^^^ j4_S0)), .val (.long (q2 ^^^ j22_S0)), .second, .val (.long (q3 ^^^ j37_S0)), .second, .val (.ref b1), .val (.ref b3), .val (.int (((p6.toUInt32 >>> ((3 : Int32) &&& 31).toUInt32).toInt32) &&& (3 : Int32))), .val (.ref r11), .val (.int (0 : Int32)), .unset] [(.ref b1)])) _
          refine XS.aload X11.here hx rfl (hb hby at_189) rfl rfl ?_
          show Steps p.tables e below (T11.setTop (mkF m 191 #[.val (.long q1), .second, .val (.long q2), .second, .val (.long q3), .second, .val (.long q4), .second, .val (.long q5), .second, .val (.int p6), .val (.int (q1.toInt32)), .val (.int j4_S0), .val (.long j22_S0), .second, .val (.long j37_S0), .second, .val (.int ((q1.toInt32) ^^^ j4_S0)), .val (.long (q2 ^^^ j22_S0)), .second, .val (.long (q3 ^^^ j37_S0)), .second, .val (.ref b1), .val (.ref b3), .val (.int (((p6.toUInt32 >>> ((3 : Int32) &&& 31).toUInt32).toInt32) &&& (3 : Int32))), .val (.ref r11), .val (.int (0 : Int32)), .unset] [(.ref r11), (.ref b1)])) _
          refine st12.trans ?_
          show Steps p.tables e below (T12.setTop (mkF m 194 #[.val (.long q1), .second, .val (.long q2), .second, .val (.long q3), .second, .val (.long q4), .second, .val (.long q5), .second, .val (.int p6), .val (.int (q1.toInt32)), .val (.int j4_S0), .val (.long j22_S0), .second, .val (.long j37_S0), .second, .val (.int ((q1.toInt32) ^^^ j4_S0)), .val (.long (q2 ^^^ j22_S0)), .second, .val (.long (q3 ^^^ j37_S0)), .second, .val (.ref b1), .val (.ref b3), .val (.int (((p6.toUInt32 >>> ((3 : Int32) &&& 31).toUInt32).toInt32) &&& (3 : Int32))), .val (.ref r11), .val (.int (0 : Int32)), .unset] [(.int (0 : Int32))])) _
          refine XS.istore X12.here hx rfl (hb hby at_194) rfl (l' := #[.val (.long q1), .second, .val (.long q2), .second, .val (.long q3), .second, .val (.long q4), .second, .val (.long q5), .second, .val (.int p6), .val (.int (q1.toInt32)), .val (.int j4_S0), .val (.long j22_S0), .second, .val (.long j37_S0), .second, .val (.int ((q1.toInt32) ^^^ j4_S0)), .val (.long (q2 ^^^ j22_S0)), .second, .val (.long (q3 ^^^ j37_S0)), .second, .val (.ref b1), .val (.ref b3), .val (.int (((p6.toUInt32 >>> ((3 : Int32) &&& 31).toUInt32).toInt32) &&& (3 : Int32))), .val (.ref r11), .val (.int (0 : Int32)), .val (.int (0 : Int32))]) rfl ?_
          show Steps p.tables e below (T12.setTop (mkF m 196 #[.val (.long q1), .second, .val (.long q2), .second, .val (.long q3), .second, .val (.long q4), .second, .val (.long q5), .second, .val (.int p6), .val (.int (q1.toInt32)), .val (.int j4_S0), .val (.long j22_S0), .second, .val (.long j37_S0), .second, .val (.int ((q1.toInt32) ^^^ j4_S0)), .val (.long (q2 ^^^ j22_S0)), .second, .val (.long (q3 ^^^ j37_S0)), .second, .val (.ref b1), .val (.ref b3), .val (.int (((p6.toUInt32 >>> ((3 : Int32) &&& 31).toUInt32).toInt32) &&& (3 : Int32))), .val (.ref r11), .val (.int (0 : Int32)), .val (.int (0 : Int32))] [])) _
          refine XS.iload X12.here hx rfl (hb hby at_196) rfl ?_
          show Steps p.tables e below (T12.setTop (mkF m 198 #[.val (.long q1), .second, .val (.long q2), .second, .val (.long q3), .second, .val (.long q4), .second, .val (.long q5), .second, .val (.int p6), .val (.int (q1.toInt32)), .val (.int j4_S0), .val (.long j22_S0), .second, .val (.long j37_S0), .second, .val (.int ((q1.toInt32) ^^^ j4_S0)), .val (.long (q2 ^^^ j22_S0)), .second, .val (.long (q3 ^^^ j37_S0)), .second, .val (.ref b1), .val (.ref b3), .val (.int (((p6.toUInt32 >>> ((3 : Int32) &&& 31).toUInt32).toInt32) &&& (3 : Int32))), .val (.ref r11), .val (.int (0 : Int32)), .val (.int (0 : Int32))] [(.int (((p6.toUInt32 >>> ((3 : Int32) &&& 31).toUInt32).toInt32) &&& (3 : Int32)))])) _
          refine XS.ifYes X12.here hx rfl (pc0 := 198) (pc' := 226) rfl (hb hby at_198) rfl ((if0 _ _).trans (feq hc111).2) (by decide) (by decide) ?_
          show Steps p.tables e below (T12.setTop (mkF m 226 #[.val (.long q1), .second, .val (.long q2), .second, .val (.long q3), .second, .val (.long q4), .second, .val (.long q5), .second, .val (.int p6), .val (.int (q1.toInt32)), .val (.int j4_S0), .val (.long j22_S0), .second, .val (.long j37_S0), .second, .val (.int ((q1.toInt32) ^^^ j4_S0)), .val (.long (q2 ^^^ j22_S0)), .second, .val (.long (q3 ^^^ j37_S0)), .second, .val (.ref b1), .val (.ref b3), .val (.int (((p6.toUInt32 >>> ((3 : Int32) &&& 31).toUInt32).toInt32) &&& (3 : Int32))), .val (.ref r11), .val (.int (0 : Int32)), .val (.int (0 : Int32))] [])) _
          refine XS.iload X12.here hx rfl (hb hby at_226) rfl ?_
          show Steps p.tables e below (T12.setTop (mkF m 228 #[.val (.long q1), .second, .val (.long q2), .second, .val (.long q3), .second, .val (.long q4), .second, .val (.long q5), .second, .val (.int p6), .val (.int (q1.toInt32)), .val (.int j4_S0), .val (.long j22_S0), .second, .val (.long j37_S0), .second, .val (.int ((q1.toInt32) ^^^ j4_S0)), .val (.long (q2 ^^^ j22_S0)), .second, .val (.long (q3 ^^^ j37_S0)), .second, .val (.ref b1), .val (.ref b3), .val (.int (((p6.toUInt32 >>> ((3 : Int32) &&& 31).toUInt32).toInt32) &&& (3 : Int32))), .val (.ref r11), .val (.int (0 : Int32)), .val (.int (0 : Int32))] [(.int (0 : Int32))])) _
          refine XS.iload X12.here hx rfl (hb hby at_228) rfl ?_
          show Steps p.tables e below (T12.setTop (mkF m 230 #[.val (.long q1), .second, .val (.long q2), .second, .val (.long q3), .second, .val (.long q4), .second, .val (.long q5), .second, .val (.int p6), .val (.int (q1.toInt32)), .val (.int j4_S0), .val (.long j22_S0), .second, .val (.long j37_S0), .second, .val (.int ((q1.toInt32) ^^^ j4_S0)), .val (.long (q2 ^^^ j22_S0)), .second, .val (.long (q3 ^^^ j37_S0)), .second, .val (.ref b1), .val (.ref b3), .val (.int (((p6.toUInt32 >>> ((3 : Int32) &&& 31).toUInt32).toInt32) &&& (3 : Int32))), .val (.ref r11), .val (.int (0 : Int32)), .val (.int (0 : Int32))] [(.int (0 : Int32)), (.int (0 : Int32))])) _
          refine XS.icmpNo X12.here hx rfl (hb hby at_230) rfl (teq (by decide)).2 ?_
          show Steps p.tables e below (T12.setTop (mkF m 233 #[.val (.long q1), .second, .val (.long q2), .second, .val (.long q3), .second, .val (.long q4), .second, .val (.long q5), .second, .val (.int p6), .val (.int (q1.toInt32)), .val (.int j4_S0), .val (.long j22_S0), .second, .val (.long j37_S0), .second, .val (.int ((q1.toInt32) ^^^ j4_S0)), .val (.long (q2 ^^^ j22_S0)), .second, .val (.long (q3 ^^^ j37_S0)), .second, .val (.ref b1), .val (.ref b3), .val (.int (((p6.toUInt32 >>> ((3 : Int32) &&& 31).toUInt32).toInt32) &&& (3 : Int32))), .val (.ref r11), .val (.int (0 : Int32)), .val (.int (0 : Int32))] [])) _
          refine XS.iconst X12.here hx rfl (hb hby at_233) ?_
          show Steps p.tables e below (T12.setTop (mkF m 234 #[.val (.long q1), .second, .val (.long q2), .second, .val (.long q3), .second, .val (.long q4), .second, .val (.long q5), .second, .val (.int p6), .val (.int (q1.toInt32)), .val (.int j4_S0), .val (.long j22_S0), .second, .val (.long j37_S0), .second, .val (.int ((q1.toInt32) ^^^ j4_S0)), .val (.long (q2 ^^^ j22_S0)), .second, .val (.long (q3 ^^^ j37_S0)), .second, .val (.ref b1), .val (.ref b3), .val (.int (((p6.toUInt32 >>> ((3 : Int32) &&& 31).toUInt32).toInt32) &&& (3 : Int32))), .val (.ref r11), .val (.int (0 : Int32)), .val (.int (0 : Int32))] [(.int (1 : Int32))])) _
          refine XS.goto X12.here hx rfl (pc0 := 234) (pc' := 238) rfl (hb hby at_234) (by decide) (by decide) ?_
          show Steps p.tables e below (T12.setTop (mkF m 238 #[.val (.long q1), .second, .val (.long q2), .second, .val (.long q3), .second, .val (.long q4), .second, .val (.long q5), .second, .val (.int p6), .val (.int (q1.toInt32)), .val (.int j4_S0), .val (.long j22_S0), .second, .val (.long j37_S0), .second, .val (.int ((q1.toInt32) ^^^ j4_S0)), .val (.long (q2 ^^^ j22_S0)), .second, .val (.long (q3 ^^^ j37_S0)), .second, .val (.ref b1), .val (.ref b3), .val (.int (((p6.toUInt32 >>> ((3 : Int32) &&& 31).toUInt32).toInt32) &&& (3 : Int32))), .val (.ref r11), .val (.int (0 : Int32)), .val (.int (0 : Int32))] [(.int (1 : Int32))])) _
          exact retN X12 hx (t := .boolean) Bd.returns (by simp) (hb hby at_238) hr
        · show Q0 Z q1 q2 q3 q4 q5 p6 ca clc h0 n0 _ T12.heap _
          rw [e12]
          exact ⟨rfl, N12⟩
      · obtain ⟨cq13, kq13, q13a, q13b, q13c⟩ := isOf hZ rfl f4_E_b1
        obtain ⟨_, _, ⟨T13, L13, k13, n13⟩, -, X13, ⟨Lc13, hQ13, l13, y13, z13⟩, st13⟩ := X4.virtualBack hx (y := (⟨"com/example/vestline/vestline/Holdings", "equals", "(Ljava/lang/Object;)Z"⟩ : MethodName)) (z := (⟨"com/example/vestline/vestline/Holdings", "equals", "(Ljava/lang/Object;)Z"⟩ : MethodName)) hown (mvT hZ (hw _ (List.mem_of_getElem? (i := 15) rfl))) (mvT hZ (hw _ (List.mem_of_getElem? (i := 16) rfl))) (notFace_of_selects (args := #[]) (mvT hZ (hw _ (List.mem_of_getElem? (i := 18) rfl)))) (mvT hZ (hw _ (List.mem_of_getElem? (i := 18) rfl))) (mvT hZ (hw _ (List.mem_of_getElem? (i := 17) rfl))) (by decide) (backOf (W := 0) (rm3H l Z a0 hw [] b1 b1 (q1.toInt32) q2 q3 (q1.toInt32) q2 q3 T4.heap n0 Z4 f4_F_b1_participants f4_F_b1_shares f4_F_b1_cash f4_F_b1_participants f4_F_b1_shares f4_F_b1_cash f4_E_b1) hZ (hw _ (List.mem_of_getElem? (i := 19) rfl)) (hw _ (List.mem_of_getElem? (i := 2) rfl)) (by decide) (by decide)) q13a q13c (g := (mkF m 191 #[.val (.long q1), .second, .val (.long q2), .second, .val (.long q3), .second, .val (.long q4), .second, .val (.long q5), .second, .val (.int p6), .val (.int (q1.toInt32)), .val (.int j4_S0), .val (.long j22_S0), .second, .val (.long j37_S0), .second, .val (.int ((q1.toInt32) ^^^ j4_S0)), .val (.long (q2 ^^^ j22_S0)), .second, .val (.long (q3 ^^^ j37_S0)), .second, .val (.ref b1), .val (.ref b3), .val (.int (((p6.toUInt32 >>> ((3 : Int32) &&& 31).toUInt32).toInt32) &&& (3 : Int32))), .val (.ref b1), .val (.int (1 : Int32)), .unset] [(.ref b1), (.ref b1)])) rfl (by rw [hml]; rfl) (Steps.refl _) (argsL := [(.ref b1)]) (rest := []) (lenOf pd0_1 rfl) rfl (by show 2 * 0 + _ ≤ _; exact Nat.le_of_eq rfl) (hb hby at_191) (fun _ _ => ⟨rfl, rfl, (by decide : 2 + 0 ≤ _), (by decide : 6 + 0 ≤ _)⟩)
        dsimp only [Pt.U, Pt.locs, Pt.cells, Pt.slots] at X13 l13 y13 z13 st13 hQ13
        subst l13 y13 z13
        obtain ⟨rfl, N13q, e13⟩ := hQ13
        have N13 := Fr.app N4 N13q
        obtain ⟨fs, hr, hrun, hended, hW, hsame⟩ := X13.leave (v := some (.int (1 : Int32))) (fun h => by rw [Bd.returns] at h; cases h)
        refine ⟨_, _, c10 _ ?_, hrun, hended, _, _, rfl, ?_, ⟨_, rfl⟩, hW, hsame.mono (by decide) (by decide)⟩
        · show Steps p.tables e below (T4.setTop (mkF m 165 #[.val (.long q1), .second, .val (.long q2), .second, .val (.long q3), .second, .val (.long q4), .second, .val (.long q5), .second, .val (.int p6), .val (.int (q1.toInt32)), .val (.int j4_S0), .val (.long j22_S0), .second, .val (.long j37_S0), .second, .val (.int ((q1.toInt32) ^^^ j4_S0)), .val (.long (q2 ^^^ j22_S0)), .second, .val (.long (q3 ^^^ j37_S0)), .second, .val (.ref b1), .val (.ref b3), .val (.int (((p6.toUInt32 >>> ((3 : Int32) &&& 31).toUInt32).toInt32) &&& (3 : Int32))), .unset, .unset, .unset] [(.int (2 : Int32)), (.int (((p6.toUInt32 >>> ((3 : Int32) &&& 31).toUInt32).toInt32) &&& (3 : Int32)))])) _
          refine XS.icmpYes X4.here hx rfl (pc0 := 165) (pc' := 180) rfl (hb hby at_165) rfl (feq hc165).2 (by decide) (by decide) ?_
          show Steps p.tables e below (T4.setTop (mkF m 180 #[.val (.long q1), .second, .val (.long q2), .second, .val (.long q3), .second, .val (.long q4), .second, .val (.long q5), .second, .val (.int p6), .val (.int (q1.toInt32)), .val (.int j4_S0), .val (.long j22_S0), .second, .val (.long j37_S0), .second, .val (.int ((q1.toInt32) ^^^ j4_S0)), .val (.long (q2 ^^^ j22_S0)), .second, .val (.long (q3 ^^^ j37_S0)), .second, .val (.ref b1), .val (.ref b3), .val (.int (((p6.toUInt32 >>> ((3 : Int32) &&& 31).toUInt32).toInt32) &&& (3 : Int32))), .unset, .unset, .unset] [])) _
          refine XS.aload X4.here hx rfl (hb hby at_180) rfl rfl ?_
          show Steps p.tables e below (T4.setTop (mkF m 182 #[.val (.long q1), .second, .val (.long q2), .second, .val (.long q3), .second, .val (.long q4), .second, .val (.long q5), .second, .val (.int p6), .val (.int (q1.toInt32)), .val (.int j4_S0), .val (.long j22_S0), .second, .val (.long j37_S0), .second, .val (.int ((q1.toInt32) ^^^ j4_S0)), .val (.long (q2 ^^^ j22_S0)), .second, .val (.long (q3 ^^^ j37_S0)), .second, .val (.ref b1), .val (.ref b3), .val (.int (((p6.toUInt32 >>> ((3 : Int32) &&& 31).toUInt32).toInt32) &&& (3 : Int32))), .unset, .unset, .unset] [(.ref b1)])) _
          refine XS.astore X4.here hx rfl (hb hby at_182) rfl rfl (l' := #[.val (.long q1), .second, .val (.long q2), .second, .val (.long q3), .second, .val (.long q4), .second, .val (.long q5), .second, .val (.int p6), .val (.int (q1.toInt32)), .val (.int j4_S0), .val (.long j22_S0), .second, .val (.long j37_S0), .second, .val (.int ((q1.toInt32) ^^^ j4_S0)), .val (.long (q2 ^^^ j22_S0)), .second, .val (.long (q3 ^^^ j37_S0)), .second, .val (.ref b1), .val (.ref b3), .val (.int (((p6.toUInt32 >>> ((3 : Int32) &&& 31).toUInt32).toInt32) &&& (3 : Int32))), .val (.ref b1), .unset, .unset]) rfl ?_
          show Steps p.tables e below (T4.setTop (mkF m 184 #[.val (.long q1), .second, .val (.long q2), .second, .val (.long q3), .second, .val (.long q4), .second, .val (.long q5), .second, .val (.int p6), .val (.int (q1.toInt32)), .val (.int j4_S0), .val (.long j22_S0), .second, .val (.long j37_S0), .second, .val (.int ((q1.toInt32) ^^^ j4_S0)), .val (.long (q2 ^^^ j22_S0)), .second, .val (.long (q3 ^^^ j37_S0)), .second, .val (.ref b1), .val (.ref b3), .val (.int (((p6.toUInt32 >>> ((3 : Int32) &&& 31).toUInt32).toInt32) &&& (3 : Int32))), .val (.ref b1), .unset, .unset] [])) _
          refine XS.iconst X4.here hx rfl (hb hby at_184) ?_
          show Steps p.tables e below (T4.setTop (mkF m 185 #[.val (.long q1), .second, .val (.long q2), .second, .val (.long q3), .second, .val (.long q4), .second, .val (.long q5), .second, .val (.int p6), .val (.int (q1.toInt32)), .val (.int j4_S0), .val (.long j22_S0), .second, .val (.long j37_S0), .second, .val (.int ((q1.toInt32) ^^^ j4_S0)), .val (.long (q2 ^^^ j22_S0)), .second, .val (.long (q3 ^^^ j37_S0)), .second, .val (.ref b1), .val (.ref b3), .val (.int (((p6.toUInt32 >>> ((3 : Int32) &&& 31).toUInt32).toInt32) &&& (3 : Int32))), .val (.ref b1), .unset, .unset] [(.int (1 : Int32))])) _
          refine XS.istore X4.here hx rfl (hb hby at_185) rfl (l' := #[.val (.long q1), .second, .val (.long q2), .second, .val (.long q3), .second, .val (.long q4), .second, .val (.long q5), .second, .val (.int p6), .val (.int (q1.toInt32)), .val (.int j4_S0), .val (.long j22_S0), .second, .val (.long j37_S0), .second, .val (.int ((q1.toInt32) ^^^ j4_S0)), .val (.long (q2 ^^^ j22_S0)), .second, .val (.long (q3 ^^^ j37_S0)), .second, .val (.ref b1), .val (.ref b3), .val (.int (((p6.toUInt32 >>> ((3 : Int32) &&& 31).toUInt32).toInt32) &&& (3 : Int32))), .val (.ref b1), .val (.int (1 : Int32)), .unset]) rfl ?_
          show Steps p.tables e below (T4.setTop (mkF m 187 #[.val (.long q1), .second, .val (.long q2), .second, .val (.long q3), .second, .val (.long q4), .second, .val (.long q5), .second, .val (.int p6), .val (.int (q1.toInt32)), .val (.int j4_S0), .val (.long j22_S0), .second, .val (.long j37_S0), .second, .val (.int ((q1.toInt32) ^^^ j4_S0)), .val (.long (q2 ^^^ j22_S0)), .second, .val (.long (q3 ^^^ j37_S0)), .second, .val (.ref b1), .val (.ref b3), .val (.int (((p6.toUInt32 >>> ((3 : Int32) &&& 31).toUInt32).toInt32) &&& (3 : Int32))), .val (.ref b1), .val (.int (1 : Int32)), .unset] [])) _
          refine XS.aload X4.here hx rfl (hb hby at_187) rfl rfl ?_
          show Steps p.tables e below (T4.setTop (mkF m 189 #[.val (.long q1), .second, .val (.long q2), .second, .val (.long q3), .second, .val (.long q4), .second, .val (.long q5), .second, .val (.int p6), .val (.int (q1.toInt32)), .val (.int j4_S0), .val (.long j22_S0), .second, .val (.long j37_S0), .second, .val (.int ((q1.toInt32) ^^^ j4_S0)), .val (.long (q2 ^^^ j22_S0)), .second, .val (.long (q3 ^^^ j37_S0)), .second, .val (.ref b1), .val (.ref b3), .val (.int (((p6.toUInt32 >>> ((3 : Int32) &&& 31).toUInt32).toInt32) &&& (3 : Int32))), .val (.ref b1), .val (.int (1 : Int32)), .unset] [(.ref b1)])) _
          refine XS.aload X4.here hx rfl (hb hby at_189) rfl rfl ?_
          show Steps p.tables e below (T4.setTop (mkF m 191 #[.val (.long q1), .second, .val (.long q2), .second, .val (.long q3), .second, .val (.long q4), .second, .val (.long q5), .second, .val (.int p6), .val (.int (q1.toInt32)), .val (.int j4_S0), .val (.long j22_S0), .second, .val (.long j37_S0), .second, .val (.int ((q1.toInt32) ^^^ j4_S0)), .val (.long (q2 ^^^ j22_S0)), .second, .val (.long (q3 ^^^ j37_S0)), .second, .val (.ref b1), .val (.ref b3), .val (.int (((p6.toUInt32 >>> ((3 : Int32) &&& 31).toUInt32).toInt32) &&& (3 : Int32))), .val (.ref b1), .val (.int (1 : Int32)), .unset] [(.ref b1), (.ref b1)])) _
          refine st13.trans ?_
          show Steps p.tables e below (T13.setTop (mkF m 194 #[.val (.long q1), .second, .val (.long q2), .second, .val (.long q3), .second, .val (.long q4), .second, .val (.long q5), .second, .val (.int p6), .val (.int (q1.toInt32)), .val (.int j4_S0), .val (.long j22_S0), .second, .val (.long j37_S0), .second, .val (.int ((q1.toInt32) ^^^ j4_S0)), .val (.long (q2 ^^^ j22_S0)), .second, .val (.long (q3 ^^^ j37_S0)), .second, .val (.ref b1), .val (.ref b3), .val (.int (((p6.toUInt32 >>> ((3 : Int32) &&& 31).toUInt32).toInt32) &&& (3 : Int32))), .val (.ref b1), .val (.int (1 : Int32)), .unset] [(.int (own_eqH (q1.toInt32) q2 q3 (q1.toInt32) q2 q3))])) _
          refine XS.istore X13.here hx rfl (hb hby at_194) rfl (l' := #[.val (.long q1), .second, .val (.long q2), .second, .val (.long q3), .second, .val (.long q4), .second, .val (.long q5), .second, .val (.int p6), .val (.int (q1.toInt32)), .val (.int j4_S0), .val (.long j22_S0), .second, .val (.long j37_S0), .second, .val (.int ((q1.toInt32) ^^^ j4_S0)), .val (.long (q2 ^^^ j22_S0)), .second, .val (.long (q3 ^^^ j37_S0)), .second, .val (.ref b1), .val (.ref b3), .val (.int (((p6.toUInt32 >>> ((3 : Int32) &&& 31).toUInt32).toInt32) &&& (3 : Int32))), .val (.ref b1), .val (.int (1 : Int32)), .val (.int (own_eqH (q1.toInt32) q2 q3 (q1.toInt32) q2 q3))]) rfl ?_
          show Steps p.tables e below (T13.setTop (mkF m 196 #[.val (.long q1), .second, .val (.long q2), .second, .val (.long q3), .second, .val (.long q4), .second, .val (.long q5), .second, .val (.int p6), .val (.int (q1.toInt32)), .val (.int j4_S0), .val (.long j22_S0), .second, .val (.long j37_S0), .second, .val (.int ((q1.toInt32) ^^^ j4_S0)), .val (.long (q2 ^^^ j22_S0)), .second, .val (.long (q3 ^^^ j37_S0)), .second, .val (.ref b1), .val (.ref b3), .val (.int (((p6.toUInt32 >>> ((3 : Int32) &&& 31).toUInt32).toInt32) &&& (3 : Int32))), .val (.ref b1), .val (.int (1 : Int32)), .val (.int (own_eqH (q1.toInt32) q2 q3 (q1.toInt32) q2 q3))] [])) _
          refine XS.iload X13.here hx rfl (hb hby at_196) rfl ?_
          show Steps p.tables e below (T13.setTop (mkF m 198 #[.val (.long q1), .second, .val (.long q2), .second, .val (.long q3), .second, .val (.long q4), .second, .val (.long q5), .second, .val (.int p6), .val (.int (q1.toInt32)), .val (.int j4_S0), .val (.long j22_S0), .second, .val (.long j37_S0), .second, .val (.int ((q1.toInt32) ^^^ j4_S0)), .val (.long (q2 ^^^ j22_S0)), .second, .val (.long (q3 ^^^ j37_S0)), .second, .val (.ref b1), .val (.ref b3), .val (.int (((p6.toUInt32 >>> ((3 : Int32) &&& 31).toUInt32).toInt32) &&& (3 : Int32))), .val (.ref b1), .val (.int (1 : Int32)), .val (.int (own_eqH (q1.toInt32) q2 q3 (q1.toInt32) q2 q3))] [(.int (((p6.toUInt32 >>> ((3 : Int32) &&& 31).toUInt32).toInt32) &&& (3 : Int32)))])) _
          refine XS.ifYes X13.here hx rfl (pc0 := 198) (pc' := 226) rfl (hb hby at_198) rfl ((if0 _ _).trans (feq hc111).2) (by decide) (by decide) ?_
          show Steps p.tables e below (T13.setTop (mkF m 226 #[.val (.long q1), .second, .val (.long q2), .second, .val (.long q3), .second, .val (.long q4), .second, .val (.long q5), .second, .val (.int p6), .val (.int (q1.toInt32)), .val (.int j4_S0), .val (.long j22_S0), .second, .val (.long j37_S0), .second, .val (.int ((q1.toInt32) ^^^ j4_S0)), .val (.long (q2 ^^^ j22_S0)), .second, .val (.long (q3 ^^^ j37_S0)), .second, .val (.ref b1), .val (.ref b3), .val (.int (((p6.toUInt32 >>> ((3 : Int32) &&& 31).toUInt32).toInt32) &&& (3 : Int32))), .val (.ref b1), .val (.int (1 : Int32)), .val (.int (own_eqH (q1.toInt32) q2 q3 (q1.toInt32) q2 q3))] [])) _
          refine XS.iload X13.here hx rfl (hb hby at_226) rfl ?_
          show Steps p.tables e below (T13.setTop (mkF m 228 #[.val (.long q1), .second, .val (.long q2), .second, .val (.long q3), .second, .val (.long q4), .second, .val (.long q5), .second, .val (.int p6), .val (.int (q1.toInt32)), .val (.int j4_S0), .val (.long j22_S0), .second, .val (.long j37_S0), .second, .val (.int ((q1.toInt32) ^^^ j4_S0)), .val (.long (q2 ^^^ j22_S0)), .second, .val (.long (q3 ^^^ j37_S0)), .second, .val (.ref b1), .val (.ref b3), .val (.int (((p6.toUInt32 >>> ((3 : Int32) &&& 31).toUInt32).toInt32) &&& (3 : Int32))), .val (.ref b1), .val (.int (1 : Int32)), .val (.int (own_eqH (q1.toInt32) q2 q3 (q1.toInt32) q2 q3))] [(.int (own_eqH (q1.toInt32) q2 q3 (q1.toInt32) q2 q3))])) _
          refine XS.iload X13.here hx rfl (hb hby at_228) rfl ?_
          show Steps p.tables e below (T13.setTop (mkF m 230 #[.val (.long q1), .second, .val (.long q2), .second, .val (.long q3), .second, .val (.long q4), .second, .val (.long q5), .second, .val (.int p6), .val (.int (q1.toInt32)), .val (.int j4_S0), .val (.long j22_S0), .second, .val (.long j37_S0), .second, .val (.int ((q1.toInt32) ^^^ j4_S0)), .val (.long (q2 ^^^ j22_S0)), .second, .val (.long (q3 ^^^ j37_S0)), .second, .val (.ref b1), .val (.ref b3), .val (.int (((p6.toUInt32 >>> ((3 : Int32) &&& 31).toUInt32).toInt32) &&& (3 : Int32))), .val (.ref b1), .val (.int (1 : Int32)), .val (.int (own_eqH (q1.toInt32) q2 q3 (q1.toInt32) q2 q3))] [(.int (1 : Int32)), (.int (own_eqH (q1.toInt32) q2 q3 (q1.toInt32) q2 q3))])) _
          refine XS.icmpNo X13.here hx rfl (hb hby at_230) rfl (teq (own_refl _ _ _)).2 ?_
          show Steps p.tables e below (T13.setTop (mkF m 233 #[.val (.long q1), .second, .val (.long q2), .second, .val (.long q3), .second, .val (.long q4), .second, .val (.long q5), .second, .val (.int p6), .val (.int (q1.toInt32)), .val (.int j4_S0), .val (.long j22_S0), .second, .val (.long j37_S0), .second, .val (.int ((q1.toInt32) ^^^ j4_S0)), .val (.long (q2 ^^^ j22_S0)), .second, .val (.long (q3 ^^^ j37_S0)), .second, .val (.ref b1), .val (.ref b3), .val (.int (((p6.toUInt32 >>> ((3 : Int32) &&& 31).toUInt32).toInt32) &&& (3 : Int32))), .val (.ref b1), .val (.int (1 : Int32)), .val (.int (own_eqH (q1.toInt32) q2 q3 (q1.toInt32) q2 q3))] [])) _
          refine XS.iconst X13.here hx rfl (hb hby at_233) ?_
          show Steps p.tables e below (T13.setTop (mkF m 234 #[.val (.long q1), .second, .val (.long q2), .second, .val (.long q3), .second, .val (.long q4), .second, .val (.long q5), .second, .val (.int p6), .val (.int (q1.toInt32)), .val (.int j4_S0), .val (.long j22_S0), .second, .val (.long j37_S0), .second, .val (.int ((q1.toInt32) ^^^ j4_S0)), .val (.long (q2 ^^^ j22_S0)), .second, .val (.long (q3 ^^^ j37_S0)), .second, .val (.ref b1), .val (.ref b3), .val (.int (((p6.toUInt32 >>> ((3 : Int32) &&& 31).toUInt32).toInt32) &&& (3 : Int32))), .val (.ref b1), .val (.int (1 : Int32)), .val (.int (own_eqH (q1.toInt32) q2 q3 (q1.toInt32) q2 q3))] [(.int (1 : Int32))])) _
          refine XS.goto X13.here hx rfl (pc0 := 234) (pc' := 238) rfl (hb hby at_234) (by decide) (by decide) ?_
          show Steps p.tables e below (T13.setTop (mkF m 238 #[.val (.long q1), .second, .val (.long q2), .second, .val (.long q3), .second, .val (.long q4), .second, .val (.long q5), .second, .val (.int p6), .val (.int (q1.toInt32)), .val (.int j4_S0), .val (.long j22_S0), .second, .val (.long j37_S0), .second, .val (.int ((q1.toInt32) ^^^ j4_S0)), .val (.long (q2 ^^^ j22_S0)), .second, .val (.long (q3 ^^^ j37_S0)), .second, .val (.ref b1), .val (.ref b3), .val (.int (((p6.toUInt32 >>> ((3 : Int32) &&& 31).toUInt32).toInt32) &&& (3 : Int32))), .val (.ref b1), .val (.int (1 : Int32)), .val (.int (own_eqH (q1.toInt32) q2 q3 (q1.toInt32) q2 q3))] [(.int (1 : Int32))])) _
          exact retN X13 hx (t := .boolean) Bd.returns (by simp) (hb hby at_238) hr
        · show Q0 Z q1 q2 q3 q4 q5 p6 ca clc h0 n0 _ T13.heap _
          rw [e13]
          exact ⟨rfl, N13⟩
theorem own_sidx {Z : State} {args : Array Value} {C n d : String} {v : Value} (idx : List Nat) (h : (Term.static C n d).eval args Z none [] Z = some v) : (Term.static C n d).eval args Z none idx Z = some v := h
theorem own_len {Z : State} {args : Array Value} {t : Term} {a : Addr} {c : Cell} {ty : FieldType} (et : t.eval args Z none [] Z = some (.ref a)) (A : Arr Z Z.heap a c ty)
    (h : (Cond.eq (.length t) (.int 256)).value args Z none Z [] = some true) : c.slots.size = 256 := by
  have e := eqv_i (Term.int_eval (256)) h
  have A' := A.fin (Vm.Alike.refl _)
  by_cases q : c.slots.size < 2 ^ 31
  · rw [len_f et A' q] at e
    have e2 : c.slots.size.toInt32 = 256 := by injection e with e; injection e
    have e3 := len_toInt q
    rw [e2] at e3
    have e4 : (256 : Int) = (c.slots.size : Int) := e3
    omega
  · exfalso
    simp [Term.eval, et, A', q] at e
set_option maxRecDepth 65536 in
set_option maxHeartbeats 40000000 in
theorem comes_1 {Post : Tables → Env → Array Value → State → Outcome → State → Prop} (hpost : ∀ tb e args s v u, (limb_1_1.after args s (.returned v) u = true ∧ limb_1_2.after args s (.returned v) u = true ∧ True) → FrameEnd s (.returned v) u (Jvm.fieldLocs frame_1_writes args s ++ Jvm.arrayLocs frame_1_arrays args s ++ Jvm.staticLocs frame_1_statics s) 16 128 → Post tb e args s (.returned v) u) :
    ArmFor flags0 classFile x code maxLocals ret World_1 tables_1 room_1 Calls_1 rest_1 Pre_1 Post := by
  intro l hfl _ _ p e ha hc hk s m args below hf hA hF happ hP
  obtain ⟨hcalls, hrest, hpre⟩ := hP
  obtain ⟨-, -, -, hnamed, -, -, -, hat⟩ := (Spec.applies_iff hf).mp happ
  obtain ⟨hg, hn⟩ := and_e (Cond.before_iff.mp (show (Jvm.Cond.and given_1 narrow_1).before args s = true from hpre))
  obtain ⟨gc, g0⟩ := and_e hg
  obtain ⟨ga0, g1⟩ := and_e g0
  obtain ⟨ga1, g2⟩ := and_e g1
  obtain ⟨ga2, g3⟩ := and_e g2
  obtain ⟨ga3, g4⟩ := and_e g3
  obtain ⟨ga4, g5⟩ := and_e g4
  obtain ⟨w0, w1, w2, w3, w4, w5, rfl⟩ : ∃ w0 w1 w2 w3 w4 w5 : Value, args = #[w0, w1, w2, w3, w4, w5] := by
    have hs : args.size = 6 := by simpa [Cond.value, given_1] using gc
    obtain ⟨L⟩ := args
    match L, hs with
    | [w0, w1, w2, w3, w4, w5], _ => exact ⟨w0, w1, w2, w3, w4, w5, rfl⟩
  have hw := fun d (hd : d ∈ tables_1) => atoms_spec (ws := Jvm.Cond.code x code maxLocals ret :: tables_1) hat d (List.mem_cons_of_mem _ hd)
  have hfit : Fit s := fun {y c} hc i hi => by
    obtain ⟨ha, rfl⟩ := Array.getElem?_eq_some_iff.mp hc
    have q := List.all_eq_true.mp ((Array.all_eq_true_iff_forall_mem.mp hF) _ (Array.getElem_mem ha)) i (List.mem_range.mpr hi)
    simpa [Array.getElem?_eq_getElem hi] using q
  obtain ⟨i0, ei0⟩ := isL_v ga0
  obtain rfl : w0 = (.long i0) := Option.some.inj ei0
  obtain ⟨i1, ei1⟩ := isL_v ga1
  obtain rfl : w1 = (.long i1) := Option.some.inj ei1
  obtain ⟨i2, ei2⟩ := isL_v ga2
  obtain rfl : w2 = (.long i2) := Option.some.inj ei2
  obtain ⟨i3, ei3⟩ := isL_v ga3
  obtain rfl : w3 = (.long i3) := Option.some.inj ei3
  obtain ⟨i4, ei4⟩ := isL_v ga4
  obtain rfl : w4 = (.long i4) := Option.some.inj ei4
  obtain ⟨i5, ei5⟩ := is_v g5
  obtain rfl : w5 = (.int i5) := Option.some.inj ei5
  obtain ⟨hsets, hown0⟩ := atoms_of _ (rest_1_c_eq ▸ (show rest_1_c.before _ s = true from hrest))
  obtain ⟨ca, eca⟩ := arr_v (Cond.before_iff.mp (hsets _ (List.mem_of_getElem? (i := 2) rfl)))
  have S0 : Sta s s.heap "java/lang/Long$LongCache" "cache" "[Ljava/lang/Long;" (.ref ca) := Sta.start eca (Or.inl (hsets _ (List.mem_of_getElem? (i := 1) rfl)))
  obtain ⟨clc, Arc⟩ := Arr.start eca (Cond.before_iff.mp (hsets _ (List.mem_of_getElem? (i := 2) rfl)))
  have hsz : clc.slots.size = 256 := own_len eca Arc (Cond.before_iff.mp (hsets _ (List.mem_of_getElem? (i := 4) rfl)))
  have hbx := Bxs.start (K := "java/lang/Long") (d := "J") (z := 256) (val := fun j => .long (j - 128).toInt64) (fun idx => own_sidx idx eca) Arc (by rw [hsz]; decide) (by rw [hsz]; decide) (by decide) (Cond.before_iff.mp (hsets _ (List.mem_of_getElem? (i := 5) rfl))) (fun X j nj h => eqv_l (i2l_at (Term.sub_int (idx_at nj) (Term.int_eval (128)))) h)
  have hel : ∀ j : Int32, ¬ (j < 0 ∨ clc.slots.size ≤ j.toNatClampNeg) → ∃ b : Addr, clc.slots[j.toNatClampNeg]? = some (.ref b) ∧ Exa s s.heap b "java/lang/Long" := fun j hj => by
    obtain ⟨b, h1, h2, -⟩ := hbx.2.2.2 j hj
    exact ⟨b, h1, h2⟩
  obtain ⟨n, o, h1, h2, h3, _, L, rfl, ⟨rfl, N⟩, hq⟩ := rm0 l s _ hw tables_1 i0 i1 i2 i3 i4 i5 ca clc s.heap s.heap.size (Nat.le_refl _) (Old.start s) S0 Arc hsz hel p e ha hc hk s m _ below hf ((Spec.applies_iff_loose hf).mp happ).1 ⟨rfl, State.Warmed39.refl s, rfl⟩ trivial
  refine ⟨n, _, h1, h2, h3, hpost _ _ _ _ _ _ ⟨Cond.after_iff.mpr rfl, Cond.after_iff.mpr (eq_i res_at (Term.int_eval (1)) rfl), trivial⟩ ⟨hq.1, hq.2.1, (hq.2.2.sift fun y hy => Or.inr (N y hy)).mono (by decide) (by decide)⟩⟩
theorem main_1_1 : Claimed_1_1 := comes_1 fun _ _ _ _ _ _ h hF => ⟨h.1, hF⟩
theorem main_1_2 : Claimed_1_2 := comes_1 fun _ _ _ _ _ _ h hF => ⟨h.2.1, hF⟩
end Jvm.Pilot.@@N@@
namespace Jvm.Pilot.@@N@@
open Jvm Jvm.ClassFile Sem Op Lib Jvm.Free Jvm.Stand Jvm.Pilot.@@N@@.Jvm.D
/-! MADE BY PROGRAM (witnessworld.py) out of the Statement's table words and the real class files: 16 classes; the members and pool entries that the words name. The judged class is class 1, her method 1. -/
namespace start1
open Jvm.ClassFile
def u (s : String) : CpInfo := .utf8 (stringToUtf16 s)
/-- a pool by its gaps: so many unusable entries, then the entry; so many at the end -/
def gap : Nat → List CpInfo → List CpInfo
  | 0, r => r
  | n + 1, r => .unusable :: gap n r
def poolList (es : List (Nat × CpInfo)) (last : Nat) : List CpInfo := es.foldr (fun e r => gap e.1 (e.2 :: r)) (gap last [])
def pool (es : List (Nat × CpInfo)) (last : Nat) : Array CpInfo := ⟨poolList es last⟩
def fileOf (pool : Array CpInfo) (this : Nat) (attrs : Array Attribute := #[]) (ms : Array MethodInfo := #[]) (fl : Nat := 33) (sup : Nat := 0) (ifs : Array Nat := #[]) (fds : Array FieldInfo := #[]) : ClassFile where
  minorVersion := 0
  majorVersion := 65
  constantPool := pool
  accessFlags := fl
  thisClass := this
  superClass := sup
  interfaces := ifs
  fields := fds
  methods := ms
  attributes := attrs
def plain (name : String) (sup : Option ClassId) : Class where
  name := name
  kind := .ordinary
  loader := none
  accessFlags := 33
  super := sup
  interfaces := #[]
  cf := none
  fields := #[]
  methods := #[]
  instanceTypes := #[]
  staticTypes := #[]
  resolved := #[]
  callSites := []
  init := .initialized
  statics := none
  mirror := none

def pool0 : Array CpInfo := pool [(5, u "<init>"), (0, u "()V"), (1, .class_ 10), (1, u "java/lang/Object")] 113

def k0c0 : Code := { maxStack := 0, maxLocals := 1, code := object_method_1_code, exceptionTable := #[], attributes := #[] }
def k0m0 : Method := { name := "<init>", desc := "()V", sig := { parameters := [], returnType := none }, accessFlags := 1, code := some k0c0 }
/-- java/lang/Object -/
def k0 : Class := { plain "java/lang/Object" none with
  accessFlags := 33
  interfaces := #[]
  cf := some (fileOf pool0 8 #[] #[{ accessFlags := 1, nameIndex := 5, descriptorIndex := 6, attributes := #[] }] 33 0 #[] #[])
  fields := #[]
  methods := #[k0m0]
  instanceTypes := #[]
  staticTypes := #[]
  resolved := Array.replicate 124 none
  statics := none }

def pool1 : Array CpInfo := pool [(2, .class_ 4), (1, u "java/lang/Object"), (0, u "<init>"), (0, u "()V"), (0, .class_ 8), (0, u "com/example/vestline/vestline/Holdings"), (0, .methodref 7 10), (0, .nameAndType 5 11), (0, u "(IJJ)V"), (0, .methodref 13 14), (0, .class_ 15), (0, .nameAndType 16 17), (0, u "java/lang/Long"), (0, u "valueOf"), (0, u "(J)Ljava/lang/Long;"), (0, .methodref 7 19), (0, .nameAndType 20 21), (0, u "equals"), (0, u "(Ljava/lang/Object;)Z"), (0, .class_ 23), (0, u "com/example/vestline/vestline/HoldingsEqualsPinLaw"), (2, u "law"), (0, u "(JJJJJI)Z")] 3

def k1m0 : Method := { name := "<init>", desc := "()V", sig := { parameters := [], returnType := none }, accessFlags := 1, code := none }
def k1c1 : Code := { maxStack := 7, maxLocals := 28, code := code, exceptionTable := #[], attributes := #[] }
def k1m1 : Method := { name := "law", desc := "(JJJJJI)Z", sig := { parameters := [.long, .long, .long, .long, .long, .int], returnType := some .boolean }, accessFlags := 9, code := some k1c1 }
/-- com/example/vestline/vestline/HoldingsEqualsPinLaw -/
def k1 : Class := { plain "com/example/vestline/vestline/HoldingsEqualsPinLaw" (some 0) with
  accessFlags := 49
  interfaces := #[]
  cf := some (fileOf pool1 22 #[] #[{ accessFlags := 1, nameIndex := 5, descriptorIndex := 6, attributes := #[] }, { accessFlags := 9, nameIndex := 26, descriptorIndex := 27, attributes := #[] }] 49 2 #[] #[])
  fields := #[]
  methods := #[k1m0, k1m1]
  instanceTypes := #[]
  staticTypes := #[]
  resolved := Array.replicate 31 none
  statics := none }

def pool2 : Array CpInfo := pool [(1, .methodref 2 3), (0, .class_ 4), (0, .nameAndType 5 6), (0, u "java/lang/Object"), (0, u "<init>"), (0, u "()V"), (0, .fieldref 8 9), (0, .class_ 10), (0, .nameAndType 11 12), (0, u "com/example/vestline/vestline/Holdings"), (0, u "participants"), (0, u "I"), (0, .fieldref 8 14), (0, .nameAndType 15 16), (0, u "shares"), (0, u "J"), (0, .fieldref 8 18), (0, .nameAndType 19 16), (0, u "cash"), (35, u "(IJJ)V"), (42, u "equals"), (0, u "(Ljava/lang/Object;)Z")] 7

def k2c0 : Code := { maxStack := 3, maxLocals := 6, code := prog_31_method_1_code, exceptionTable := #[], attributes := #[] }
def k2m0 : Method := { name := "<init>", desc := "(IJJ)V", sig := { parameters := [.int, .long, .long], returnType := none }, accessFlags := 0, code := some k2c0 }
def k2c1 : Code := { maxStack := 4, maxLocals := 3, code := prog_31_method_6_code, exceptionTable := #[], attributes := #[] }
def k2m1 : Method := { name := "equals", desc := "(Ljava/lang/Object;)Z", sig := { parameters := [(.object "java/lang/Object")], returnType := some .boolean }, accessFlags := 1, code := some k2c1 }
/-- com/example/vestline/vestline/Holdings -/
def k2 : Class := { plain "com/example/vestline/vestline/Holdings" (some 0) with
  accessFlags := 48
  interfaces := #[]
  cf := some (fileOf pool2 8 #[] #[{ accessFlags := 0, nameIndex := 5, descriptorIndex := 55, attributes := #[] }, { accessFlags := 1, nameIndex := 98, descriptorIndex := 99, attributes := #[] }] 48 2 #[] #[{ accessFlags := 18, nameIndex := 11, descriptorIndex := 12, attributes := #[] }, { accessFlags := 18, nameIndex := 15, descriptorIndex := 16, attributes := #[] }, { accessFlags := 18, nameIndex := 19, descriptorIndex := 16, attributes := #[] }])
  fields := #[{ name := "participants", type := .int, accessFlags := 18, slot := 0, constantValue := 0 }, { name := "shares", type := .long, accessFlags := 18, slot := 1, constantValue := 0 }, { name := "cash", type := .long, accessFlags := 18, slot := 2, constantValue := 0 }]
  methods := #[k2m0, k2m1]
  instanceTypes := #[.int, .long, .long]
  staticTypes := #[]
  resolved := Array.replicate 107 none
  statics := none }

def pool3 : Array CpInfo := pool [(1, .class_ 2), (0, u "java/io/Serializable"), (0, .class_ 4), (0, u "java/lang/Object")] 2

/-- java/io/Serializable -/
def k3 : Class := { plain "java/io/Serializable" (some 0) with
  accessFlags := 1537
  interfaces := #[]
  cf := some (fileOf pool3 1 #[] #[] 1537 3 #[] #[])
  fields := #[]
  methods := #[]
  instanceTypes := #[]
  staticTypes := #[]
  resolved := Array.replicate 7 none
  statics := none }

def pool4 : Array CpInfo := pool [(1, .methodref 2 3), (0, .class_ 4), (0, .nameAndType 5 6), (0, u "java/lang/Object"), (0, u "<init>"), (0, u "()V"), (1, .class_ 10), (1, u "java/lang/Number"), (2, .class_ 14), (0, u "java/io/Serializable"), (0, u "serialVersionUID"), (0, u "J")] 20

def k4c0 : Code := { maxStack := 1, maxLocals := 1, code := jdk_18_method_1_code, exceptionTable := #[], attributes := #[] }
def k4m0 : Method := { name := "<init>", desc := "()V", sig := { parameters := [], returnType := none }, accessFlags := 1, code := some k4c0 }
/-- java/lang/Number -/
def k4 : Class := { plain "java/lang/Number" (some 0) with
  accessFlags := 1057
  interfaces := #[3]
  cf := some (fileOf pool4 8 #[] #[{ accessFlags := 1, nameIndex := 5, descriptorIndex := 6, attributes := #[] }] 1057 2 #[13] #[{ accessFlags := 26, nameIndex := 15, descriptorIndex := 16, attributes := #[] }])
  fields := #[{ name := "serialVersionUID", type := .long, accessFlags := 26, slot := 0, constantValue := 0 }]
  methods := #[k4m0]
  instanceTypes := #[]
  staticTypes := #[.long]
  resolved := Array.replicate 37 none
  statics := none }

def pool5 : Array CpInfo := pool [(1, .class_ 2), (0, u "java/lang/Comparable"), (0, .class_ 4), (0, u "java/lang/Object")] 7

/-- java/lang/Comparable -/
def k5 : Class := { plain "java/lang/Comparable" (some 0) with
  accessFlags := 1537
  interfaces := #[]
  cf := some (fileOf pool5 1 #[] #[] 1537 3 #[] #[])
  fields := #[]
  methods := #[]
  instanceTypes := #[]
  staticTypes := #[]
  resolved := Array.replicate 12 none
  statics := none }

def pool6 : Array CpInfo := pool [(1, .class_ 2), (0, u "java/lang/constant/Constable"), (0, .class_ 4), (0, u "java/lang/Object")] 6

/-- java/lang/constant/Constable -/
def k6 : Class := { plain "java/lang/constant/Constable" (some 0) with
  accessFlags := 1537
  interfaces := #[]
  cf := some (fileOf pool6 1 #[] #[] 1537 3 #[] #[])
  fields := #[]
  methods := #[]
  instanceTypes := #[]
  staticTypes := #[]
  resolved := Array.replicate 11 none
  statics := none }

def pool7 : Array CpInfo := pool [(1, .class_ 2), (0, u "java/lang/constant/ConstantDesc"), (0, .class_ 4), (0, u "java/lang/Object")] 32

/-- java/lang/constant/ConstantDesc -/
def k7 : Class := { plain "java/lang/constant/ConstantDesc" (some 0) with
  accessFlags := 1537
  interfaces := #[]
  cf := some (fileOf pool7 1 #[] #[] 1537 3 #[] #[])
  fields := #[]
  methods := #[]
  instanceTypes := #[]
  staticTypes := #[]
  resolved := Array.replicate 37 none
  statics := none }

def pool8 : Array CpInfo := pool [(1, .class_ 2), (0, u "java/lang/Long"), (55, .nameAndType 59 60), (0, u "<init>"), (0, u "()V"), (24, u "valueOf"), (143, u "(J)Ljava/lang/Long;"), (0, .long 18446744073709551488), (1, .long 127), (1, .fieldref 235 236), (0, .class_ 237), (0, .nameAndType 238 239), (0, u "java/lang/Long$LongCache"), (0, u "cache"), (0, u "[Ljava/lang/Long;"), (0, .methodref 1 241), (0, .nameAndType 59 242), (0, u "(J)V"), (27, .methodref 271 58), (0, .class_ 272), (0, u "java/lang/Number"), (0, .fieldref 1 274), (0, .nameAndType 275 276), (0, u "value"), (0, u "J"), (84, u "TYPE"), (0, u "Ljava/lang/Class;"), (0, .class_ 364), (0, u "java/lang/Comparable"), (0, .class_ 366), (0, u "java/lang/constant/Constable"), (0, .class_ 368), (0, u "java/lang/constant/ConstantDesc"), (0, u "MIN_VALUE"), (1, u "MAX_VALUE"), (4, u "SIZE"), (0, u "I"), (1, u "BYTES"), (1, u "serialVersionUID")] 142

def k8c0 : Code := { maxStack := 4, maxLocals := 3, code := jdk_35_method_24_code, exceptionTable := #[], attributes := #[] }
def k8m0 : Method := { name := "valueOf", desc := "(J)Ljava/lang/Long;", sig := { parameters := [.long], returnType := some (.object "java/lang/Long") }, accessFlags := 9, code := some k8c0 }
def k8c1 : Code := { maxStack := 3, maxLocals := 3, code := jdk_35_method_26_code, exceptionTable := #[], attributes := #[] }
def k8m1 : Method := { name := "<init>", desc := "(J)V", sig := { parameters := [.long], returnType := none }, accessFlags := 1, code := some k8c1 }
/-- java/lang/Long -/
def k8 : Class := { plain "java/lang/Long" (some 4) with
  accessFlags := 49
  interfaces := #[5, 6, 7]
  cf := some (fileOf pool8 1 #[.nestMembers #[235]] #[{ accessFlags := 9, nameIndex := 85, descriptorIndex := 229, attributes := #[] }, { accessFlags := 1, nameIndex := 59, descriptorIndex := 242, attributes := #[] }] 49 271 #[363, 365, 367] #[{ accessFlags := 25, nameIndex := 369, descriptorIndex := 276, attributes := #[] }, { accessFlags := 25, nameIndex := 371, descriptorIndex := 276, attributes := #[] }, { accessFlags := 25, nameIndex := 361, descriptorIndex := 362, attributes := #[] }, { accessFlags := 18, nameIndex := 275, descriptorIndex := 276, attributes := #[] }, { accessFlags := 25, nameIndex := 376, descriptorIndex := 377, attributes := #[] }, { accessFlags := 25, nameIndex := 379, descriptorIndex := 377, attributes := #[] }, { accessFlags := 26, nameIndex := 381, descriptorIndex := 276, attributes := #[] }])
  fields := #[{ name := "MIN_VALUE", type := .long, accessFlags := 25, slot := 0, constantValue := 0 }, { name := "MAX_VALUE", type := .long, accessFlags := 25, slot := 1, constantValue := 0 }, { name := "TYPE", type := (.object "java/lang/Class"), accessFlags := 25, slot := 2, constantValue := 0 }, { name := "value", type := .long, accessFlags := 18, slot := 0, constantValue := 0 }, { name := "SIZE", type := .int, accessFlags := 25, slot := 3, constantValue := 0 }, { name := "BYTES", type := .int, accessFlags := 25, slot := 4, constantValue := 0 }, { name := "serialVersionUID", type := .long, accessFlags := 26, slot := 5, constantValue := 0 }]
  methods := #[k8m0, k8m1]
  instanceTypes := #[.long]
  staticTypes := #[.long, .long, (.object "java/lang/Class"), .int, .int, .long]
  resolved := Array.replicate 524 none
  statics := none }

def pool9 : Array CpInfo := pool [(2, .class_ 4), (1, u "java/lang/Object"), (0, u "<init>"), (0, u "()V"), (0, .class_ 8), (0, u "java/lang/Long"), (7, .class_ 18), (1, u "java/lang/Long$LongCache"), (0, u "$assertionsDisabled"), (0, u "Z"), (8, u "archivedCache"), (0, u "[Ljava/lang/Long;"), (7, u "cache")] 24

def k9m0 : Method := { name := "<init>", desc := "()V", sig := { parameters := [], returnType := none }, accessFlags := 2, code := none }
/-- java/lang/Long$LongCache -/
def k9 : Class := { plain "java/lang/Long$LongCache" (some 0) with
  accessFlags := 48
  interfaces := #[]
  cf := some (fileOf pool9 16 #[.nestHost 7] #[{ accessFlags := 2, nameIndex := 5, descriptorIndex := 6, attributes := #[] }] 48 2 #[] #[{ accessFlags := 24, nameIndex := 38, descriptorIndex := 30, attributes := #[] }, { accessFlags := 8, nameIndex := 29, descriptorIndex := 30, attributes := #[] }, { accessFlags := 4120, nameIndex := 19, descriptorIndex := 20, attributes := #[] }])
  fields := #[{ name := "cache", type := (.array (.object "java/lang/Long")), accessFlags := 24, slot := 0, constantValue := 0 }, { name := "archivedCache", type := (.array (.object "java/lang/Long")), accessFlags := 8, slot := 1, constantValue := 0 }, { name := "$assertionsDisabled", type := .boolean, accessFlags := 4120, slot := 2, constantValue := 0 }]
  methods := #[k9m0]
  instanceTypes := #[]
  staticTypes := #[(.array (.object "java/lang/Long")), (.array (.object "java/lang/Long")), .boolean]
  resolved := Array.replicate 63 none
  statics := some 0 }

def pool10 : Array CpInfo := pool [(1, u "java/lang/Cloneable"), (0, .class_ 1), (0, u "java/lang/Object"), (0, .class_ 3)] 3

/-- java/lang/Cloneable -/
def k10 : Class := { plain "java/lang/Cloneable" (some 0) with
  accessFlags := 1537
  interfaces := #[]
  cf := some (fileOf pool10 2 #[] #[] 1537 4 #[] #[])
  fields := #[]
  methods := #[]
  instanceTypes := #[]
  staticTypes := #[]
  resolved := Array.replicate 8 none
  statics := none }

/-- the primitive byte -/
def k11 : Class := { plain "byte" none with kind := .primitive 'B', accessFlags := 0x411 }
/-- [B -/
def k12 : Class := { plain "[B" (some 0) with kind := .array 11 .byte, interfaces := #[10, 3], accessFlags := 1041 }

/-- the primitive int -/
def k13 : Class := { plain "int" none with kind := .primitive 'I', accessFlags := 0x411 }
/-- [I -/
def k14 : Class := { plain "[I" (some 0) with kind := .array 13 .int, interfaces := #[10, 3], accessFlags := 1041 }

/-- [Ljava/lang/Long; -/
def k15 : Class := { plain "[Ljava/lang/Long;" (some 0) with kind := .array 8 (.object "java/lang/Long"), interfaces := #[10, 3], accessFlags := 1041 }

def heap : Heap := #[{ cls := 9, slots := #[.ref 1, .null, .int 0], vm := .statics 9 },
  { cls := 15, slots := #[.ref 2, .ref 3, .ref 4, .ref 5, .ref 6, .ref 7, .ref 8, .ref 9, .ref 10, .ref 11, .ref 12, .ref 13, .ref 14, .ref 15, .ref 16, .ref 17, .ref 18, .ref 19, .ref 20, .ref 21, .ref 22, .ref 23, .ref 24, .ref 25, .ref 26, .ref 27, .ref 28, .ref 29, .ref 30, .ref 31, .ref 32, .ref 33, .ref 34, .ref 35, .ref 36, .ref 37, .ref 38, .ref 39, .ref 40, .ref 41, .ref 42, .ref 43, .ref 44, .ref 45, .ref 46, .ref 47, .ref 48, .ref 49, .ref 50, .ref 51, .ref 52, .ref 53, .ref 54, .ref 55, .ref 56, .ref 57, .ref 58, .ref 59, .ref 60, .ref 61, .ref 62, .ref 63, .ref 64, .ref 65, .ref 66, .ref 67, .ref 68, .ref 69, .ref 70, .ref 71, .ref 72, .ref 73, .ref 74, .ref 75, .ref 76, .ref 77, .ref 78, .ref 79, .ref 80, .ref 81, .ref 82, .ref 83, .ref 84, .ref 85, .ref 86, .ref 87, .ref 88, .ref 89, .ref 90, .ref 91, .ref 92, .ref 93, .ref 94, .ref 95, .ref 96, .ref 97, .ref 98, .ref 99, .ref 100, .ref 101, .ref 102, .ref 103, .ref 104, .ref 105, .ref 106, .ref 107, .ref 108, .ref 109, .ref 110, .ref 111, .ref 112, .ref 113, .ref 114, .ref 115, .ref 116, .ref 117, .ref 118, .ref 119, .ref 120, .ref 121, .ref 122, .ref 123, .ref 124, .ref 125, .ref 126, .ref 127, .ref 128, .ref 129, .ref 130, .ref 131, .ref 132, .ref 133, .ref 134, .ref 135, .ref 136, .ref 137, .ref 138, .ref 139, .ref 140, .ref 141, .ref 142, .ref 143, .ref 144, .ref 145, .ref 146, .ref 147, .ref 148, .ref 149, .ref 150, .ref 151, .ref 152, .ref 153, .ref 154, .ref 155, .ref 156, .ref 157, .ref 158, .ref 159, .ref 160, .ref 161, .ref 162, .ref 163, .ref 164, .ref 165, .ref 166, .ref 167, .ref 168, .ref 169, .ref 170, .ref 171, .ref 172, .ref 173, .ref 174, .ref 175, .ref 176, .ref 177, .ref 178, .ref 179, .ref 180, .ref 181, .ref 182, .ref 183, .ref 184, .ref 185, .ref 186, .ref 187, .ref 188, .ref 189, .ref 190, .ref 191, .ref 192, .ref 193, .ref 194, .ref 195, .ref 196, .ref 197, .ref 198, .ref 199, .ref 200, .ref 201, .ref 202, .ref 203, .ref 204, .ref 205, .ref 206, .ref 207, .ref 208, .ref 209, .ref 210, .ref 211, .ref 212, .ref 213, .ref 214, .ref 215, .ref 216, .ref 217, .ref 218, .ref 219, .ref 220, .ref 221, .ref 222, .ref 223, .ref 224, .ref 225, .ref 226, .ref 227, .ref 228, .ref 229, .ref 230, .ref 231, .ref 232, .ref 233, .ref 234, .ref 235, .ref 236, .ref 237, .ref 238, .ref 239, .ref 240, .ref 241, .ref 242, .ref 243, .ref 244, .ref 245, .ref 246, .ref 247, .ref 248, .ref 249, .ref 250, .ref 251, .ref 252, .ref 253, .ref 254, .ref 255, .ref 256, .ref 257], vm := .none },
  { cls := 8, slots := #[.long (-128)], vm := .none },
  { cls := 8, slots := #[.long (-127)], vm := .none },
  { cls := 8, slots := #[.long (-126)], vm := .none },
  { cls := 8, slots := #[.long (-125)], vm := .none },
  { cls := 8, slots := #[.long (-124)], vm := .none },
  { cls := 8, slots := #[.long (-123)], vm := .none },
  { cls := 8, slots := #[.long (-122)], vm := .none },
  { cls := 8, slots := #[.long (-121)], vm := .none },
  { cls := 8, slots := #[.long (-120)], vm := .none },
  { cls := 8, slots := #[.long (-119)], vm := .none },
  { cls := 8, slots := #[.long (-118)], vm := .none },
  { cls := 8, slots := #[.long (-117)], vm := .none },
  { cls := 8, slots := #[.long (-116)], vm := .none },
  { cls := 8, slots := #[.long (-115)], vm := .none },
  { cls := 8, slots := #[.long (-114)], vm := .none },
  { cls := 8, slots := #[.long (-113)], vm := .none },
  { cls := 8, slots := #[.long (-112)], vm := .none },
  { cls := 8, slots := #[.long (-111)], vm := .none },
  { cls := 8, slots := #[.long (-110)], vm := .none },
  { cls := 8, slots := #[.long (-109)], vm := .none },
  { cls := 8, slots := #[.long (-108)], vm := .none },
  { cls := 8, slots := #[.long (-107)], vm := .none },
  { cls := 8, slots := #[.long (-106)], vm := .none },
  { cls := 8, slots := #[.long (-105)], vm := .none },
  { cls := 8, slots := #[.long (-104)], vm := .none },
  { cls := 8, slots := #[.long (-103)], vm := .none },
  { cls := 8, slots := #[.long (-102)], vm := .none },
  { cls := 8, slots := #[.long (-101)], vm := .none },
  { cls := 8, slots := #[.long (-100)], vm := .none },
  { cls := 8, slots := #[.long (-99)], vm := .none },
  { cls := 8, slots := #[.long (-98)], vm := .none },
  { cls := 8, slots := #[.long (-97)], vm := .none },
  { cls := 8, slots := #[.long (-96)], vm := .none },
  { cls := 8, slots := #[.long (-95)], vm := .none },
  { cls := 8, slots := #[.long (-94)], vm := .none },
  { cls := 8, slots := #[.long (-93)], vm := .none },
  { cls := 8, slots := #[.long (-92)], vm := .none },
  { cls := 8, slots := #[.long (-91)], vm := .none },
  { cls := 8, slots := #[.long (-90)], vm := .none },
  { cls := 8, slots := #[.long (-89)], vm := .none },
  { cls := 8, slots := #[.long (-88)], vm := .none },
  { cls := 8, slots := #[.long (-87)], vm := .none },
  { cls := 8, slots := #[.long (-86)], vm := .none },
  { cls := 8, slots := #[.long (-85)], vm := .none },
  { cls := 8, slots := #[.long (-84)], vm := .none },
  { cls := 8, slots := #[.long (-83)], vm := .none },
  { cls := 8, slots := #[.long (-82)], vm := .none },
  { cls := 8, slots := #[.long (-81)], vm := .none },
  { cls := 8, slots := #[.long (-80)], vm := .none },
  { cls := 8, slots := #[.long (-79)], vm := .none },
  { cls := 8, slots := #[.long (-78)], vm := .none },
  { cls := 8, slots := #[.long (-77)], vm := .none },
  { cls := 8, slots := #[.long (-76)], vm := .none },
  { cls := 8, slots := #[.long (-75)], vm := .none },
  { cls := 8, slots := #[.long (-74)], vm := .none },
  { cls := 8, slots := #[.long (-73)], vm := .none },
  { cls := 8, slots := #[.long (-72)], vm := .none },
  { cls := 8, slots := #[.long (-71)], vm := .none },
  { cls := 8, slots := #[.long (-70)], vm := .none },
  { cls := 8, slots := #[.long (-69)], vm := .none },
  { cls := 8, slots := #[.long (-68)], vm := .none },
  { cls := 8, slots := #[.long (-67)], vm := .none },
  { cls := 8, slots := #[.long (-66)], vm := .none },
  { cls := 8, slots := #[.long (-65)], vm := .none },
  { cls := 8, slots := #[.long (-64)], vm := .none },
  { cls := 8, slots := #[.long (-63)], vm := .none },
  { cls := 8, slots := #[.long (-62)], vm := .none },
  { cls := 8, slots := #[.long (-61)], vm := .none },
  { cls := 8, slots := #[.long (-60)], vm := .none },
  { cls := 8, slots := #[.long (-59)], vm := .none },
  { cls := 8, slots := #[.long (-58)], vm := .none },
  { cls := 8, slots := #[.long (-57)], vm := .none },
  { cls := 8, slots := #[.long (-56)], vm := .none },
  { cls := 8, slots := #[.long (-55)], vm := .none },
  { cls := 8, slots := #[.long (-54)], vm := .none },
  { cls := 8, slots := #[.long (-53)], vm := .none },
  { cls := 8, slots := #[.long (-52)], vm := .none },
  { cls := 8, slots := #[.long (-51)], vm := .none },
  { cls := 8, slots := #[.long (-50)], vm := .none },
  { cls := 8, slots := #[.long (-49)], vm := .none },
  { cls := 8, slots := #[.long (-48)], vm := .none },
  { cls := 8, slots := #[.long (-47)], vm := .none },
  { cls := 8, slots := #[.long (-46)], vm := .none },
  { cls := 8, slots := #[.long (-45)], vm := .none },
  { cls := 8, slots := #[.long (-44)], vm := .none },
  { cls := 8, slots := #[.long (-43)], vm := .none },
  { cls := 8, slots := #[.long (-42)], vm := .none },
  { cls := 8, slots := #[.long (-41)], vm := .none },
  { cls := 8, slots := #[.long (-40)], vm := .none },
  { cls := 8, slots := #[.long (-39)], vm := .none },
  { cls := 8, slots := #[.long (-38)], vm := .none },
  { cls := 8, slots := #[.long (-37)], vm := .none },
  { cls := 8, slots := #[.long (-36)], vm := .none },
  { cls := 8, slots := #[.long (-35)], vm := .none },
  { cls := 8, slots := #[.long (-34)], vm := .none },
  { cls := 8, slots := #[.long (-33)], vm := .none },
  { cls := 8, slots := #[.long (-32)], vm := .none },
  { cls := 8, slots := #[.long (-31)], vm := .none },
  { cls := 8, slots := #[.long (-30)], vm := .none },
  { cls := 8, slots := #[.long (-29)], vm := .none },
  { cls := 8, slots := #[.long (-28)], vm := .none },
  { cls := 8, slots := #[.long (-27)], vm := .none },
  { cls := 8, slots := #[.long (-26)], vm := .none },
  { cls := 8, slots := #[.long (-25)], vm := .none },
  { cls := 8, slots := #[.long (-24)], vm := .none },
  { cls := 8, slots := #[.long (-23)], vm := .none },
  { cls := 8, slots := #[.long (-22)], vm := .none },
  { cls := 8, slots := #[.long (-21)], vm := .none },
  { cls := 8, slots := #[.long (-20)], vm := .none },
  { cls := 8, slots := #[.long (-19)], vm := .none },
  { cls := 8, slots := #[.long (-18)], vm := .none },
  { cls := 8, slots := #[.long (-17)], vm := .none },
  { cls := 8, slots := #[.long (-16)], vm := .none },
  { cls := 8, slots := #[.long (-15)], vm := .none },
  { cls := 8, slots := #[.long (-14)], vm := .none },
  { cls := 8, slots := #[.long (-13)], vm := .none },
  { cls := 8, slots := #[.long (-12)], vm := .none },
  { cls := 8, slots := #[.long (-11)], vm := .none },
  { cls := 8, slots := #[.long (-10)], vm := .none },
  { cls := 8, slots := #[.long (-9)], vm := .none },
  { cls := 8, slots := #[.long (-8)], vm := .none },
  { cls := 8, slots := #[.long (-7)], vm := .none },
  { cls := 8, slots := #[.long (-6)], vm := .none },
  { cls := 8, slots := #[.long (-5)], vm := .none },
  { cls := 8, slots := #[.long (-4)], vm := .none },
  { cls := 8, slots := #[.long (-3)], vm := .none },
  { cls := 8, slots := #[.long (-2)], vm := .none },
  { cls := 8, slots := #[.long (-1)], vm := .none },
  { cls := 8, slots := #[.long 0], vm := .none },
  { cls := 8, slots := #[.long 1], vm := .none },
  { cls := 8, slots := #[.long 2], vm := .none },
  { cls := 8, slots := #[.long 3], vm := .none },
  { cls := 8, slots := #[.long 4], vm := .none },
  { cls := 8, slots := #[.long 5], vm := .none },
  { cls := 8, slots := #[.long 6], vm := .none },
  { cls := 8, slots := #[.long 7], vm := .none },
  { cls := 8, slots := #[.long 8], vm := .none },
  { cls := 8, slots := #[.long 9], vm := .none },
  { cls := 8, slots := #[.long 10], vm := .none },
  { cls := 8, slots := #[.long 11], vm := .none },
  { cls := 8, slots := #[.long 12], vm := .none },
  { cls := 8, slots := #[.long 13], vm := .none },
  { cls := 8, slots := #[.long 14], vm := .none },
  { cls := 8, slots := #[.long 15], vm := .none },
  { cls := 8, slots := #[.long 16], vm := .none },
  { cls := 8, slots := #[.long 17], vm := .none },
  { cls := 8, slots := #[.long 18], vm := .none },
  { cls := 8, slots := #[.long 19], vm := .none },
  { cls := 8, slots := #[.long 20], vm := .none },
  { cls := 8, slots := #[.long 21], vm := .none },
  { cls := 8, slots := #[.long 22], vm := .none },
  { cls := 8, slots := #[.long 23], vm := .none },
  { cls := 8, slots := #[.long 24], vm := .none },
  { cls := 8, slots := #[.long 25], vm := .none },
  { cls := 8, slots := #[.long 26], vm := .none },
  { cls := 8, slots := #[.long 27], vm := .none },
  { cls := 8, slots := #[.long 28], vm := .none },
  { cls := 8, slots := #[.long 29], vm := .none },
  { cls := 8, slots := #[.long 30], vm := .none },
  { cls := 8, slots := #[.long 31], vm := .none },
  { cls := 8, slots := #[.long 32], vm := .none },
  { cls := 8, slots := #[.long 33], vm := .none },
  { cls := 8, slots := #[.long 34], vm := .none },
  { cls := 8, slots := #[.long 35], vm := .none },
  { cls := 8, slots := #[.long 36], vm := .none },
  { cls := 8, slots := #[.long 37], vm := .none },
  { cls := 8, slots := #[.long 38], vm := .none },
  { cls := 8, slots := #[.long 39], vm := .none },
  { cls := 8, slots := #[.long 40], vm := .none },
  { cls := 8, slots := #[.long 41], vm := .none },
  { cls := 8, slots := #[.long 42], vm := .none },
  { cls := 8, slots := #[.long 43], vm := .none },
  { cls := 8, slots := #[.long 44], vm := .none },
  { cls := 8, slots := #[.long 45], vm := .none },
  { cls := 8, slots := #[.long 46], vm := .none },
  { cls := 8, slots := #[.long 47], vm := .none },
  { cls := 8, slots := #[.long 48], vm := .none },
  { cls := 8, slots := #[.long 49], vm := .none },
  { cls := 8, slots := #[.long 50], vm := .none },
  { cls := 8, slots := #[.long 51], vm := .none },
  { cls := 8, slots := #[.long 52], vm := .none },
  { cls := 8, slots := #[.long 53], vm := .none },
  { cls := 8, slots := #[.long 54], vm := .none },
  { cls := 8, slots := #[.long 55], vm := .none },
  { cls := 8, slots := #[.long 56], vm := .none },
  { cls := 8, slots := #[.long 57], vm := .none },
  { cls := 8, slots := #[.long 58], vm := .none },
  { cls := 8, slots := #[.long 59], vm := .none },
  { cls := 8, slots := #[.long 60], vm := .none },
  { cls := 8, slots := #[.long 61], vm := .none },
  { cls := 8, slots := #[.long 62], vm := .none },
  { cls := 8, slots := #[.long 63], vm := .none },
  { cls := 8, slots := #[.long 64], vm := .none },
  { cls := 8, slots := #[.long 65], vm := .none },
  { cls := 8, slots := #[.long 66], vm := .none },
  { cls := 8, slots := #[.long 67], vm := .none },
  { cls := 8, slots := #[.long 68], vm := .none },
  { cls := 8, slots := #[.long 69], vm := .none },
  { cls := 8, slots := #[.long 70], vm := .none },
  { cls := 8, slots := #[.long 71], vm := .none },
  { cls := 8, slots := #[.long 72], vm := .none },
  { cls := 8, slots := #[.long 73], vm := .none },
  { cls := 8, slots := #[.long 74], vm := .none },
  { cls := 8, slots := #[.long 75], vm := .none },
  { cls := 8, slots := #[.long 76], vm := .none },
  { cls := 8, slots := #[.long 77], vm := .none },
  { cls := 8, slots := #[.long 78], vm := .none },
  { cls := 8, slots := #[.long 79], vm := .none },
  { cls := 8, slots := #[.long 80], vm := .none },
  { cls := 8, slots := #[.long 81], vm := .none },
  { cls := 8, slots := #[.long 82], vm := .none },
  { cls := 8, slots := #[.long 83], vm := .none },
  { cls := 8, slots := #[.long 84], vm := .none },
  { cls := 8, slots := #[.long 85], vm := .none },
  { cls := 8, slots := #[.long 86], vm := .none },
  { cls := 8, slots := #[.long 87], vm := .none },
  { cls := 8, slots := #[.long 88], vm := .none },
  { cls := 8, slots := #[.long 89], vm := .none },
  { cls := 8, slots := #[.long 90], vm := .none },
  { cls := 8, slots := #[.long 91], vm := .none },
  { cls := 8, slots := #[.long 92], vm := .none },
  { cls := 8, slots := #[.long 93], vm := .none },
  { cls := 8, slots := #[.long 94], vm := .none },
  { cls := 8, slots := #[.long 95], vm := .none },
  { cls := 8, slots := #[.long 96], vm := .none },
  { cls := 8, slots := #[.long 97], vm := .none },
  { cls := 8, slots := #[.long 98], vm := .none },
  { cls := 8, slots := #[.long 99], vm := .none },
  { cls := 8, slots := #[.long 100], vm := .none },
  { cls := 8, slots := #[.long 101], vm := .none },
  { cls := 8, slots := #[.long 102], vm := .none },
  { cls := 8, slots := #[.long 103], vm := .none },
  { cls := 8, slots := #[.long 104], vm := .none },
  { cls := 8, slots := #[.long 105], vm := .none },
  { cls := 8, slots := #[.long 106], vm := .none },
  { cls := 8, slots := #[.long 107], vm := .none },
  { cls := 8, slots := #[.long 108], vm := .none },
  { cls := 8, slots := #[.long 109], vm := .none },
  { cls := 8, slots := #[.long 110], vm := .none },
  { cls := 8, slots := #[.long 111], vm := .none },
  { cls := 8, slots := #[.long 112], vm := .none },
  { cls := 8, slots := #[.long 113], vm := .none },
  { cls := 8, slots := #[.long 114], vm := .none },
  { cls := 8, slots := #[.long 115], vm := .none },
  { cls := 8, slots := #[.long 116], vm := .none },
  { cls := 8, slots := #[.long 117], vm := .none },
  { cls := 8, slots := #[.long 118], vm := .none },
  { cls := 8, slots := #[.long 119], vm := .none },
  { cls := 8, slots := #[.long 120], vm := .none },
  { cls := 8, slots := #[.long 121], vm := .none },
  { cls := 8, slots := #[.long 122], vm := .none },
  { cls := 8, slots := #[.long 123], vm := .none },
  { cls := 8, slots := #[.long 124], vm := .none },
  { cls := 8, slots := #[.long 125], vm := .none },
  { cls := 8, slots := #[.long 126], vm := .none },
  { cls := 8, slots := #[.long 127], vm := .none }]
def classes : Array Class := #[k0, k1, k2, k3, k4, k5, k6, k7, k8, k9, k10, k11, k12, k13, k14, k15]
def interned : List (Array UInt16 × Addr) := []
def slotsUsed : Nat := 515
def theMethod : MethodId := ⟨1, 1⟩
def args0 : Array Value := #[.long 3, .long 2, .long 70, .long 65, .long 4, .int 3]
def aboutOver (below : List Frame) : State where
  vm := { classes := classes, interned := interned.toArray }
  heap := heap
  slotsUsed := slotsUsed
  threads := #[{ frames := .invoking theMethod args0 :: below }]
def below0 : List Frame := [.native { method := ⟨0, 0⟩, args := #[] }]
def about1 : State := aboutOver below0
def p0 : Program := .bare "" "" ""
def e0 : Env := launch0.env 0 0 0
theorem w_frames : about1.frames = Frame.invoking theMethod args0 :: below0 := rfl
set_option maxRecDepth 65536 in
theorem w_args : argsFit about1.vm theMethod args0 = true := by decide +kernel
set_option maxRecDepth 65536 in
theorem w_heap : heapFits about1 = true := by decide +kernel
set_option maxRecDepth 65536 in
theorem w_runnable : about1.curStatus? = some .runnable := by decide +kernel
set_option maxRecDepth 65536 in
theorem w_alone : about1.alone = true := by decide +kernel
set_option maxRecDepth 65536 in
theorem w_named : about1.methodNamed? x = some theMethod := by decide +kernel
set_option maxRecDepth 65536 in
theorem w_hears : about1.hears theMethod below0 = true := by decide +kernel
set_option maxRecDepth 65536 in
theorem w_ripe : about1.ripe theMethod args0 below0 = true := by decide +kernel
theorem w_running : about1.status = .running := rfl
set_option maxRecDepth 65536 in
theorem w_room : about1.hasRoom e0.platform room_1 = true :=
  launch0.hasRoom_least _ room_1 (by decide +kernel) (by decide +kernel) (by decide +kernel) (by decide +kernel) (by decide +kernel) (by decide +kernel)
theorem allAtoms_all (ts : List Jvm.Cond) (a : Array Jvm.Value) (st : Jvm.State) : (allAtoms ts).before a st = ts.all (fun c => c.before a st) := by
  induction ts with
  | nil => rfl
  | cons c t ih =>
    show (Jvm.Cond.and c (allAtoms t)).before a st = _
    rw [Jvm.Cond.before_and, ih, List.all_cons]
def words1 : List Jvm.Cond := Jvm.Cond.code x code maxLocals ret :: tables_1
/-- a 'code' word, met by the world's own term for the bytes: nothing is compared byte by byte -/
theorem code_word {y : MethodName} {bytes : ByteArray} {mx : Nat} {rt : Option FieldType} {a : Array Value} {s : State} {m : MethodId} {meth : Method} {c : Code} (h1 : s.methodNamed? y = some m) (h2 : s.vm.method? m = some meth) (h3 : meth.code = some c) (h4 : c.code = bytes)
    (h5 : (c.maxLocals == mx && c.exceptionTable.isEmpty && decide (c.maxStack ≤ mostOperands) && decide (meth.sig.returnType = rt) && !meth.locks && decide (parseMethodDescriptor y.desc = some meth.sig)) = true) : (Jvm.Cond.code y bytes mx rt).before a s = true := by
  simp only [Bool.and_eq_true, beq_iff_eq, Bool.not_eq_true', decide_eq_true_eq] at h5
  obtain ⟨⟨⟨⟨⟨g1, g2⟩, g3⟩, g4⟩, g5⟩, g6⟩ := h5
  simp [Cond.before, Cond.holds, Cond.value, h1, h2, h3, h4, g1, g2, g3, g4, g5, g6]
def isCode : Jvm.Cond → Bool
  | .code _ _ _ _ => true
  | _ => false
theorem all_split {L : List Jvm.Cond} {P : Jvm.Cond → Bool} (h1 : L.all (fun c => isCode c || P c) = true) (h2 : ∀ c ∈ L.filter isCode, P c = true) : L.all P = true := by
  refine List.all_eq_true.mpr fun c hc => ?_
  have h := List.all_eq_true.mp h1 c hc
  rcases Bool.eq_false_or_eq_true (isCode c) with hi | hi
  · exact h2 c (List.mem_filter.mpr ⟨hc, hi⟩)
  · simpa [hi] using h
set_option maxRecDepth 65536 in
theorem w_c0 : (Jvm.Cond.code x code maxLocals ret).before args0 about1 = true := code_word (m := ⟨1, 1⟩) (meth := k1m1) (c := k1c1) (by decide +kernel) rfl rfl rfl (by decide +kernel)
set_option maxRecDepth 65536 in
theorem w_c1 : (Jvm.Cond.code ({ cls := "com/example/vestline/vestline/Holdings", name := "<init>", desc := "(IJJ)V" } : Jvm.MethodName) prog_31_method_1_code (6 : Nat) (Option.none : Option Jvm.ClassFile.FieldType)).before args0 about1 = true := code_word (m := ⟨2, 0⟩) (meth := k2m0) (c := k2c0) (by decide +kernel) rfl rfl rfl (by decide +kernel)
set_option maxRecDepth 65536 in
theorem w_c2 : (Jvm.Cond.code ({ cls := "java/lang/Object", name := "<init>", desc := "()V" } : Jvm.MethodName) object_method_1_code (1 : Nat) (Option.none : Option Jvm.ClassFile.FieldType)).before args0 about1 = true := code_word (m := ⟨0, 0⟩) (meth := k0m0) (c := k0c0) (by decide +kernel) rfl rfl rfl (by decide +kernel)
set_option maxRecDepth 65536 in
theorem w_c3 : (Jvm.Cond.code ({ cls := "com/example/vestline/vestline/Holdings", name := "equals", desc := "(Ljava/lang/Object;)Z" } : Jvm.MethodName) prog_31_method_6_code (3 : Nat) (Option.some Jvm.ClassFile.FieldType.boolean)).before args0 about1 = true := code_word (m := ⟨2, 1⟩) (meth := k2m1) (c := k2c1) (by decide +kernel) rfl rfl rfl (by decide +kernel)
set_option maxRecDepth 65536 in
theorem w_c4 : (Jvm.Cond.code ({ cls := "java/lang/Long", name := "valueOf", desc := "(J)Ljava/lang/Long;" } : Jvm.MethodName) jdk_35_method_24_code (3 : Nat) (Option.some (Jvm.ClassFile.FieldType.object "java/lang/Long"))).before args0 about1 = true := code_word (m := ⟨8, 0⟩) (meth := k8m0) (c := k8c0) (by decide +kernel) rfl rfl rfl (by decide +kernel)
set_option maxRecDepth 65536 in
theorem w_c5 : (Jvm.Cond.code ({ cls := "java/lang/Long", name := "<init>", desc := "(J)V" } : Jvm.MethodName) jdk_35_method_26_code (3 : Nat) (Option.none : Option Jvm.ClassFile.FieldType)).before args0 about1 = true := code_word (m := ⟨8, 1⟩) (meth := k8m1) (c := k8c1) (by decide +kernel) rfl rfl rfl (by decide +kernel)
set_option maxRecDepth 65536 in
theorem w_c6 : (Jvm.Cond.code ({ cls := "java/lang/Number", name := "<init>", desc := "()V" } : Jvm.MethodName) jdk_18_method_1_code (1 : Nat) (Option.none : Option Jvm.ClassFile.FieldType)).before args0 about1 = true := code_word (m := ⟨4, 0⟩) (meth := k4m0) (c := k4c0) (by decide +kernel) rfl rfl rfl (by decide +kernel)
def codes1 : List Jvm.Cond := [Jvm.Cond.code x code maxLocals ret, Jvm.Cond.code ({ cls := "com/example/vestline/vestline/Holdings", name := "<init>", desc := "(IJJ)V" } : Jvm.MethodName) prog_31_method_1_code (6 : Nat) (Option.none : Option Jvm.ClassFile.FieldType), Jvm.Cond.code ({ cls := "java/lang/Object", name := "<init>", desc := "()V" } : Jvm.MethodName) object_method_1_code (1 : Nat) (Option.none : Option Jvm.ClassFile.FieldType), Jvm.Cond.code ({ cls := "com/example/vestline/vestline/Holdings", name := "equals", desc := "(Ljava/lang/Object;)Z" } : Jvm.MethodName) prog_31_method_6_code (3 : Nat) (Option.some Jvm.ClassFile.FieldType.boolean), Jvm.Cond.code ({ cls := "java/lang/Long", name := "valueOf", desc := "(J)Ljava/lang/Long;" } : Jvm.MethodName) jdk_35_method_24_code (3 : Nat) (Option.some (Jvm.ClassFile.FieldType.object "java/lang/Long")), Jvm.Cond.code ({ cls := "java/lang/Long", name := "<init>", desc := "(J)V" } : Jvm.MethodName) jdk_35_method_26_code (3 : Nat) (Option.none : Option Jvm.ClassFile.FieldType), Jvm.Cond.code ({ cls := "java/lang/Number", name := "<init>", desc := "()V" } : Jvm.MethodName) jdk_18_method_1_code (1 : Nat) (Option.none : Option Jvm.ClassFile.FieldType)]
set_option maxRecDepth 65536 in
theorem codes_eq : words1.filter isCode = codes1 := rfl
theorem w_codes : ∀ c ∈ words1.filter isCode, c.before args0 about1 = true := by
  rw [codes_eq]
  intro c hc
  simp only [codes1, List.mem_cons, List.not_mem_nil, or_false] at hc
  rcases hc with rfl | rfl | rfl | rfl | rfl | rfl | rfl
  · exact w_c0
  · exact w_c1
  · exact w_c2
  · exact w_c3
  · exact w_c4
  · exact w_c5
  · exact w_c6
set_option maxRecDepth 65536 in
theorem w_t1 : (words1.take 24).all (fun c => isCode c || c.before args0 about1) = true := by decide +kernel
set_option maxRecDepth 65536 in
theorem w_t2 : ((words1.drop 24).take 24).all (fun c => isCode c || c.before args0 about1) = true := by decide +kernel
set_option maxRecDepth 65536 in
theorem w_t3 : ((words1.drop 24).drop 24).all (fun c => isCode c || c.before args0 about1) = true := by decide +kernel
theorem w_tables : (allAtoms (Jvm.Cond.code x code maxLocals ret :: tables_1)).before args0 about1 = true := by
  rw [allAtoms_all]
  show words1.all (fun c => c.before args0 about1) = true
  refine all_split ?_ w_codes
  rw [← List.take_append_drop 24 words1, List.all_append, w_t1, ← List.take_append_drop 24 (words1.drop 24), List.all_append, w_t2, w_t3]
  rfl
set_option maxRecDepth 65536 in
theorem w_rest : rest_1_c.before args0 about1 = true := by decide +kernel
set_option maxRecDepth 65536 in
theorem w_case : (Jvm.Cond.and given_1 narrow_1).before args0 about1 = true := by decide +kernel
theorem w_applies : (headSpec (Jvm.Cond.code x code maxLocals ret :: tables_1) room_1).applies x e0.platform about1 = true :=
  (Spec.applies_iff w_frames).mpr ⟨w_running, w_runnable, w_alone, w_named, w_hears, w_ripe, w_room, w_tables⟩
theorem atStart : AtStart classFile x code maxLocals ret World_1 tables_1 room_1 Calls_1 rest_1 Pre_1 launch0 p0 e0 about1 theMethod args0 below0 :=
  ⟨lists_1, trivial, launch0.admits_env _ _ _, launch0.least_env, fairChoices_fair.cas, fairChoices_fair.clock, w_frames, w_args, w_heap, w_applies, trivial, w_rest, w_case⟩
end start1
theorem witness_1 : WitnessClaimed_1 := ⟨start1.p0, start1.e0, start1.about1, start1.theMethod, start1.args0, start1.below0, start1.atStart⟩
end Jvm.Pilot.@@N@@
