import JvmDerived
import JvmDerived.Pilot.@@N@@Statement
import JvmDerived.Pilot.@@N@@Code
set_option linter.unusedVariables false
set_option linter.unusedSimpArgs false
@@BLOCK:NumsL.lean.txt@@
namespace Jvm.RoadKit
open Sem ClassFile Op Lib Jvm.Stand Jvm.Free Jvm.LawKit
section New
variable {p : Program} {l : Launch} {e : Env} {R : Room} {s : State} {m : MethodId} {args : Array Value} {below : List Frame} {meth : Method} {c : Code} {T : State} {locs : List Loc} {cells slots : Nat}
theorem retI (X : Stand p l e R s m args below meth c T locs cells slots) (hx : p.tables.exec = Jvm.exec) {pc : Nat} {Ls : Array Slot} {z : Int32} {rest : List Value} (hret : meth.sig.returnType = some .int) (hd : decode c.code pc = .ok (.ireturn, 1)) {fs : List Frame}
    (hl : ∀ (f : JFrame) (acts : List Action), f.method = m → f.locked = none → f.entered = [] → (doReturn e (T.setTop f) acts (some (.int z))).1 = T.setFrames fs) : Steps p.tables e below (T.setTop (mkF m pc Ls (.int z :: rest))) (T.setFrames fs) := by
  have hm' : T.vm.method? m = some meth := X.method'
  have hn : narrow .int (.int z) = .int z := rfl
  show Steps p.tables e below (T.setTop { method := m, pc := pc, locals := Ls, stack := _ :: rest, locked := none }) _
  jvm_step X.here [X.here.top, hx, hd, hm', hret, hn]
  first | (intro acts; rw [hl _ acts rfl rfl rfl]) | rw [hl _ _ rfl rfl rfl]
  exact Steps.refl _
end New
end Jvm.RoadKit
namespace Jvm.Pilot.@@N@@
open Jvm Jvm.ClassFile Sem Op Lib Jvm.Free Jvm.Stand Jvm.LawKit Jvm.RoadKit Bundle Jvm.Pilot.@@N@@.Jvm.D
theorem own_sta_keep {Z : State} {h h' : Heap} {C n d : String} {w : Value} (F : Sta Z h C n d w) (K : Keep h h' []) : Sta Z h' C n d w :=
  F.ext ⟨K.1, fun a c q => K.2.1 a c q nin0⟩
theorem own_rem (x y : Int32) : x - (x / y) * y = x % y := by
  refine Int32.toInt_inj.mp ?_
  have lo := (x % y).le_toInt
  have hi := (x % y).toInt_lt
  have t : (x % y).toInt = x.toInt - x.toInt.tdiv y.toInt * y.toInt := by
    rw [Int32.toInt_mod, Int.tmod_def, Int.mul_comm]
  have u : (x - (x / y) * y).toInt = (x.toInt - x.toInt.tdiv y.toInt * y.toInt).bmod (2 ^ 32) := by
    simp only [Int32.toInt_sub, Int32.toInt_mul, Int32.toInt_div, Int.bmod_mul_bmod, Int.sub_bmod_bmod]
  rw [u, ← t, Int.bmod_def]
  omega
theorem d2_0 : decode jdk_43_method_3_code 0 = .ok (.iload_n 0, 1) := by decide +kernel
theorem d2_1 : decode jdk_43_method_3_code 1 = .ok (.sipush 255, 3) := by decide +kernel
theorem d2_4 : decode jdk_43_method_3_code 4 = .ok (.if_icmp .gt 7, 3) := by decide +kernel
theorem d2_7 : decode jdk_43_method_3_code 7 = .ok (.iconst 1, 1) := by decide +kernel
theorem d2_8 : decode jdk_43_method_3_code 8 = .ok (.goto 4, 3) := by decide +kernel
theorem d2_11 : decode jdk_43_method_3_code 11 = .ok (.iconst 0, 1) := by decide +kernel
theorem d2_12 : decode jdk_43_method_3_code 12 = .ok (.ireturn, 1) := by decide +kernel
theorem pn2 : plainName "java/lang/StringLatin1" = true := by first | (simp [plainName, overriddenIn]; done) | decide +kernel
theorem ef2 (m : MethodId) (p1 : Int32) : entryFrame m #[(.int p1)] 1 = mkF m 0 #[.val (.int p1)] [] := by first | (simp [entryFrame, mkF, argsToLocals, Value.category]; done) | rfl
def own_can (p1 : Int32) : Int32 := (if (255 : Int32) < p1 then (0 : Int32) else (1 : Int32))
def Q2 (Z : State) (p1 : Int32) (h0 : Heap) (n0 : Nat) (v : Option Value) (h : Heap) (L : List Loc) : Prop := v = some (.int (own_can p1)) ∧ Fr n0 L ∧ h = h0
set_option maxRecDepth 65536 in
set_option maxHeartbeats 40000000 in
theorem rm2 (l : Launch) (Z : State) (a0 : Array Value) (hw : ∀ d ∈ tables_1, d.before a0 Z = true) (ws : List Jvm.Cond) (p1 : Int32) (h0 : Heap) (n0 : Nat) (Z0 : n0 ≤ h0.size) :
    MetFree l (⟨"java/lang/StringLatin1", "canEncode", "(C)Z"⟩ : MethodName) (head1 (Jvm.Cond.code (⟨"java/lang/StringLatin1", "canEncode", "(C)Z"⟩ : MethodName) jdk_43_method_3_code 1 (some .boolean) :: ws) ({ frames := 0, cells := 0, slots := 0, locals := 0 } : Room)) (fun a U => a = #[(.int p1)] ∧ Z.Warmed39 U.vm ∧ U.heap = h0) (fun _ _ _ _ _ => True) (fun _ U o U' => ∃ v L, o = .returned v ∧ Q2 Z p1 h0 n0 v U'.heap L ∧ FrameEnd U o U' L ({ frames := 0, cells := 0, slots := 0, locals := 0 } : Room).cells ({ frames := 0, cells := 0, slots := 0, locals := 0 } : Room).slots) := by
  refine MetFree.of_bodySF (plainFor_of_name pn2) hisR ?_
  intro p e s m args below meth c s₁ Bd hml0 hP hK
  obtain ⟨rfl, hZ, hh⟩ := hP
  have hx := Bd.exec
  have hby := Bd.bytes
  have hml : c.maxLocals = 1 := hml0
  have hown : s.vm.findClass "java/lang/StringLatin1" = some m.cls := findClass_of_methodNamed Bd.named
  have hnm := (name_of_methodNamed Bd.named Bd.method).1
  have X0 : Stand p l e ({ frames := 0, cells := 0, slots := 0, locals := 0 } : Room) s m #[(.int p1)] below meth c s₁ [] 0 0 := Stand.of_body Bd
  have e0 : s₁.heap = h0 := by rw [← hh, Bd.state]; rfl
  have N0 := Fr.nil n0
  have pre0 : ∀ t, Steps p.tables e below (s₁.setTop (mkF m 0 #[.val (.int p1)] [])) t → Steps p.tables e below (s₁.setTop (entryFrame m #[(.int p1)] 1)) t := fun t k => castTop (ef2 m p1) k
  have c1 : ∀ t, Steps p.tables e below (s₁.setTop (mkF m 4 #[.val (.int p1)] [(.int (255 : Int32)), (.int p1)])) t → Steps p.tables e below (s₁.setTop (entryFrame m #[(.int p1)] 1)) t := fun t kt => by
    refine pre0 _ ?_
    show Steps p.tables e below (s₁.setTop (mkF m 0 #[.val (.int p1)] [])) _
    refine XS.iloadN X0.here hx rfl (hb hby d2_0) rfl ?_
    show Steps p.tables e below (s₁.setTop (mkF m 1 #[.val (.int p1)] [(.int p1)])) _
    refine XS.sipush X0.here hx rfl (hb hby d2_1) ?_
    exact kt
  by_cases hc4 : (255 : Int32) < p1
  · obtain ⟨fs, hr, hrun, hended, hW, hsame⟩ := X0.leave (v := some (.int (0 : Int32))) (fun h => by rw [Bd.returns] at h; cases h)
    refine ⟨_, _, c1 _ ?_, hrun, hended, _, _, rfl, ?_, ⟨_, rfl⟩, hW, hsame.mono (by decide) (by decide)⟩
    · show Steps p.tables e below (s₁.setTop (mkF m 4 #[.val (.int p1)] [(.int (255 : Int32)), (.int p1)])) _
      refine XS.icmpYes X0.here hx rfl (pc0 := 4) (pc' := 11) rfl (hb hby d2_4) rfl (tlt hc4).2.2.1 (by decide) (by decide) ?_
      show Steps p.tables e below (s₁.setTop (mkF m 11 #[.val (.int p1)] [])) _
      refine XS.iconst X0.here hx rfl (hb hby d2_11) ?_
      show Steps p.tables e below (s₁.setTop (mkF m 12 #[.val (.int p1)] [(.int (0 : Int32))])) _
      exact retN X0 hx (t := .boolean) Bd.returns (by simp) (hb hby d2_12) hr
    · show Q2 Z p1 h0 n0 _ s₁.heap _
      rw [e0]
      have hv : (own_can p1) = (0 : Int32) := by unfold own_can; rw [if_pos hc4]
      exact ⟨by rw [hv], N0, rfl⟩
  · obtain ⟨fs, hr, hrun, hended, hW, hsame⟩ := X0.leave (v := some (.int (1 : Int32))) (fun h => by rw [Bd.returns] at h; cases h)
    refine ⟨_, _, c1 _ ?_, hrun, hended, _, _, rfl, ?_, ⟨_, rfl⟩, hW, hsame.mono (by decide) (by decide)⟩
    · show Steps p.tables e below (s₁.setTop (mkF m 4 #[.val (.int p1)] [(.int (255 : Int32)), (.int p1)])) _
      refine XS.icmpNo X0.here hx rfl (hb hby d2_4) rfl (flt hc4).2.2.1 ?_
      show Steps p.tables e below (s₁.setTop (mkF m 7 #[.val (.int p1)] [])) _
      refine XS.iconst X0.here hx rfl (hb hby d2_7) ?_
      show Steps p.tables e below (s₁.setTop (mkF m 8 #[.val (.int p1)] [(.int (1 : Int32))])) _
      refine XS.goto X0.here hx rfl (pc0 := 8) (pc' := 12) rfl (hb hby d2_8) (by decide) (by decide) ?_
      show Steps p.tables e below (s₁.setTop (mkF m 12 #[.val (.int p1)] [(.int (1 : Int32))])) _
      exact retN X0 hx (t := .boolean) Bd.returns (by simp) (hb hby d2_12) hr
    · show Q2 Z p1 h0 n0 _ s₁.heap _
      rw [e0]
      have hv : (own_can p1) = (1 : Int32) := by unfold own_can; rw [if_neg hc4]
      exact ⟨by rw [hv], N0, rfl⟩
theorem d3_0 : decode jdk_43_method_46_code 0 = .ok (.iconst 1, 1) := by decide +kernel
theorem d3_1 : decode jdk_43_method_46_code 1 = .ok (.newarray .byte, 2) := by decide +kernel
theorem d3_3 : decode jdk_43_method_46_code 3 = .ok (.dup, 1) := by decide +kernel
theorem d3_4 : decode jdk_43_method_46_code 4 = .ok (.iconst 0, 1) := by decide +kernel
theorem d3_5 : decode jdk_43_method_46_code 5 = .ok (.iload_n 0, 1) := by decide +kernel
theorem d3_6 : decode jdk_43_method_46_code 6 = .ok (.i2b, 1) := by decide +kernel
theorem d3_7 : decode jdk_43_method_46_code 7 = .ok (.bastore, 1) := by decide +kernel
theorem d3_8 : decode jdk_43_method_46_code 8 = .ok (.areturn, 1) := by decide +kernel
theorem pn3 : plainName "java/lang/StringLatin1" = true := by first | (simp [plainName, overriddenIn]; done) | decide +kernel
theorem ef3 (m : MethodId) (p1 : Int32) : entryFrame m #[(.int p1)] 1 = mkF m 0 #[.val (.int p1)] [] := by first | (simp [entryFrame, mkF, argsToLocals, Value.category]; done) | rfl
def Q3 (Z : State) (p1 : Int32) (h0 : Heap) (n0 : Nat) (v : Option Value) (h : Heap) (L : List Loc) : Prop := ∃ r : Addr, v = some (.ref r) ∧ Fr n0 L ∧ Keep h0 h []
set_option maxRecDepth 65536 in
set_option maxHeartbeats 40000000 in
theorem rm3 (l : Launch) (Z : State) (a0 : Array Value) (hw : ∀ d ∈ tables_1, d.before a0 Z = true) (ws : List Jvm.Cond) (p1 : Int32) (h0 : Heap) (n0 : Nat) (Z0 : n0 ≤ h0.size) :
    MetFree l (⟨"java/lang/StringLatin1", "toBytes", "(C)[B"⟩ : MethodName) (head1 (Jvm.Cond.code (⟨"java/lang/StringLatin1", "toBytes", "(C)[B"⟩ : MethodName) jdk_43_method_46_code 1 (some (.array .byte)) :: ws) ({ frames := 0, cells := 1, slots := 1, locals := 0 } : Room)) (fun a U => a = #[(.int p1)] ∧ Z.Warmed39 U.vm ∧ U.heap = h0) (fun _ _ _ _ _ => True) (fun _ U o U' => ∃ v L, o = .returned v ∧ Q3 Z p1 h0 n0 v U'.heap L ∧ FrameEnd U o U' L ({ frames := 0, cells := 1, slots := 1, locals := 0 } : Room).cells ({ frames := 0, cells := 1, slots := 1, locals := 0 } : Room).slots) := by
  refine MetFree.of_bodySF (plainFor_of_name pn3) hisR ?_
  intro p e s m args below meth c s₁ Bd hml0 hP hK
  obtain ⟨rfl, hZ, hh⟩ := hP
  have hx := Bd.exec
  have hby := Bd.bytes
  have hml : c.maxLocals = 1 := hml0
  have hown : s.vm.findClass "java/lang/StringLatin1" = some m.cls := findClass_of_methodNamed Bd.named
  have hnm := (name_of_methodNamed Bd.named Bd.method).1
  have X0 : Stand p l e ({ frames := 0, cells := 1, slots := 1, locals := 0 } : Room) s m #[(.int p1)] below meth c s₁ [] 0 0 := Stand.of_body Bd
  have e0 : s₁.heap = h0 := by rw [← hh, Bd.state]; rfl
  have N0 := Fr.nil n0
  have pre0 : ∀ t, Steps p.tables e below (s₁.setTop (mkF m 0 #[.val (.int p1)] [])) t → Steps p.tables e below (s₁.setTop (entryFrame m #[(.int p1)] 1)) t := fun t k => castTop (ef3 m p1) k
  obtain ⟨T1, h1, k1, X1, e1, E1, A1, st1⟩ := newP X0 hx hZ (hw _ (List.mem_of_getElem? (i := 15) rfl)) e0 (g := (mkF m 1 #[.val (.int p1)] [(.int (1 : Int32))])) rfl (hb hby d3_1) rfl (by decide) (cap := 1) (by decide) (by decide) (by decide) (by decide)
  obtain ⟨b1, g1⟩ : ∃ z, z = h0.size := ⟨_, rfl⟩
  rw [← g1] at A1 st1
  have g_b1 : n0 ≤ b1 := Nat.le_trans Z0 (Nat.le_of_eq g1.symm)
  have sz_b1 : h0.size ≤ b1 := Nat.le_trans (Keep.refl h0 []).1 (Nat.le_of_eq g1.symm)
  have K1 := (Keep.refl h0 []).ext E1
  have Z1 : n0 ≤ h1.size := Nat.le_trans Z0 E1.1
  have V1 : Arv Z h1 b1 k1 .byte (1 : Int32) [(.int (0 : Int32))] (.int (0 : Int32)) := (Arv.new A1 (by decide)).pad (pad_rep [] (.int (0 : Int32)) 1)
  have cp7_2 := V1
  obtain ⟨cl7_2, Ar7_2, qa7_2, Sa7_2, Na7_2, Ha7_2, Ga7_2⟩ := cp7_2
  have hin7_2 : ¬ ((0 : Int32) < 0 ∨ cl7_2.slots.size ≤ ((0 : Int32)).toNatClampNeg) := inb_of Sa7_2 ⟨by decide, by decide⟩
  obtain ⟨T3, h3, X3, e3, W3, st3⟩ := stB X1 hx hZ e1 Ar7_2 (j := (0 : Int32)) hin7_2 (g := (mkF m 7 #[.val (.int p1)] [(.int (p1.toInt8.toInt32)), (.int (0 : Int32)), (.ref b1), (.ref b1)])) rfl rfl (hb hby d3_7)
  have V3 : Arv Z h3 b1 k1 .byte (1 : Int32) [(.int (nar .byte (p1.toInt8.toInt32)))] (.int (0 : Int32)) := Arv.set Ar7_2 qa7_2 Sa7_2 Na7_2 Ha7_2 Ga7_2 (fits_nar_byte _) W3 0 rfl (Nat.le_of_ble_eq_true rfl)
  have N3 := Fr.snoc X3 N0 g_b1
  have K3 := K1.wr W3 (Or.inr sz_b1)
  have Z3 : n0 ≤ h3.size := Nat.le_trans Z1 (Keep.of_wr W3).1
  obtain ⟨fs, hr, hrun, hended, hW, hsame⟩ := X3.leave (v := some (.ref b1)) (fun h => by rw [Bd.returns] at h; cases h)
  refine ⟨_, _, pre0 _ ?_, hrun, hended, _, _, rfl, ?_, ⟨_, rfl⟩, hW, hsame.mono (by decide) (by decide)⟩
  · show Steps p.tables e below (s₁.setTop (mkF m 0 #[.val (.int p1)] [])) _
    refine XS.iconst X0.here hx rfl (hb hby d3_0) ?_
    show Steps p.tables e below (s₁.setTop (mkF m 1 #[.val (.int p1)] [(.int (1 : Int32))])) _
    refine st1 _ ?_
    show Steps p.tables e below (T1.setTop (mkF m 3 #[.val (.int p1)] [(.ref b1)])) _
    refine XS.dup X1.here hx rfl (hb hby d3_3) rfl rfl ?_
    show Steps p.tables e below (T1.setTop (mkF m 4 #[.val (.int p1)] [(.ref b1), (.ref b1)])) _
    refine XS.iconst X1.here hx rfl (hb hby d3_4) ?_
    show Steps p.tables e below (T1.setTop (mkF m 5 #[.val (.int p1)] [(.int (0 : Int32)), (.ref b1), (.ref b1)])) _
    refine XS.iloadN X1.here hx rfl (hb hby d3_5) rfl ?_
    show Steps p.tables e below (T1.setTop (mkF m 6 #[.val (.int p1)] [(.int p1), (.int (0 : Int32)), (.ref b1), (.ref b1)])) _
    refine XS.i2b X1.here hx rfl (hb hby d3_6) rfl ?_
    show Steps p.tables e below (T1.setTop (mkF m 7 #[.val (.int p1)] [(.int (p1.toInt8.toInt32)), (.int (0 : Int32)), (.ref b1), (.ref b1)])) _
    refine st3 _ ?_
    show Steps p.tables e below (T3.setTop (mkF m 8 #[.val (.int p1)] [(.ref b1)])) _
    jvm_step X3.here [X3.here.top, hx, (hb hby d3_8), X3.method', Bd.returns, Value.isRef, FieldType.isReference]
    first | (intro acts; rw [hr _ acts rfl rfl rfl]) | rw [hr _ _ rfl rfl rfl]
    exact Steps.refl _
  · show Q3 Z p1 h0 n0 _ T3.heap _
    rw [e3]
    exact ⟨_, rfl, N3, K3⟩
theorem d4_0 : decode jdk_42_method_151_code 0 = .ok (.aload_n 0, 1) := by decide +kernel
theorem d4_1 : decode jdk_42_method_151_code 1 = .ok (.invokespecial 1, 3) := by decide +kernel
theorem d4_4 : decode jdk_42_method_151_code 4 = .ok (.aload_n 0, 1) := by decide +kernel
theorem d4_5 : decode jdk_42_method_151_code 5 = .ok (.aload_n 1, 1) := by decide +kernel
theorem d4_6 : decode jdk_42_method_151_code 6 = .ok (.putfield 9, 3) := by decide +kernel
theorem d4_9 : decode jdk_42_method_151_code 9 = .ok (.aload_n 0, 1) := by decide +kernel
theorem d4_10 : decode jdk_42_method_151_code 10 = .ok (.iload_n 2, 1) := by decide +kernel
theorem d4_11 : decode jdk_42_method_151_code 11 = .ok (.putfield 15, 3) := by decide +kernel
theorem d4_14 : decode jdk_42_method_151_code 14 = .ok (.return_, 1) := by decide +kernel
theorem pn4 : plainName "java/lang/String" = true := by first | (simp [plainName, overriddenIn]; done) | decide +kernel
theorem ef4 (m : MethodId) (a1 : Addr) (a2 : Addr) (p3 : Int32) : entryFrame m #[(.ref a1), (.ref a2), (.int p3)] 3 = mkF m 0 #[.val (.ref a1), .val (.ref a2), .val (.int p3)] [] := by first | (simp [entryFrame, mkF, argsToLocals, Value.category]; done) | rfl
def Q4 (Z : State) (a1 : Addr) (a2 : Addr) (p3 : Int32) (h0 : Heap) (n0 : Nat) (v : Option Value) (h : Heap) (L : List Loc) : Prop := v = none ∧ Fr n0 L ∧ Keep h0 h [a1] ∧ Exa Z h a1 "java/lang/String" ∧ Fld Z h a1 "java/lang/String" "value" "[B" (.ref a2) ∧ Fld Z h a1 "java/lang/String" "coder" "B" (.int (p3.toInt8.toInt32))
set_option maxRecDepth 65536 in
set_option maxHeartbeats 40000000 in
theorem rm4 (l : Launch) (Z : State) (a0 : Array Value) (hw : ∀ d ∈ tables_1, d.before a0 Z = true) (ws : List Jvm.Cond) (a1 : Addr) (a2 : Addr) (p3 : Int32) (h0 : Heap) (n0 : Nat) (Z0 : n0 ≤ h0.size) (E1 : Exa Z h0 a1 "java/lang/String") (F_value : Fld Z h0 a1 "java/lang/String" "value" "[B" .null) (F_coder : Fld Z h0 a1 "java/lang/String" "coder" "B" (.int (0 : Int32))) (g1 : n0 ≤ a1) :
    MetFree l (⟨"java/lang/String", "<init>", "([BB)V"⟩ : MethodName) (head1 (Jvm.Cond.code (⟨"java/lang/String", "<init>", "([BB)V"⟩ : MethodName) jdk_42_method_151_code 3 none :: ws) ({ frames := 1, cells := 0, slots := 0, locals := 12 } : Room)) (fun a U => a = #[(.ref a1), (.ref a2), (.int p3)] ∧ Z.Warmed39 U.vm ∧ U.heap = h0) (fun _ _ _ _ _ => True) (fun _ U o U' => ∃ v L, o = .returned v ∧ Q4 Z a1 a2 p3 h0 n0 v U'.heap L ∧ FrameEnd U o U' L ({ frames := 1, cells := 0, slots := 0, locals := 12 } : Room).cells ({ frames := 1, cells := 0, slots := 0, locals := 12 } : Room).slots) := by
  refine MetFree.of_bodySF (plainFor_of_name pn4) hisR ?_
  intro p e s m args below meth c s₁ Bd hml0 hP hK
  obtain ⟨rfl, hZ, hh⟩ := hP
  have hx := Bd.exec
  have hby := Bd.bytes
  have hml : c.maxLocals = 3 := hml0
  have hown : s.vm.findClass "java/lang/String" = some m.cls := findClass_of_methodNamed Bd.named
  have hnm := (name_of_methodNamed Bd.named Bd.method).1
  have X0 : Stand p l e ({ frames := 1, cells := 0, slots := 0, locals := 12 } : Room) s m #[(.ref a1), (.ref a2), (.int p3)] below meth c s₁ [] 0 0 := Stand.of_body Bd
  have e0 : s₁.heap = h0 := by rw [← hh, Bd.state]; rfl
  have N0 := Fr.nil n0
  have pre0 : ∀ t, Steps p.tables e below (s₁.setTop (mkF m 0 #[.val (.ref a1), .val (.ref a2), .val (.int p3)] [])) t → Steps p.tables e below (s₁.setTop (entryFrame m #[(.ref a1), (.ref a2), (.int p3)] 3)) t := fun t k => castTop (ef4 m a1 a2 p3) k
  obtain ⟨T1, X1, e1, st1⟩ := initO X0 hx hZ hown (hw _ (List.mem_of_getElem? (i := 20) rfl)) (hw _ (List.mem_of_getElem? (i := 21) rfl)) (hw _ (List.mem_of_getElem? (i := 22) rfl)) e0 (g := (mkF m 1 #[.val (.ref a1), .val (.ref a2), .val (.int p3)] [(.ref a1)])) rfl (by rw [hml]; rfl) rfl (hb hby d4_1) (by decide) (W := 0) (by show 2 * 0 + _ ≤ _; exact Nat.le_of_eq rfl) (by decide)
  obtain ⟨T2, h2, X2, e2, W2, st2⟩ := putF X1 hx hZ hown (host := "") (Or.inl (hw _ (List.mem_of_getElem? (i := 23) rfl))) Via.refl e1 F_value E1 (Or.inr ⟨(hw _ (List.mem_of_getElem? (i := 24) rfl)), rfl, hnm⟩) (hw _ (List.mem_of_getElem? (i := 11) rfl)) (ty := (.array .byte)) (by decide) rfl rfl (g := (mkF m 6 #[.val (.ref a1), .val (.ref a2), .val (.int p3)] [(.ref a2), (.ref a1)])) rfl rfl (hb hby d4_6)
  have f2_E_a1 := E1.wr W2
  have f2_F_a1_value := F_value.same W2
  have f2_F_a1_coder := F_coder.other W2 (Or.inr (slot_ne (Or.inr (hw _ (List.mem_of_getElem? (i := 26) rfl))) (Or.inr (hw _ (List.mem_of_getElem? (i := 24) rfl))) (by decide) (t := .byte) (t' := (.array .byte)) (by decide) (by decide)))
  have N2 := Fr.snoc X2 N0 g1
  have K2 := (Keep.refl h0 [a1]).wr W2 (Or.inl (List.mem_of_getElem? (i := 0) rfl))
  have Z2 : n0 ≤ h2.size := Nat.le_trans Z0 (Keep.of_wr W2).1
  obtain ⟨T3, h3, X3, e3, W3, st3⟩ := putFN X2 hx hZ hown (hw _ (List.mem_of_getElem? (i := 25) rfl)) Via.refl e2 f2_F_a1_coder f2_E_a1 (Or.inr ⟨(hw _ (List.mem_of_getElem? (i := 26) rfl)), rfl, hnm⟩) (hw _ (List.mem_of_getElem? (i := 11) rfl)) (ty := .byte) (v' := (.int (p3.toInt8.toInt32))) (by decide) rfl (fits_nar_byte _) (g := (mkF m 11 #[.val (.ref a1), .val (.ref a2), .val (.int p3)] [(.int p3), (.ref a1)])) rfl rfl (hb hby d4_11)
  have f3_E_a1 := f2_E_a1.wr W3
  have f3_F_a1_value := f2_F_a1_value.other W3 (Or.inr (slot_ne (Or.inr (hw _ (List.mem_of_getElem? (i := 24) rfl))) (Or.inr (hw _ (List.mem_of_getElem? (i := 26) rfl))) (by decide) (t := (.array .byte)) (t' := .byte) (by decide) (by decide)))
  have f3_F_a1_coder := f2_F_a1_coder.same W3
  have N3 := Fr.snoc X3 N2 g1
  have K3 := K2.wr W3 (Or.inl (List.mem_of_getElem? (i := 0) rfl))
  have Z3 : n0 ≤ h3.size := Nat.le_trans Z2 (Keep.of_wr W3).1
  obtain ⟨fs, hr, hrun, hended, hW, hsame⟩ := X3.leave (v := none) (fun _ => rfl)
  refine ⟨_, _, pre0 _ ?_, hrun, hended, _, _, rfl, ?_, ⟨_, rfl⟩, hW, hsame.mono (by decide) (by decide)⟩
  · show Steps p.tables e below (s₁.setTop (mkF m 0 #[.val (.ref a1), .val (.ref a2), .val (.int p3)] [])) _
    refine XS.aloadN X0.here hx rfl (hb hby d4_0) rfl rfl ?_
    show Steps p.tables e below (s₁.setTop (mkF m 1 #[.val (.ref a1), .val (.ref a2), .val (.int p3)] [(.ref a1)])) _
    refine st1 _ ?_
    show Steps p.tables e below (T1.setTop (mkF m 4 #[.val (.ref a1), .val (.ref a2), .val (.int p3)] [])) _
    refine XS.aloadN X1.here hx rfl (hb hby d4_4) rfl rfl ?_
    show Steps p.tables e below (T1.setTop (mkF m 5 #[.val (.ref a1), .val (.ref a2), .val (.int p3)] [(.ref a1)])) _
    refine XS.aloadN X1.here hx rfl (hb hby d4_5) rfl rfl ?_
    show Steps p.tables e below (T1.setTop (mkF m 6 #[.val (.ref a1), .val (.ref a2), .val (.int p3)] [(.ref a2), (.ref a1)])) _
    refine st2 _ ?_
    show Steps p.tables e below (T2.setTop (mkF m 9 #[.val (.ref a1), .val (.ref a2), .val (.int p3)] [])) _
    refine XS.aloadN X2.here hx rfl (hb hby d4_9) rfl rfl ?_
    show Steps p.tables e below (T2.setTop (mkF m 10 #[.val (.ref a1), .val (.ref a2), .val (.int p3)] [(.ref a1)])) _
    refine XS.iloadN X2.here hx rfl (hb hby d4_10) rfl ?_
    show Steps p.tables e below (T2.setTop (mkF m 11 #[.val (.ref a1), .val (.ref a2), .val (.int p3)] [(.int p3), (.ref a1)])) _
    refine st3 _ ?_
    show Steps p.tables e below (T3.setTop (mkF m 14 #[.val (.ref a1), .val (.ref a2), .val (.int p3)] [])) _
    exact X3.returnOut hx Bd.returns (hb hby d4_14) hr
  · show Q4 Z a1 a2 p3 h0 n0 _ T3.heap _
    rw [e3]
    exact ⟨rfl, N3, K3, f3_E_a1, f3_F_a1_value, f3_F_a1_coder⟩
theorem own_can1 (p : Int32) (h : ¬ (255 : Int32) < p) : ¬ own_can p = 0 := by
  unfold own_can; rw [if_neg h]; decide
theorem d1_0 : decode jdk_42_method_139_code 0 = .ok (.getstatic 38, 3) := by decide +kernel
theorem d1_3 : decode jdk_42_method_139_code 3 = .ok (.ifCond .eq 23, 3) := by decide +kernel
theorem d1_6 : decode jdk_42_method_139_code 6 = .ok (.iload_n 0, 1) := by decide +kernel
theorem d1_7 : decode jdk_42_method_139_code 7 = .ok (.invokestatic 1015, 3) := by decide +kernel
theorem d1_10 : decode jdk_42_method_139_code 10 = .ok (.ifCond .eq 16, 3) := by decide +kernel
theorem d1_13 : decode jdk_42_method_139_code 13 = .ok (.new 10, 3) := by decide +kernel
theorem d1_16 : decode jdk_42_method_139_code 16 = .ok (.dup, 1) := by decide +kernel
theorem d1_17 : decode jdk_42_method_139_code 17 = .ok (.iload_n 0, 1) := by decide +kernel
theorem d1_18 : decode jdk_42_method_139_code 18 = .ok (.invokestatic 1018, 3) := by decide +kernel
theorem d1_21 : decode jdk_42_method_139_code 21 = .ok (.iconst 0, 1) := by decide +kernel
theorem d1_22 : decode jdk_42_method_139_code 22 = .ok (.invokespecial 209, 3) := by decide +kernel
theorem d1_25 : decode jdk_42_method_139_code 25 = .ok (.areturn, 1) := by decide +kernel
theorem pn1 : plainName "java/lang/String" = true := by first | (simp [plainName, overriddenIn]; done) | decide +kernel
theorem pd1_0 : parseMethodDescriptor "(C)Z" = some ⟨[.char], some .boolean⟩ := by decide +kernel
theorem pd1_1 : parseMethodDescriptor "(C)[B" = some ⟨[.char], some (.array .byte)⟩ := by decide +kernel
theorem pd1_2 : parseMethodDescriptor "([BB)V" = some ⟨[(.array .byte), .byte], none⟩ := by decide +kernel
theorem ef1 (m : MethodId) (p1 : Int32) : entryFrame m #[(.int p1)] 1 = mkF m 0 #[.val (.int p1)] [] := by first | (simp [entryFrame, mkF, argsToLocals, Value.category]; done) | rfl
def Q1 (Z : State) (p1 : Int32) (cs : Int32) (h0 : Heap) (n0 : Nat) (v : Option Value) (h : Heap) (L : List Loc) : Prop := ∃ r : Addr, v = some (.ref r) ∧ Fr n0 L ∧ Keep h0 h [] ∧ Exa Z h r "java/lang/String"
set_option maxRecDepth 65536 in
set_option maxHeartbeats 40000000 in
theorem rm1 (l : Launch) (Z : State) (a0 : Array Value) (hw : ∀ d ∈ tables_1, d.before a0 Z = true) (ws : List Jvm.Cond) (p1 : Int32) (cs : Int32) (h0 : Heap) (n0 : Nat) (Z0 : n0 ≤ h0.size) (S0 : Sta Z h0 "java/lang/String" "COMPACT_STRINGS" "Z" (.int cs)) (hcs : ¬ cs = (0 : Int32)) (hp : ¬ (255 : Int32) < p1) :
    MetFree l (⟨"java/lang/String", "valueOf", "(C)Ljava/lang/String;"⟩ : MethodName) (head1 (Jvm.Cond.code (⟨"java/lang/String", "valueOf", "(C)Ljava/lang/String;"⟩ : MethodName) jdk_42_method_139_code 1 (some (.object "java/lang/String")) :: ws) ({ frames := 2, cells := 2, slots := 5, locals := 27 } : Room)) (fun a U => a = #[(.int p1)] ∧ Z.Warmed39 U.vm ∧ U.heap = h0) (fun _ _ _ _ _ => True) (fun _ U o U' => ∃ v L, o = .returned v ∧ Q1 Z p1 cs h0 n0 v U'.heap L ∧ FrameEnd U o U' L ({ frames := 2, cells := 2, slots := 5, locals := 27 } : Room).cells ({ frames := 2, cells := 2, slots := 5, locals := 27 } : Room).slots) := by
  refine MetFree.of_bodySF (plainFor_of_name pn1) hisR ?_
  intro p e s m args below meth c s₁ Bd hml0 hP hK
  obtain ⟨rfl, hZ, hh⟩ := hP
  have hx := Bd.exec
  have hby := Bd.bytes
  have hml : c.maxLocals = 1 := hml0
  have hown : s.vm.findClass "java/lang/String" = some m.cls := findClass_of_methodNamed Bd.named
  have hnm := (name_of_methodNamed Bd.named Bd.method).1
  have X0 : Stand p l e ({ frames := 2, cells := 2, slots := 5, locals := 27 } : Room) s m #[(.int p1)] below meth c s₁ [] 0 0 := Stand.of_body Bd
  have e0 : s₁.heap = h0 := by rw [← hh, Bd.state]; rfl
  have N0 := Fr.nil n0
  have pre0 : ∀ t, Steps p.tables e below (s₁.setTop (mkF m 0 #[.val (.int p1)] [])) t → Steps p.tables e below (s₁.setTop (entryFrame m #[(.int p1)] 1)) t := fun t k => castTop (ef1 m p1) k
  obtain ⟨T1, X1, e1, st1⟩ := getS2 X0 hx hZ hown (host := "") (Or.inl (hw _ (List.mem_of_getElem? (i := 5) rfl))) Via.refl e0 S0 (g := (mkF m 0 #[.val (.int p1)] [])) rfl (hb hby d1_0)
  obtain ⟨_, _, ⟨T2, L2, k2, n2⟩, -, X2, ⟨Lc2, hQ2, l2, y2, z2⟩, st2⟩ := Jvm.LawKit.callS X1 hx (y := (⟨"java/lang/StringLatin1", "canEncode", "(C)Z"⟩ : MethodName)) hown (mvT hZ (hw _ (List.mem_of_getElem? (i := 6) rfl))) (mvT hZ (hw _ (List.mem_of_getElem? (i := 7) rfl))) (mvT hZ (hw _ (List.mem_of_getElem? (i := 8) rfl))) (mvT hZ (hw _ (List.mem_of_getElem? (i := 9) rfl))) (by decide) (backOf (W := 0) (rm2 l Z a0 hw [] p1 h0 n0 Z0 ) hZ (hw _ (List.mem_of_getElem? (i := 9) rfl)) (hw _ (List.mem_of_getElem? (i := 8) rfl)) (by decide) (by decide)) (g := (mkF m 7 #[.val (.int p1)] [(.int p1)])) rfl (by rw [hml]; rfl) (argsL := [(.int p1)]) (rest := []) (lenOf pd1_0 rfl) rfl (by show 2 * 0 + _ ≤ _; exact Nat.le_of_eq rfl) (hb hby d1_7) (fun _ _ => ⟨rfl, e1, (by decide : 0 + 0 ≤ _), (by decide : 0 + 0 ≤ _)⟩)
  dsimp only [Pt.U, Pt.locs, Pt.cells, Pt.slots] at X2 l2 y2 z2 st2 hQ2
  subst l2 y2 z2
  obtain ⟨rfl, N2q, e2⟩ := hQ2
  have N2 := Fr.app N0 N2q
  obtain ⟨T3, h3, X3, e3, E3, A3, D3, -, st3⟩ := newO X2 hx hZ hown (hw _ (List.mem_of_getElem? (i := 10) rfl)) (hw _ (List.mem_of_getElem? (i := 11) rfl)) (hw _ (List.mem_of_getElem? (i := 3) rfl)) e2 (g := (mkF m 13 #[.val (.int p1)] [])) rfl (hb hby d1_13) (by decide) (by decide)
  obtain ⟨b3, g3⟩ : ∃ z, z = h0.size := ⟨_, rfl⟩
  rw [← g3] at A3 D3 st3
  have f3_S_java_lang_String_COMPACT_STRINGS := S0.ext E3
  have g_b3 : n0 ≤ b3 := Nat.le_trans Z0 (Nat.le_of_eq g3.symm)
  have sz_b3 : h0.size ≤ b3 := Nat.le_trans (Keep.refl h0 []).1 (Nat.le_of_eq g3.symm)
  have K3 := (Keep.refl h0 []).ext E3
  have Z3 : n0 ≤ h3.size := Nat.le_trans Z0 E3.1
  have F3_value : Fld Z h3 b3 "java/lang/String" "value" "[B" .null := D3 (Or.inr (hw _ (List.mem_of_getElem? (i := 24) rfl))) (ty := (.array .byte)) (by decide)
  have F3_coder : Fld Z h3 b3 "java/lang/String" "coder" "B" (.int (0 : Int32)) := D3 (Or.inr (hw _ (List.mem_of_getElem? (i := 26) rfl))) (ty := .byte) (by decide)
  obtain ⟨_, _, ⟨T4, L4, k4, n4⟩, -, X4, ⟨Lc4, hQ4, l4, y4, z4⟩, st4⟩ := Jvm.LawKit.callS X3 hx (y := (⟨"java/lang/StringLatin1", "toBytes", "(C)[B"⟩ : MethodName)) hown (mvT hZ (hw _ (List.mem_of_getElem? (i := 12) rfl))) (mvT hZ (hw _ (List.mem_of_getElem? (i := 13) rfl))) (mvT hZ (hw _ (List.mem_of_getElem? (i := 8) rfl))) (mvT hZ (hw _ (List.mem_of_getElem? (i := 14) rfl))) (by decide) (backOf (W := 2) (rm3 l Z a0 hw [] p1 h3 n0 Z3 ) hZ (hw _ (List.mem_of_getElem? (i := 14) rfl)) (hw _ (List.mem_of_getElem? (i := 8) rfl)) (by decide) (by decide)) (g := (mkF m 18 #[.val (.int p1)] [(.int p1), (.ref b3), (.ref b3)])) rfl (by rw [hml]; rfl) (argsL := [(.int p1)]) (rest := [(.ref b3), (.ref b3)]) (lenOf pd1_1 rfl) rfl (by show 2 * 0 + _ ≤ _; exact Nat.le_of_eq rfl) (hb hby d1_18) (fun _ _ => ⟨rfl, e3, (by decide : 1 + 1 ≤ _), (by decide : 4 + 1 ≤ _)⟩)
  dsimp only [Pt.U, Pt.locs, Pt.cells, Pt.slots] at X4 l4 y4 z4 st4 hQ4
  subst l4 y4 z4
  obtain ⟨r4, rfl, N4q, K4q⟩ := hQ4
  have f4_S_java_lang_String_COMPACT_STRINGS := own_sta_keep f3_S_java_lang_String_COMPACT_STRINGS K4q
  have f4_E_b3 := A3.keep K4q
  have f4_F_b3_value := F3_value.keep K4q nin0
  have f4_F_b3_coder := F3_coder.keep K4q nin0
  have N4 := Fr.app N2 N4q
  have Z4 : n0 ≤ T4.heap.size := Nat.le_trans Z3 K4q.1
  have KK4 := Keep.trans K3 K4q all0
  obtain ⟨_, _, ⟨T5, L5, k5, n5⟩, -, X5, ⟨Lc5, hQ5, l5, y5, z5⟩, st5⟩ := X4.specialBack hx (y := (⟨"java/lang/String", "<init>", "([BB)V"⟩ : MethodName)) rfl hown (mvT hZ (hw _ (List.mem_of_getElem? (i := 16) rfl))) (mvT hZ (hw _ (List.mem_of_getElem? (i := 17) rfl))) (mvT hZ (hw _ (List.mem_of_getElem? (i := 19) rfl))) (by decide) (backOf (W := 1) (rm4 l Z a0 hw [] b3 r4 (0 : Int32) T4.heap n0 Z4 f4_E_b3 f4_F_b3_value f4_F_b3_coder g_b3) hZ (hw _ (List.mem_of_getElem? (i := 19) rfl)) (hw _ (List.mem_of_getElem? (i := 3) rfl)) (by decide) (by decide)) (g := (mkF m 22 #[.val (.int p1)] [(.int (0 : Int32)), (.ref r4), (.ref b3), (.ref b3)])) rfl (by rw [hml]; rfl) (Steps.refl _) (a := b3) (argsL := [(.ref r4), (.int (0 : Int32))]) (rest := [(.ref b3)]) (lenOf pd1_2 rfl) rfl (by show 2 * 0 + _ ≤ _; exact Nat.le_of_eq rfl) (hb hby d1_22) (fun _ _ => ⟨rfl, rfl, (by decide : 2 + 0 ≤ _), (by decide : 5 + 0 ≤ _)⟩)
  dsimp only [Pt.U, Pt.locs, Pt.cells, Pt.slots] at X5 l5 y5 z5 st5 hQ5
  subst l5 y5 z5
  obtain ⟨rfl, N5q, K5q, E5q, F5q_value, F5q_coder⟩ := hQ5
  have f5_E_b3 := f4_E_b3.keep K5q
  have N5 := Fr.app N4 N5q
  have Z5 : n0 ≤ T5.heap.size := Nat.le_trans Z4 K5q.1
  have KK5 := Keep.trans KK4 K5q (allS (Or.inr sz_b3) all0)
  obtain ⟨fs, hr, hrun, hended, hW, hsame⟩ := X5.leave (v := some (.ref b3)) (fun h => by rw [Bd.returns] at h; cases h)
  refine ⟨_, _, pre0 _ ?_, hrun, hended, _, _, rfl, ?_, ⟨_, rfl⟩, hW, hsame.mono (by decide) (by decide)⟩
  · show Steps p.tables e below (s₁.setTop (mkF m 0 #[.val (.int p1)] [])) _
    refine st1 _ ?_
    show Steps p.tables e below (T1.setTop (mkF m 3 #[.val (.int p1)] [(.int cs)])) _
    refine XS.ifNo X1.here hx rfl (hb hby d1_3) rfl ((if0 _ _).trans (feq hcs).1) ?_
    show Steps p.tables e below (T1.setTop (mkF m 6 #[.val (.int p1)] [])) _
    refine XS.iloadN X1.here hx rfl (hb hby d1_6) rfl ?_
    show Steps p.tables e below (T1.setTop (mkF m 7 #[.val (.int p1)] [(.int p1)])) _
    refine st2 _ ?_
    show Steps p.tables e below (T2.setTop (mkF m 10 #[.val (.int p1)] [(.int (own_can p1))])) _
    refine XS.ifNo X2.here hx rfl (hb hby d1_10) rfl ((if0 _ _).trans (feq (own_can1 _ hp)).1) ?_
    show Steps p.tables e below (T2.setTop (mkF m 13 #[.val (.int p1)] [])) _
    refine st3 _ ?_
    show Steps p.tables e below (T3.setTop (mkF m 16 #[.val (.int p1)] [(.ref b3)])) _
    refine XS.dup X3.here hx rfl (hb hby d1_16) rfl rfl ?_
    show Steps p.tables e below (T3.setTop (mkF m 17 #[.val (.int p1)] [(.ref b3), (.ref b3)])) _
    refine XS.iloadN X3.here hx rfl (hb hby d1_17) rfl ?_
    show Steps p.tables e below (T3.setTop (mkF m 18 #[.val (.int p1)] [(.int p1), (.ref b3), (.ref b3)])) _
    refine st4 _ ?_
    show Steps p.tables e below (T4.setTop (mkF m 21 #[.val (.int p1)] [(.ref r4), (.ref b3), (.ref b3)])) _
    refine XS.iconst X4.here hx rfl (hb hby d1_21) ?_
    show Steps p.tables e below (T4.setTop (mkF m 22 #[.val (.int p1)] [(.int (0 : Int32)), (.ref r4), (.ref b3), (.ref b3)])) _
    refine st5.trans ?_
    show Steps p.tables e below (T5.setTop (mkF m 25 #[.val (.int p1)] [(.ref b3)])) _
    jvm_step X5.here [X5.here.top, hx, (hb hby d1_25), X5.method', Bd.returns, Value.isRef, FieldType.isReference]
    first | (intro acts; rw [hr _ acts rfl rfl rfl]) | rw [hr _ _ rfl rfl rfl]
    exact Steps.refl _
  · show Q1 Z p1 cs h0 n0 _ T5.heap _
    exact ⟨_, rfl, N5, KK5, E5q⟩
theorem d6_0 : decode prog_50_method_1_code 0 = .ok (.aload_n 0, 1) := by decide +kernel
theorem d6_1 : decode prog_50_method_1_code 1 = .ok (.invokespecial 1, 3) := by decide +kernel
theorem d6_4 : decode prog_50_method_1_code 4 = .ok (.aload_n 0, 1) := by decide +kernel
theorem d6_5 : decode prog_50_method_1_code 5 = .ok (.aload_n 1, 1) := by decide +kernel
theorem d6_6 : decode prog_50_method_1_code 6 = .ok (.putfield 7, 3) := by decide +kernel
theorem d6_9 : decode prog_50_method_1_code 9 = .ok (.aload_n 0, 1) := by decide +kernel
theorem d6_10 : decode prog_50_method_1_code 10 = .ok (.iload_n 2, 1) := by decide +kernel
theorem d6_11 : decode prog_50_method_1_code 11 = .ok (.putfield 13, 3) := by decide +kernel
theorem d6_14 : decode prog_50_method_1_code 14 = .ok (.aload_n 0, 1) := by decide +kernel
theorem d6_15 : decode prog_50_method_1_code 15 = .ok (.iload_n 3, 1) := by decide +kernel
theorem d6_16 : decode prog_50_method_1_code 16 = .ok (.putfield 17, 3) := by decide +kernel
theorem d6_19 : decode prog_50_method_1_code 19 = .ok (.return_, 1) := by decide +kernel
theorem pn6 : plainName "com/example/braided_tour/braidedtour/model/Period" = true := by first | (simp [plainName, overriddenIn]; done) | decide +kernel
theorem ef6 (m : MethodId) (a1 : Addr) (a2 : Addr) (p3 : Int32) (p4 : Int32) : entryFrame m #[(.ref a1), (.ref a2), (.int p3), (.int p4)] 4 = mkF m 0 #[.val (.ref a1), .val (.ref a2), .val (.int p3), .val (.int p4)] [] := by first | (simp [entryFrame, mkF, argsToLocals, Value.category]; done) | rfl
def Q6 (Z : State) (a1 : Addr) (a2 : Addr) (p3 : Int32) (p4 : Int32) (h0 : Heap) (n0 : Nat) (v : Option Value) (h : Heap) (L : List Loc) : Prop := v = none ∧ Fr n0 L ∧ Keep h0 h [a1] ∧ Exa Z h a1 "com/example/braided_tour/braidedtour/model/Period" ∧ Fld Z h a1 "com/example/braided_tour/braidedtour/model/Period" "name" "Ljava/lang/String;" (.ref a2) ∧ Fld Z h a1 "com/example/braided_tour/braidedtour/model/Period" "fromHour" "I" (.int p3) ∧ Fld Z h a1 "com/example/braided_tour/braidedtour/model/Period" "toHour" "I" (.int p4)
set_option maxRecDepth 65536 in
set_option maxHeartbeats 40000000 in
theorem rm6 (l : Launch) (Z : State) (a0 : Array Value) (hw : ∀ d ∈ tables_1, d.before a0 Z = true) (ws : List Jvm.Cond) (a1 : Addr) (a2 : Addr) (p3 : Int32) (p4 : Int32) (h0 : Heap) (n0 : Nat) (Z0 : n0 ≤ h0.size) (E1 : Exa Z h0 a1 "com/example/braided_tour/braidedtour/model/Period") (F_name : Fld Z h0 a1 "com/example/braided_tour/braidedtour/model/Period" "name" "Ljava/lang/String;" .null) (F_fromHour : Fld Z h0 a1 "com/example/braided_tour/braidedtour/model/Period" "fromHour" "I" (.int (0 : Int32))) (F_toHour : Fld Z h0 a1 "com/example/braided_tour/braidedtour/model/Period" "toHour" "I" (.int (0 : Int32))) (g1 : n0 ≤ a1) :
    MetFree l (⟨"com/example/braided_tour/braidedtour/model/Period", "<init>", "(Ljava/lang/String;II)V"⟩ : MethodName) (head1 (Jvm.Cond.code (⟨"com/example/braided_tour/braidedtour/model/Period", "<init>", "(Ljava/lang/String;II)V"⟩ : MethodName) prog_50_method_1_code 4 none :: ws) ({ frames := 1, cells := 0, slots := 0, locals := 12 } : Room)) (fun a U => a = #[(.ref a1), (.ref a2), (.int p3), (.int p4)] ∧ Z.Warmed39 U.vm ∧ U.heap = h0) (fun _ _ _ _ _ => True) (fun _ U o U' => ∃ v L, o = .returned v ∧ Q6 Z a1 a2 p3 p4 h0 n0 v U'.heap L ∧ FrameEnd U o U' L ({ frames := 1, cells := 0, slots := 0, locals := 12 } : Room).cells ({ frames := 1, cells := 0, slots := 0, locals := 12 } : Room).slots) := by
  refine MetFree.of_bodySF (plainFor_of_name pn6) hisR ?_
  intro p e s m args below meth c s₁ Bd hml0 hP hK
  obtain ⟨rfl, hZ, hh⟩ := hP
  have hx := Bd.exec
  have hby := Bd.bytes
  have hml : c.maxLocals = 4 := hml0
  have hown : s.vm.findClass "com/example/braided_tour/braidedtour/model/Period" = some m.cls := findClass_of_methodNamed Bd.named
  have hnm := (name_of_methodNamed Bd.named Bd.method).1
  have X0 : Stand p l e ({ frames := 1, cells := 0, slots := 0, locals := 12 } : Room) s m #[(.ref a1), (.ref a2), (.int p3), (.int p4)] below meth c s₁ [] 0 0 := Stand.of_body Bd
  have e0 : s₁.heap = h0 := by rw [← hh, Bd.state]; rfl
  have N0 := Fr.nil n0
  have pre0 : ∀ t, Steps p.tables e below (s₁.setTop (mkF m 0 #[.val (.ref a1), .val (.ref a2), .val (.int p3), .val (.int p4)] [])) t → Steps p.tables e below (s₁.setTop (entryFrame m #[(.ref a1), (.ref a2), (.int p3), (.int p4)] 4)) t := fun t k => castTop (ef6 m a1 a2 p3 p4) k
  obtain ⟨T1, X1, e1, st1⟩ := initO X0 hx hZ hown (hw _ (List.mem_of_getElem? (i := 33) rfl)) (hw _ (List.mem_of_getElem? (i := 21) rfl)) (hw _ (List.mem_of_getElem? (i := 22) rfl)) e0 (g := (mkF m 1 #[.val (.ref a1), .val (.ref a2), .val (.int p3), .val (.int p4)] [(.ref a1)])) rfl (by rw [hml]; rfl) rfl (hb hby d6_1) (by decide) (W := 0) (by show 2 * 0 + _ ≤ _; exact Nat.le_of_eq rfl) (by decide)
  obtain ⟨T2, h2, X2, e2, W2, st2⟩ := putF X1 hx hZ hown (host := "") (Or.inl (hw _ (List.mem_of_getElem? (i := 34) rfl))) Via.refl e1 F_name E1 (Or.inr ⟨(hw _ (List.mem_of_getElem? (i := 35) rfl)), rfl, hnm⟩) (hw _ (List.mem_of_getElem? (i := 28) rfl)) (ty := (.object "java/lang/String")) (by decide) rfl rfl (g := (mkF m 6 #[.val (.ref a1), .val (.ref a2), .val (.int p3), .val (.int p4)] [(.ref a2), (.ref a1)])) rfl rfl (hb hby d6_6)
  have f2_E_a1 := E1.wr W2
  have f2_F_a1_name := F_name.same W2
  have f2_F_a1_fromHour := F_fromHour.other W2 (Or.inr (slot_ne (Or.inr (hw _ (List.mem_of_getElem? (i := 37) rfl))) (Or.inr (hw _ (List.mem_of_getElem? (i := 35) rfl))) (by decide) (t := .int) (t' := (.object "java/lang/String")) (by decide) (by decide)))
  have f2_F_a1_toHour := F_toHour.other W2 (Or.inr (slot_ne (Or.inr (hw _ (List.mem_of_getElem? (i := 39) rfl))) (Or.inr (hw _ (List.mem_of_getElem? (i := 35) rfl))) (by decide) (t := .int) (t' := (.object "java/lang/String")) (by decide) (by decide)))
  have N2 := Fr.snoc X2 N0 g1
  have K2 := (Keep.refl h0 [a1]).wr W2 (Or.inl (List.mem_of_getElem? (i := 0) rfl))
  have Z2 : n0 ≤ h2.size := Nat.le_trans Z0 (Keep.of_wr W2).1
  obtain ⟨T3, h3, X3, e3, W3, st3⟩ := putF X2 hx hZ hown (host := "") (Or.inl (hw _ (List.mem_of_getElem? (i := 36) rfl))) Via.refl e2 f2_F_a1_fromHour f2_E_a1 (Or.inr ⟨(hw _ (List.mem_of_getElem? (i := 37) rfl)), rfl, hnm⟩) (hw _ (List.mem_of_getElem? (i := 28) rfl)) (ty := .int) (by decide) rfl rfl (g := (mkF m 11 #[.val (.ref a1), .val (.ref a2), .val (.int p3), .val (.int p4)] [(.int p3), (.ref a1)])) rfl rfl (hb hby d6_11)
  have f3_E_a1 := f2_E_a1.wr W3
  have f3_F_a1_name := f2_F_a1_name.other W3 (Or.inr (slot_ne (Or.inr (hw _ (List.mem_of_getElem? (i := 35) rfl))) (Or.inr (hw _ (List.mem_of_getElem? (i := 37) rfl))) (by decide) (t := (.object "java/lang/String")) (t' := .int) (by decide) (by decide)))
  have f3_F_a1_fromHour := f2_F_a1_fromHour.same W3
  have f3_F_a1_toHour := f2_F_a1_toHour.other W3 (Or.inr (slot_ne (Or.inr (hw _ (List.mem_of_getElem? (i := 39) rfl))) (Or.inr (hw _ (List.mem_of_getElem? (i := 37) rfl))) (by decide) (t := .int) (t' := .int) (by decide) (by decide)))
  have N3 := Fr.snoc X3 N2 g1
  have K3 := K2.wr W3 (Or.inl (List.mem_of_getElem? (i := 0) rfl))
  have Z3 : n0 ≤ h3.size := Nat.le_trans Z2 (Keep.of_wr W3).1
  obtain ⟨T4, h4, X4, e4, W4, st4⟩ := putF X3 hx hZ hown (host := "") (Or.inl (hw _ (List.mem_of_getElem? (i := 38) rfl))) Via.refl e3 f3_F_a1_toHour f3_E_a1 (Or.inr ⟨(hw _ (List.mem_of_getElem? (i := 39) rfl)), rfl, hnm⟩) (hw _ (List.mem_of_getElem? (i := 28) rfl)) (ty := .int) (by decide) rfl rfl (g := (mkF m 16 #[.val (.ref a1), .val (.ref a2), .val (.int p3), .val (.int p4)] [(.int p4), (.ref a1)])) rfl rfl (hb hby d6_16)
  have f4_E_a1 := f3_E_a1.wr W4
  have f4_F_a1_name := f3_F_a1_name.other W4 (Or.inr (slot_ne (Or.inr (hw _ (List.mem_of_getElem? (i := 35) rfl))) (Or.inr (hw _ (List.mem_of_getElem? (i := 39) rfl))) (by decide) (t := (.object "java/lang/String")) (t' := .int) (by decide) (by decide)))
  have f4_F_a1_fromHour := f3_F_a1_fromHour.other W4 (Or.inr (slot_ne (Or.inr (hw _ (List.mem_of_getElem? (i := 37) rfl))) (Or.inr (hw _ (List.mem_of_getElem? (i := 39) rfl))) (by decide) (t := .int) (t' := .int) (by decide) (by decide)))
  have f4_F_a1_toHour := f3_F_a1_toHour.same W4
  have N4 := Fr.snoc X4 N3 g1
  have K4 := K3.wr W4 (Or.inl (List.mem_of_getElem? (i := 0) rfl))
  have Z4 : n0 ≤ h4.size := Nat.le_trans Z3 (Keep.of_wr W4).1
  obtain ⟨fs, hr, hrun, hended, hW, hsame⟩ := X4.leave (v := none) (fun _ => rfl)
  refine ⟨_, _, pre0 _ ?_, hrun, hended, _, _, rfl, ?_, ⟨_, rfl⟩, hW, hsame.mono (by decide) (by decide)⟩
  · show Steps p.tables e below (s₁.setTop (mkF m 0 #[.val (.ref a1), .val (.ref a2), .val (.int p3), .val (.int p4)] [])) _
    refine XS.aloadN X0.here hx rfl (hb hby d6_0) rfl rfl ?_
    show Steps p.tables e below (s₁.setTop (mkF m 1 #[.val (.ref a1), .val (.ref a2), .val (.int p3), .val (.int p4)] [(.ref a1)])) _
    refine st1 _ ?_
    show Steps p.tables e below (T1.setTop (mkF m 4 #[.val (.ref a1), .val (.ref a2), .val (.int p3), .val (.int p4)] [])) _
    refine XS.aloadN X1.here hx rfl (hb hby d6_4) rfl rfl ?_
    show Steps p.tables e below (T1.setTop (mkF m 5 #[.val (.ref a1), .val (.ref a2), .val (.int p3), .val (.int p4)] [(.ref a1)])) _
    refine XS.aloadN X1.here hx rfl (hb hby d6_5) rfl rfl ?_
    show Steps p.tables e below (T1.setTop (mkF m 6 #[.val (.ref a1), .val (.ref a2), .val (.int p3), .val (.int p4)] [(.ref a2), (.ref a1)])) _
    refine st2 _ ?_
    show Steps p.tables e below (T2.setTop (mkF m 9 #[.val (.ref a1), .val (.ref a2), .val (.int p3), .val (.int p4)] [])) _
    refine XS.aloadN X2.here hx rfl (hb hby d6_9) rfl rfl ?_
    show Steps p.tables e below (T2.setTop (mkF m 10 #[.val (.ref a1), .val (.ref a2), .val (.int p3), .val (.int p4)] [(.ref a1)])) _
    refine XS.iloadN X2.here hx rfl (hb hby d6_10) rfl ?_
    show Steps p.tables e below (T2.setTop (mkF m 11 #[.val (.ref a1), .val (.ref a2), .val (.int p3), .val (.int p4)] [(.int p3), (.ref a1)])) _
    refine st3 _ ?_
    show Steps p.tables e below (T3.setTop (mkF m 14 #[.val (.ref a1), .val (.ref a2), .val (.int p3), .val (.int p4)] [])) _
    refine XS.aloadN X3.here hx rfl (hb hby d6_14) rfl rfl ?_
    show Steps p.tables e below (T3.setTop (mkF m 15 #[.val (.ref a1), .val (.ref a2), .val (.int p3), .val (.int p4)] [(.ref a1)])) _
    refine XS.iloadN X3.here hx rfl (hb hby d6_15) rfl ?_
    show Steps p.tables e below (T3.setTop (mkF m 16 #[.val (.ref a1), .val (.ref a2), .val (.int p3), .val (.int p4)] [(.int p4), (.ref a1)])) _
    refine st4 _ ?_
    show Steps p.tables e below (T4.setTop (mkF m 19 #[.val (.ref a1), .val (.ref a2), .val (.int p3), .val (.int p4)] [])) _
    exact X4.returnOut hx Bd.returns (hb hby d6_19) hr
  · show Q6 Z a1 a2 p3 p4 h0 n0 _ T4.heap _
    rw [e4]
    exact ⟨rfl, N4, K4, f4_E_a1, f4_F_a1_name, f4_F_a1_fromHour, f4_F_a1_toHour⟩
theorem d7_0 : decode prog_50_method_3_code 0 = .ok (.aload_n 0, 1) := by decide +kernel
theorem d7_1 : decode prog_50_method_3_code 1 = .ok (.getfield 13, 3) := by decide +kernel
theorem d7_4 : decode prog_50_method_3_code 4 = .ok (.aload_n 0, 1) := by decide +kernel
theorem d7_5 : decode prog_50_method_3_code 5 = .ok (.getfield 17, 3) := by decide +kernel
theorem d7_8 : decode prog_50_method_3_code 8 = .ok (.if_icmp .gt 28, 3) := by decide +kernel
theorem d7_11 : decode prog_50_method_3_code 11 = .ok (.iload_n 1, 1) := by decide +kernel
theorem d7_12 : decode prog_50_method_3_code 12 = .ok (.aload_n 0, 1) := by decide +kernel
theorem d7_13 : decode prog_50_method_3_code 13 = .ok (.getfield 13, 3) := by decide +kernel
theorem d7_16 : decode prog_50_method_3_code 16 = .ok (.if_icmp .lt 15, 3) := by decide +kernel
theorem d7_19 : decode prog_50_method_3_code 19 = .ok (.iload_n 1, 1) := by decide +kernel
theorem d7_20 : decode prog_50_method_3_code 20 = .ok (.aload_n 0, 1) := by decide +kernel
theorem d7_21 : decode prog_50_method_3_code 21 = .ok (.getfield 17, 3) := by decide +kernel
theorem d7_24 : decode prog_50_method_3_code 24 = .ok (.if_icmp .gt 7, 3) := by decide +kernel
theorem d7_27 : decode prog_50_method_3_code 27 = .ok (.iconst 1, 1) := by decide +kernel
theorem d7_28 : decode prog_50_method_3_code 28 = .ok (.goto 4, 3) := by decide +kernel
theorem d7_31 : decode prog_50_method_3_code 31 = .ok (.iconst 0, 1) := by decide +kernel
theorem d7_32 : decode prog_50_method_3_code 32 = .ok (.istore_n 2, 1) := by decide +kernel
theorem d7_33 : decode prog_50_method_3_code 33 = .ok (.goto 25, 3) := by decide +kernel
theorem d7_36 : decode prog_50_method_3_code 36 = .ok (.iload_n 1, 1) := by decide +kernel
theorem d7_37 : decode prog_50_method_3_code 37 = .ok (.aload_n 0, 1) := by decide +kernel
theorem d7_38 : decode prog_50_method_3_code 38 = .ok (.getfield 13, 3) := by decide +kernel
theorem d7_41 : decode prog_50_method_3_code 41 = .ok (.if_icmp .ge 11, 3) := by decide +kernel
theorem d7_44 : decode prog_50_method_3_code 44 = .ok (.iload_n 1, 1) := by decide +kernel
theorem d7_45 : decode prog_50_method_3_code 45 = .ok (.aload_n 0, 1) := by decide +kernel
theorem d7_46 : decode prog_50_method_3_code 46 = .ok (.getfield 17, 3) := by decide +kernel
theorem d7_49 : decode prog_50_method_3_code 49 = .ok (.if_icmp .gt 7, 3) := by decide +kernel
theorem d7_52 : decode prog_50_method_3_code 52 = .ok (.iconst 1, 1) := by decide +kernel
theorem d7_53 : decode prog_50_method_3_code 53 = .ok (.goto 4, 3) := by decide +kernel
theorem d7_56 : decode prog_50_method_3_code 56 = .ok (.iconst 0, 1) := by decide +kernel
theorem d7_57 : decode prog_50_method_3_code 57 = .ok (.istore_n 2, 1) := by decide +kernel
theorem d7_58 : decode prog_50_method_3_code 58 = .ok (.iload_n 2, 1) := by decide +kernel
theorem d7_59 : decode prog_50_method_3_code 59 = .ok (.ireturn, 1) := by decide +kernel
theorem pn7 : plainName "com/example/braided_tour/braidedtour/model/Period" = true := by first | (simp [plainName, overriddenIn]; done) | decide +kernel
theorem ef7 (m : MethodId) (a1 : Addr) (p2 : Int32) : entryFrame m #[(.ref a1), (.int p2)] 3 = mkF m 0 #[.val (.ref a1), .val (.int p2), .unset] [] := by first | (simp [entryFrame, mkF, argsToLocals, Value.category]; done) | rfl
def own_contains (p2 : Int32) (w_fromHour_a1 : Int32) (w_toHour_a1 : Int32) : Int32 := (if w_toHour_a1 < w_fromHour_a1 then (if p2 < w_fromHour_a1 then (if w_toHour_a1 < p2 then (0 : Int32) else (1 : Int32)) else (1 : Int32)) else (if p2 < w_fromHour_a1 then (0 : Int32) else (if w_toHour_a1 < p2 then (0 : Int32) else (1 : Int32))))
def Q7 (Z : State) (a1 : Addr) (p2 : Int32) (w_fromHour_a1 : Int32) (w_toHour_a1 : Int32) (h0 : Heap) (n0 : Nat) (v : Option Value) (h : Heap) (L : List Loc) : Prop := v = some (.int (own_contains p2 w_fromHour_a1 w_toHour_a1)) ∧ Fr n0 L ∧ h = h0
set_option maxRecDepth 65536 in
set_option maxHeartbeats 40000000 in
theorem rm7 (l : Launch) (Z : State) (a0 : Array Value) (hw : ∀ d ∈ tables_1, d.before a0 Z = true) (ws : List Jvm.Cond) (a1 : Addr) (p2 : Int32) (w_fromHour_a1 : Int32) (w_toHour_a1 : Int32) (h0 : Heap) (n0 : Nat) (Z0 : n0 ≤ h0.size) (F_fromHour_a1 : Fld Z h0 a1 "com/example/braided_tour/braidedtour/model/Period" "fromHour" "I" (.int w_fromHour_a1)) (F_toHour_a1 : Fld Z h0 a1 "com/example/braided_tour/braidedtour/model/Period" "toHour" "I" (.int w_toHour_a1)) :
    MetFree l (⟨"com/example/braided_tour/braidedtour/model/Period", "contains", "(I)Z"⟩ : MethodName) (head1 (Jvm.Cond.code (⟨"com/example/braided_tour/braidedtour/model/Period", "contains", "(I)Z"⟩ : MethodName) prog_50_method_3_code 3 (some .boolean) :: ws) ({ frames := 0, cells := 0, slots := 0, locals := 0 } : Room)) (fun a U => a = #[(.ref a1), (.int p2)] ∧ Z.Warmed39 U.vm ∧ U.heap = h0) (fun _ _ _ _ _ => True) (fun _ U o U' => ∃ v L, o = .returned v ∧ Q7 Z a1 p2 w_fromHour_a1 w_toHour_a1 h0 n0 v U'.heap L ∧ FrameEnd U o U' L ({ frames := 0, cells := 0, slots := 0, locals := 0 } : Room).cells ({ frames := 0, cells := 0, slots := 0, locals := 0 } : Room).slots) := by
  refine MetFree.of_bodySF (plainFor_of_name pn7) hisR ?_
  intro p e s m args below meth c s₁ Bd hml0 hP hK
  obtain ⟨rfl, hZ, hh⟩ := hP
  have hx := Bd.exec
  have hby := Bd.bytes
  have hml : c.maxLocals = 3 := hml0
  have hown : s.vm.findClass "com/example/braided_tour/braidedtour/model/Period" = some m.cls := findClass_of_methodNamed Bd.named
  have hnm := (name_of_methodNamed Bd.named Bd.method).1
  have X0 : Stand p l e ({ frames := 0, cells := 0, slots := 0, locals := 0 } : Room) s m #[(.ref a1), (.int p2)] below meth c s₁ [] 0 0 := Stand.of_body Bd
  have e0 : s₁.heap = h0 := by rw [← hh, Bd.state]; rfl
  have N0 := Fr.nil n0
  have pre0 : ∀ t, Steps p.tables e below (s₁.setTop (mkF m 0 #[.val (.ref a1), .val (.int p2), .unset] [])) t → Steps p.tables e below (s₁.setTop (entryFrame m #[(.ref a1), (.int p2)] 3)) t := fun t k => castTop (ef7 m a1 p2) k
  obtain ⟨T1, X1, e1, st1⟩ := getF X0 hx hZ hown (host := "") (Or.inl (hw _ (List.mem_of_getElem? (i := 36) rfl))) Via.refl e0 F_fromHour_a1 (g := (mkF m 1 #[.val (.ref a1), .val (.int p2), .unset] [(.ref a1)])) rfl rfl (hb hby d7_1)
  obtain ⟨T2, X2, e2, st2⟩ := getF X1 hx hZ hown (host := "") (Or.inl (hw _ (List.mem_of_getElem? (i := 38) rfl))) Via.refl e1 F_toHour_a1 (g := (mkF m 5 #[.val (.ref a1), .val (.int p2), .unset] [(.ref a1), (.int w_fromHour_a1)])) rfl rfl (hb hby d7_5)
  have c3 : ∀ t, Steps p.tables e below (T2.setTop (mkF m 8 #[.val (.ref a1), .val (.int p2), .unset] [(.int w_toHour_a1), (.int w_fromHour_a1)])) t → Steps p.tables e below (s₁.setTop (entryFrame m #[(.ref a1), (.int p2)] 3)) t := fun t kt => by
    refine pre0 _ ?_
    show Steps p.tables e below (s₁.setTop (mkF m 0 #[.val (.ref a1), .val (.int p2), .unset] [])) _
    refine XS.aloadN X0.here hx rfl (hb hby d7_0) rfl rfl ?_
    show Steps p.tables e below (s₁.setTop (mkF m 1 #[.val (.ref a1), .val (.int p2), .unset] [(.ref a1)])) _
    refine st1 _ ?_
    show Steps p.tables e below (T1.setTop (mkF m 4 #[.val (.ref a1), .val (.int p2), .unset] [(.int w_fromHour_a1)])) _
    refine XS.aloadN X1.here hx rfl (hb hby d7_4) rfl rfl ?_
    show Steps p.tables e below (T1.setTop (mkF m 5 #[.val (.ref a1), .val (.int p2), .unset] [(.ref a1), (.int w_fromHour_a1)])) _
    refine st2 _ ?_
    exact kt
  by_cases hc8 : w_toHour_a1 < w_fromHour_a1
  · obtain ⟨T4, X4, e4, st4⟩ := getF X2 hx hZ hown (host := "") (Or.inl (hw _ (List.mem_of_getElem? (i := 36) rfl))) Via.refl e2 F_fromHour_a1 (g := (mkF m 38 #[.val (.ref a1), .val (.int p2), .unset] [(.ref a1), (.int p2)])) rfl rfl (hb hby d7_38)
    have c5 : ∀ t, Steps p.tables e below (T4.setTop (mkF m 41 #[.val (.ref a1), .val (.int p2), .unset] [(.int w_fromHour_a1), (.int p2)])) t → Steps p.tables e below (s₁.setTop (entryFrame m #[(.ref a1), (.int p2)] 3)) t := fun t kt => by
      refine c3 _ ?_
      show Steps p.tables e below (T2.setTop (mkF m 8 #[.val (.ref a1), .val (.int p2), .unset] [(.int w_toHour_a1), (.int w_fromHour_a1)])) _
      refine XS.icmpYes X2.here hx rfl (pc0 := 8) (pc' := 36) rfl (hb hby d7_8) rfl (tlt hc8).2.2.1 (by decide) (by decide) ?_
      show Steps p.tables e below (T2.setTop (mkF m 36 #[.val (.ref a1), .val (.int p2), .unset] [])) _
      refine XS.iloadN X2.here hx rfl (hb hby d7_36) rfl ?_
      show Steps p.tables e below (T2.setTop (mkF m 37 #[.val (.ref a1), .val (.int p2), .unset] [(.int p2)])) _
      refine XS.aloadN X2.here hx rfl (hb hby d7_37) rfl rfl ?_
      show Steps p.tables e below (T2.setTop (mkF m 38 #[.val (.ref a1), .val (.int p2), .unset] [(.ref a1), (.int p2)])) _
      refine st4 _ ?_
      exact kt
    by_cases hc41 : p2 < w_fromHour_a1
    · obtain ⟨T6, X6, e6, st6⟩ := getF X4 hx hZ hown (host := "") (Or.inl (hw _ (List.mem_of_getElem? (i := 38) rfl))) Via.refl e4 F_toHour_a1 (g := (mkF m 46 #[.val (.ref a1), .val (.int p2), .unset] [(.ref a1), (.int p2)])) rfl rfl (hb hby d7_46)
      have c7 : ∀ t, Steps p.tables e below (T6.setTop (mkF m 49 #[.val (.ref a1), .val (.int p2), .unset] [(.int w_toHour_a1), (.int p2)])) t → Steps p.tables e below (s₁.setTop (entryFrame m #[(.ref a1), (.int p2)] 3)) t := fun t kt => by
        refine c5 _ ?_
        show Steps p.tables e below (T4.setTop (mkF m 41 #[.val (.ref a1), .val (.int p2), .unset] [(.int w_fromHour_a1), (.int p2)])) _
        refine XS.icmpNo X4.here hx rfl (hb hby d7_41) rfl (tlt hc41).2.1 ?_
        show Steps p.tables e below (T4.setTop (mkF m 44 #[.val (.ref a1), .val (.int p2), .unset] [])) _
        refine XS.iloadN X4.here hx rfl (hb hby d7_44) rfl ?_
        show Steps p.tables e below (T4.setTop (mkF m 45 #[.val (.ref a1), .val (.int p2), .unset] [(.int p2)])) _
        refine XS.aloadN X4.here hx rfl (hb hby d7_45) rfl rfl ?_
        show Steps p.tables e below (T4.setTop (mkF m 46 #[.val (.ref a1), .val (.int p2), .unset] [(.ref a1), (.int p2)])) _
        refine st6 _ ?_
        exact kt
      by_cases hc49 : w_toHour_a1 < p2
      · obtain ⟨fs, hr, hrun, hended, hW, hsame⟩ := X6.leave (v := some (.int (0 : Int32))) (fun h => by rw [Bd.returns] at h; cases h)
        refine ⟨_, _, c7 _ ?_, hrun, hended, _, _, rfl, ?_, ⟨_, rfl⟩, hW, hsame.mono (by decide) (by decide)⟩
        · show Steps p.tables e below (T6.setTop (mkF m 49 #[.val (.ref a1), .val (.int p2), .unset] [(.int w_toHour_a1), (.int p2)])) _
          refine XS.icmpYes X6.here hx rfl (pc0 := 49) (pc' := 56) rfl (hb hby d7_49) rfl (tlt hc49).2.2.1 (by decide) (by decide) ?_
          show Steps p.tables e below (T6.setTop (mkF m 56 #[.val (.ref a1), .val (.int p2), .unset] [])) _
          refine XS.iconst X6.here hx rfl (hb hby d7_56) ?_
          show Steps p.tables e below (T6.setTop (mkF m 57 #[.val (.ref a1), .val (.int p2), .unset] [(.int (0 : Int32))])) _
          refine XS.istoreN X6.here hx rfl (hb hby d7_57) rfl (l' := #[.val (.ref a1), .val (.int p2), .val (.int (0 : Int32))]) rfl ?_
          show Steps p.tables e below (T6.setTop (mkF m 58 #[.val (.ref a1), .val (.int p2), .val (.int (0 : Int32))] [])) _
          refine XS.iloadN X6.here hx rfl (hb hby d7_58) rfl ?_
          show Steps p.tables e below (T6.setTop (mkF m 59 #[.val (.ref a1), .val (.int p2), .val (.int (0 : Int32))] [(.int (0 : Int32))])) _
          exact retN X6 hx (t := .boolean) Bd.returns (by simp) (hb hby d7_59) hr
        · show Q7 Z a1 p2 w_fromHour_a1 w_toHour_a1 h0 n0 _ T6.heap _
          rw [e6]
          have hv : (own_contains p2 w_fromHour_a1 w_toHour_a1) = (0 : Int32) := by unfold own_contains; rw [if_pos hc8, if_pos hc41, if_pos hc49]
          exact ⟨by rw [hv], N0, rfl⟩
      · obtain ⟨fs, hr, hrun, hended, hW, hsame⟩ := X6.leave (v := some (.int (1 : Int32))) (fun h => by rw [Bd.returns] at h; cases h)
        refine ⟨_, _, c7 _ ?_, hrun, hended, _, _, rfl, ?_, ⟨_, rfl⟩, hW, hsame.mono (by decide) (by decide)⟩
        · show Steps p.tables e below (T6.setTop (mkF m 49 #[.val (.ref a1), .val (.int p2), .unset] [(.int w_toHour_a1), (.int p2)])) _
          refine XS.icmpNo X6.here hx rfl (hb hby d7_49) rfl (flt hc49).2.2.1 ?_
          show Steps p.tables e below (T6.setTop (mkF m 52 #[.val (.ref a1), .val (.int p2), .unset] [])) _
          refine XS.iconst X6.here hx rfl (hb hby d7_52) ?_
          show Steps p.tables e below (T6.setTop (mkF m 53 #[.val (.ref a1), .val (.int p2), .unset] [(.int (1 : Int32))])) _
          refine XS.goto X6.here hx rfl (pc0 := 53) (pc' := 57) rfl (hb hby d7_53) (by decide) (by decide) ?_
          show Steps p.tables e below (T6.setTop (mkF m 57 #[.val (.ref a1), .val (.int p2), .unset] [(.int (1 : Int32))])) _
          refine XS.istoreN X6.here hx rfl (hb hby d7_57) rfl (l' := #[.val (.ref a1), .val (.int p2), .val (.int (1 : Int32))]) rfl ?_
          show Steps p.tables e below (T6.setTop (mkF m 58 #[.val (.ref a1), .val (.int p2), .val (.int (1 : Int32))] [])) _
          refine XS.iloadN X6.here hx rfl (hb hby d7_58) rfl ?_
          show Steps p.tables e below (T6.setTop (mkF m 59 #[.val (.ref a1), .val (.int p2), .val (.int (1 : Int32))] [(.int (1 : Int32))])) _
          exact retN X6 hx (t := .boolean) Bd.returns (by simp) (hb hby d7_59) hr
        · show Q7 Z a1 p2 w_fromHour_a1 w_toHour_a1 h0 n0 _ T6.heap _
          rw [e6]
          have hv : (own_contains p2 w_fromHour_a1 w_toHour_a1) = (1 : Int32) := by unfold own_contains; rw [if_pos hc8, if_pos hc41, if_neg hc49]
          exact ⟨by rw [hv], N0, rfl⟩
    · obtain ⟨fs, hr, hrun, hended, hW, hsame⟩ := X4.leave (v := some (.int (1 : Int32))) (fun h => by rw [Bd.returns] at h; cases h)
      refine ⟨_, _, c5 _ ?_, hrun, hended, _, _, rfl, ?_, ⟨_, rfl⟩, hW, hsame.mono (by decide) (by decide)⟩
      · show Steps p.tables e below (T4.setTop (mkF m 41 #[.val (.ref a1), .val (.int p2), .unset] [(.int w_fromHour_a1), (.int p2)])) _
        refine XS.icmpYes X4.here hx rfl (pc0 := 41) (pc' := 52) rfl (hb hby d7_41) rfl (flt hc41).2.1 (by decide) (by decide) ?_
        show Steps p.tables e below (T4.setTop (mkF m 52 #[.val (.ref a1), .val (.int p2), .unset] [])) _
        refine XS.iconst X4.here hx rfl (hb hby d7_52) ?_
        show Steps p.tables e below (T4.setTop (mkF m 53 #[.val (.ref a1), .val (.int p2), .unset] [(.int (1 : Int32))])) _
        refine XS.goto X4.here hx rfl (pc0 := 53) (pc' := 57) rfl (hb hby d7_53) (by decide) (by decide) ?_
        show Steps p.tables e below (T4.setTop (mkF m 57 #[.val (.ref a1), .val (.int p2), .unset] [(.int (1 : Int32))])) _
        refine XS.istoreN X4.here hx rfl (hb hby d7_57) rfl (l' := #[.val (.ref a1), .val (.int p2), .val (.int (1 : Int32))]) rfl ?_
        show Steps p.tables e below (T4.setTop (mkF m 58 #[.val (.ref a1), .val (.int p2), .val (.int (1 : Int32))] [])) _
        refine XS.iloadN X4.here hx rfl (hb hby d7_58) rfl ?_
        show Steps p.tables e below (T4.setTop (mkF m 59 #[.val (.ref a1), .val (.int p2), .val (.int (1 : Int32))] [(.int (1 : Int32))])) _
        exact retN X4 hx (t := .boolean) Bd.returns (by simp) (hb hby d7_59) hr
      · show Q7 Z a1 p2 w_fromHour_a1 w_toHour_a1 h0 n0 _ T4.heap _
        rw [e4]
        have hv : (own_contains p2 w_fromHour_a1 w_toHour_a1) = (1 : Int32) := by unfold own_contains; rw [if_pos hc8, if_neg hc41]
        exact ⟨by rw [hv], N0, rfl⟩
  · obtain ⟨T8, X8, e8, st8⟩ := getF X2 hx hZ hown (host := "") (Or.inl (hw _ (List.mem_of_getElem? (i := 36) rfl))) Via.refl e2 F_fromHour_a1 (g := (mkF m 13 #[.val (.ref a1), .val (.int p2), .unset] [(.ref a1), (.int p2)])) rfl rfl (hb hby d7_13)
    have c9 : ∀ t, Steps p.tables e below (T8.setTop (mkF m 16 #[.val (.ref a1), .val (.int p2), .unset] [(.int w_fromHour_a1), (.int p2)])) t → Steps p.tables e below (s₁.setTop (entryFrame m #[(.ref a1), (.int p2)] 3)) t := fun t kt => by
      refine c3 _ ?_
      show Steps p.tables e below (T2.setTop (mkF m 8 #[.val (.ref a1), .val (.int p2), .unset] [(.int w_toHour_a1), (.int w_fromHour_a1)])) _
      refine XS.icmpNo X2.here hx rfl (hb hby d7_8) rfl (flt hc8).2.2.1 ?_
      show Steps p.tables e below (T2.setTop (mkF m 11 #[.val (.ref a1), .val (.int p2), .unset] [])) _
      refine XS.iloadN X2.here hx rfl (hb hby d7_11) rfl ?_
      show Steps p.tables e below (T2.setTop (mkF m 12 #[.val (.ref a1), .val (.int p2), .unset] [(.int p2)])) _
      refine XS.aloadN X2.here hx rfl (hb hby d7_12) rfl rfl ?_
      show Steps p.tables e below (T2.setTop (mkF m 13 #[.val (.ref a1), .val (.int p2), .unset] [(.ref a1), (.int p2)])) _
      refine st8 _ ?_
      exact kt
    by_cases hc16 : p2 < w_fromHour_a1
    · obtain ⟨fs, hr, hrun, hended, hW, hsame⟩ := X8.leave (v := some (.int (0 : Int32))) (fun h => by rw [Bd.returns] at h; cases h)
      refine ⟨_, _, c9 _ ?_, hrun, hended, _, _, rfl, ?_, ⟨_, rfl⟩, hW, hsame.mono (by decide) (by decide)⟩
      · show Steps p.tables e below (T8.setTop (mkF m 16 #[.val (.ref a1), .val (.int p2), .unset] [(.int w_fromHour_a1), (.int p2)])) _
        refine XS.icmpYes X8.here hx rfl (pc0 := 16) (pc' := 31) rfl (hb hby d7_16) rfl (tlt hc16).1 (by decide) (by decide) ?_
        show Steps p.tables e below (T8.setTop (mkF m 31 #[.val (.ref a1), .val (.int p2), .unset] [])) _
        refine XS.iconst X8.here hx rfl (hb hby d7_31) ?_
        show Steps p.tables e below (T8.setTop (mkF m 32 #[.val (.ref a1), .val (.int p2), .unset] [(.int (0 : Int32))])) _
        refine XS.istoreN X8.here hx rfl (hb hby d7_32) rfl (l' := #[.val (.ref a1), .val (.int p2), .val (.int (0 : Int32))]) rfl ?_
        show Steps p.tables e below (T8.setTop (mkF m 33 #[.val (.ref a1), .val (.int p2), .val (.int (0 : Int32))] [])) _
        refine XS.goto X8.here hx rfl (pc0 := 33) (pc' := 58) rfl (hb hby d7_33) (by decide) (by decide) ?_
        show Steps p.tables e below (T8.setTop (mkF m 58 #[.val (.ref a1), .val (.int p2), .val (.int (0 : Int32))] [])) _
        refine XS.iloadN X8.here hx rfl (hb hby d7_58) rfl ?_
        show Steps p.tables e below (T8.setTop (mkF m 59 #[.val (.ref a1), .val (.int p2), .val (.int (0 : Int32))] [(.int (0 : Int32))])) _
        exact retN X8 hx (t := .boolean) Bd.returns (by simp) (hb hby d7_59) hr
      · show Q7 Z a1 p2 w_fromHour_a1 w_toHour_a1 h0 n0 _ T8.heap _
        rw [e8]
        have hv : (own_contains p2 w_fromHour_a1 w_toHour_a1) = (0 : Int32) := by unfold own_contains; rw [if_neg hc8, if_pos hc16]
        exact ⟨by rw [hv], N0, rfl⟩
    · obtain ⟨T10, X10, e10, st10⟩ := getF X8 hx hZ hown (host := "") (Or.inl (hw _ (List.mem_of_getElem? (i := 38) rfl))) Via.refl e8 F_toHour_a1 (g := (mkF m 21 #[.val (.ref a1), .val (.int p2), .unset] [(.ref a1), (.int p2)])) rfl rfl (hb hby d7_21)
      have c11 : ∀ t, Steps p.tables e below (T10.setTop (mkF m 24 #[.val (.ref a1), .val (.int p2), .unset] [(.int w_toHour_a1), (.int p2)])) t → Steps p.tables e below (s₁.setTop (entryFrame m #[(.ref a1), (.int p2)] 3)) t := fun t kt => by
        refine c9 _ ?_
        show Steps p.tables e below (T8.setTop (mkF m 16 #[.val (.ref a1), .val (.int p2), .unset] [(.int w_fromHour_a1), (.int p2)])) _
        refine XS.icmpNo X8.here hx rfl (hb hby d7_16) rfl (flt hc16).1 ?_
        show Steps p.tables e below (T8.setTop (mkF m 19 #[.val (.ref a1), .val (.int p2), .unset] [])) _
        refine XS.iloadN X8.here hx rfl (hb hby d7_19) rfl ?_
        show Steps p.tables e below (T8.setTop (mkF m 20 #[.val (.ref a1), .val (.int p2), .unset] [(.int p2)])) _
        refine XS.aloadN X8.here hx rfl (hb hby d7_20) rfl rfl ?_
        show Steps p.tables e below (T8.setTop (mkF m 21 #[.val (.ref a1), .val (.int p2), .unset] [(.ref a1), (.int p2)])) _
        refine st10 _ ?_
        exact kt
      by_cases hc24 : w_toHour_a1 < p2
      · obtain ⟨fs, hr, hrun, hended, hW, hsame⟩ := X10.leave (v := some (.int (0 : Int32))) (fun h => by rw [Bd.returns] at h; cases h)
        refine ⟨_, _, c11 _ ?_, hrun, hended, _, _, rfl, ?_, ⟨_, rfl⟩, hW, hsame.mono (by decide) (by decide)⟩
        · show Steps p.tables e below (T10.setTop (mkF m 24 #[.val (.ref a1), .val (.int p2), .unset] [(.int w_toHour_a1), (.int p2)])) _
          refine XS.icmpYes X10.here hx rfl (pc0 := 24) (pc' := 31) rfl (hb hby d7_24) rfl (tlt hc24).2.2.1 (by decide) (by decide) ?_
          show Steps p.tables e below (T10.setTop (mkF m 31 #[.val (.ref a1), .val (.int p2), .unset] [])) _
          refine XS.iconst X10.here hx rfl (hb hby d7_31) ?_
          show Steps p.tables e below (T10.setTop (mkF m 32 #[.val (.ref a1), .val (.int p2), .unset] [(.int (0 : Int32))])) _
          refine XS.istoreN X10.here hx rfl (hb hby d7_32) rfl (l' := #[.val (.ref a1), .val (.int p2), .val (.int (0 : Int32))]) rfl ?_
          show Steps p.tables e below (T10.setTop (mkF m 33 #[.val (.ref a1), .val (.int p2), .val (.int (0 : Int32))] [])) _
          refine XS.goto X10.here hx rfl (pc0 := 33) (pc' := 58) rfl (hb hby d7_33) (by decide) (by decide) ?_
          show Steps p.tables e below (T10.setTop (mkF m 58 #[.val (.ref a1), .val (.int p2), .val (.int (0 : Int32))] [])) _
          refine XS.iloadN X10.here hx rfl (hb hby d7_58) rfl ?_
          show Steps p.tables e below (T10.setTop (mkF m 59 #[.val (.ref a1), .val (.int p2), .val (.int (0 : Int32))] [(.int (0 : Int32))])) _
          exact retN X10 hx (t := .boolean) Bd.returns (by simp) (hb hby d7_59) hr
        · show Q7 Z a1 p2 w_fromHour_a1 w_toHour_a1 h0 n0 _ T10.heap _
          rw [e10]
          have hv : (own_contains p2 w_fromHour_a1 w_toHour_a1) = (0 : Int32) := by unfold own_contains; rw [if_neg hc8, if_neg hc16, if_pos hc24]
          exact ⟨by rw [hv], N0, rfl⟩
      · obtain ⟨fs, hr, hrun, hended, hW, hsame⟩ := X10.leave (v := some (.int (1 : Int32))) (fun h => by rw [Bd.returns] at h; cases h)
        refine ⟨_, _, c11 _ ?_, hrun, hended, _, _, rfl, ?_, ⟨_, rfl⟩, hW, hsame.mono (by decide) (by decide)⟩
        · show Steps p.tables e below (T10.setTop (mkF m 24 #[.val (.ref a1), .val (.int p2), .unset] [(.int w_toHour_a1), (.int p2)])) _
          refine XS.icmpNo X10.here hx rfl (hb hby d7_24) rfl (flt hc24).2.2.1 ?_
          show Steps p.tables e below (T10.setTop (mkF m 27 #[.val (.ref a1), .val (.int p2), .unset] [])) _
          refine XS.iconst X10.here hx rfl (hb hby d7_27) ?_
          show Steps p.tables e below (T10.setTop (mkF m 28 #[.val (.ref a1), .val (.int p2), .unset] [(.int (1 : Int32))])) _
          refine XS.goto X10.here hx rfl (pc0 := 28) (pc' := 32) rfl (hb hby d7_28) (by decide) (by decide) ?_
          show Steps p.tables e below (T10.setTop (mkF m 32 #[.val (.ref a1), .val (.int p2), .unset] [(.int (1 : Int32))])) _
          refine XS.istoreN X10.here hx rfl (hb hby d7_32) rfl (l' := #[.val (.ref a1), .val (.int p2), .val (.int (1 : Int32))]) rfl ?_
          show Steps p.tables e below (T10.setTop (mkF m 33 #[.val (.ref a1), .val (.int p2), .val (.int (1 : Int32))] [])) _
          refine XS.goto X10.here hx rfl (pc0 := 33) (pc' := 58) rfl (hb hby d7_33) (by decide) (by decide) ?_
          show Steps p.tables e below (T10.setTop (mkF m 58 #[.val (.ref a1), .val (.int p2), .val (.int (1 : Int32))] [])) _
          refine XS.iloadN X10.here hx rfl (hb hby d7_58) rfl ?_
          show Steps p.tables e below (T10.setTop (mkF m 59 #[.val (.ref a1), .val (.int p2), .val (.int (1 : Int32))] [(.int (1 : Int32))])) _
          exact retN X10 hx (t := .boolean) Bd.returns (by simp) (hb hby d7_59) hr
        · show Q7 Z a1 p2 w_fromHour_a1 w_toHour_a1 h0 n0 _ T10.heap _
          rw [e10]
          have hv : (own_contains p2 w_fromHour_a1 w_toHour_a1) = (1 : Int32) := by unfold own_contains; rw [if_neg hc8, if_neg hc16, if_neg hc24]
          exact ⟨by rw [hv], N0, rfl⟩
theorem d8_0 : decode method_2_code 0 = .ok (.iload_n 0, 1) := by decide +kernel
theorem d8_1 : decode method_2_code 1 = .ok (.bipush 24, 2) := by decide +kernel
theorem d8_3 : decode method_2_code 3 = .ok (.irem, 1) := by decide +kernel
theorem d8_4 : decode method_2_code 4 = .ok (.bipush 24, 2) := by decide +kernel
theorem d8_6 : decode method_2_code 6 = .ok (.iadd, 1) := by decide +kernel
theorem d8_7 : decode method_2_code 7 = .ok (.bipush 24, 2) := by decide +kernel
theorem d8_9 : decode method_2_code 9 = .ok (.irem, 1) := by decide +kernel
theorem d8_10 : decode method_2_code 10 = .ok (.ireturn, 1) := by decide +kernel
theorem pn8 : plainName "com/example/braided_tour/braidedtour/model/PeriodContainsPinLaw" = true := by first | (simp [plainName, overriddenIn]; done) | decide +kernel
theorem ef8 (m : MethodId) (p1 : Int32) : entryFrame m #[(.int p1)] 1 = mkF m 0 #[.val (.int p1)] [] := by first | (simp [entryFrame, mkF, argsToLocals, Value.category]; done) | rfl
def own_mod (p1 : Int32) : Int32 := (((p1 - (p1 / (24 : Int32)) * (24 : Int32)) + (24 : Int32)) - (((p1 - (p1 / (24 : Int32)) * (24 : Int32)) + (24 : Int32)) / (24 : Int32)) * (24 : Int32))
def Q8 (Z : State) (p1 : Int32) (h0 : Heap) (n0 : Nat) (v : Option Value) (h : Heap) (L : List Loc) : Prop := v = some (.int (own_mod p1)) ∧ Fr n0 L ∧ h = h0
set_option maxRecDepth 65536 in
set_option maxHeartbeats 40000000 in
theorem rm8 (l : Launch) (Z : State) (a0 : Array Value) (hw : ∀ d ∈ tables_1, d.before a0 Z = true) (ws : List Jvm.Cond) (p1 : Int32) (h0 : Heap) (n0 : Nat) (Z0 : n0 ≤ h0.size) :
    MetFree l (⟨"com/example/braided_tour/braidedtour/model/PeriodContainsPinLaw", "mod24", "(I)I"⟩ : MethodName) (head1 (Jvm.Cond.code (⟨"com/example/braided_tour/braidedtour/model/PeriodContainsPinLaw", "mod24", "(I)I"⟩ : MethodName) method_2_code 1 (some .int) :: ws) ({ frames := 0, cells := 0, slots := 0, locals := 0 } : Room)) (fun a U => a = #[(.int p1)] ∧ Z.Warmed39 U.vm ∧ U.heap = h0) (fun _ _ _ _ _ => True) (fun _ U o U' => ∃ v L, o = .returned v ∧ Q8 Z p1 h0 n0 v U'.heap L ∧ FrameEnd U o U' L ({ frames := 0, cells := 0, slots := 0, locals := 0 } : Room).cells ({ frames := 0, cells := 0, slots := 0, locals := 0 } : Room).slots) := by
  refine MetFree.of_bodySF (plainFor_of_name pn8) hisR ?_
  intro p e s m args below meth c s₁ Bd hml0 hP hK
  obtain ⟨rfl, hZ, hh⟩ := hP
  have hx := Bd.exec
  have hby := Bd.bytes
  have hml : c.maxLocals = 1 := hml0
  have hown : s.vm.findClass "com/example/braided_tour/braidedtour/model/PeriodContainsPinLaw" = some m.cls := findClass_of_methodNamed Bd.named
  have hnm := (name_of_methodNamed Bd.named Bd.method).1
  have X0 : Stand p l e ({ frames := 0, cells := 0, slots := 0, locals := 0 } : Room) s m #[(.int p1)] below meth c s₁ [] 0 0 := Stand.of_body Bd
  have e0 : s₁.heap = h0 := by rw [← hh, Bd.state]; rfl
  have N0 := Fr.nil n0
  have pre0 : ∀ t, Steps p.tables e below (s₁.setTop (mkF m 0 #[.val (.int p1)] [])) t → Steps p.tables e below (s₁.setTop (entryFrame m #[(.int p1)] 1)) t := fun t k => castTop (ef8 m p1) k
  obtain ⟨fs, hr, hrun, hended, hW, hsame⟩ := X0.leave (v := some (.int (((p1 - (p1 / (24 : Int32)) * (24 : Int32)) + (24 : Int32)) - (((p1 - (p1 / (24 : Int32)) * (24 : Int32)) + (24 : Int32)) / (24 : Int32)) * (24 : Int32)))) (fun h => by rw [Bd.returns] at h; cases h)
  refine ⟨_, _, pre0 _ ?_, hrun, hended, _, _, rfl, ?_, ⟨_, rfl⟩, hW, hsame.mono (by decide) (by decide)⟩
  · show Steps p.tables e below (s₁.setTop (mkF m 0 #[.val (.int p1)] [])) _
    refine XS.iloadN X0.here hx rfl (hb hby d8_0) rfl ?_
    show Steps p.tables e below (s₁.setTop (mkF m 1 #[.val (.int p1)] [(.int p1)])) _
    refine XS.bipush X0.here hx rfl (hb hby d8_1) ?_
    show Steps p.tables e below (s₁.setTop (mkF m 3 #[.val (.int p1)] [(.int (24 : Int32)), (.int p1)])) _
    refine XS.irem X0.here hx rfl (hb hby d8_3) rfl (by decide) ?_
    show Steps p.tables e below (s₁.setTop (mkF m 4 #[.val (.int p1)] [(.int (p1 - (p1 / (24 : Int32)) * (24 : Int32)))])) _
    refine XS.bipush X0.here hx rfl (hb hby d8_4) ?_
    show Steps p.tables e below (s₁.setTop (mkF m 6 #[.val (.int p1)] [(.int (24 : Int32)), (.int (p1 - (p1 / (24 : Int32)) * (24 : Int32)))])) _
    refine XS.iadd X0.here hx rfl (hb hby d8_6) rfl ?_
    show Steps p.tables e below (s₁.setTop (mkF m 7 #[.val (.int p1)] [(.int ((p1 - (p1 / (24 : Int32)) * (24 : Int32)) + (24 : Int32)))])) _
    refine XS.bipush X0.here hx rfl (hb hby d8_7) ?_
    show Steps p.tables e below (s₁.setTop (mkF m 9 #[.val (.int p1)] [(.int (24 : Int32)), (.int ((p1 - (p1 / (24 : Int32)) * (24 : Int32)) + (24 : Int32)))])) _
    refine XS.irem X0.here hx rfl (hb hby d8_9) rfl (by decide) ?_
    show Steps p.tables e below (s₁.setTop (mkF m 10 #[.val (.int p1)] [(.int (((p1 - (p1 / (24 : Int32)) * (24 : Int32)) + (24 : Int32)) - (((p1 - (p1 / (24 : Int32)) * (24 : Int32)) + (24 : Int32)) / (24 : Int32)) * (24 : Int32)))])) _
    exact retI X0 hx Bd.returns (hb hby d8_10) hr
  · show Q8 Z p1 h0 n0 _ s₁.heap _
    rw [e0]
    have hv : (own_mod p1) = (((p1 - (p1 / (24 : Int32)) * (24 : Int32)) + (24 : Int32)) - (((p1 - (p1 / (24 : Int32)) * (24 : Int32)) + (24 : Int32)) / (24 : Int32)) * (24 : Int32)) := by unfold own_mod; rfl
    exact ⟨by rw [hv], N0, rfl⟩
theorem own_ch (x : Int32) : ¬ (255 : Int32) < ((x &&& (255 : Int32)).toUInt32.toUInt16.toUInt32.toInt32) := by
  have t : ∀ k : Fin 256, ¬ (255 : Int32) < ((Int32.ofNat k.val).toUInt32.toUInt16.toUInt32.toInt32) := by decide +kernel
  have h : (x &&& 255).toBitVec.toNat < 256 := by
    show (x.toBitVec &&& BitVec.ofNat 32 255).toNat < 256
    rw [BitVec.toNat_and]
    exact Nat.lt_succ_of_le Nat.and_le_right
  have e : (x &&& 255) = Int32.ofNat (x &&& 255).toBitVec.toNat := by
    apply Int32.toBitVec_inj.mp
    apply BitVec.eq_of_toNat_eq
    show (x &&& 255).toBitVec.toNat = (BitVec.ofNat 32 (x &&& 255).toBitVec.toNat).toNat
    rw [BitVec.toNat_ofNat, Nat.mod_eq_of_lt (by omega)]
  rw [e]; exact t ⟨_, h⟩
theorem own_hour (x : Int32) : 0 ≤ ((x &&& (2147483647 : Int32)) - ((x &&& (2147483647 : Int32)) / (24 : Int32)) * (24 : Int32)).toInt ∧ ((x &&& (2147483647 : Int32)) - ((x &&& (2147483647 : Int32)) / (24 : Int32)) * (24 : Int32)).toInt < 24 := by
  have a := (c_and x 2147483647 (by decide)).1
  rw [own_rem]
  have h := (c_irem (x &&& 2147483647) 24 24 (by decide)).1 a
  rw [h]; omega
theorem own_modI (x : Int32) (h1 : -24 < x.toInt) (h2 : x.toInt < 24) : (own_mod x).toInt = (if x.toInt < 0 then x.toInt + 24 else x.toInt) := by
  unfold own_mod
  rw [own_rem, own_rem]
  have a := c_irem x 24 24 (by decide)
  have b : (x % 24).toInt = x.toInt := by
    by_cases g : 0 ≤ x.toInt
    · rw [a.1 g]; omega
    · rw [a.2 (by omega)]; omega
  have d : (x % 24 + 24).toInt = x.toInt + 24 := by
    have := Jvm.Kit.i32_add (p := x % 24) (q := 24) (by show -2 ^ 31 ≤ (x % 24).toInt + 24; omega) (by show (x % 24).toInt + 24 < 2 ^ 31; omega)
    rw [this, b]; rfl
  have f := (c_irem (x % 24 + 24) 24 24 (by decide)).1 (by omega)
  rw [f, d]
  split <;> omega
theorem own_law (f t h : Int32) (f0 : 0 ≤ f.toInt) (f1 : f.toInt < 24) (t0 : 0 ≤ t.toInt) (t1 : t.toInt < 24) (h0 : 0 ≤ h.toInt) (h1 : h.toInt < 24) :
    own_contains h f t = (if (own_mod (t - f)) < (own_mod (h - f)) then (0 : Int32) else (1 : Int32)) := by
  have e1 : (t - f).toInt = t.toInt - f.toInt := Jvm.Kit.i32_sub (by omega) (by omega)
  have e2 : (h - f).toInt = h.toInt - f.toInt := Jvm.Kit.i32_sub (by omega) (by omega)
  have m1 := own_modI (t - f) (by omega) (by omega)
  have m2 := own_modI (h - f) (by omega) (by omega)
  rw [e1] at m1
  rw [e2] at m2
  have lt : ∀ a b : Int32, (a < b) = (a.toInt < b.toInt) := fun a b => propext Int32.lt_iff_toInt_lt
  unfold own_contains
  simp only [lt, m1, m2]
  (repeat' split) <;> first | rfl | (exfalso; omega)
theorem pn0 : plainName "com/example/braided_tour/braidedtour/model/PeriodContainsPinLaw" = true := by first | (simp [plainName, overriddenIn]; done) | decide +kernel
theorem pd0_0 : parseMethodDescriptor "(C)Ljava/lang/String;" = some ⟨[.char], some (.object "java/lang/String")⟩ := by decide +kernel
theorem pd0_1 : parseMethodDescriptor "(Ljava/lang/String;II)V" = some ⟨[(.object "java/lang/String"), .int, .int], none⟩ := by decide +kernel
theorem pd0_2 : parseMethodDescriptor "(I)Z" = some ⟨[.int], some .boolean⟩ := by decide +kernel
theorem pd0_3 : parseMethodDescriptor "(I)I" = some ⟨[.int], some .int⟩ := by decide +kernel
theorem ef0 (m : MethodId) (p1 : Int32) (p2 : Int32) (p3 : Int32) (p4 : Int32) : entryFrame m #[(.int p1), (.int p2), (.int p3), (.int p4)] maxLocals = mkF m 0 #[.val (.int p1), .val (.int p2), .val (.int p3), .val (.int p4), .unset, .unset, .unset, .unset, .unset, .unset, .unset] [] := by first | (simp [entryFrame, mkF, argsToLocals, Value.category, maxLocals]; done) | rfl
def Q0 (Z : State) (p1 : Int32) (p2 : Int32) (p3 : Int32) (p4 : Int32) (cs : Int32) (h0 : Heap) (n0 : Nat) (v : Option Value) (h : Heap) (L : List Loc) : Prop := v = some (.int (1 : Int32)) ∧ Fr n0 L
set_option maxRecDepth 65536 in
set_option maxHeartbeats 40000000 in
theorem rm0 (l : Launch) (Z : State) (a0 : Array Value) (hw : ∀ d ∈ tables_1, d.before a0 Z = true) (ws : List Jvm.Cond) (p1 : Int32) (p2 : Int32) (p3 : Int32) (p4 : Int32) (cs : Int32) (h0 : Heap) (n0 : Nat) (Z0 : n0 ≤ h0.size) (S0 : Sta Z h0 "java/lang/String" "COMPACT_STRINGS" "Z" (.int cs)) (hcs : ¬ cs = (0 : Int32)) :
    MetFree l x (head1 (Jvm.Cond.code x code maxLocals ret :: ws) room_1) (fun a U => a = #[(.int p1), (.int p2), (.int p3), (.int p4)] ∧ Z.Warmed39 U.vm ∧ U.heap = h0) (fun _ _ _ _ _ => True) (fun _ U o U' => ∃ v L, o = .returned v ∧ Q0 Z p1 p2 p3 p4 cs h0 n0 v U'.heap L ∧ FrameEnd U o U' L room_1.cells room_1.slots) := by
  refine MetFree.of_bodySF (plainFor_of_name pn0) hisR ?_
  intro p e s m args below meth c s₁ Bd hml0 hP hK
  obtain ⟨rfl, hZ, hh⟩ := hP
  have hx := Bd.exec
  have hby := Bd.bytes
  have hml : c.maxLocals = 11 := hml0
  have hown : s.vm.findClass "com/example/braided_tour/braidedtour/model/PeriodContainsPinLaw" = some m.cls := findClass_of_methodNamed Bd.named
  have hnm := (name_of_methodNamed Bd.named Bd.method).1
  have X0 : Stand p l e room_1 s m #[(.int p1), (.int p2), (.int p3), (.int p4)] below meth c s₁ [] 0 0 := Stand.of_body Bd
  have e0 : s₁.heap = h0 := by rw [← hh, Bd.state]; rfl
  have N0 := Fr.nil n0
  have pre0 : ∀ t, Steps p.tables e below (s₁.setTop (mkF m 0 #[.val (.int p1), .val (.int p2), .val (.int p3), .val (.int p4), .unset, .unset, .unset, .unset, .unset, .unset, .unset] [])) t → Steps p.tables e below (s₁.setTop (entryFrame m #[(.int p1), (.int p2), (.int p3), (.int p4)] maxLocals)) t := fun t k => castTop (ef0 m p1 p2 p3 p4) k
  obtain ⟨_, _, ⟨T1, L1, k1, n1⟩, -, X1, ⟨Lc1, hQ1, l1, y1, z1⟩, st1⟩ := Jvm.LawKit.callS X0 hx (y := (⟨"java/lang/String", "valueOf", "(C)Ljava/lang/String;"⟩ : MethodName)) hown (mvT hZ (hw _ (List.mem_of_getElem? (i := 1) rfl))) (mvT hZ (hw _ (List.mem_of_getElem? (i := 2) rfl))) (mvT hZ (hw _ (List.mem_of_getElem? (i := 3) rfl))) (mvT hZ (hw _ (List.mem_of_getElem? (i := 4) rfl))) (by decide) (backOf (W := 0) (rm1 l Z a0 hw [] ((p4 &&& (255 : Int32)).toUInt32.toUInt16.toUInt32.toInt32) cs h0 n0 Z0 S0 hcs (own_ch _)) hZ (hw _ (List.mem_of_getElem? (i := 4) rfl)) (hw _ (List.mem_of_getElem? (i := 3) rfl)) (by decide) (by decide)) (g := (mkF m 33 #[.val (.int p1), .val (.int p2), .val (.int p3), .val (.int p4), .val (.int ((p1 &&& (2147483647 : Int32)) - ((p1 &&& (2147483647 : Int32)) / (24 : Int32)) * (24 : Int32))), .val (.int ((p2 &&& (2147483647 : Int32)) - ((p2 &&& (2147483647 : Int32)) / (24 : Int32)) * (24 : Int32))), .val (.int ((p3 &&& (2147483647 : Int32)) - ((p3 &&& (2147483647 : Int32)) / (24 : Int32)) * (24 : Int32))), .unset, .unset, .unset, .unset] [(.int ((p4 &&& (255 : Int32)).toUInt32.toUInt16.toUInt32.toInt32))])) rfl (by rw [hml]; rfl) (argsL := [(.int ((p4 &&& (255 : Int32)).toUInt32.toUInt16.toUInt32.toInt32))]) (rest := []) (lenOf pd0_0 rfl) rfl (by show 2 * 0 + _ ≤ _; exact Nat.le_of_eq rfl) (hb hby at_33) (fun _ _ => ⟨rfl, e0, (by decide : 0 + 2 ≤ _), (by decide : 0 + 5 ≤ _)⟩)
  dsimp only [Pt.U, Pt.locs, Pt.cells, Pt.slots] at X1 l1 y1 z1 st1 hQ1
  subst l1 y1 z1
  obtain ⟨r1, rfl, N1q, K1q, E1q⟩ := hQ1
  have f1_S_java_lang_String_COMPACT_STRINGS := own_sta_keep S0 K1q
  have N1 := Fr.app N0 N1q
  have Z1 : n0 ≤ T1.heap.size := Nat.le_trans Z0 K1q.1
  obtain ⟨T2, h2, X2, e2, E2, A2, D2, -, st2⟩ := newO X1 hx hZ hown (hw _ (List.mem_of_getElem? (i := 27) rfl)) (hw _ (List.mem_of_getElem? (i := 28) rfl)) (hw _ (List.mem_of_getElem? (i := 29) rfl)) rfl (g := (mkF m 38 #[.val (.int p1), .val (.int p2), .val (.int p3), .val (.int p4), .val (.int ((p1 &&& (2147483647 : Int32)) - ((p1 &&& (2147483647 : Int32)) / (24 : Int32)) * (24 : Int32))), .val (.int ((p2 &&& (2147483647 : Int32)) - ((p2 &&& (2147483647 : Int32)) / (24 : Int32)) * (24 : Int32))), .val (.int ((p3 &&& (2147483647 : Int32)) - ((p3 &&& (2147483647 : Int32)) / (24 : Int32)) * (24 : Int32))), .val (.ref r1), .unset, .unset, .unset] [])) rfl (hb hby at_38) (by decide) (by decide)
  obtain ⟨b2, g2⟩ : ∃ z, z = T1.heap.size := ⟨_, rfl⟩
  rw [← g2] at A2 D2 st2
  have ne_r1_b2 : r1 ≠ b2 := Nat.ne_of_lt (Nat.lt_of_lt_of_le E1q.lt (Nat.le_of_eq g2.symm))
  have f2_S_java_lang_String_COMPACT_STRINGS := f1_S_java_lang_String_COMPACT_STRINGS.ext E2
  have f2_E_r1 := E1q.ext E2
  have g_b2 : n0 ≤ b2 := Nat.le_trans Z1 (Nat.le_of_eq g2.symm)
  have Z2 : n0 ≤ h2.size := Nat.le_trans Z1 E2.1
  have F2_name : Fld Z h2 b2 "com/example/braided_tour/braidedtour/model/Period" "name" "Ljava/lang/String;" .null := D2 (Or.inr (hw _ (List.mem_of_getElem? (i := 35) rfl))) (ty := (.object "java/lang/String")) (by decide)
  have F2_fromHour : Fld Z h2 b2 "com/example/braided_tour/braidedtour/model/Period" "fromHour" "I" (.int (0 : Int32)) := D2 (Or.inr (hw _ (List.mem_of_getElem? (i := 37) rfl))) (ty := .int) (by decide)
  have F2_toHour : Fld Z h2 b2 "com/example/braided_tour/braidedtour/model/Period" "toHour" "I" (.int (0 : Int32)) := D2 (Or.inr (hw _ (List.mem_of_getElem? (i := 39) rfl))) (ty := .int) (by decide)
  obtain ⟨_, _, ⟨T3, L3, k3, n3⟩, -, X3, ⟨Lc3, hQ3, l3, y3, z3⟩, st3⟩ := X2.specialBack hx (y := (⟨"com/example/braided_tour/braidedtour/model/Period", "<init>", "(Ljava/lang/String;II)V"⟩ : MethodName)) rfl hown (mvT hZ (hw _ (List.mem_of_getElem? (i := 30) rfl))) (mvT hZ (hw _ (List.mem_of_getElem? (i := 31) rfl))) (mvT hZ (hw _ (List.mem_of_getElem? (i := 32) rfl))) (by decide) (backOf (W := 1) (rm6 l Z a0 hw [] b2 r1 ((p1 &&& (2147483647 : Int32)) - ((p1 &&& (2147483647 : Int32)) / (24 : Int32)) * (24 : Int32)) ((p2 &&& (2147483647 : Int32)) - ((p2 &&& (2147483647 : Int32)) / (24 : Int32)) * (24 : Int32)) h2 n0 Z2 A2 F2_name F2_fromHour F2_toHour g_b2) hZ (hw _ (List.mem_of_getElem? (i := 32) rfl)) (hw _ (List.mem_of_getElem? (i := 29) rfl)) (by decide) (by decide)) (g := (mkF m 48 #[.val (.int p1), .val (.int p2), .val (.int p3), .val (.int p4), .val (.int ((p1 &&& (2147483647 : Int32)) - ((p1 &&& (2147483647 : Int32)) / (24 : Int32)) * (24 : Int32))), .val (.int ((p2 &&& (2147483647 : Int32)) - ((p2 &&& (2147483647 : Int32)) / (24 : Int32)) * (24 : Int32))), .val (.int ((p3 &&& (2147483647 : Int32)) - ((p3 &&& (2147483647 : Int32)) / (24 : Int32)) * (24 : Int32))), .val (.ref r1), .unset, .unset, .unset] [(.int ((p2 &&& (2147483647 : Int32)) - ((p2 &&& (2147483647 : Int32)) / (24 : Int32)) * (24 : Int32))), (.int ((p1 &&& (2147483647 : Int32)) - ((p1 &&& (2147483647 : Int32)) / (24 : Int32)) * (24 : Int32))), (.ref r1), (.ref b2), (.ref b2)])) rfl (by rw [hml]; rfl) (Steps.refl _) (a := b2) (argsL := [(.ref r1), (.int ((p1 &&& (2147483647 : Int32)) - ((p1 &&& (2147483647 : Int32)) / (24 : Int32)) * (24 : Int32))), (.int ((p2 &&& (2147483647 : Int32)) - ((p2 &&& (2147483647 : Int32)) / (24 : Int32)) * (24 : Int32)))]) (rest := [(.ref b2)]) (lenOf pd0_1 rfl) rfl (by show 2 * 0 + _ ≤ _; exact Nat.le_of_eq rfl) (hb hby at_48) (fun _ _ => ⟨rfl, e2, (by decide : 3 + 0 ≤ _), (by decide : 8 + 0 ≤ _)⟩)
  dsimp only [Pt.U, Pt.locs, Pt.cells, Pt.slots] at X3 l3 y3 z3 st3 hQ3
  subst l3 y3 z3
  obtain ⟨rfl, N3q, K3q, E3q, F3q_name, F3q_fromHour, F3q_toHour⟩ := hQ3
  have f3_E_r1 := f2_E_r1.keep K3q
  have f3_E_b2 := A2.keep K3q
  have N3 := Fr.app N1 N3q
  have Z3 : n0 ≤ T3.heap.size := Nat.le_trans Z2 K3q.1
  obtain ⟨cq4, kq4, q4a, q4b, q4c⟩ := isOf hZ rfl E3q
  obtain ⟨_, _, ⟨T4, L4, k4, n4⟩, -, X4, ⟨Lc4, hQ4, l4, y4, z4⟩, st4⟩ := X3.virtualBack hx (y := (⟨"com/example/braided_tour/braidedtour/model/Period", "contains", "(I)Z"⟩ : MethodName)) (z := (⟨"com/example/braided_tour/braidedtour/model/Period", "contains", "(I)Z"⟩ : MethodName)) hown (mvT hZ (hw _ (List.mem_of_getElem? (i := 40) rfl))) (mvT hZ (hw _ (List.mem_of_getElem? (i := 41) rfl))) (notFace_of_selects (args := #[]) (mvT hZ (hw _ (List.mem_of_getElem? (i := 43) rfl)))) (mvT hZ (hw _ (List.mem_of_getElem? (i := 43) rfl))) (mvT hZ (hw _ (List.mem_of_getElem? (i := 42) rfl))) (by decide) (backOf (W := 0) (rm7 l Z a0 hw [] b2 ((p3 &&& (2147483647 : Int32)) - ((p3 &&& (2147483647 : Int32)) / (24 : Int32)) * (24 : Int32)) ((p1 &&& (2147483647 : Int32)) - ((p1 &&& (2147483647 : Int32)) / (24 : Int32)) * (24 : Int32)) ((p2 &&& (2147483647 : Int32)) - ((p2 &&& (2147483647 : Int32)) / (24 : Int32)) * (24 : Int32)) T3.heap n0 Z3 F3q_fromHour F3q_toHour) hZ (hw _ (List.mem_of_getElem? (i := 44) rfl)) (hw _ (List.mem_of_getElem? (i := 29) rfl)) (by decide) (by decide)) q4a q4c (g := (mkF m 57 #[.val (.int p1), .val (.int p2), .val (.int p3), .val (.int p4), .val (.int ((p1 &&& (2147483647 : Int32)) - ((p1 &&& (2147483647 : Int32)) / (24 : Int32)) * (24 : Int32))), .val (.int ((p2 &&& (2147483647 : Int32)) - ((p2 &&& (2147483647 : Int32)) / (24 : Int32)) * (24 : Int32))), .val (.int ((p3 &&& (2147483647 : Int32)) - ((p3 &&& (2147483647 : Int32)) / (24 : Int32)) * (24 : Int32))), .val (.ref r1), .val (.ref b2), .unset, .unset] [(.int ((p3 &&& (2147483647 : Int32)) - ((p3 &&& (2147483647 : Int32)) / (24 : Int32)) * (24 : Int32))), (.ref b2)])) rfl (by rw [hml]; rfl) (Steps.refl _) (argsL := [(.int ((p3 &&& (2147483647 : Int32)) - ((p3 &&& (2147483647 : Int32)) / (24 : Int32)) * (24 : Int32)))]) (rest := []) (lenOf pd0_2 rfl) rfl (by show 2 * 0 + _ ≤ _; exact Nat.le_of_eq rfl) (hb hby at_57) (fun _ _ => ⟨rfl, rfl, (by decide : 3 + 0 ≤ _), (by decide : 8 + 0 ≤ _)⟩)
  dsimp only [Pt.U, Pt.locs, Pt.cells, Pt.slots] at X4 l4 y4 z4 st4 hQ4
  subst l4 y4 z4
  obtain ⟨rfl, N4q, e4⟩ := hQ4
  have N4 := Fr.app N3 N4q
  obtain ⟨_, _, ⟨T5, L5, k5, n5⟩, -, X5, ⟨Lc5, hQ5, l5, y5, z5⟩, st5⟩ := Jvm.LawKit.callS X4 hx (y := (⟨"com/example/braided_tour/braidedtour/model/PeriodContainsPinLaw", "mod24", "(I)I"⟩ : MethodName)) hown (mvT hZ (hw _ (List.mem_of_getElem? (i := 45) rfl))) (mvT hZ (hw _ (List.mem_of_getElem? (i := 46) rfl))) (mvT hZ (hw _ (List.mem_of_getElem? (i := 47) rfl))) (mvT hZ (hw _ (List.mem_of_getElem? (i := 48) rfl))) (by decide) (backOf (W := 0) (rm8 l Z a0 hw [] (((p3 &&& (2147483647 : Int32)) - ((p3 &&& (2147483647 : Int32)) / (24 : Int32)) * (24 : Int32)) - ((p1 &&& (2147483647 : Int32)) - ((p1 &&& (2147483647 : Int32)) / (24 : Int32)) * (24 : Int32))) T3.heap n0 Z3 ) hZ (hw _ (List.mem_of_getElem? (i := 48) rfl)) (hw _ (List.mem_of_getElem? (i := 47) rfl)) (by decide) (by decide)) (g := (mkF m 67 #[.val (.int p1), .val (.int p2), .val (.int p3), .val (.int p4), .val (.int ((p1 &&& (2147483647 : Int32)) - ((p1 &&& (2147483647 : Int32)) / (24 : Int32)) * (24 : Int32))), .val (.int ((p2 &&& (2147483647 : Int32)) - ((p2 &&& (2147483647 : Int32)) / (24 : Int32)) * (24 : Int32))), .val (.int ((p3 &&& (2147483647 : Int32)) - ((p3 &&& (2147483647 : Int32)) / (24 : Int32)) * (24 : Int32))), .val (.ref r1), .val (.ref b2), .val (.int (own_contains ((p3 &&& (2147483647 : Int32)) - ((p3 &&& (2147483647 : Int32)) / (24 : Int32)) * (24 : Int32)) ((p1 &&& (2147483647 : Int32)) - ((p1 &&& (2147483647 : Int32)) / (24 : Int32)) * (24 : Int32)) ((p2 &&& (2147483647 : Int32)) - ((p2 &&& (2147483647 : Int32)) / (24 : Int32)) * (24 : Int32)))), .unset] [(.int (((p3 &&& (2147483647 : Int32)) - ((p3 &&& (2147483647 : Int32)) / (24 : Int32)) * (24 : Int32)) - ((p1 &&& (2147483647 : Int32)) - ((p1 &&& (2147483647 : Int32)) / (24 : Int32)) * (24 : Int32))))])) rfl (by rw [hml]; rfl) (argsL := [(.int (((p3 &&& (2147483647 : Int32)) - ((p3 &&& (2147483647 : Int32)) / (24 : Int32)) * (24 : Int32)) - ((p1 &&& (2147483647 : Int32)) - ((p1 &&& (2147483647 : Int32)) / (24 : Int32)) * (24 : Int32))))]) (rest := []) (lenOf pd0_3 rfl) rfl (by show 2 * 0 + _ ≤ _; exact Nat.le_of_eq rfl) (hb hby at_67) (fun _ _ => ⟨rfl, e4, (by decide : 3 + 0 ≤ _), (by decide : 8 + 0 ≤ _)⟩)
  dsimp only [Pt.U, Pt.locs, Pt.cells, Pt.slots] at X5 l5 y5 z5 st5 hQ5
  subst l5 y5 z5
  obtain ⟨rfl, N5q, e5⟩ := hQ5
  have N5 := Fr.app N4 N5q
  obtain ⟨_, _, ⟨T6, L6, k6, n6⟩, -, X6, ⟨Lc6, hQ6, l6, y6, z6⟩, st6⟩ := Jvm.LawKit.callS X5 hx (y := (⟨"com/example/braided_tour/braidedtour/model/PeriodContainsPinLaw", "mod24", "(I)I"⟩ : MethodName)) hown (mvT hZ (hw _ (List.mem_of_getElem? (i := 45) rfl))) (mvT hZ (hw _ (List.mem_of_getElem? (i := 46) rfl))) (mvT hZ (hw _ (List.mem_of_getElem? (i := 47) rfl))) (mvT hZ (hw _ (List.mem_of_getElem? (i := 48) rfl))) (by decide) (backOf (W := 1) (rm8 l Z a0 hw [] (((p2 &&& (2147483647 : Int32)) - ((p2 &&& (2147483647 : Int32)) / (24 : Int32)) * (24 : Int32)) - ((p1 &&& (2147483647 : Int32)) - ((p1 &&& (2147483647 : Int32)) / (24 : Int32)) * (24 : Int32))) T3.heap n0 Z3 ) hZ (hw _ (List.mem_of_getElem? (i := 48) rfl)) (hw _ (List.mem_of_getElem? (i := 47) rfl)) (by decide) (by decide)) (g := (mkF m 75 #[.val (.int p1), .val (.int p2), .val (.int p3), .val (.int p4), .val (.int ((p1 &&& (2147483647 : Int32)) - ((p1 &&& (2147483647 : Int32)) / (24 : Int32)) * (24 : Int32))), .val (.int ((p2 &&& (2147483647 : Int32)) - ((p2 &&& (2147483647 : Int32)) / (24 : Int32)) * (24 : Int32))), .val (.int ((p3 &&& (2147483647 : Int32)) - ((p3 &&& (2147483647 : Int32)) / (24 : Int32)) * (24 : Int32))), .val (.ref r1), .val (.ref b2), .val (.int (own_contains ((p3 &&& (2147483647 : Int32)) - ((p3 &&& (2147483647 : Int32)) / (24 : Int32)) * (24 : Int32)) ((p1 &&& (2147483647 : Int32)) - ((p1 &&& (2147483647 : Int32)) / (24 : Int32)) * (24 : Int32)) ((p2 &&& (2147483647 : Int32)) - ((p2 &&& (2147483647 : Int32)) / (24 : Int32)) * (24 : Int32)))), .unset] [(.int (((p2 &&& (2147483647 : Int32)) - ((p2 &&& (2147483647 : Int32)) / (24 : Int32)) * (24 : Int32)) - ((p1 &&& (2147483647 : Int32)) - ((p1 &&& (2147483647 : Int32)) / (24 : Int32)) * (24 : Int32)))), (.int (own_mod (((p3 &&& (2147483647 : Int32)) - ((p3 &&& (2147483647 : Int32)) / (24 : Int32)) * (24 : Int32)) - ((p1 &&& (2147483647 : Int32)) - ((p1 &&& (2147483647 : Int32)) / (24 : Int32)) * (24 : Int32)))))])) rfl (by rw [hml]; rfl) (argsL := [(.int (((p2 &&& (2147483647 : Int32)) - ((p2 &&& (2147483647 : Int32)) / (24 : Int32)) * (24 : Int32)) - ((p1 &&& (2147483647 : Int32)) - ((p1 &&& (2147483647 : Int32)) / (24 : Int32)) * (24 : Int32))))]) (rest := [(.int (own_mod (((p3 &&& (2147483647 : Int32)) - ((p3 &&& (2147483647 : Int32)) / (24 : Int32)) * (24 : Int32)) - ((p1 &&& (2147483647 : Int32)) - ((p1 &&& (2147483647 : Int32)) / (24 : Int32)) * (24 : Int32)))))]) (lenOf pd0_3 rfl) rfl (by show 2 * 0 + _ ≤ _; exact Nat.le_of_eq rfl) (hb hby at_75) (fun _ _ => ⟨rfl, e5, (by decide : 3 + 0 ≤ _), (by decide : 8 + 0 ≤ _)⟩)
  dsimp only [Pt.U, Pt.locs, Pt.cells, Pt.slots] at X6 l6 y6 z6 st6 hQ6
  subst l6 y6 z6
  obtain ⟨rfl, N6q, e6⟩ := hQ6
  have N6 := Fr.app N5 N6q
  obtain ⟨j78_S0, ej78_S0⟩ : ∃ z : Int32, z = (if (own_mod (((p2 &&& (2147483647 : Int32)) - ((p2 &&& (2147483647 : Int32)) / (24 : Int32)) * (24 : Int32)) - ((p1 &&& (2147483647 : Int32)) - ((p1 &&& (2147483647 : Int32)) / (24 : Int32)) * (24 : Int32)))) < (own_mod (((p3 &&& (2147483647 : Int32)) - ((p3 &&& (2147483647 : Int32)) / (24 : Int32)) * (24 : Int32)) - ((p1 &&& (2147483647 : Int32)) - ((p1 &&& (2147483647 : Int32)) / (24 : Int32)) * (24 : Int32)))) then (0 : Int32) else (1 : Int32)) := ⟨_, rfl⟩
  have sg78 : ∀ t, Steps p.tables e below (T6.setTop (mkF m 86 #[.val (.int p1), .val (.int p2), .val (.int p3), .val (.int p4), .val (.int ((p1 &&& (2147483647 : Int32)) - ((p1 &&& (2147483647 : Int32)) / (24 : Int32)) * (24 : Int32))), .val (.int ((p2 &&& (2147483647 : Int32)) - ((p2 &&& (2147483647 : Int32)) / (24 : Int32)) * (24 : Int32))), .val (.int ((p3 &&& (2147483647 : Int32)) - ((p3 &&& (2147483647 : Int32)) / (24 : Int32)) * (24 : Int32))), .val (.ref r1), .val (.ref b2), .val (.int (own_contains ((p3 &&& (2147483647 : Int32)) - ((p3 &&& (2147483647 : Int32)) / (24 : Int32)) * (24 : Int32)) ((p1 &&& (2147483647 : Int32)) - ((p1 &&& (2147483647 : Int32)) / (24 : Int32)) * (24 : Int32)) ((p2 &&& (2147483647 : Int32)) - ((p2 &&& (2147483647 : Int32)) / (24 : Int32)) * (24 : Int32)))), .unset] [(.int j78_S0)])) t → Steps p.tables e below (T6.setTop (mkF m 78 #[.val (.int p1), .val (.int p2), .val (.int p3), .val (.int p4), .val (.int ((p1 &&& (2147483647 : Int32)) - ((p1 &&& (2147483647 : Int32)) / (24 : Int32)) * (24 : Int32))), .val (.int ((p2 &&& (2147483647 : Int32)) - ((p2 &&& (2147483647 : Int32)) / (24 : Int32)) * (24 : Int32))), .val (.int ((p3 &&& (2147483647 : Int32)) - ((p3 &&& (2147483647 : Int32)) / (24 : Int32)) * (24 : Int32))), .val (.ref r1), .val (.ref b2), .val (.int (own_contains ((p3 &&& (2147483647 : Int32)) - ((p3 &&& (2147483647 : Int32)) / (24 : Int32)) * (24 : Int32)) ((p1 &&& (2147483647 : Int32)) - ((p1 &&& (2147483647 : Int32)) / (24 : Int32)) * (24 : Int32)) ((p2 &&& (2147483647 : Int32)) - ((p2 &&& (2147483647 : Int32)) / (24 : Int32)) * (24 : Int32)))), .unset] [(.int (own_mod (((p2 &&& (2147483647 : Int32)) - ((p2 &&& (2147483647 : Int32)) / (24 : Int32)) * (24 : Int32)) - ((p1 &&& (2147483647 : Int32)) - ((p1 &&& (2147483647 : Int32)) / (24 : Int32)) * (24 : Int32))))), (.int (own_mod (((p3 &&& (2147483647 : Int32)) - ((p3 &&& (2147483647 : Int32)) / (24 : Int32)) * (24 : Int32)) - ((p1 &&& (2147483647 : Int32)) - ((p1 &&& (2147483647 : Int32)) / (24 : Int32)) * (24 : Int32)))))])) t := fun t kt => by
    by_cases hc78 : (own_mod (((p2 &&& (2147483647 : Int32)) - ((p2 &&& (2147483647 : Int32)) / (24 : Int32)) * (24 : Int32)) - ((p1 &&& (2147483647 : Int32)) - ((p1 &&& (2147483647 : Int32)) / (24 : Int32)) * (24 : Int32)))) < (own_mod (((p3 &&& (2147483647 : Int32)) - ((p3 &&& (2147483647 : Int32)) / (24 : Int32)) * (24 : Int32)) - ((p1 &&& (2147483647 : Int32)) - ((p1 &&& (2147483647 : Int32)) / (24 : Int32)) * (24 : Int32))))
    · have qj78_S0 : j78_S0 = (0 : Int32) := by rw [ej78_S0, if_pos hc78]
      rw [qj78_S0] at kt
      show Steps p.tables e below (T6.setTop (mkF m 78 #[.val (.int p1), .val (.int p2), .val (.int p3), .val (.int p4), .val (.int ((p1 &&& (2147483647 : Int32)) - ((p1 &&& (2147483647 : Int32)) / (24 : Int32)) * (24 : Int32))), .val (.int ((p2 &&& (2147483647 : Int32)) - ((p2 &&& (2147483647 : Int32)) / (24 : Int32)) * (24 : Int32))), .val (.int ((p3 &&& (2147483647 : Int32)) - ((p3 &&& (2147483647 : Int32)) / (24 : Int32)) * (24 : Int32))), .val (.ref r1), .val (.ref b2), .val (.int (own_contains ((p3 &&& (2147483647 : Int32)) - ((p3 &&& (2147483647 : Int32)) / (24 : Int32)) * (24 : Int32)) ((p1 &&& (2147483647 : Int32)) - ((p1 &&& (2147483647 : Int32)) / (24 : Int32)) * (24 : Int32)) ((p2 &&& (2147483647 : Int32)) - ((p2 &&& (2147483647 : Int32)) / (24 : Int32)) * (24 : Int32)))), .unset] [(.int (own_mod (((p2 &&& (2147483647 : Int32)) - ((p2 &&& (2147483647 : Int32)) / (24 : Int32)) * (24 : Int32)) - ((p1 &&& (2147483647 : Int32)) - ((p1 &&& (2147483647 : Int32)) / (24 : Int32)) * (24 : Int32))))), (.int (own_mod (((p3 &&& (2147483647 : Int32)) - ((p3 &&& (2147483647 : Int32)) / (24 : Int32)) * (24 : Int32)) - ((p1 &&& (2147483647 : Int32)) - ((p1 &&& (2147483647 : Int32)) / (24 : Int32)) * (24 : Int32)))))])) _
      refine XS.icmpYes X6.here hx rfl (pc0 := 78) (pc' := 85) rfl (hb hby at_78) rfl (tlt hc78).2.2.1 (by decide) (by decide) ?_
      show Steps p.tables e below (T6.setTop (mkF m 85 #[.val (.int p1), .val (.int p2), .val (.int p3), .val (.int p4), .val (.int ((p1 &&& (2147483647 : Int32)) - ((p1 &&& (2147483647 : Int32)) / (24 : Int32)) * (24 : Int32))), .val (.int ((p2 &&& (2147483647 : Int32)) - ((p2 &&& (2147483647 : Int32)) / (24 : Int32)) * (24 : Int32))), .val (.int ((p3 &&& (2147483647 : Int32)) - ((p3 &&& (2147483647 : Int32)) / (24 : Int32)) * (24 : Int32))), .val (.ref r1), .val (.ref b2), .val (.int (own_contains ((p3 &&& (2147483647 : Int32)) - ((p3 &&& (2147483647 : Int32)) / (24 : Int32)) * (24 : Int32)) ((p1 &&& (2147483647 : Int32)) - ((p1 &&& (2147483647 : Int32)) / (24 : Int32)) * (24 : Int32)) ((p2 &&& (2147483647 : Int32)) - ((p2 &&& (2147483647 : Int32)) / (24 : Int32)) * (24 : Int32)))), .unset] [])) _
      refine XS.iconst X6.here hx rfl (hb hby at_85) ?_
      exact kt
    · have qj78_S0 : j78_S0 = (1 : Int32) := by rw [ej78_S0, if_neg hc78]
      rw [qj78_S0] at kt
      show Steps p.tables e below (T6.setTop (mkF m 78 #[.val (.int p1), .val (.int p2), .val (.int p3), .val (.int p4), .val (.int ((p1 &&& (2147483647 : Int32)) - ((p1 &&& (2147483647 : Int32)) / (24 : Int32)) * (24 : Int32))), .val (.int ((p2 &&& (2147483647 : Int32)) - ((p2 &&& (2147483647 : Int32)) / (24 : Int32)) * (24 : Int32))), .val (.int ((p3 &&& (2147483647 : Int32)) - ((p3 &&& (2147483647 : Int32)) / (24 : Int32)) * (24 : Int32))), .val (.ref r1), .val (.ref b2), .val (.int (own_contains ((p3 &&& (2147483647 : Int32)) - ((p3 &&& (2147483647 : Int32)) / (24 : Int32)) * (24 : Int32)) ((p1 &&& (2147483647 : Int32)) - ((p1 &&& (2147483647 : Int32)) / (24 : Int32)) * (24 : Int32)) ((p2 &&& (2147483647 : Int32)) - ((p2 &&& (2147483647 : Int32)) / (24 : Int32)) * (24 : Int32)))), .unset] [(.int (own_mod (((p2 &&& (2147483647 : Int32)) - ((p2 &&& (2147483647 : Int32)) / (24 : Int32)) * (24 : Int32)) - ((p1 &&& (2147483647 : Int32)) - ((p1 &&& (2147483647 : Int32)) / (24 : Int32)) * (24 : Int32))))), (.int (own_mod (((p3 &&& (2147483647 : Int32)) - ((p3 &&& (2147483647 : Int32)) / (24 : Int32)) * (24 : Int32)) - ((p1 &&& (2147483647 : Int32)) - ((p1 &&& (2147483647 : Int32)) / (24 : Int32)) * (24 : Int32)))))])) _
      refine XS.icmpNo X6.here hx rfl (hb hby at_78) rfl (flt hc78).2.2.1 ?_
      show Steps p.tables e below (T6.setTop (mkF m 81 #[.val (.int p1), .val (.int p2), .val (.int p3), .val (.int p4), .val (.int ((p1 &&& (2147483647 : Int32)) - ((p1 &&& (2147483647 : Int32)) / (24 : Int32)) * (24 : Int32))), .val (.int ((p2 &&& (2147483647 : Int32)) - ((p2 &&& (2147483647 : Int32)) / (24 : Int32)) * (24 : Int32))), .val (.int ((p3 &&& (2147483647 : Int32)) - ((p3 &&& (2147483647 : Int32)) / (24 : Int32)) * (24 : Int32))), .val (.ref r1), .val (.ref b2), .val (.int (own_contains ((p3 &&& (2147483647 : Int32)) - ((p3 &&& (2147483647 : Int32)) / (24 : Int32)) * (24 : Int32)) ((p1 &&& (2147483647 : Int32)) - ((p1 &&& (2147483647 : Int32)) / (24 : Int32)) * (24 : Int32)) ((p2 &&& (2147483647 : Int32)) - ((p2 &&& (2147483647 : Int32)) / (24 : Int32)) * (24 : Int32)))), .unset] [])) _
      refine XS.iconst X6.here hx rfl (hb hby at_81) ?_
      show Steps p.tables e below (T6.setTop (mkF m 82 #[.val (.int p1), .val (.int p2), .val (.int p3), .val (.int p4), .val (.int ((p1 &&& (2147483647 : Int32)) - ((p1 &&& (2147483647 : Int32)) / (24 : Int32)) * (24 : Int32))), .val (.int ((p2 &&& (2147483647 : Int32)) - ((p2 &&& (2147483647 : Int32)) / (24 : Int32)) * (24 : Int32))), .val (.int ((p3 &&& (2147483647 : Int32)) - ((p3 &&& (2147483647 : Int32)) / (24 : Int32)) * (24 : Int32))), .val (.ref r1), .val (.ref b2), .val (.int (own_contains ((p3 &&& (2147483647 : Int32)) - ((p3 &&& (2147483647 : Int32)) / (24 : Int32)) * (24 : Int32)) ((p1 &&& (2147483647 : Int32)) - ((p1 &&& (2147483647 : Int32)) / (24 : Int32)) * (24 : Int32)) ((p2 &&& (2147483647 : Int32)) - ((p2 &&& (2147483647 : Int32)) / (24 : Int32)) * (24 : Int32)))), .unset] [(.int (1 : Int32))])) _
      refine XS.goto X6.here hx rfl (pc0 := 82) (pc' := 86) rfl (hb hby at_82) (by decide) (by decide) ?_
      exact kt
  obtain ⟨fs, hr, hrun, hended, hW, hsame⟩ := X6.leave (v := some (.int (1 : Int32))) (fun h => by rw [Bd.returns] at h; cases h)
  refine ⟨_, _, pre0 _ ?_, hrun, hended, _, _, rfl, ?_, ⟨_, rfl⟩, hW, hsame.mono (by decide) (by decide)⟩
  · show Steps p.tables e below (s₁.setTop (mkF m 0 #[.val (.int p1), .val (.int p2), .val (.int p3), .val (.int p4), .unset, .unset, .unset, .unset, .unset, .unset, .unset] [])) _
    refine XS.iloadN X0.here hx rfl (hb hby at_0) rfl ?_
    show Steps p.tables e below (s₁.setTop (mkF m 1 #[.val (.int p1), .val (.int p2), .val (.int p3), .val (.int p4), .unset, .unset, .unset, .unset, .unset, .unset, .unset] [(.int p1)])) _
    refine X0.ldcInt hx hown (mvT hZ (hw _ (List.mem_of_getElem? (i := 0) rfl))) (g := (mkF m 1 #[.val (.int p1), .val (.int p2), .val (.int p3), .val (.int p4), .unset, .unset, .unset, .unset, .unset, .unset, .unset] [(.int p1)])) rfl (hb hby at_1) _ ?_
    show Steps p.tables e below (s₁.setTop (mkF m 3 #[.val (.int p1), .val (.int p2), .val (.int p3), .val (.int p4), .unset, .unset, .unset, .unset, .unset, .unset, .unset] [(.int (2147483647 : Int32)), (.int p1)])) _
    refine XS.iand X0.here hx rfl (hb hby at_3) rfl ?_
    show Steps p.tables e below (s₁.setTop (mkF m 4 #[.val (.int p1), .val (.int p2), .val (.int p3), .val (.int p4), .unset, .unset, .unset, .unset, .unset, .unset, .unset] [(.int (p1 &&& (2147483647 : Int32)))])) _
    refine XS.bipush X0.here hx rfl (hb hby at_4) ?_
    show Steps p.tables e below (s₁.setTop (mkF m 6 #[.val (.int p1), .val (.int p2), .val (.int p3), .val (.int p4), .unset, .unset, .unset, .unset, .unset, .unset, .unset] [(.int (24 : Int32)), (.int (p1 &&& (2147483647 : Int32)))])) _
    refine XS.irem X0.here hx rfl (hb hby at_6) rfl (by decide) ?_
    show Steps p.tables e below (s₁.setTop (mkF m 7 #[.val (.int p1), .val (.int p2), .val (.int p3), .val (.int p4), .unset, .unset, .unset, .unset, .unset, .unset, .unset] [(.int ((p1 &&& (2147483647 : Int32)) - ((p1 &&& (2147483647 : Int32)) / (24 : Int32)) * (24 : Int32)))])) _
    refine XS.istore X0.here hx rfl (hb hby at_7) rfl (l' := #[.val (.int p1), .val (.int p2), .val (.int p3), .val (.int p4), .val (.int ((p1 &&& (2147483647 : Int32)) - ((p1 &&& (2147483647 : Int32)) / (24 : Int32)) * (24 : Int32))), .unset, .unset, .unset, .unset, .unset, .unset]) rfl ?_
    show Steps p.tables e below (s₁.setTop (mkF m 9 #[.val (.int p1), .val (.int p2), .val (.int p3), .val (.int p4), .val (.int ((p1 &&& (2147483647 : Int32)) - ((p1 &&& (2147483647 : Int32)) / (24 : Int32)) * (24 : Int32))), .unset, .unset, .unset, .unset, .unset, .unset] [])) _
    refine XS.iloadN X0.here hx rfl (hb hby at_9) rfl ?_
    show Steps p.tables e below (s₁.setTop (mkF m 10 #[.val (.int p1), .val (.int p2), .val (.int p3), .val (.int p4), .val (.int ((p1 &&& (2147483647 : Int32)) - ((p1 &&& (2147483647 : Int32)) / (24 : Int32)) * (24 : Int32))), .unset, .unset, .unset, .unset, .unset, .unset] [(.int p2)])) _
    refine X0.ldcInt hx hown (mvT hZ (hw _ (List.mem_of_getElem? (i := 0) rfl))) (g := (mkF m 10 #[.val (.int p1), .val (.int p2), .val (.int p3), .val (.int p4), .val (.int ((p1 &&& (2147483647 : Int32)) - ((p1 &&& (2147483647 : Int32)) / (24 : Int32)) * (24 : Int32))), .unset, .unset, .unset, .unset, .unset, .unset] [(.int p2)])) rfl (hb hby at_10) _ ?_
    show Steps p.tables e below (s₁.setTop (mkF m 12 #[.val (.int p1), .val (.int p2), .val (.int p3), .val (.int p4), .val (.int ((p1 &&& (2147483647 : Int32)) - ((p1 &&& (2147483647 : Int32)) / (24 : Int32)) * (24 : Int32))), .unset, .unset, .unset, .unset, .unset, .unset] [(.int (2147483647 : Int32)), (.int p2)])) _
    refine XS.iand X0.here hx rfl (hb hby at_12) rfl ?_
    show Steps p.tables e below (s₁.setTop (mkF m 13 #[.val (.int p1), .val (.int p2), .val (.int p3), .val (.int p4), .val (.int ((p1 &&& (2147483647 : Int32)) - ((p1 &&& (2147483647 : Int32)) / (24 : Int32)) * (24 : Int32))), .unset, .unset, .unset, .unset, .unset, .unset] [(.int (p2 &&& (2147483647 : Int32)))])) _
    refine XS.bipush X0.here hx rfl (hb hby at_13) ?_
    show Steps p.tables e below (s₁.setTop (mkF m 15 #[.val (.int p1), .val (.int p2), .val (.int p3), .val (.int p4), .val (.int ((p1 &&& (2147483647 : Int32)) - ((p1 &&& (2147483647 : Int32)) / (24 : Int32)) * (24 : Int32))), .unset, .unset, .unset, .unset, .unset, .unset] [(.int (24 : Int32)), (.int (p2 &&& (2147483647 : Int32)))])) _
    refine XS.irem X0.here hx rfl (hb hby at_15) rfl (by decide) ?_
    show Steps p.tables e below (s₁.setTop (mkF m 16 #[.val (.int p1), .val (.int p2), .val (.int p3), .val (.int p4), .val (.int ((p1 &&& (2147483647 : Int32)) - ((p1 &&& (2147483647 : Int32)) / (24 : Int32)) * (24 : Int32))), .unset, .unset, .unset, .unset, .unset, .unset] [(.int ((p2 &&& (2147483647 : Int32)) - ((p2 &&& (2147483647 : Int32)) / (24 : Int32)) * (24 : Int32)))])) _
    refine XS.istore X0.here hx rfl (hb hby at_16) rfl (l' := #[.val (.int p1), .val (.int p2), .val (.int p3), .val (.int p4), .val (.int ((p1 &&& (2147483647 : Int32)) - ((p1 &&& (2147483647 : Int32)) / (24 : Int32)) * (24 : Int32))), .val (.int ((p2 &&& (2147483647 : Int32)) - ((p2 &&& (2147483647 : Int32)) / (24 : Int32)) * (24 : Int32))), .unset, .unset, .unset, .unset, .unset]) rfl ?_
    show Steps p.tables e below (s₁.setTop (mkF m 18 #[.val (.int p1), .val (.int p2), .val (.int p3), .val (.int p4), .val (.int ((p1 &&& (2147483647 : Int32)) - ((p1 &&& (2147483647 : Int32)) / (24 : Int32)) * (24 : Int32))), .val (.int ((p2 &&& (2147483647 : Int32)) - ((p2 &&& (2147483647 : Int32)) / (24 : Int32)) * (24 : Int32))), .unset, .unset, .unset, .unset, .unset] [])) _
    refine XS.iloadN X0.here hx rfl (hb hby at_18) rfl ?_
    show Steps p.tables e below (s₁.setTop (mkF m 19 #[.val (.int p1), .val (.int p2), .val (.int p3), .val (.int p4), .val (.int ((p1 &&& (2147483647 : Int32)) - ((p1 &&& (2147483647 : Int32)) / (24 : Int32)) * (24 : Int32))), .val (.int ((p2 &&& (2147483647 : Int32)) - ((p2 &&& (2147483647 : Int32)) / (24 : Int32)) * (24 : Int32))), .unset, .unset, .unset, .unset, .unset] [(.int p3)])) _
    refine X0.ldcInt hx hown (mvT hZ (hw _ (List.mem_of_getElem? (i := 0) rfl))) (g := (mkF m 19 #[.val (.int p1), .val (.int p2), .val (.int p3), .val (.int p4), .val (.int ((p1 &&& (2147483647 : Int32)) - ((p1 &&& (2147483647 : Int32)) / (24 : Int32)) * (24 : Int32))), .val (.int ((p2 &&& (2147483647 : Int32)) - ((p2 &&& (2147483647 : Int32)) / (24 : Int32)) * (24 : Int32))), .unset, .unset, .unset, .unset, .unset] [(.int p3)])) rfl (hb hby at_19) _ ?_
    show Steps p.tables e below (s₁.setTop (mkF m 21 #[.val (.int p1), .val (.int p2), .val (.int p3), .val (.int p4), .val (.int ((p1 &&& (2147483647 : Int32)) - ((p1 &&& (2147483647 : Int32)) / (24 : Int32)) * (24 : Int32))), .val (.int ((p2 &&& (2147483647 : Int32)) - ((p2 &&& (2147483647 : Int32)) / (24 : Int32)) * (24 : Int32))), .unset, .unset, .unset, .unset, .unset] [(.int (2147483647 : Int32)), (.int p3)])) _
    refine XS.iand X0.here hx rfl (hb hby at_21) rfl ?_
    show Steps p.tables e below (s₁.setTop (mkF m 22 #[.val (.int p1), .val (.int p2), .val (.int p3), .val (.int p4), .val (.int ((p1 &&& (2147483647 : Int32)) - ((p1 &&& (2147483647 : Int32)) / (24 : Int32)) * (24 : Int32))), .val (.int ((p2 &&& (2147483647 : Int32)) - ((p2 &&& (2147483647 : Int32)) / (24 : Int32)) * (24 : Int32))), .unset, .unset, .unset, .unset, .unset] [(.int (p3 &&& (2147483647 : Int32)))])) _
    refine XS.bipush X0.here hx rfl (hb hby at_22) ?_
    show Steps p.tables e below (s₁.setTop (mkF m 24 #[.val (.int p1), .val (.int p2), .val (.int p3), .val (.int p4), .val (.int ((p1 &&& (2147483647 : Int32)) - ((p1 &&& (2147483647 : Int32)) / (24 : Int32)) * (24 : Int32))), .val (.int ((p2 &&& (2147483647 : Int32)) - ((p2 &&& (2147483647 : Int32)) / (24 : Int32)) * (24 : Int32))), .unset, .unset, .unset, .unset, .unset] [(.int (24 : Int32)), (.int (p3 &&& (2147483647 : Int32)))])) _
    refine XS.irem X0.here hx rfl (hb hby at_24) rfl (by decide) ?_
    show Steps p.tables e below (s₁.setTop (mkF m 25 #[.val (.int p1), .val (.int p2), .val (.int p3), .val (.int p4), .val (.int ((p1 &&& (2147483647 : Int32)) - ((p1 &&& (2147483647 : Int32)) / (24 : Int32)) * (24 : Int32))), .val (.int ((p2 &&& (2147483647 : Int32)) - ((p2 &&& (2147483647 : Int32)) / (24 : Int32)) * (24 : Int32))), .unset, .unset, .unset, .unset, .unset] [(.int ((p3 &&& (2147483647 : Int32)) - ((p3 &&& (2147483647 : Int32)) / (24 : Int32)) * (24 : Int32)))])) _
    refine XS.istore X0.here hx rfl (hb hby at_25) rfl (l' := #[.val (.int p1), .val (.int p2), .val (.int p3), .val (.int p4), .val (.int ((p1 &&& (2147483647 : Int32)) - ((p1 &&& (2147483647 : Int32)) / (24 : Int32)) * (24 : Int32))), .val (.int ((p2 &&& (2147483647 : Int32)) - ((p2 &&& (2147483647 : Int32)) / (24 : Int32)) * (24 : Int32))), .val (.int ((p3 &&& (2147483647 : Int32)) - ((p3 &&& (2147483647 : Int32)) / (24 : Int32)) * (24 : Int32))), .unset, .unset, .unset, .unset]) rfl ?_
    show Steps p.tables e below (s₁.setTop (mkF m 27 #[.val (.int p1), .val (.int p2), .val (.int p3), .val (.int p4), .val (.int ((p1 &&& (2147483647 : Int32)) - ((p1 &&& (2147483647 : Int32)) / (24 : Int32)) * (24 : Int32))), .val (.int ((p2 &&& (2147483647 : Int32)) - ((p2 &&& (2147483647 : Int32)) / (24 : Int32)) * (24 : Int32))), .val (.int ((p3 &&& (2147483647 : Int32)) - ((p3 &&& (2147483647 : Int32)) / (24 : Int32)) * (24 : Int32))), .unset, .unset, .unset, .unset] [])) _
    refine XS.iloadN X0.here hx rfl (hb hby at_27) rfl ?_
    show Steps p.tables e below (s₁.setTop (mkF m 28 #[.val (.int p1), .val (.int p2), .val (.int p3), .val (.int p4), .val (.int ((p1 &&& (2147483647 : Int32)) - ((p1 &&& (2147483647 : Int32)) / (24 : Int32)) * (24 : Int32))), .val (.int ((p2 &&& (2147483647 : Int32)) - ((p2 &&& (2147483647 : Int32)) / (24 : Int32)) * (24 : Int32))), .val (.int ((p3 &&& (2147483647 : Int32)) - ((p3 &&& (2147483647 : Int32)) / (24 : Int32)) * (24 : Int32))), .unset, .unset, .unset, .unset] [(.int p4)])) _
    refine XS.sipush X0.here hx rfl (hb hby at_28) ?_
    show Steps p.tables e below (s₁.setTop (mkF m 31 #[.val (.int p1), .val (.int p2), .val (.int p3), .val (.int p4), .val (.int ((p1 &&& (2147483647 : Int32)) - ((p1 &&& (2147483647 : Int32)) / (24 : Int32)) * (24 : Int32))), .val (.int ((p2 &&& (2147483647 : Int32)) - ((p2 &&& (2147483647 : Int32)) / (24 : Int32)) * (24 : Int32))), .val (.int ((p3 &&& (2147483647 : Int32)) - ((p3 &&& (2147483647 : Int32)) / (24 : Int32)) * (24 : Int32))), .unset, .unset, .unset, .unset] [(.int (255 : Int32)), (.int p4)])) _
    refine XS.iand X0.here hx rfl (hb hby at_31) rfl ?_
    show Steps p.tables e below (s₁.setTop (mkF m 32 #[.val (.int p1), .val (.int p2), .val (.int p3), .val (.int p4), .val (.int ((p1 &&& (2147483647 : Int32)) - ((p1 &&& (2147483647 : Int32)) / (24 : Int32)) * (24 : Int32))), .val (.int ((p2 &&& (2147483647 : Int32)) - ((p2 &&& (2147483647 : Int32)) / (24 : Int32)) * (24 : Int32))), .val (.int ((p3 &&& (2147483647 : Int32)) - ((p3 &&& (2147483647 : Int32)) / (24 : Int32)) * (24 : Int32))), .unset, .unset, .unset, .unset] [(.int (p4 &&& (255 : Int32)))])) _
    refine XS.i2c X0.here hx rfl (hb hby at_32) rfl ?_
    show Steps p.tables e below (s₁.setTop (mkF m 33 #[.val (.int p1), .val (.int p2), .val (.int p3), .val (.int p4), .val (.int ((p1 &&& (2147483647 : Int32)) - ((p1 &&& (2147483647 : Int32)) / (24 : Int32)) * (24 : Int32))), .val (.int ((p2 &&& (2147483647 : Int32)) - ((p2 &&& (2147483647 : Int32)) / (24 : Int32)) * (24 : Int32))), .val (.int ((p3 &&& (2147483647 : Int32)) - ((p3 &&& (2147483647 : Int32)) / (24 : Int32)) * (24 : Int32))), .unset, .unset, .unset, .unset] [(.int ((p4 &&& (255 : Int32)).toUInt32.toUInt16.toUInt32.toInt32))])) _
    refine st1 _ ?_
    show Steps p.tables e below (T1.setTop (mkF m 36 #[.val (.int p1), .val (.int p2), .val (.int p3), .val (.int p4), .val (.int ((p1 &&& (2147483647 : Int32)) - ((p1 &&& (2147483647 : Int32)) / (24 : Int32)) * (24 : Int32))), .val (.int ((p2 &&& (2147483647 : Int32)) - ((p2 &&& (2147483647 : Int32)) / (24 : Int32)) * (24 : Int32))), .val (.int ((p3 &&& (2147483647 : Int32)) - ((p3 &&& (2147483647 : Int32)) / (24 : Int32)) * (24 : Int32))), .unset, .unset, .unset, .unset] [(.ref r1)])) _
    refine XS.astore X1.here hx rfl (hb hby at_36) rfl rfl (l' := #[.val (.int p1), .val (.int p2), .val (.int p3), .val (.int p4), .val (.int ((p1 &&& (2147483647 : Int32)) - ((p1 &&& (2147483647 : Int32)) / (24 : Int32)) * (24 : Int32))), .val (.int ((p2 &&& (2147483647 : Int32)) - ((p2 &&& (2147483647 : Int32)) / (24 : Int32)) * (24 : Int32))), .val (.int ((p3 &&& (2147483647 : Int32)) - ((p3 &&& (2147483647 : Int32)) / (24 : Int32)) * (24 : Int32))), .val (.ref r1), .unset, .unset, .unset]) rfl ?_
    show Steps p.tables e below (T1.setTop (mkF m 38 #[.val (.int p1), .val (.int p2), .val (.int p3), .val (.int p4), .val (.int ((p1 &&& (2147483647 : Int32)) - ((p1 &&& (2147483647 : Int32)) / (24 : Int32)) * (24 : Int32))), .val (.int ((p2 &&& (2147483647 : Int32)) - ((p2 &&& (2147483647 : Int32)) / (24 : Int32)) * (24 : Int32))), .val (.int ((p3 &&& (2147483647 : Int32)) - ((p3 &&& (2147483647 : Int32)) / (24 : Int32)) * (24 : Int32))), .val (.ref r1), .unset, .unset, .unset] [])) _
    refine st2 _ ?_
    show Steps p.tables e below (T2.setTop (mkF m 41 #[.val (.int p1), .val (.int p2), .val (.int p3), .val (.int p4), .val (.int ((p1 &&& (2147483647 : Int32)) - ((p1 &&& (2147483647 : Int32)) / (24 : Int32)) * (24 : Int32))), .val (.int ((p2 &&& (2147483647 : Int32)) - ((p2 &&& (2147483647 : Int32)) / (24 : Int32)) * (24 : Int32))), .val (.int ((p3 &&& (2147483647 : Int32)) - ((p3 &&& (2147483647 : Int32)) / (24 : Int32)) * (24 : Int32))), .val (.ref r1), .unset, .unset, .unset] [(.ref b2)])) _
    refine XS.dup X2.here hx rfl (hb hby at_41) rfl rfl ?_
    show Steps p.tables e below (T2.setTop (mkF m 42 #[.val (.int p1), .val (.int p2), .val (.int p3), .val (.int p4), .val (.int ((p1 &&& (2147483647 : Int32)) - ((p1 &&& (2147483647 : Int32)) / (24 : Int32)) * (24 : Int32))), .val (.int ((p2 &&& (2147483647 : Int32)) - ((p2 &&& (2147483647 : Int32)) / (24 : Int32)) * (24 : Int32))), .val (.int ((p3 &&& (2147483647 : Int32)) - ((p3 &&& (2147483647 : Int32)) / (24 : Int32)) * (24 : Int32))), .val (.ref r1), .unset, .unset, .unset] [(.ref b2), (.ref b2)])) _
    refine XS.aload X2.here hx rfl (hb hby at_42) rfl rfl ?_
    show Steps p.tables e below (T2.setTop (mkF m 44 #[.val (.int p1), .val (.int p2), .val (.int p3), .val (.int p4), .val (.int ((p1 &&& (2147483647 : Int32)) - ((p1 &&& (2147483647 : Int32)) / (24 : Int32)) * (24 : Int32))), .val (.int ((p2 &&& (2147483647 : Int32)) - ((p2 &&& (2147483647 : Int32)) / (24 : Int32)) * (24 : Int32))), .val (.int ((p3 &&& (2147483647 : Int32)) - ((p3 &&& (2147483647 : Int32)) / (24 : Int32)) * (24 : Int32))), .val (.ref r1), .unset, .unset, .unset] [(.ref r1), (.ref b2), (.ref b2)])) _
    refine XS.iload X2.here hx rfl (hb hby at_44) rfl ?_
    show Steps p.tables e below (T2.setTop (mkF m 46 #[.val (.int p1), .val (.int p2), .val (.int p3), .val (.int p4), .val (.int ((p1 &&& (2147483647 : Int32)) - ((p1 &&& (2147483647 : Int32)) / (24 : Int32)) * (24 : Int32))), .val (.int ((p2 &&& (2147483647 : Int32)) - ((p2 &&& (2147483647 : Int32)) / (24 : Int32)) * (24 : Int32))), .val (.int ((p3 &&& (2147483647 : Int32)) - ((p3 &&& (2147483647 : Int32)) / (24 : Int32)) * (24 : Int32))), .val (.ref r1), .unset, .unset, .unset] [(.int ((p1 &&& (2147483647 : Int32)) - ((p1 &&& (2147483647 : Int32)) / (24 : Int32)) * (24 : Int32))), (.ref r1), (.ref b2), (.ref b2)])) _
    refine XS.iload X2.here hx rfl (hb hby at_46) rfl ?_
    show Steps p.tables e below (T2.setTop (mkF m 48 #[.val (.int p1), .val (.int p2), .val (.int p3), .val (.int p4), .val (.int ((p1 &&& (2147483647 : Int32)) - ((p1 &&& (2147483647 : Int32)) / (24 : Int32)) * (24 : Int32))), .val (.int ((p2 &&& (2147483647 : Int32)) - ((p2 &&& (2147483647 : Int32)) / (24 : Int32)) * (24 : Int32))), .val (.int ((p3 &&& (2147483647 : Int32)) - ((p3 &&& (2147483647 : Int32)) / (24 : Int32)) * (24 : Int32))), .val (.ref r1), .unset, .unset, .unset] [(.int ((p2 &&& (2147483647 : Int32)) - ((p2 &&& (2147483647 : Int32)) / (24 : Int32)) * (24 : Int32))), (.int ((p1 &&& (2147483647 : Int32)) - ((p1 &&& (2147483647 : Int32)) / (24 : Int32)) * (24 : Int32))), (.ref r1), (.ref b2), (.ref b2)])) _
    refine st3.trans ?_
    show Steps p.tables e below (T3.setTop (mkF m 51 #[.val (.int p1), .val (.int p2), .val (.int p3), .val (.int p4), .val (.int ((p1 &&& (2147483647 : Int32)) - ((p1 &&& (2147483647 : Int32)) / (24 : Int32)) * (24 : Int32))), .val (.int ((p2 &&& (2147483647 : Int32)) - ((p2 &&& (2147483647 : Int32)) / (24 : Int32)) * (24 : Int32))), .val (.int ((p3 &&& (2147483647 : Int32)) - ((p3 &&& (2147483647 : Int32)) / (24 : Int32)) * (24 : Int32))), .val (.ref r1), .unset, .unset, .unset] [(.ref b2)])) _
    refine XS.astore X3.here hx rfl (hb hby at_51) rfl rfl (l' := #[.val (.int p1), .val (.int p2), .val (.int p3), .val (.int p4), .val (.int ((p1 &&& (2147483647 : Int32)) - ((p1 &&& (2147483647 : Int32)) / (24 : Int32)) * (24 : Int32))), .val (.int ((p2 &&& (2147483647 : Int32)) - ((p2 &&& (2147483647 : Int32)) / (24 : Int32)) * (24 : Int32))), .val (.int ((p3 &&& (2147483647 : Int32)) - ((p3 &&& (2147483647 : Int32)) / (24 : Int32)) * (24 : Int32))), .val (.ref r1), .val (.ref b2), .unset, .unset]) rfl ?_
    show Steps p.tables e below (T3.setTop (mkF m 53 #[.val (.int p1), .val (.int p2), .val (.int p3), .val (.int p4), .val (.int ((p1 &&& (2147483647 : Int32)) - ((p1 &&& (2147483647 : Int32)) / (24 : Int32)) * (24 : Int32))), .val (.int ((p2 &&& (2147483647 : Int32)) - ((p2 &&& (2147483647 : Int32)) / (24 : Int32)) * (24 : Int32))), .val (.int ((p3 &&& (2147483647 : Int32)) - ((p3 &&& (2147483647 : Int32)) / (24 : Int32)) * (24 : Int32))), .val (.ref r1), .val (.ref b2), .unset, .unset] [])) _
    refine XS.aload X3.here hx rfl (hb hby at_53) rfl rfl ?_
    show Steps p.tables e below (T3.setTop (mkF m 55 #[.val (.int p1), .val (.int p2), .val (.int p3), .val (.int p4), .val (.int ((p1 &&& (2147483647 : Int32)) - ((p1 &&& (2147483647 : Int32)) / (24 : Int32)) * (24 : Int32))), .val (.int ((p2 &&& (2147483647 : Int32)) - ((p2 &&& (2147483647 : Int32)) / (24 : Int32)) * (24 : Int32))), .val (.int ((p3 &&& (2147483647 : Int32)) - ((p3 &&& (2147483647 : Int32)) / (24 : Int32)) * (24 : Int32))), .val (.ref r1), .val (.ref b2), .unset, .unset] [(.ref b2)])) _
    refine XS.iload X3.here hx rfl (hb hby at_55) rfl ?_
    show Steps p.tables e below (T3.setTop (mkF m 57 #[.val (.int p1), .val (.int p2), .val (.int p3), .val (.int p4), .val (.int ((p1 &&& (2147483647 : Int32)) - ((p1 &&& (2147483647 : Int32)) / (24 : Int32)) * (24 : Int32))), .val (.int ((p2 &&& (2147483647 : Int32)) - ((p2 &&& (2147483647 : Int32)) / (24 : Int32)) * (24 : Int32))), .val (.int ((p3 &&& (2147483647 : Int32)) - ((p3 &&& (2147483647 : Int32)) / (24 : Int32)) * (24 : Int32))), .val (.ref r1), .val (.ref b2), .unset, .unset] [(.int ((p3 &&& (2147483647 : Int32)) - ((p3 &&& (2147483647 : Int32)) / (24 : Int32)) * (24 : Int32))), (.ref b2)])) _
    refine st4.trans ?_
    show Steps p.tables e below (T4.setTop (mkF m 60 #[.val (.int p1), .val (.int p2), .val (.int p3), .val (.int p4), .val (.int ((p1 &&& (2147483647 : Int32)) - ((p1 &&& (2147483647 : Int32)) / (24 : Int32)) * (24 : Int32))), .val (.int ((p2 &&& (2147483647 : Int32)) - ((p2 &&& (2147483647 : Int32)) / (24 : Int32)) * (24 : Int32))), .val (.int ((p3 &&& (2147483647 : Int32)) - ((p3 &&& (2147483647 : Int32)) / (24 : Int32)) * (24 : Int32))), .val (.ref r1), .val (.ref b2), .unset, .unset] [(.int (own_contains ((p3 &&& (2147483647 : Int32)) - ((p3 &&& (2147483647 : Int32)) / (24 : Int32)) * (24 : Int32)) ((p1 &&& (2147483647 : Int32)) - ((p1 &&& (2147483647 : Int32)) / (24 : Int32)) * (24 : Int32)) ((p2 &&& (2147483647 : Int32)) - ((p2 &&& (2147483647 : Int32)) / (24 : Int32)) * (24 : Int32))))])) _
    refine XS.istore X4.here hx rfl (hb hby at_60) rfl (l' := #[.val (.int p1), .val (.int p2), .val (.int p3), .val (.int p4), .val (.int ((p1 &&& (2147483647 : Int32)) - ((p1 &&& (2147483647 : Int32)) / (24 : Int32)) * (24 : Int32))), .val (.int ((p2 &&& (2147483647 : Int32)) - ((p2 &&& (2147483647 : Int32)) / (24 : Int32)) * (24 : Int32))), .val (.int ((p3 &&& (2147483647 : Int32)) - ((p3 &&& (2147483647 : Int32)) / (24 : Int32)) * (24 : Int32))), .val (.ref r1), .val (.ref b2), .val (.int (own_contains ((p3 &&& (2147483647 : Int32)) - ((p3 &&& (2147483647 : Int32)) / (24 : Int32)) * (24 : Int32)) ((p1 &&& (2147483647 : Int32)) - ((p1 &&& (2147483647 : Int32)) / (24 : Int32)) * (24 : Int32)) ((p2 &&& (2147483647 : Int32)) - ((p2 &&& (2147483647 : Int32)) / (24 : Int32)) * (24 : Int32)))), .unset]) rfl ?_
    show Steps p.tables e below (T4.setTop (mkF m 62 #[.val (.int p1), .val (.int p2), .val (.int p3), .val (.int p4), .val (.int ((p1 &&& (2147483647 : Int32)) - ((p1 &&& (2147483647 : Int32)) / (24 : Int32)) * (24 : Int32))), .val (.int ((p2 &&& (2147483647 : Int32)) - ((p2 &&& (2147483647 : Int32)) / (24 : Int32)) * (24 : Int32))), .val (.int ((p3 &&& (2147483647 : Int32)) - ((p3 &&& (2147483647 : Int32)) / (24 : Int32)) * (24 : Int32))), .val (.ref r1), .val (.ref b2), .val (.int (own_contains ((p3 &&& (2147483647 : Int32)) - ((p3 &&& (2147483647 : Int32)) / (24 : Int32)) * (24 : Int32)) ((p1 &&& (2147483647 : Int32)) - ((p1 &&& (2147483647 : Int32)) / (24 : Int32)) * (24 : Int32)) ((p2 &&& (2147483647 : Int32)) - ((p2 &&& (2147483647 : Int32)) / (24 : Int32)) * (24 : Int32)))), .unset] [])) _
    refine XS.iload X4.here hx rfl (hb hby at_62) rfl ?_
    show Steps p.tables e below (T4.setTop (mkF m 64 #[.val (.int p1), .val (.int p2), .val (.int p3), .val (.int p4), .val (.int ((p1 &&& (2147483647 : Int32)) - ((p1 &&& (2147483647 : Int32)) / (24 : Int32)) * (24 : Int32))), .val (.int ((p2 &&& (2147483647 : Int32)) - ((p2 &&& (2147483647 : Int32)) / (24 : Int32)) * (24 : Int32))), .val (.int ((p3 &&& (2147483647 : Int32)) - ((p3 &&& (2147483647 : Int32)) / (24 : Int32)) * (24 : Int32))), .val (.ref r1), .val (.ref b2), .val (.int (own_contains ((p3 &&& (2147483647 : Int32)) - ((p3 &&& (2147483647 : Int32)) / (24 : Int32)) * (24 : Int32)) ((p1 &&& (2147483647 : Int32)) - ((p1 &&& (2147483647 : Int32)) / (24 : Int32)) * (24 : Int32)) ((p2 &&& (2147483647 : Int32)) - ((p2 &&& (2147483647 : Int32)) / (24 : Int32)) * (24 : Int32)))), .unset] [(.int ((p3 &&& (2147483647 : Int32)) - ((p3 &&& (2147483647 : Int32)) / (24 : Int32)) * (24 : Int32)))])) _
    refine XS.iload X4.here hx rfl (hb hby at_64) rfl ?_
    show Steps p.tables e below (T4.setTop (mkF m 66 #[.val (.int p1), .val (.int p2), .val (.int p3), .val (.int p4), .val (.int ((p1 &&& (2147483647 : Int32)) - ((p1 &&& (2147483647 : Int32)) / (24 : Int32)) * (24 : Int32))), .val (.int ((p2 &&& (2147483647 : Int32)) - ((p2 &&& (2147483647 : Int32)) / (24 : Int32)) * (24 : Int32))), .val (.int ((p3 &&& (2147483647 : Int32)) - ((p3 &&& (2147483647 : Int32)) / (24 : Int32)) * (24 : Int32))), .val (.ref r1), .val (.ref b2), .val (.int (own_contains ((p3 &&& (2147483647 : Int32)) - ((p3 &&& (2147483647 : Int32)) / (24 : Int32)) * (24 : Int32)) ((p1 &&& (2147483647 : Int32)) - ((p1 &&& (2147483647 : Int32)) / (24 : Int32)) * (24 : Int32)) ((p2 &&& (2147483647 : Int32)) - ((p2 &&& (2147483647 : Int32)) / (24 : Int32)) * (24 : Int32)))), .unset] [(.int ((p1 &&& (2147483647 : Int32)) - ((p1 &&& (2147483647 : Int32)) / (24 : Int32)) * (24 : Int32))), (.int ((p3 &&& (2147483647 : Int32)) - ((p3 &&& (2147483647 : Int32)) / (24 : Int32)) * (24 : Int32)))])) _
    refine XS.isub X4.here hx rfl (hb hby at_66) rfl ?_
    show Steps p.tables e below (T4.setTop (mkF m 67 #[.val (.int p1), .val (.int p2), .val (.int p3), .val (.int p4), .val (.int ((p1 &&& (2147483647 : Int32)) - ((p1 &&& (2147483647 : Int32)) / (24 : Int32)) * (24 : Int32))), .val (.int ((p2 &&& (2147483647 : Int32)) - ((p2 &&& (2147483647 : Int32)) / (24 : Int32)) * (24 : Int32))), .val (.int ((p3 &&& (2147483647 : Int32)) - ((p3 &&& (2147483647 : Int32)) / (24 : Int32)) * (24 : Int32))), .val (.ref r1), .val (.ref b2), .val (.int (own_contains ((p3 &&& (2147483647 : Int32)) - ((p3 &&& (2147483647 : Int32)) / (24 : Int32)) * (24 : Int32)) ((p1 &&& (2147483647 : Int32)) - ((p1 &&& (2147483647 : Int32)) / (24 : Int32)) * (24 : Int32)) ((p2 &&& (2147483647 : Int32)) - ((p2 &&& (2147483647 : Int32)) / (24 : Int32)) * (24 : Int32)))), .unset] [(.int (((p3 &&& (2147483647 : Int32)) - ((p3 &&& (2147483647 : Int32)) / (24 : Int32)) * (24 : Int32)) - ((p1 &&& (2147483647 : Int32)) - ((p1 &&& (2147483647 : Int32)) / (24 : Int32)) * (24 : Int32))))])) _
    refine st5 _ ?_
    show Steps p.tables e below (T5.setTop (mkF m 70 #[.val (.int p1), .val (.int p2), .val (.int p3), .val (.int p4), .val (.int ((p1 &&& (2147483647 : Int32)) - ((p1 &&& (2147483647 : Int32)) / (24 : Int32)) * (24 : Int32))), .val (.int ((p2 &&& (2147483647 : Int32)) - ((p2 &&& (2147483647 : Int32)) / (24 : Int32)) * (24 : Int32))), .val (.int ((p3 &&& (2147483647 : Int32)) - ((p3 &&& (2147483647 : Int32)) / (24 : Int32)) * (24 : Int32))), .val (.ref r1), .val (.ref b2), .val (.int (own_contains ((p3 &&& (2147483647 : Int32)) - ((p3 &&& (2147483647 : Int32)) / (24 : Int32)) * (24 : Int32)) ((p1 &&& (2147483647 : Int32)) - ((p1 &&& (2147483647 : Int32)) / (24 : Int32)) * (24 : Int32)) ((p2 &&& (2147483647 : Int32)) - ((p2 &&& (2147483647 : Int32)) / (24 : Int32)) * (24 : Int32)))), .unset] [(.int (own_mod (((p3 &&& (2147483647 : Int32)) - ((p3 &&& (2147483647 : Int32)) / (24 : Int32)) * (24 : Int32)) - ((p1 &&& (2147483647 : Int32)) - ((p1 &&& (2147483647 : Int32)) / (24 : Int32)) * (24 : Int32)))))])) _
    refine XS.iload X5.here hx rfl (hb hby at_70) rfl ?_
    show Steps p.tables e below (T5.setTop (mkF m 72 #[.val (.int p1), .val (.int p2), .val (.int p3), .val (.int p4), .val (.int ((p1 &&& (2147483647 : Int32)) - ((p1 &&& (2147483647 : Int32)) / (24 : Int32)) * (24 : Int32))), .val (.int ((p2 &&& (2147483647 : Int32)) - ((p2 &&& (2147483647 : Int32)) / (24 : Int32)) * (24 : Int32))), .val (.int ((p3 &&& (2147483647 : Int32)) - ((p3 &&& (2147483647 : Int32)) / (24 : Int32)) * (24 : Int32))), .val (.ref r1), .val (.ref b2), .val (.int (own_contains ((p3 &&& (2147483647 : Int32)) - ((p3 &&& (2147483647 : Int32)) / (24 : Int32)) * (24 : Int32)) ((p1 &&& (2147483647 : Int32)) - ((p1 &&& (2147483647 : Int32)) / (24 : Int32)) * (24 : Int32)) ((p2 &&& (2147483647 : Int32)) - ((p2 &&& (2147483647 : Int32)) / (24 : Int32)) * (24 : Int32)))), .unset] [(.int ((p2 &&& (2147483647 : Int32)) - ((p2 &&& (2147483647 : Int32)) / (24 : Int32)) * (24 : Int32))), (.int (own_mod (((p3 &&& (2147483647 : Int32)) - ((p3 &&& (2147483647 : Int32)) / (24 : Int32)) * (24 : Int32)) - ((p1 &&& (2147483647 : Int32)) - ((p1 &&& (2147483647 : Int32)) / (24 : Int32)) * (24 : Int32)))))])) _
    refine XS.iload X5.here hx rfl (hb hby at_72) rfl ?_
    show Steps p.tables e below (T5.setTop (mkF m 74 #[.val (.int p1), .val (.int p2), .val (.int p3), .val (.int p4), .val (.int ((p1 &&& (2147483647 : Int32)) - ((p1 &&& (2147483647 : Int32)) / (24 : Int32)) * (24 : Int32))), .val (.int ((p2 &&& (2147483647 : Int32)) - ((p2 &&& (2147483647 : Int32)) / (24 : Int32)) * (24 : Int32))), .val (.int ((p3 &&& (2147483647 : Int32)) - ((p3 &&& (2147483647 : Int32)) / (24 : Int32)) * (24 : Int32))), .val (.ref r1), .val (.ref b2), .val (.int (own_contains ((p3 &&& (2147483647 : Int32)) - ((p3 &&& (2147483647 : Int32)) / (24 : Int32)) * (24 : Int32)) ((p1 &&& (2147483647 : Int32)) - ((p1 &&& (2147483647 : Int32)) / (24 : Int32)) * (24 : Int32)) ((p2 &&& (2147483647 : Int32)) - ((p2 &&& (2147483647 : Int32)) / (24 : Int32)) * (24 : Int32)))), .unset] [(.int ((p1 &&& (2147483647 : Int32)) - ((p1 &&& (2147483647 : Int32)) / (24 : Int32)) * (24 : Int32))), (.int ((p2 &&& (2147483647 : Int32)) - ((p2 &&& (2147483647 : Int32)) / (24 : Int32)) * (24 : Int32))), (.int (own_mod (((p3 &&& (2147483647 : Int32)) - ((p3 &&& (2147483647 : Int32)) / (24 : Int32)) * (24 : Int32)) - ((p1 &&& (2147483647 : Int32)) - ((p1 &&& (2147483647 : Int32)) / (24 : Int32)) * (24 : Int32)))))])) _
    refine XS.isub X5.here hx rfl (hb hby at_74) rfl ?_
    show Steps p.tables e below (T5.setTop (mkF m 75 #[.val (.int p1), .val (.int p2), .val (.int p3), .val (.int p4), .val (.int ((p1 &&& (2147483647 : Int32)) - ((p1 &&& (2147483647 : Int32)) / (24 : Int32)) * (24 : Int32))), .val (.int ((p2 &&& (2147483647 : Int32)) - ((p2 &&& (2147483647 : Int32)) / (24 : Int32)) * (24 : Int32))), .val (.int ((p3 &&& (2147483647 : Int32)) - ((p3 &&& (2147483647 : Int32)) / (24 : Int32)) * (24 : Int32))), .val (.ref r1), .val (.ref b2), .val (.int (own_contains ((p3 &&& (2147483647 : Int32)) - ((p3 &&& (2147483647 : Int32)) / (24 : Int32)) * (24 : Int32)) ((p1 &&& (2147483647 : Int32)) - ((p1 &&& (2147483647 : Int32)) / (24 : Int32)) * (24 : Int32)) ((p2 &&& (2147483647 : Int32)) - ((p2 &&& (2147483647 : Int32)) / (24 : Int32)) * (24 : Int32)))), .unset] [(.int (((p2 &&& (2147483647 : Int32)) - ((p2 &&& (2147483647 : Int32)) / (24 : Int32)) * (24 : Int32)) - ((p1 &&& (2147483647 : Int32)) - ((p1 &&& (2147483647 : Int32)) / (24 : Int32)) * (24 : Int32)))), (.int (own_mod (((p3 &&& (2147483647 : Int32)) - ((p3 &&& (2147483647 : Int32)) / (24 : Int32)) * (24 : Int32)) - ((p1 &&& (2147483647 : Int32)) - ((p1 &&& (2147483647 : Int32)) / (24 : Int32)) * (24 : Int32)))))])) _
    refine st6 _ ?_
    show Steps p.tables e below (T6.setTop (mkF m 78 #[.val (.int p1), .val (.int p2), .val (.int p3), .val (.int p4), .val (.int ((p1 &&& (2147483647 : Int32)) - ((p1 &&& (2147483647 : Int32)) / (24 : Int32)) * (24 : Int32))), .val (.int ((p2 &&& (2147483647 : Int32)) - ((p2 &&& (2147483647 : Int32)) / (24 : Int32)) * (24 : Int32))), .val (.int ((p3 &&& (2147483647 : Int32)) - ((p3 &&& (2147483647 : Int32)) / (24 : Int32)) * (24 : Int32))), .val (.ref r1), .val (.ref b2), .val (.int (own_contains ((p3 &&& (2147483647 : Int32)) - ((p3 &&& (2147483647 : Int32)) / (24 : Int32)) * (24 : Int32)) ((p1 &&& (2147483647 : Int32)) - ((p1 &&& (2147483647 : Int32)) / (24 : Int32)) * (24 : Int32)) ((p2 &&& (2147483647 : Int32)) - ((p2 &&& (2147483647 : Int32)) / (24 : Int32)) * (24 : Int32)))), .unset] [(.int (own_mod (((p2 &&& (2147483647 : Int32)) - ((p2 &&& (2147483647 : Int32)) / (24 : Int32)) * (24 : Int32)) - ((p1 &&& (2147483647 : Int32)) - ((p1 &&& (2147483647 : Int32)) / (24 : Int32)) * (24 : Int32))))), (.int (own_mod (((p3 &&& (2147483647 : Int32)) - ((p3 &&& (2147483647 : Int32)) / (24 : Int32)) * (24 : Int32)) - ((p1 &&& (2147483647 : Int32)) - ((p1 &&& (2147483647 : Int32)) / (24 : Int32)) * (24 : Int32)))))])) _
    refine sg78 _ ?_
    show Steps p.tables e below (T6.setTop (mkF m 86 #[.val (.int p1), .val (.int p2), .val (.int p3), .val (.int p4), .val (.int ((p1 &&& (2147483647 : Int32)) - ((p1 &&& (2147483647 : Int32)) / (24 : Int32)) * (24 : Int32))), .val (.int ((p2 &&& (2147483647 : Int32)) - ((p2 &&& (2147483647 : Int32)) / (24 : Int32)) * (24 : Int32))), .val (.int ((p3 &&& (2147483647 : Int32)) - ((p3 &&& (2147483647 : Int32)) / (24 : Int32)) * (24 : Int32))), .val (.ref r1), .val (.ref b2), .val (.int (own_contains ((p3 &&& (2147483647 : Int32)) - ((p3 &&& (2147483647 : Int32)) / (24 : Int32)) * (24 : Int32)) ((p1 &&& (2147483647 : Int32)) - ((p1 &&& (2147483647 : Int32)) / (24 : Int32)) * (24 : Int32)) ((p2 &&& (2147483647 : Int32)) - ((p2 &&& (2147483647 : Int32)) / (24 : Int32)) * (24 : Int32)))), .unset] [(.int j78_S0)])) _
    refine XS.istore X6.here hx rfl (hb hby at_86) rfl (l' := #[.val (.int p1), .val (.int p2), .val (.int p3), .val (.int p4), .val (.int ((p1 &&& (2147483647 : Int32)) - ((p1 &&& (2147483647 : Int32)) / (24 : Int32)) * (24 : Int32))), .val (.int ((p2 &&& (2147483647 : Int32)) - ((p2 &&& (2147483647 : Int32)) / (24 : Int32)) * (24 : Int32))), .val (.int ((p3 &&& (2147483647 : Int32)) - ((p3 &&& (2147483647 : Int32)) / (24 : Int32)) * (24 : Int32))), .val (.ref r1), .val (.ref b2), .val (.int (own_contains ((p3 &&& (2147483647 : Int32)) - ((p3 &&& (2147483647 : Int32)) / (24 : Int32)) * (24 : Int32)) ((p1 &&& (2147483647 : Int32)) - ((p1 &&& (2147483647 : Int32)) / (24 : Int32)) * (24 : Int32)) ((p2 &&& (2147483647 : Int32)) - ((p2 &&& (2147483647 : Int32)) / (24 : Int32)) * (24 : Int32)))), .val (.int j78_S0)]) rfl ?_
    show Steps p.tables e below (T6.setTop (mkF m 88 #[.val (.int p1), .val (.int p2), .val (.int p3), .val (.int p4), .val (.int ((p1 &&& (2147483647 : Int32)) - ((p1 &&& (2147483647 : Int32)) / (24 : Int32)) * (24 : Int32))), .val (.int ((p2 &&& (2147483647 : Int32)) - ((p2 &&& (2147483647 : Int32)) / (24 : Int32)) * (24 : Int32))), .val (.int ((p3 &&& (2147483647 : Int32)) - ((p3 &&& (2147483647 : Int32)) / (24 : Int32)) * (24 : Int32))), .val (.ref r1), .val (.ref b2), .val (.int (own_contains ((p3 &&& (2147483647 : Int32)) - ((p3 &&& (2147483647 : Int32)) / (24 : Int32)) * (24 : Int32)) ((p1 &&& (2147483647 : Int32)) - ((p1 &&& (2147483647 : Int32)) / (24 : Int32)) * (24 : Int32)) ((p2 &&& (2147483647 : Int32)) - ((p2 &&& (2147483647 : Int32)) / (24 : Int32)) * (24 : Int32)))), .val (.int j78_S0)] [])) _
    refine XS.iload X6.here hx rfl (hb hby at_88) rfl ?_
    show Steps p.tables e below (T6.setTop (mkF m 90 #[.val (.int p1), .val (.int p2), .val (.int p3), .val (.int p4), .val (.int ((p1 &&& (2147483647 : Int32)) - ((p1 &&& (2147483647 : Int32)) / (24 : Int32)) * (24 : Int32))), .val (.int ((p2 &&& (2147483647 : Int32)) - ((p2 &&& (2147483647 : Int32)) / (24 : Int32)) * (24 : Int32))), .val (.int ((p3 &&& (2147483647 : Int32)) - ((p3 &&& (2147483647 : Int32)) / (24 : Int32)) * (24 : Int32))), .val (.ref r1), .val (.ref b2), .val (.int (own_contains ((p3 &&& (2147483647 : Int32)) - ((p3 &&& (2147483647 : Int32)) / (24 : Int32)) * (24 : Int32)) ((p1 &&& (2147483647 : Int32)) - ((p1 &&& (2147483647 : Int32)) / (24 : Int32)) * (24 : Int32)) ((p2 &&& (2147483647 : Int32)) - ((p2 &&& (2147483647 : Int32)) / (24 : Int32)) * (24 : Int32)))), .val (.int j78_S0)] [(.int (own_contains ((p3 &&& (2147483647 : Int32)) - ((p3 &&& (2147483647 : Int32)) / (24 : Int32)) * (24 : Int32)) ((p1 &&& (2147483647 : Int32)) - ((p1 &&& (2147483647 : Int32)) / (24 : Int32)) * (24 : Int32)) ((p2 &&& (2147483647 : Int32)) - ((p2 &&& (2147483647 : Int32)) / (24 : Int32)) * (24 : Int32))))])) _
    refine XS.iload X6.here hx rfl (hb hby at_90) rfl ?_
    show Steps p.tables e below (T6.setTop (mkF m 92 #[.val (.int p1), .val (.int p2), .val (.int p3), .val (.int p4), .val (.int ((p1 &&& (2147483647 : Int32)) - ((p1 &&& (2147483647 : Int32)) / (24 : Int32)) * (24 : Int32))), .val (.int ((p2 &&& (2147483647 : Int32)) - ((p2 &&& (2147483647 : Int32)) / (24 : Int32)) * (24 : Int32))), .val (.int ((p3 &&& (2147483647 : Int32)) - ((p3 &&& (2147483647 : Int32)) / (24 : Int32)) * (24 : Int32))), .val (.ref r1), .val (.ref b2), .val (.int (own_contains ((p3 &&& (2147483647 : Int32)) - ((p3 &&& (2147483647 : Int32)) / (24 : Int32)) * (24 : Int32)) ((p1 &&& (2147483647 : Int32)) - ((p1 &&& (2147483647 : Int32)) / (24 : Int32)) * (24 : Int32)) ((p2 &&& (2147483647 : Int32)) - ((p2 &&& (2147483647 : Int32)) / (24 : Int32)) * (24 : Int32)))), .val (.int j78_S0)] [(.int j78_S0), (.int (own_contains ((p3 &&& (2147483647 : Int32)) - ((p3 &&& (2147483647 : Int32)) / (24 : Int32)) * (24 : Int32)) ((p1 &&& (2147483647 : Int32)) - ((p1 &&& (2147483647 : Int32)) / (24 : Int32)) * (24 : Int32)) ((p2 &&& (2147483647 : Int32)) - ((p2 &&& (2147483647 : Int32)) / (24 : Int32)) * (24 : Int32))))])) _
    refine XS.icmpNo X6.here hx rfl (hb hby at_92) rfl (teq ((own_law _ _ _ (own_hour p1).1 (own_hour p1).2 (own_hour p2).1 (own_hour p2).2 (own_hour p3).1 (own_hour p3).2).trans ej78_S0.symm)).2 ?_
    show Steps p.tables e below (T6.setTop (mkF m 95 #[.val (.int p1), .val (.int p2), .val (.int p3), .val (.int p4), .val (.int ((p1 &&& (2147483647 : Int32)) - ((p1 &&& (2147483647 : Int32)) / (24 : Int32)) * (24 : Int32))), .val (.int ((p2 &&& (2147483647 : Int32)) - ((p2 &&& (2147483647 : Int32)) / (24 : Int32)) * (24 : Int32))), .val (.int ((p3 &&& (2147483647 : Int32)) - ((p3 &&& (2147483647 : Int32)) / (24 : Int32)) * (24 : Int32))), .val (.ref r1), .val (.ref b2), .val (.int (own_contains ((p3 &&& (2147483647 : Int32)) - ((p3 &&& (2147483647 : Int32)) / (24 : Int32)) * (24 : Int32)) ((p1 &&& (2147483647 : Int32)) - ((p1 &&& (2147483647 : Int32)) / (24 : Int32)) * (24 : Int32)) ((p2 &&& (2147483647 : Int32)) - ((p2 &&& (2147483647 : Int32)) / (24 : Int32)) * (24 : Int32)))), .val (.int j78_S0)] [])) _
    refine XS.iconst X6.here hx rfl (hb hby at_95) ?_
    show Steps p.tables e below (T6.setTop (mkF m 96 #[.val (.int p1), .val (.int p2), .val (.int p3), .val (.int p4), .val (.int ((p1 &&& (2147483647 : Int32)) - ((p1 &&& (2147483647 : Int32)) / (24 : Int32)) * (24 : Int32))), .val (.int ((p2 &&& (2147483647 : Int32)) - ((p2 &&& (2147483647 : Int32)) / (24 : Int32)) * (24 : Int32))), .val (.int ((p3 &&& (2147483647 : Int32)) - ((p3 &&& (2147483647 : Int32)) / (24 : Int32)) * (24 : Int32))), .val (.ref r1), .val (.ref b2), .val (.int (own_contains ((p3 &&& (2147483647 : Int32)) - ((p3 &&& (2147483647 : Int32)) / (24 : Int32)) * (24 : Int32)) ((p1 &&& (2147483647 : Int32)) - ((p1 &&& (2147483647 : Int32)) / (24 : Int32)) * (24 : Int32)) ((p2 &&& (2147483647 : Int32)) - ((p2 &&& (2147483647 : Int32)) / (24 : Int32)) * (24 : Int32)))), .val (.int j78_S0)] [(.int (1 : Int32))])) _
    refine XS.goto X6.here hx rfl (pc0 := 96) (pc' := 100) rfl (hb hby at_96) (by decide) (by decide) ?_
    show Steps p.tables e below (T6.setTop (mkF m 100 #[.val (.int p1), .val (.int p2), .val (.int p3), .val (.int p4), .val (.int ((p1 &&& (2147483647 : Int32)) - ((p1 &&& (2147483647 : Int32)) / (24 : Int32)) * (24 : Int32))), .val (.int ((p2 &&& (2147483647 : Int32)) - ((p2 &&& (2147483647 : Int32)) / (24 : Int32)) * (24 : Int32))), .val (.int ((p3 &&& (2147483647 : Int32)) - ((p3 &&& (2147483647 : Int32)) / (24 : Int32)) * (24 : Int32))), .val (.ref r1), .val (.ref b2), .val (.int (own_contains ((p3 &&& (2147483647 : Int32)) - ((p3 &&& (2147483647 : Int32)) / (24 : Int32)) * (24 : Int32)) ((p1 &&& (2147483647 : Int32)) - ((p1 &&& (2147483647 : Int32)) / (24 : Int32)) * (24 : Int32)) ((p2 &&& (2147483647 : Int32)) - ((p2 &&& (2147483647 : Int32)) / (24 : Int32)) * (24 : Int32)))), .val (.int j78_S0)] [(.int (1 : Int32))])) _
    exact retN X6 hx (t := .boolean) Bd.returns (by simp) (hb hby at_100) hr
  · show Q0 Z p1 p2 p3 p4 cs h0 n0 _ T6.heap _
    rw [e6]
    exact ⟨rfl, N6⟩
set_option maxRecDepth 65536 in
set_option maxHeartbeats 40000000 in
theorem comes_1 {Post : Tables → Env → Array Value → State → Outcome → State → Prop} (hpost : ∀ tb e args s v u, (limb_1_1.after args s (.returned v) u = true ∧ limb_1_2.after args s (.returned v) u = true ∧ True) → FrameEnd s (.returned v) u (Jvm.fieldLocs frame_1_writes args s ++ Jvm.arrayLocs frame_1_arrays args s ++ Jvm.staticLocs frame_1_statics s) 16 128 → Post tb e args s (.returned v) u) :
    ArmFor flags0 classFile x code maxLocals ret World_1 tables_1 room_1 Calls_1 rest_1 Pre_1 Post := by
  intro l hfl _ _ p e ha hc hk s m args below hf hA hF happ hP
  obtain ⟨hcalls, hrest, hpre⟩ := hP
  obtain ⟨-, -, -, hnamed, -, -, -, hat⟩ := (Spec.applies_iff hf).mp happ
  obtain ⟨hg, hn⟩ := and_e (Cond.before_iff.mp (show (Jvm.Cond.and given_1 narrow_1).before args s = true from hpre))
  obtain ⟨gc, g0⟩ := and_e hg
  obtain ⟨ga0, g1⟩ := and_e g0
  obtain ⟨ga1, g2⟩ := and_e g1
  obtain ⟨ga2, g3⟩ := and_e g2
  obtain ⟨w0, w1, w2, w3, rfl⟩ : ∃ w0 w1 w2 w3 : Value, args = #[w0, w1, w2, w3] := by
    have hs : args.size = 4 := by simpa [Cond.value, given_1] using gc
    obtain ⟨L⟩ := args
    match L, hs with
    | [w0, w1, w2, w3], _ => exact ⟨w0, w1, w2, w3, rfl⟩
  have hw := fun d (hd : d ∈ tables_1) => atoms_spec (ws := Jvm.Cond.code x code maxLocals ret :: tables_1) hat d (List.mem_cons_of_mem _ hd)
  have hfit : Fit s := fun {y c} hc i hi => by
    obtain ⟨ha, rfl⟩ := Array.getElem?_eq_some_iff.mp hc
    have q := List.all_eq_true.mp ((Array.all_eq_true_iff_forall_mem.mp hF) _ (Array.getElem_mem ha)) i (List.mem_range.mpr hi)
    simpa [Array.getElem?_eq_getElem hi] using q
  obtain ⟨i0, ei0⟩ := is_v ga0
  obtain rfl : w0 = (.int i0) := Option.some.inj ei0
  obtain ⟨i1, ei1⟩ := is_v ga1
  obtain rfl : w1 = (.int i1) := Option.some.inj ei1
  obtain ⟨i2, ei2⟩ := is_v ga2
  obtain rfl : w2 = (.int i2) := Option.some.inj ei2
  obtain ⟨i3, ei3⟩ := is_v g3
  obtain rfl : w3 = (.int i3) := Option.some.inj ei3
  obtain ⟨hsets, hown0⟩ := atoms_of _ (rest_1_c_eq ▸ (show rest_1_c.before _ s = true from hrest))
  have n5 := not_v (Cond.before_iff.mp (hsets _ (List.mem_of_getElem? (i := 2) rfl)))
  obtain ⟨cs, ecs⟩ := is_v (Cond.before_iff.mp (hsets _ (List.mem_of_getElem? (i := 1) rfl)))
  have S0 : Sta s s.heap "java/lang/String" "COMPACT_STRINGS" "Z" (.int cs) := Sta.start ecs (Or.inl (hsets _ (List.mem_of_getElem? (i := 0) rfl)))
  have hcs : ¬ cs = (0 : Int32) := gotF (Cond.eq_ints ecs (Term.int_eval (0))) n5
  obtain ⟨n, o, h1, h2, h3, _, L, rfl, ⟨rfl, N⟩, hq⟩ := rm0 l s _ hw tables_1 i0 i1 i2 i3 cs s.heap s.heap.size (Nat.le_refl _) S0 hcs p e ha hc hk s m _ below hf ((Spec.applies_iff_loose hf).mp happ).1 ⟨rfl, State.Warmed39.refl s, rfl⟩ trivial
  refine ⟨n, _, h1, h2, h3, hpost _ _ _ _ _ _ ⟨Cond.after_iff.mpr rfl, Cond.after_iff.mpr (eq_i res_at (Term.int_eval (1)) rfl), trivial⟩ ⟨hq.1, hq.2.1, (hq.2.2.sift fun y hy => Or.inr (N y hy)).mono (by decide) (by decide)⟩⟩
theorem main_1_1 : Claimed_1_1 := comes_1 fun _ _ _ _ _ _ h hF => ⟨h.1, hF⟩
theorem main_1_2 : Claimed_1_2 := comes_1 fun _ _ _ _ _ _ h hF => ⟨h.2.1, hF⟩
end Jvm.Pilot.@@N@@
namespace Jvm.Pilot.@@N@@
open Jvm Jvm.ClassFile Sem Op Lib Jvm.Free Jvm.Stand Jvm.Pilot.@@N@@.Jvm.D
/-! MADE BY PROGRAM (witnessworld.py) out of the Statement's table words and the real class files: 17 classes; the members and pool entries that the words name. The judged class is class 1, her method 2. -/
namespace start1
open Jvm.ClassFile
def u (s : String) : CpInfo := .utf8 (stringToUtf16 s)
/-- a pool by its gaps: so many unusable entries, then the entry; so many at the end -/
def gap : Nat → List CpInfo → List CpInfo
  | 0, r => r
  | n + 1, r => .unusable :: gap n r
def poolList (es : List (Nat × CpInfo)) (last : Nat) : List CpInfo := es.foldr (fun e r => gap e.1 (e.2 :: r)) (gap last [])
def pool (es : List (Nat × CpInfo)) (last : Nat) : Array CpInfo := ⟨poolList es last⟩
def fileOf (pool : Array CpInfo) (this : Nat) (attrs : Array Attribute := #[]) (ms : Array MethodInfo := #[]) (fl : Nat := 33) (sup : Nat := 0) (ifs : Array Nat := #[]) (fds : Array FieldInfo := #[]) : ClassFile where
  minorVersion := 0
  majorVersion := 65
  constantPool := pool
  accessFlags := fl
  thisClass := this
  superClass := sup
  interfaces := ifs
  fields := fds
  methods := ms
  attributes := attrs
def plain (name : String) (sup : Option ClassId) : Class where
  name := name
  kind := .ordinary
  loader := none
  accessFlags := 33
  super := sup
  interfaces := #[]
  cf := none
  fields := #[]
  methods := #[]
  instanceTypes := #[]
  staticTypes := #[]
  resolved := #[]
  callSites := []
  init := .initialized
  statics := none
  mirror := none

def pool0 : Array CpInfo := pool [(5, u "<init>"), (0, u "()V"), (1, .class_ 10), (1, u "java/lang/Object")] 113

def k0c0 : Code := { maxStack := 0, maxLocals := 1, code := object_method_1_code, exceptionTable := #[], attributes := #[] }
def k0m0 : Method := { name := "<init>", desc := "()V", sig := { parameters := [], returnType := none }, accessFlags := 1, code := some k0c0 }
/-- java/lang/Object -/
def k0 : Class := { plain "java/lang/Object" none with
  accessFlags := 33
  interfaces := #[]
  cf := some (fileOf pool0 8 #[] #[{ accessFlags := 1, nameIndex := 5, descriptorIndex := 6, attributes := #[] }] 33 0 #[] #[])
  fields := #[]
  methods := #[k0m0]
  instanceTypes := #[]
  staticTypes := #[]
  resolved := Array.replicate 124 none
  statics := none }

def pool1 : Array CpInfo := pool [(2, .class_ 4), (1, u "java/lang/Object"), (0, u "<init>"), (0, u "()V"), (0, .integer 2147483647), (0, .methodref 9 10), (0, .class_ 11), (0, .nameAndType 12 13), (0, u "java/lang/String"), (0, u "valueOf"), (0, u "(C)Ljava/lang/String;"), (0, .class_ 15), (0, u "com/example/braided_tour/braidedtour/model/Period"), (0, .methodref 14 17), (0, .nameAndType 5 18), (0, u "(Ljava/lang/String;II)V"), (0, .methodref 14 20), (0, .nameAndType 21 22), (0, u "contains"), (0, u "(I)Z"), (0, .methodref 24 25), (0, .class_ 26), (0, .nameAndType 27 28), (0, u "com/example/braided_tour/braidedtour/model/PeriodContainsPinLaw"), (0, u "mod24"), (0, u "(I)I"), (2, u "law"), (0, u "(IIII)Z")] 3

def k1m0 : Method := { name := "<init>", desc := "()V", sig := { parameters := [], returnType := none }, accessFlags := 1, code := none }
def k1c1 : Code := { maxStack := 2, maxLocals := 1, code := method_2_code, exceptionTable := #[], attributes := #[] }
def k1m1 : Method := { name := "mod24", desc := "(I)I", sig := { parameters := [.int], returnType := some .int }, accessFlags := 10, code := some k1c1 }
def k1c2 : Code := { maxStack := 5, maxLocals := 11, code := code, exceptionTable := #[], attributes := #[] }
def k1m2 : Method := { name := "law", desc := "(IIII)Z", sig := { parameters := [.int, .int, .int, .int], returnType := some .boolean }, accessFlags := 9, code := some k1c2 }
/-- com/example/braided_tour/braidedtour/model/PeriodContainsPinLaw -/
def k1 : Class := { plain "com/example/braided_tour/braidedtour/model/PeriodContainsPinLaw" (some 0) with
  accessFlags := 49
  interfaces := #[]
  cf := some (fileOf pool1 24 #[] #[{ accessFlags := 1, nameIndex := 5, descriptorIndex := 6, attributes := #[] }, { accessFlags := 10, nameIndex := 27, descriptorIndex := 28, attributes := #[] }, { accessFlags := 9, nameIndex := 31, descriptorIndex := 32, attributes := #[] }] 49 2 #[] #[])
  fields := #[]
  methods := #[k1m0, k1m1, k1m2]
  instanceTypes := #[]
  staticTypes := #[]
  resolved := Array.replicate 36 none
  statics := none }

def pool2 : Array CpInfo := pool [(1, .class_ 2), (0, u "java/io/Serializable"), (0, .class_ 4), (0, u "java/lang/Object")] 2

/-- java/io/Serializable -/
def k2 : Class := { plain "java/io/Serializable" (some 0) with
  accessFlags := 1537
  interfaces := #[]
  cf := some (fileOf pool2 1 #[] #[] 1537 3 #[] #[])
  fields := #[]
  methods := #[]
  instanceTypes := #[]
  staticTypes := #[]
  resolved := Array.replicate 7 none
  statics := none }

def pool3 : Array CpInfo := pool [(1, .class_ 2), (0, u "java/lang/Comparable"), (0, .class_ 4), (0, u "java/lang/Object")] 7

/-- java/lang/Comparable -/
def k3 : Class := { plain "java/lang/Comparable" (some 0) with
  accessFlags := 1537
  interfaces := #[]
  cf := some (fileOf pool3 1 #[] #[] 1537 3 #[] #[])
  fields := #[]
  methods := #[]
  instanceTypes := #[]
  staticTypes := #[]
  resolved := Array.replicate 12 none
  statics := none }

def pool4 : Array CpInfo := pool [(2, .class_ 4), (1, u "java/lang/CharSequence"), (42, .class_ 48), (0, u "java/lang/CharSequence$1CodePointIterator"), (10, .class_ 60), (0, u "java/lang/CharSequence$1CharIterator"), (5, .class_ 67), (0, u "java/lang/Object")] 63

/-- java/lang/CharSequence -/
def k4 : Class := { plain "java/lang/CharSequence" (some 0) with
  accessFlags := 1537
  interfaces := #[]
  cf := some (fileOf pool4 2 #[.nestMembers #[47, 59]] #[] 1537 66 #[] #[])
  fields := #[]
  methods := #[]
  instanceTypes := #[]
  staticTypes := #[]
  resolved := Array.replicate 131 none
  statics := none }

def pool5 : Array CpInfo := pool [(1, .class_ 2), (0, u "java/lang/constant/Constable"), (0, .class_ 4), (0, u "java/lang/Object")] 6

/-- java/lang/constant/Constable -/
def k5 : Class := { plain "java/lang/constant/Constable" (some 0) with
  accessFlags := 1537
  interfaces := #[]
  cf := some (fileOf pool5 1 #[] #[] 1537 3 #[] #[])
  fields := #[]
  methods := #[]
  instanceTypes := #[]
  staticTypes := #[]
  resolved := Array.replicate 11 none
  statics := none }

def pool6 : Array CpInfo := pool [(1, .class_ 2), (0, u "java/lang/constant/ConstantDesc"), (0, .class_ 4), (0, u "java/lang/Object")] 32

/-- java/lang/constant/ConstantDesc -/
def k6 : Class := { plain "java/lang/constant/ConstantDesc" (some 0) with
  accessFlags := 1537
  interfaces := #[]
  cf := some (fileOf pool6 1 #[] #[] 1537 3 #[] #[])
  fields := #[]
  methods := #[]
  instanceTypes := #[]
  staticTypes := #[]
  resolved := Array.replicate 37 none
  statics := none }

def pool7 : Array CpInfo := pool [(1, .methodref 2 3), (0, .class_ 4), (0, .nameAndType 5 6), (0, u "java/lang/Object"), (0, u "<init>"), (0, u "()V"), (2, .fieldref 10 11), (0, .class_ 12), (0, .nameAndType 13 14), (0, u "java/lang/String"), (0, u "value"), (0, u "[B"), (0, .fieldref 10 16), (0, .nameAndType 17 18), (0, u "coder"), (0, u "B"), (2, u "hash"), (0, u "I"), (2, u "hashIsZero"), (0, u "Z"), (11, .fieldref 10 39), (0, .nameAndType 40 26), (0, u "COMPACT_STRINGS"), (12, u "toBytes"), (53, .class_ 109), (1, u "java/lang/StringLatin1"), (99, .methodref 10 210), (0, .nameAndType 5 211), (0, u "([BB)V"), (157, u "(C)Z"), (205, .class_ 576), (0, u "java/lang/CharSequence"), (22, u "CASE_INSENSITIVE_ORDER"), (0, u "Ljava/util/Comparator;"), (181, u "valueOf"), (0, u "(C)Ljava/lang/String;"), (231, .methodref 107 1016), (0, .nameAndType 1017 369), (0, u "canEncode"), (0, .methodref 107 1019), (0, .nameAndType 53 1020), (0, u "(C)[B"), (80, u "serialPersistentFields"), (0, u "[Ljava/io/ObjectStreamField;"), (0, .class_ 1104), (0, u "java/lang/String$CaseInsensitiveComparator"), (1, .class_ 1107), (0, u "java/io/Serializable"), (0, .class_ 1109), (0, u "java/lang/Comparable"), (0, .class_ 1111), (0, u "java/lang/constant/Constable"), (0, .class_ 1113), (0, u "java/lang/constant/ConstantDesc"), (2, u "serialVersionUID"), (0, u "J"), (3, u "REPL"), (0, u "C"), (2, u "LATIN1"), (1, u "UTF16")] 323

def k7m0 : Method := { name := "<init>", desc := "()V", sig := { parameters := [], returnType := none }, accessFlags := 1, code := none }
def k7c1 : Code := { maxStack := 4, maxLocals := 1, code := jdk_42_method_139_code, exceptionTable := #[], attributes := #[] }
def k7m1 : Method := { name := "valueOf", desc := "(C)Ljava/lang/String;", sig := { parameters := [.char], returnType := some (.object "java/lang/String") }, accessFlags := 9, code := some k7c1 }
def k7c2 : Code := { maxStack := 2, maxLocals := 3, code := jdk_42_method_151_code, exceptionTable := #[], attributes := #[] }
def k7m2 : Method := { name := "<init>", desc := "([BB)V", sig := { parameters := [(.array .byte), .byte], returnType := none }, accessFlags := 0, code := some k7c2 }
/-- java/lang/String -/
def k7 : Class := { plain "java/lang/String" (some 0) with
  accessFlags := 49
  interfaces := #[2, 3, 4, 5, 6]
  cf := some (fileOf pool7 10 #[.nestMembers #[1103]] #[{ accessFlags := 1, nameIndex := 5, descriptorIndex := 6, attributes := #[] }, { accessFlags := 9, nameIndex := 782, descriptorIndex := 783, attributes := #[] }, { accessFlags := 0, nameIndex := 5, descriptorIndex := 211, attributes := #[] }] 49 2 #[1106, 1108, 575, 1110, 1112] #[{ accessFlags := 18, nameIndex := 13, descriptorIndex := 14, attributes := #[] }, { accessFlags := 18, nameIndex := 17, descriptorIndex := 18, attributes := #[] }, { accessFlags := 2, nameIndex := 21, descriptorIndex := 22, attributes := #[] }, { accessFlags := 2, nameIndex := 25, descriptorIndex := 26, attributes := #[] }, { accessFlags := 26, nameIndex := 1116, descriptorIndex := 1117, attributes := #[] }, { accessFlags := 24, nameIndex := 40, descriptorIndex := 26, attributes := #[] }, { accessFlags := 26, nameIndex := 1101, descriptorIndex := 1102, attributes := #[] }, { accessFlags := 26, nameIndex := 1121, descriptorIndex := 1122, attributes := #[] }, { accessFlags := 25, nameIndex := 599, descriptorIndex := 600, attributes := #[] }, { accessFlags := 24, nameIndex := 1125, descriptorIndex := 18, attributes := #[] }, { accessFlags := 24, nameIndex := 1127, descriptorIndex := 18, attributes := #[] }])
  fields := #[{ name := "value", type := (.array .byte), accessFlags := 18, slot := 0, constantValue := 0 }, { name := "coder", type := .byte, accessFlags := 18, slot := 1, constantValue := 0 }, { name := "hash", type := .int, accessFlags := 2, slot := 2, constantValue := 0 }, { name := "hashIsZero", type := .boolean, accessFlags := 2, slot := 3, constantValue := 0 }, { name := "serialVersionUID", type := .long, accessFlags := 26, slot := 0, constantValue := 0 }, { name := "COMPACT_STRINGS", type := .boolean, accessFlags := 24, slot := 1, constantValue := 0 }, { name := "serialPersistentFields", type := (.array (.object "java/io/ObjectStreamField")), accessFlags := 26, slot := 2, constantValue := 0 }, { name := "REPL", type := .char, accessFlags := 26, slot := 3, constantValue := 0 }, { name := "CASE_INSENSITIVE_ORDER", type := (.object "java/util/Comparator"), accessFlags := 25, slot := 4, constantValue := 0 }, { name := "LATIN1", type := .byte, accessFlags := 24, slot := 5, constantValue := 0 }, { name := "UTF16", type := .byte, accessFlags := 24, slot := 6, constantValue := 0 }]
  methods := #[k7m0, k7m1, k7m2]
  instanceTypes := #[(.array .byte), .byte, .int, .boolean]
  staticTypes := #[.long, .boolean, (.array (.object "java/io/ObjectStreamField")), .char, (.object "java/util/Comparator"), .byte, .byte]
  resolved := Array.replicate 1451 none
  statics := some 0 }

def pool8 : Array CpInfo := pool [(4, .class_ 6), (1, u "java/lang/Object"), (0, u "<init>"), (0, u "()V"), (5, .class_ 16), (1, u "java/lang/StringLatin1"), (73, u "canEncode"), (14, u "(C)Z"), (15, u "$assertionsDisabled"), (0, u "Z"), (98, .class_ 223), (1, u "java/lang/StringLatin1$LinesSpliterator"), (156, u "toBytes"), (1, u "(C)[B"), (7, .class_ 391), (0, u "java/lang/StringLatin1$CharsSpliterator")] 3

def k8m0 : Method := { name := "<init>", desc := "()V", sig := { parameters := [], returnType := none }, accessFlags := 0, code := none }
def k8c1 : Code := { maxStack := 2, maxLocals := 1, code := jdk_43_method_3_code, exceptionTable := #[], attributes := #[] }
def k8m1 : Method := { name := "canEncode", desc := "(C)Z", sig := { parameters := [.char], returnType := some .boolean }, accessFlags := 9, code := some k8c1 }
def k8c2 : Code := { maxStack := 4, maxLocals := 1, code := jdk_43_method_46_code, exceptionTable := #[], attributes := #[] }
def k8m2 : Method := { name := "toBytes", desc := "(C)[B", sig := { parameters := [.char], returnType := some (.array .byte) }, accessFlags := 9, code := some k8c2 }
/-- java/lang/StringLatin1 -/
def k8 : Class := { plain "java/lang/StringLatin1" (some 0) with
  accessFlags := 48
  interfaces := #[]
  cf := some (fileOf pool8 14 #[.nestMembers #[390, 221]] #[{ accessFlags := 0, nameIndex := 7, descriptorIndex := 8, attributes := #[] }, { accessFlags := 9, nameIndex := 90, descriptorIndex := 105, attributes := #[] }, { accessFlags := 9, nameIndex := 380, descriptorIndex := 382, attributes := #[] }] 48 4 #[] #[{ accessFlags := 4120, nameIndex := 121, descriptorIndex := 122, attributes := #[] }])
  fields := #[{ name := "$assertionsDisabled", type := .boolean, accessFlags := 4120, slot := 0, constantValue := 0 }]
  methods := #[k8m0, k8m1, k8m2]
  instanceTypes := #[]
  staticTypes := #[.boolean]
  resolved := Array.replicate 395 none
  statics := none }

def pool9 : Array CpInfo := pool [(1, .methodref 2 3), (0, .class_ 4), (0, .nameAndType 5 6), (0, u "java/lang/Object"), (0, u "<init>"), (0, u "()V"), (0, .fieldref 8 9), (0, .class_ 10), (0, .nameAndType 11 12), (0, u "com/example/braided_tour/braidedtour/model/Period"), (0, u "name"), (0, u "Ljava/lang/String;"), (0, .fieldref 8 14), (0, .nameAndType 15 16), (0, u "fromHour"), (0, u "I"), (0, .fieldref 8 18), (0, .nameAndType 19 16), (0, u "toHour"), (0, u "(Ljava/lang/String;II)V"), (3, u "contains"), (0, u "(I)Z")] 3

def k9c0 : Code := { maxStack := 2, maxLocals := 4, code := prog_50_method_1_code, exceptionTable := #[], attributes := #[] }
def k9m0 : Method := { name := "<init>", desc := "(Ljava/lang/String;II)V", sig := { parameters := [(.object "java/lang/String"), .int, .int], returnType := none }, accessFlags := 1, code := some k9c0 }
def k9c1 : Code := { maxStack := 2, maxLocals := 3, code := prog_50_method_3_code, exceptionTable := #[], attributes := #[] }
def k9m1 : Method := { name := "contains", desc := "(I)Z", sig := { parameters := [.int], returnType := some .boolean }, accessFlags := 1, code := some k9c1 }
/-- com/example/braided_tour/braidedtour/model/Period -/
def k9 : Class := { plain "com/example/braided_tour/braidedtour/model/Period" (some 0) with
  accessFlags := 33
  interfaces := #[]
  cf := some (fileOf pool9 8 #[] #[{ accessFlags := 1, nameIndex := 5, descriptorIndex := 20, attributes := #[] }, { accessFlags := 1, nameIndex := 24, descriptorIndex := 25, attributes := #[] }] 33 2 #[] #[{ accessFlags := 18, nameIndex := 11, descriptorIndex := 12, attributes := #[] }, { accessFlags := 18, nameIndex := 15, descriptorIndex := 16, attributes := #[] }, { accessFlags := 18, nameIndex := 19, descriptorIndex := 16, attributes := #[] }])
  fields := #[{ name := "name", type := (.object "java/lang/String"), accessFlags := 18, slot := 0, constantValue := 0 }, { name := "fromHour", type := .int, accessFlags := 18, slot := 1, constantValue := 0 }, { name := "toHour", type := .int, accessFlags := 18, slot := 2, constantValue := 0 }]
  methods := #[k9m0, k9m1]
  instanceTypes := #[(.object "java/lang/String"), .int, .int]
  staticTypes := #[]
  resolved := Array.replicate 29 none
  statics := none }

def pool10 : Array CpInfo := pool [(2, .class_ 4), (1, u "java/lang/Object"), (0, u "<init>"), (0, u "()V"), (17, .class_ 26), (1, u "jdk/internal/util/Preconditions"), (28, .class_ 56), (0, u "jdk/internal/util/Preconditions$4"), (57, .class_ 115), (0, u "jdk/internal/util/Preconditions$1"), (7, u "SIOOBE_FORMATTER"), (0, u "Ljava/util/function/BiFunction;"), (0, .class_ 126), (0, u "jdk/internal/util/Preconditions$2"), (3, u "AIOOBE_FORMATTER"), (0, .class_ 132), (0, u "jdk/internal/util/Preconditions$3"), (3, u "IOOBE_FORMATTER")] 57

def k10m0 : Method := { name := "<init>", desc := "()V", sig := { parameters := [], returnType := none }, accessFlags := 1, code := none }
/-- jdk/internal/util/Preconditions -/
def k10 : Class := { plain "jdk/internal/util/Preconditions" (some 0) with
  accessFlags := 33
  interfaces := #[]
  cf := some (fileOf pool10 24 #[.nestMembers #[55, 131, 125, 114]] #[{ accessFlags := 1, nameIndex := 5, descriptorIndex := 6, attributes := #[] }] 33 2 #[] #[{ accessFlags := 25, nameIndex := 123, descriptorIndex := 124, attributes := #[] }, { accessFlags := 25, nameIndex := 130, descriptorIndex := 124, attributes := #[] }, { accessFlags := 25, nameIndex := 136, descriptorIndex := 124, attributes := #[] }])
  fields := #[{ name := "SIOOBE_FORMATTER", type := (.object "java/util/function/BiFunction"), accessFlags := 25, slot := 0, constantValue := 0 }, { name := "AIOOBE_FORMATTER", type := (.object "java/util/function/BiFunction"), accessFlags := 25, slot := 1, constantValue := 0 }, { name := "IOOBE_FORMATTER", type := (.object "java/util/function/BiFunction"), accessFlags := 25, slot := 2, constantValue := 0 }]
  methods := #[k10m0]
  instanceTypes := #[]
  staticTypes := #[(.object "java/util/function/BiFunction"), (.object "java/util/function/BiFunction"), (.object "java/util/function/BiFunction")]
  resolved := Array.replicate 194 none
  statics := some 1 }

def pool11 : Array CpInfo := pool [(9, u "<init>"), (6, .class_ 18), (1, u "java/lang/Object"), (0, u "()V"), (1, .class_ 23), (1, u "jdk/internal/util/ArraysSupport"), (0, u "LOG2_ARRAY_LONG_INDEX_SCALE"), (0, u "I"), (2, u "U"), (0, u "Ljdk/internal/misc/Unsafe;"), (8, u "BIG_ENDIAN"), (0, u "Z"), (8, u "LOG2_BYTE_BIT_SIZE"), (4, u "LOG2_ARRAY_INT_INDEX_SCALE"), (54, u "JLA"), (0, u "Ljdk/internal/access/JavaLangAccess;"), (11, u "LOG2_ARRAY_BOOLEAN_INDEX_SCALE"), (9, u "LOG2_ARRAY_BYTE_INDEX_SCALE"), (5, u "LOG2_ARRAY_CHAR_INDEX_SCALE"), (5, u "LOG2_ARRAY_SHORT_INDEX_SCALE"), (18, u "LOG2_ARRAY_FLOAT_INDEX_SCALE"), (24, u "LOG2_ARRAY_DOUBLE_INDEX_SCALE"), (89, u "T_BOOLEAN"), (2, u "T_CHAR"), (1, u "T_FLOAT"), (1, u "T_DOUBLE"), (1, u "T_BYTE"), (1, u "T_SHORT"), (1, u "T_INT"), (1, u "T_LONG"), (1, u "SOFT_MAX_ARRAY_LENGTH")] 83

def k11m0 : Method := { name := "<init>", desc := "()V", sig := { parameters := [], returnType := none }, accessFlags := 2, code := none }
/-- jdk/internal/util/ArraysSupport -/
def k11 : Class := { plain "jdk/internal/util/ArraysSupport" (some 0) with
  accessFlags := 33
  interfaces := #[]
  cf := some (fileOf pool11 21 #[] #[{ accessFlags := 2, nameIndex := 9, descriptorIndex := 19, attributes := #[] }] 33 16 #[] #[{ accessFlags := 24, nameIndex := 28, descriptorIndex := 29, attributes := #[] }, { accessFlags := 26, nameIndex := 38, descriptorIndex := 39, attributes := #[] }, { accessFlags := 25, nameIndex := 121, descriptorIndex := 25, attributes := #[] }, { accessFlags := 25, nameIndex := 131, descriptorIndex := 25, attributes := #[] }, { accessFlags := 25, nameIndex := 137, descriptorIndex := 25, attributes := #[] }, { accessFlags := 25, nameIndex := 143, descriptorIndex := 25, attributes := #[] }, { accessFlags := 25, nameIndex := 53, descriptorIndex := 25, attributes := #[] }, { accessFlags := 25, nameIndex := 24, descriptorIndex := 25, attributes := #[] }, { accessFlags := 25, nameIndex := 162, descriptorIndex := 25, attributes := #[] }, { accessFlags := 25, nameIndex := 187, descriptorIndex := 25, attributes := #[] }, { accessFlags := 26, nameIndex := 48, descriptorIndex := 25, attributes := #[] }, { accessFlags := 25, nameIndex := 277, descriptorIndex := 25, attributes := #[] }, { accessFlags := 25, nameIndex := 280, descriptorIndex := 25, attributes := #[] }, { accessFlags := 25, nameIndex := 282, descriptorIndex := 25, attributes := #[] }, { accessFlags := 25, nameIndex := 284, descriptorIndex := 25, attributes := #[] }, { accessFlags := 25, nameIndex := 286, descriptorIndex := 25, attributes := #[] }, { accessFlags := 25, nameIndex := 288, descriptorIndex := 25, attributes := #[] }, { accessFlags := 25, nameIndex := 290, descriptorIndex := 25, attributes := #[] }, { accessFlags := 25, nameIndex := 292, descriptorIndex := 25, attributes := #[] }, { accessFlags := 26, nameIndex := 108, descriptorIndex := 109, attributes := #[] }, { accessFlags := 25, nameIndex := 294, descriptorIndex := 25, attributes := #[] }])
  fields := #[{ name := "U", type := (.object "jdk/internal/misc/Unsafe"), accessFlags := 24, slot := 0, constantValue := 0 }, { name := "BIG_ENDIAN", type := .boolean, accessFlags := 26, slot := 1, constantValue := 0 }, { name := "LOG2_ARRAY_BOOLEAN_INDEX_SCALE", type := .int, accessFlags := 25, slot := 2, constantValue := 0 }, { name := "LOG2_ARRAY_BYTE_INDEX_SCALE", type := .int, accessFlags := 25, slot := 3, constantValue := 0 }, { name := "LOG2_ARRAY_CHAR_INDEX_SCALE", type := .int, accessFlags := 25, slot := 4, constantValue := 0 }, { name := "LOG2_ARRAY_SHORT_INDEX_SCALE", type := .int, accessFlags := 25, slot := 5, constantValue := 0 }, { name := "LOG2_ARRAY_INT_INDEX_SCALE", type := .int, accessFlags := 25, slot := 6, constantValue := 0 }, { name := "LOG2_ARRAY_LONG_INDEX_SCALE", type := .int, accessFlags := 25, slot := 7, constantValue := 0 }, { name := "LOG2_ARRAY_FLOAT_INDEX_SCALE", type := .int, accessFlags := 25, slot := 8, constantValue := 0 }, { name := "LOG2_ARRAY_DOUBLE_INDEX_SCALE", type := .int, accessFlags := 25, slot := 9, constantValue := 0 }, { name := "LOG2_BYTE_BIT_SIZE", type := .int, accessFlags := 26, slot := 10, constantValue := 0 }, { name := "T_BOOLEAN", type := .int, accessFlags := 25, slot := 11, constantValue := 0 }, { name := "T_CHAR", type := .int, accessFlags := 25, slot := 12, constantValue := 0 }, { name := "T_FLOAT", type := .int, accessFlags := 25, slot := 13, constantValue := 0 }, { name := "T_DOUBLE", type := .int, accessFlags := 25, slot := 14, constantValue := 0 }, { name := "T_BYTE", type := .int, accessFlags := 25, slot := 15, constantValue := 0 }, { name := "T_SHORT", type := .int, accessFlags := 25, slot := 16, constantValue := 0 }, { name := "T_INT", type := .int, accessFlags := 25, slot := 17, constantValue := 0 }, { name := "T_LONG", type := .int, accessFlags := 25, slot := 18, constantValue := 0 }, { name := "JLA", type := (.object "jdk/internal/access/JavaLangAccess"), accessFlags := 26, slot := 19, constantValue := 0 }, { name := "SOFT_MAX_ARRAY_LENGTH", type := .int, accessFlags := 25, slot := 20, constantValue := 0 }]
  methods := #[k11m0]
  instanceTypes := #[]
  staticTypes := #[(.object "jdk/internal/misc/Unsafe"), .boolean, .int, .int, .int, .int, .int, .int, .int, .int, .int, .int, .int, .int, .int, .int, .int, .int, .int, (.object "jdk/internal/access/JavaLangAccess"), .int]
  resolved := Array.replicate 378 none
  statics := none }

def pool12 : Array CpInfo := pool [(1, u "java/lang/Cloneable"), (0, .class_ 1), (0, u "java/lang/Object"), (0, .class_ 3)] 3

/-- java/lang/Cloneable -/
def k12 : Class := { plain "java/lang/Cloneable" (some 0) with
  accessFlags := 1537
  interfaces := #[]
  cf := some (fileOf pool12 2 #[] #[] 1537 4 #[] #[])
  fields := #[]
  methods := #[]
  instanceTypes := #[]
  staticTypes := #[]
  resolved := Array.replicate 8 none
  statics := none }

/-- the primitive byte -/
def k13 : Class := { plain "byte" none with kind := .primitive 'B', accessFlags := 0x411 }
/-- [B -/
def k14 : Class := { plain "[B" (some 0) with kind := .array 13 .byte, interfaces := #[12, 2], accessFlags := 1041 }

/-- the primitive int -/
def k15 : Class := { plain "int" none with kind := .primitive 'I', accessFlags := 0x411 }
/-- [I -/
def k16 : Class := { plain "[I" (some 0) with kind := .array 15 .int, interfaces := #[12, 2], accessFlags := 1041 }

def heap : Heap := #[{ cls := 7, slots := #[.long 0, .int 1, .null, .int 0, .null, .int 0, .int 0], vm := .statics 7 },
  { cls := 10, slots := #[.null, .null, .null], vm := .statics 10 }]
def classes : Array Class := #[k0, k1, k2, k3, k4, k5, k6, k7, k8, k9, k10, k11, k12, k13, k14, k15, k16]
def interned : List (Array UInt16 × Addr) := []
def slotsUsed : Nat := 10
def theMethod : MethodId := ⟨1, 2⟩
def args0 : Array Value := #[.int 3, .int 2, .int 70, .int 65]
def aboutOver (below : List Frame) : State where
  vm := { classes := classes, interned := interned.toArray }
  heap := heap
  slotsUsed := slotsUsed
  threads := #[{ frames := .invoking theMethod args0 :: below }]
def below0 : List Frame := [.native { method := ⟨0, 0⟩, args := #[] }]
def about1 : State := aboutOver below0
def p0 : Program := .bare "" "" ""
def e0 : Env := launch0.env 0 0 0
theorem w_frames : about1.frames = Frame.invoking theMethod args0 :: below0 := rfl
set_option maxRecDepth 65536 in
theorem w_args : argsFit about1.vm theMethod args0 = true := by decide +kernel
set_option maxRecDepth 65536 in
theorem w_heap : heapFits about1 = true := by decide +kernel
set_option maxRecDepth 65536 in
theorem w_runnable : about1.curStatus? = some .runnable := by decide +kernel
set_option maxRecDepth 65536 in
theorem w_alone : about1.alone = true := by decide +kernel
set_option maxRecDepth 65536 in
theorem w_named : about1.methodNamed? x = some theMethod := by decide +kernel
set_option maxRecDepth 65536 in
theorem w_hears : about1.hears theMethod below0 = true := by decide +kernel
set_option maxRecDepth 65536 in
theorem w_ripe : about1.ripe theMethod args0 below0 = true := by decide +kernel
theorem w_running : about1.status = .running := rfl
set_option maxRecDepth 65536 in
theorem w_room : about1.hasRoom e0.platform room_1 = true :=
  launch0.hasRoom_least _ room_1 (by decide +kernel) (by decide +kernel) (by decide +kernel) (by decide +kernel) (by decide +kernel) (by decide +kernel)
theorem allAtoms_all (ts : List Jvm.Cond) (a : Array Jvm.Value) (st : Jvm.State) : (allAtoms ts).before a st = ts.all (fun c => c.before a st) := by
  induction ts with
  | nil => rfl
  | cons c t ih =>
    show (Jvm.Cond.and c (allAtoms t)).before a st = _
    rw [Jvm.Cond.before_and, ih, List.all_cons]
def words1 : List Jvm.Cond := Jvm.Cond.code x code maxLocals ret :: tables_1
/-- a 'code' word, met by the world's own term for the bytes: nothing is compared byte by byte -/
theorem code_word {y : MethodName} {bytes : ByteArray} {mx : Nat} {rt : Option FieldType} {a : Array Value} {s : State} {m : MethodId} {meth : Method} {c : Code} (h1 : s.methodNamed? y = some m) (h2 : s.vm.method? m = some meth) (h3 : meth.code = some c) (h4 : c.code = bytes)
    (h5 : (c.maxLocals == mx && c.exceptionTable.isEmpty && decide (c.maxStack ≤ mostOperands) && decide (meth.sig.returnType = rt) && !meth.locks && decide (parseMethodDescriptor y.desc = some meth.sig)) = true) : (Jvm.Cond.code y bytes mx rt).before a s = true := by
  simp only [Bool.and_eq_true, beq_iff_eq, Bool.not_eq_true', decide_eq_true_eq] at h5
  obtain ⟨⟨⟨⟨⟨g1, g2⟩, g3⟩, g4⟩, g5⟩, g6⟩ := h5
  simp [Cond.before, Cond.holds, Cond.value, h1, h2, h3, h4, g1, g2, g3, g4, g5, g6]
def isCode : Jvm.Cond → Bool
  | .code _ _ _ _ => true
  | _ => false
theorem all_split {L : List Jvm.Cond} {P : Jvm.Cond → Bool} (h1 : L.all (fun c => isCode c || P c) = true) (h2 : ∀ c ∈ L.filter isCode, P c = true) : L.all P = true := by
  refine List.all_eq_true.mpr fun c hc => ?_
  have h := List.all_eq_true.mp h1 c hc
  rcases Bool.eq_false_or_eq_true (isCode c) with hi | hi
  · exact h2 c (List.mem_filter.mpr ⟨hc, hi⟩)
  · simpa [hi] using h
set_option maxRecDepth 65536 in
theorem w_c0 : (Jvm.Cond.code x code maxLocals ret).before args0 about1 = true := code_word (m := ⟨1, 2⟩) (meth := k1m2) (c := k1c2) (by decide +kernel) rfl rfl rfl (by decide +kernel)
set_option maxRecDepth 65536 in
theorem w_c1 : (Jvm.Cond.code ({ cls := "java/lang/String", name := "valueOf", desc := "(C)Ljava/lang/String;" } : Jvm.MethodName) jdk_42_method_139_code (1 : Nat) (Option.some (Jvm.ClassFile.FieldType.object "java/lang/String"))).before args0 about1 = true := code_word (m := ⟨7, 1⟩) (meth := k7m1) (c := k7c1) (by decide +kernel) rfl rfl rfl (by decide +kernel)
set_option maxRecDepth 65536 in
theorem w_c2 : (Jvm.Cond.code ({ cls := "java/lang/StringLatin1", name := "canEncode", desc := "(C)Z" } : Jvm.MethodName) jdk_43_method_3_code (1 : Nat) (Option.some Jvm.ClassFile.FieldType.boolean)).before args0 about1 = true := code_word (m := ⟨8, 1⟩) (meth := k8m1) (c := k8c1) (by decide +kernel) rfl rfl rfl (by decide +kernel)
set_option maxRecDepth 65536 in
theorem w_c3 : (Jvm.Cond.code ({ cls := "java/lang/StringLatin1", name := "toBytes", desc := "(C)[B" } : Jvm.MethodName) jdk_43_method_46_code (1 : Nat) (Option.some (Jvm.ClassFile.FieldType.array Jvm.ClassFile.FieldType.byte))).before args0 about1 = true := code_word (m := ⟨8, 2⟩) (meth := k8m2) (c := k8c2) (by decide +kernel) rfl rfl rfl (by decide +kernel)
set_option maxRecDepth 65536 in
theorem w_c4 : (Jvm.Cond.code ({ cls := "java/lang/String", name := "<init>", desc := "([BB)V" } : Jvm.MethodName) jdk_42_method_151_code (3 : Nat) (Option.none : Option Jvm.ClassFile.FieldType)).before args0 about1 = true := code_word (m := ⟨7, 2⟩) (meth := k7m2) (c := k7c2) (by decide +kernel) rfl rfl rfl (by decide +kernel)
set_option maxRecDepth 65536 in
theorem w_c5 : (Jvm.Cond.code ({ cls := "java/lang/Object", name := "<init>", desc := "()V" } : Jvm.MethodName) object_method_1_code (1 : Nat) (Option.none : Option Jvm.ClassFile.FieldType)).before args0 about1 = true := code_word (m := ⟨0, 0⟩) (meth := k0m0) (c := k0c0) (by decide +kernel) rfl rfl rfl (by decide +kernel)
set_option maxRecDepth 65536 in
theorem w_c6 : (Jvm.Cond.code ({ cls := "com/example/braided_tour/braidedtour/model/Period", name := "<init>", desc := "(Ljava/lang/String;II)V" } : Jvm.MethodName) prog_50_method_1_code (4 : Nat) (Option.none : Option Jvm.ClassFile.FieldType)).before args0 about1 = true := code_word (m := ⟨9, 0⟩) (meth := k9m0) (c := k9c0) (by decide +kernel) rfl rfl rfl (by decide +kernel)
set_option maxRecDepth 65536 in
theorem w_c7 : (Jvm.Cond.code ({ cls := "com/example/braided_tour/braidedtour/model/Period", name := "contains", desc := "(I)Z" } : Jvm.MethodName) prog_50_method_3_code (3 : Nat) (Option.some Jvm.ClassFile.FieldType.boolean)).before args0 about1 = true := code_word (m := ⟨9, 1⟩) (meth := k9m1) (c := k9c1) (by decide +kernel) rfl rfl rfl (by decide +kernel)
set_option maxRecDepth 65536 in
theorem w_c8 : (Jvm.Cond.code ({ cls := "com/example/braided_tour/braidedtour/model/PeriodContainsPinLaw", name := "mod24", desc := "(I)I" } : Jvm.MethodName) method_2_code (1 : Nat) (Option.some Jvm.ClassFile.FieldType.int)).before args0 about1 = true := code_word (m := ⟨1, 1⟩) (meth := k1m1) (c := k1c1) (by decide +kernel) rfl rfl rfl (by decide +kernel)
def codes1 : List Jvm.Cond := [Jvm.Cond.code x code maxLocals ret, Jvm.Cond.code ({ cls := "java/lang/String", name := "valueOf", desc := "(C)Ljava/lang/String;" } : Jvm.MethodName) jdk_42_method_139_code (1 : Nat) (Option.some (Jvm.ClassFile.FieldType.object "java/lang/String")), Jvm.Cond.code ({ cls := "java/lang/StringLatin1", name := "canEncode", desc := "(C)Z" } : Jvm.MethodName) jdk_43_method_3_code (1 : Nat) (Option.some Jvm.ClassFile.FieldType.boolean), Jvm.Cond.code ({ cls := "java/lang/StringLatin1", name := "toBytes", desc := "(C)[B" } : Jvm.MethodName) jdk_43_method_46_code (1 : Nat) (Option.some (Jvm.ClassFile.FieldType.array Jvm.ClassFile.FieldType.byte)), Jvm.Cond.code ({ cls := "java/lang/String", name := "<init>", desc := "([BB)V" } : Jvm.MethodName) jdk_42_method_151_code (3 : Nat) (Option.none : Option Jvm.ClassFile.FieldType), Jvm.Cond.code ({ cls := "java/lang/Object", name := "<init>", desc := "()V" } : Jvm.MethodName) object_method_1_code (1 : Nat) (Option.none : Option Jvm.ClassFile.FieldType), Jvm.Cond.code ({ cls := "com/example/braided_tour/braidedtour/model/Period", name := "<init>", desc := "(Ljava/lang/String;II)V" } : Jvm.MethodName) prog_50_method_1_code (4 : Nat) (Option.none : Option Jvm.ClassFile.FieldType), Jvm.Cond.code ({ cls := "com/example/braided_tour/braidedtour/model/Period", name := "contains", desc := "(I)Z" } : Jvm.MethodName) prog_50_method_3_code (3 : Nat) (Option.some Jvm.ClassFile.FieldType.boolean), Jvm.Cond.code ({ cls := "com/example/braided_tour/braidedtour/model/PeriodContainsPinLaw", name := "mod24", desc := "(I)I" } : Jvm.MethodName) method_2_code (1 : Nat) (Option.some Jvm.ClassFile.FieldType.int)]
set_option maxRecDepth 65536 in
theorem codes_eq : words1.filter isCode = codes1 := rfl
theorem w_codes : ∀ c ∈ words1.filter isCode, c.before args0 about1 = true := by
  rw [codes_eq]
  intro c hc
  simp only [codes1, List.mem_cons, List.not_mem_nil, or_false] at hc
  rcases hc with rfl | rfl | rfl | rfl | rfl | rfl | rfl | rfl | rfl
  · exact w_c0
  · exact w_c1
  · exact w_c2
  · exact w_c3
  · exact w_c4
  · exact w_c5
  · exact w_c6
  · exact w_c7
  · exact w_c8
set_option maxRecDepth 65536 in
theorem w_t1 : (words1.take 24).all (fun c => isCode c || c.before args0 about1) = true := by decide +kernel
set_option maxRecDepth 65536 in
theorem w_t2 : ((words1.drop 24).take 24).all (fun c => isCode c || c.before args0 about1) = true := by decide +kernel
set_option maxRecDepth 65536 in
theorem w_t3 : ((words1.drop 24).drop 24).all (fun c => isCode c || c.before args0 about1) = true := by decide +kernel
theorem w_tables : (allAtoms (Jvm.Cond.code x code maxLocals ret :: tables_1)).before args0 about1 = true := by
  rw [allAtoms_all]
  show words1.all (fun c => c.before args0 about1) = true
  refine all_split ?_ w_codes
  rw [← List.take_append_drop 24 words1, List.all_append, w_t1, ← List.take_append_drop 24 (words1.drop 24), List.all_append, w_t2, w_t3]
  rfl
set_option maxRecDepth 65536 in
theorem w_rest : rest_1_c.before args0 about1 = true := by decide +kernel
set_option maxRecDepth 65536 in
theorem w_case : (Jvm.Cond.and given_1 narrow_1).before args0 about1 = true := by decide +kernel
theorem w_applies : (headSpec (Jvm.Cond.code x code maxLocals ret :: tables_1) room_1).applies x e0.platform about1 = true :=
  (Spec.applies_iff w_frames).mpr ⟨w_running, w_runnable, w_alone, w_named, w_hears, w_ripe, w_room, w_tables⟩
theorem atStart : AtStart classFile x code maxLocals ret World_1 tables_1 room_1 Calls_1 rest_1 Pre_1 launch0 p0 e0 about1 theMethod args0 below0 :=
  ⟨lists_1, trivial, launch0.admits_env _ _ _, launch0.least_env, fairChoices_fair.cas, fairChoices_fair.clock, w_frames, w_args, w_heap, w_applies, trivial, w_rest, w_case⟩
end start1
theorem witness_1 : WitnessClaimed_1 := ⟨start1.p0, start1.e0, start1.about1, start1.theMethod, start1.args0, start1.below0, start1.atStart⟩
end Jvm.Pilot.@@N@@
