import JvmDerived
import JvmDerived.Pilot.@@N@@Statement
import JvmDerived.Pilot.@@N@@Code
set_option linter.unusedVariables false
set_option linter.unusedSimpArgs false
namespace Jvm.RoadKit
open Sem ClassFile Op Lib Jvm.Stand Jvm.Free Jvm.LawKit
section New
variable {p : Program} {l : Launch} {e : Env} {R : Room} {s : State} {m : MethodId} {args : Array Value} {below : List Frame} {meth : Method} {c : Code} {T : State} {locs : List Loc} {cells slots : Nat}
theorem retI (X : Stand p l e R s m args below meth c T locs cells slots) (hx : p.tables.exec = Jvm.exec) {pc : Nat} {Ls : Array Slot} {z : Int32} {rest : List Value} (hret : meth.sig.returnType = some .int) (hd : decode c.code pc = .ok (.ireturn, 1)) {fs : List Frame}
    (hl : ∀ (f : JFrame) (acts : List Action), f.method = m → f.locked = none → f.entered = [] → (doReturn e (T.setTop f) acts (some (.int z))).1 = T.setFrames fs) : Steps p.tables e below (T.setTop (mkF m pc Ls (.int z :: rest))) (T.setFrames fs) := by
  have hm' : T.vm.method? m = some meth := X.method'
  have hn : narrow .int (.int z) = .int z := rfl
  show Steps p.tables e below (T.setTop { method := m, pc := pc, locals := Ls, stack := _ :: rest, locked := none }) _
  jvm_step X.here [X.here.top, hx, hd, hm', hret, hn]
  first | (intro acts; rw [hl _ acts rfl rfl rfl]) | rw [hl _ _ rfl rfl rfl]
  exact Steps.refl _
end New
end Jvm.RoadKit
namespace Jvm.Pilot.@@N@@
open Jvm Jvm.ClassFile Sem Op Lib Jvm.Free Jvm.Stand Jvm.LawKit Jvm.RoadKit Bundle Jvm.Pilot.@@N@@.Jvm.D
theorem own_rem (x y : Int32) : x - (x / y) * y = x % y := by
  refine Int32.toInt_inj.mp ?_
  have lo := (x % y).le_toInt
  have hi := (x % y).toInt_lt
  have t : (x % y).toInt = x.toInt - x.toInt.tdiv y.toInt * y.toInt := by
    rw [Int32.toInt_mod, Int.tmod_def, Int.mul_comm]
  have u : (x - (x / y) * y).toInt = (x.toInt - x.toInt.tdiv y.toInt * y.toInt).bmod (2 ^ 32) := by
    simp only [Int32.toInt_sub, Int32.toInt_mul, Int32.toInt_div, Int.bmod_mul_bmod, Int.sub_bmod_bmod]
  rw [u, ← t, Int.bmod_def]
  omega
theorem d1_0 : decode method_2_code 0 = .ok (.iload_n 0, 1) := by decide +kernel
theorem d1_1 : decode method_2_code 1 = .ok (.ifCond .ne 7, 3) := by decide +kernel
theorem d1_4 : decode method_2_code 4 = .ok (.getstatic 7, 3) := by decide +kernel
theorem d1_7 : decode method_2_code 7 = .ok (.areturn, 1) := by decide +kernel
theorem pn1k0 : plainName "com/example/minuet/minuet/TypeIsNumberPinLaw" = true := by first | (simp [plainName, overriddenIn]; done) | decide +kernel
theorem ef1k0 (m : MethodId)  : entryFrame m #[(.int (0 : Int32))] 1 = mkF m 0 #[.val (.int (0 : Int32))] [] := by first | (simp [entryFrame, mkF, argsToLocals, Value.category]; done) | rfl
def Q1k0 (Z : State) (t0 : Addr) (h0 : Heap) (n0 : Nat) (v : Option Value) (h : Heap) (L : List Loc) : Prop := v = some (.ref t0) ∧ Fr n0 L ∧ h = h0
set_option maxRecDepth 65536 in
set_option maxHeartbeats 40000000 in
theorem rm1k0 (l : Launch) (Z : State) (a0 : Array Value) (hw : ∀ d ∈ tables_1, d.before a0 Z = true) (ws : List Jvm.Cond) (t0 : Addr) (h0 : Heap) (n0 : Nat) (Z0 : n0 ≤ h0.size) (S0 : Sta Z h0 "com/example/minuet/minuet/Type" "INT" "Lcom/example/minuet/minuet/Type;" (.ref t0)) :
    MetFree l (⟨"com/example/minuet/minuet/TypeIsNumberPinLaw", "pick", "(I)Lcom/example/minuet/minuet/Type;"⟩ : MethodName) (head1 (Jvm.Cond.code (⟨"com/example/minuet/minuet/TypeIsNumberPinLaw", "pick", "(I)Lcom/example/minuet/minuet/Type;"⟩ : MethodName) method_2_code 1 (some (.object "com/example/minuet/minuet/Type")) :: ws) ({ frames := 0, cells := 0, slots := 0, locals := 0 } : Room)) (fun a U => a = #[(.int (0 : Int32))] ∧ Z.Warmed39 U.vm ∧ U.heap = h0) (fun _ _ _ _ _ => True) (fun _ U o U' => ∃ v L, o = .returned v ∧ Q1k0 Z t0 h0 n0 v U'.heap L ∧ FrameEnd U o U' L ({ frames := 0, cells := 0, slots := 0, locals := 0 } : Room).cells ({ frames := 0, cells := 0, slots := 0, locals := 0 } : Room).slots) := by
  refine MetFree.of_bodySF (plainFor_of_name pn1k0) hisR ?_
  intro p e s m args below meth c s₁ Bd hml0 hP hK
  obtain ⟨rfl, hZ, hh⟩ := hP
  have hx := Bd.exec
  have hby := Bd.bytes
  have hml : c.maxLocals = 1 := hml0
  have hown : s.vm.findClass "com/example/minuet/minuet/TypeIsNumberPinLaw" = some m.cls := findClass_of_methodNamed Bd.named
  have hnm := (name_of_methodNamed Bd.named Bd.method).1
  have X0 : Stand p l e ({ frames := 0, cells := 0, slots := 0, locals := 0 } : Room) s m #[(.int (0 : Int32))] below meth c s₁ [] 0 0 := Stand.of_body Bd
  have e0 : s₁.heap = h0 := by rw [← hh, Bd.state]; rfl
  have N0 := Fr.nil n0
  have pre0 : ∀ t, Steps p.tables e below (s₁.setTop (mkF m 0 #[.val (.int (0 : Int32))] [])) t → Steps p.tables e below (s₁.setTop (entryFrame m #[(.int (0 : Int32))] 1)) t := fun t k => castTop (ef1k0 m) k
  obtain ⟨T1, X1, e1, st1⟩ := getS2 X0 hx hZ hown (host := "") (Or.inl (hw _ (List.mem_of_getElem? (i := 5) rfl))) Via.refl e0 S0 (g := (mkF m 4 #[.val (.int (0 : Int32))] [])) rfl (hb hby d1_4)
  obtain ⟨fs, hr, hrun, hended, hW, hsame⟩ := X1.leave (v := some (.ref t0)) (fun h => by rw [Bd.returns] at h; cases h)
  refine ⟨_, _, pre0 _ ?_, hrun, hended, _, _, rfl, ?_, ⟨_, rfl⟩, hW, hsame.mono (by decide) (by decide)⟩
  · show Steps p.tables e below (s₁.setTop (mkF m 0 #[.val (.int (0 : Int32))] [])) _
    refine XS.iloadN X0.here hx rfl (hb hby d1_0) rfl ?_
    show Steps p.tables e below (s₁.setTop (mkF m 1 #[.val (.int (0 : Int32))] [(.int (0 : Int32))])) _
    refine XS.ifNo X0.here hx rfl (hb hby d1_1) rfl ((if0 _ _).trans (teq (by decide)).2) ?_
    show Steps p.tables e below (s₁.setTop (mkF m 4 #[.val (.int (0 : Int32))] [])) _
    refine st1 _ ?_
    show Steps p.tables e below (T1.setTop (mkF m 7 #[.val (.int (0 : Int32))] [(.ref t0)])) _
    jvm_step X1.here [X1.here.top, hx, (hb hby d1_7), X1.method', Bd.returns, Value.isRef, FieldType.isReference]
    first | (intro acts; rw [hr _ acts rfl rfl rfl]) | rw [hr _ _ rfl rfl rfl]
    exact Steps.refl _
  · show Q1k0 Z t0 h0 n0 _ T1.heap _
    rw [e1]
    exact ⟨rfl, N0, rfl⟩
theorem d1_8 : decode method_2_code 8 = .ok (.iload_n 0, 1) := by decide +kernel
theorem d1_9 : decode method_2_code 9 = .ok (.iconst 1, 1) := by decide +kernel
theorem d1_10 : decode method_2_code 10 = .ok (.if_icmp .ne 7, 3) := by decide +kernel
theorem d1_13 : decode method_2_code 13 = .ok (.getstatic 13, 3) := by decide +kernel
theorem d1_16 : decode method_2_code 16 = .ok (.areturn, 1) := by decide +kernel
theorem pn1k1 : plainName "com/example/minuet/minuet/TypeIsNumberPinLaw" = true := by first | (simp [plainName, overriddenIn]; done) | decide +kernel
theorem ef1k1 (m : MethodId)  : entryFrame m #[(.int (1 : Int32))] 1 = mkF m 0 #[.val (.int (1 : Int32))] [] := by first | (simp [entryFrame, mkF, argsToLocals, Value.category]; done) | rfl
def Q1k1 (Z : State) (t1 : Addr) (h0 : Heap) (n0 : Nat) (v : Option Value) (h : Heap) (L : List Loc) : Prop := v = some (.ref t1) ∧ Fr n0 L ∧ h = h0
set_option maxRecDepth 65536 in
set_option maxHeartbeats 40000000 in
theorem rm1k1 (l : Launch) (Z : State) (a0 : Array Value) (hw : ∀ d ∈ tables_1, d.before a0 Z = true) (ws : List Jvm.Cond) (t1 : Addr) (h0 : Heap) (n0 : Nat) (Z0 : n0 ≤ h0.size) (S1 : Sta Z h0 "com/example/minuet/minuet/Type" "FLOAT" "Lcom/example/minuet/minuet/Type;" (.ref t1)) :
    MetFree l (⟨"com/example/minuet/minuet/TypeIsNumberPinLaw", "pick", "(I)Lcom/example/minuet/minuet/Type;"⟩ : MethodName) (head1 (Jvm.Cond.code (⟨"com/example/minuet/minuet/TypeIsNumberPinLaw", "pick", "(I)Lcom/example/minuet/minuet/Type;"⟩ : MethodName) method_2_code 1 (some (.object "com/example/minuet/minuet/Type")) :: ws) ({ frames := 0, cells := 0, slots := 0, locals := 0 } : Room)) (fun a U => a = #[(.int (1 : Int32))] ∧ Z.Warmed39 U.vm ∧ U.heap = h0) (fun _ _ _ _ _ => True) (fun _ U o U' => ∃ v L, o = .returned v ∧ Q1k1 Z t1 h0 n0 v U'.heap L ∧ FrameEnd U o U' L ({ frames := 0, cells := 0, slots := 0, locals := 0 } : Room).cells ({ frames := 0, cells := 0, slots := 0, locals := 0 } : Room).slots) := by
  refine MetFree.of_bodySF (plainFor_of_name pn1k1) hisR ?_
  intro p e s m args below meth c s₁ Bd hml0 hP hK
  obtain ⟨rfl, hZ, hh⟩ := hP
  have hx := Bd.exec
  have hby := Bd.bytes
  have hml : c.maxLocals = 1 := hml0
  have hown : s.vm.findClass "com/example/minuet/minuet/TypeIsNumberPinLaw" = some m.cls := findClass_of_methodNamed Bd.named
  have hnm := (name_of_methodNamed Bd.named Bd.method).1
  have X0 : Stand p l e ({ frames := 0, cells := 0, slots := 0, locals := 0 } : Room) s m #[(.int (1 : Int32))] below meth c s₁ [] 0 0 := Stand.of_body Bd
  have e0 : s₁.heap = h0 := by rw [← hh, Bd.state]; rfl
  have N0 := Fr.nil n0
  have pre0 : ∀ t, Steps p.tables e below (s₁.setTop (mkF m 0 #[.val (.int (1 : Int32))] [])) t → Steps p.tables e below (s₁.setTop (entryFrame m #[(.int (1 : Int32))] 1)) t := fun t k => castTop (ef1k1 m) k
  obtain ⟨T1, X1, e1, st1⟩ := getS2 X0 hx hZ hown (host := "") (Or.inl (hw _ (List.mem_of_getElem? (i := 38) rfl))) Via.refl e0 S1 (g := (mkF m 13 #[.val (.int (1 : Int32))] [])) rfl (hb hby d1_13)
  obtain ⟨fs, hr, hrun, hended, hW, hsame⟩ := X1.leave (v := some (.ref t1)) (fun h => by rw [Bd.returns] at h; cases h)
  refine ⟨_, _, pre0 _ ?_, hrun, hended, _, _, rfl, ?_, ⟨_, rfl⟩, hW, hsame.mono (by decide) (by decide)⟩
  · show Steps p.tables e below (s₁.setTop (mkF m 0 #[.val (.int (1 : Int32))] [])) _
    refine XS.iloadN X0.here hx rfl (hb hby d1_0) rfl ?_
    show Steps p.tables e below (s₁.setTop (mkF m 1 #[.val (.int (1 : Int32))] [(.int (1 : Int32))])) _
    refine XS.ifYes X0.here hx rfl (pc0 := 1) (pc' := 8) rfl (hb hby d1_1) rfl ((if0 _ _).trans (feq (by decide)).2) (by decide) (by decide) ?_
    show Steps p.tables e below (s₁.setTop (mkF m 8 #[.val (.int (1 : Int32))] [])) _
    refine XS.iloadN X0.here hx rfl (hb hby d1_8) rfl ?_
    show Steps p.tables e below (s₁.setTop (mkF m 9 #[.val (.int (1 : Int32))] [(.int (1 : Int32))])) _
    refine XS.iconst X0.here hx rfl (hb hby d1_9) ?_
    show Steps p.tables e below (s₁.setTop (mkF m 10 #[.val (.int (1 : Int32))] [(.int (1 : Int32)), (.int (1 : Int32))])) _
    refine XS.icmpNo X0.here hx rfl (hb hby d1_10) rfl (teq (by decide)).2 ?_
    show Steps p.tables e below (s₁.setTop (mkF m 13 #[.val (.int (1 : Int32))] [])) _
    refine st1 _ ?_
    show Steps p.tables e below (T1.setTop (mkF m 16 #[.val (.int (1 : Int32))] [(.ref t1)])) _
    jvm_step X1.here [X1.here.top, hx, (hb hby d1_16), X1.method', Bd.returns, Value.isRef, FieldType.isReference]
    first | (intro acts; rw [hr _ acts rfl rfl rfl]) | rw [hr _ _ rfl rfl rfl]
    exact Steps.refl _
  · show Q1k1 Z t1 h0 n0 _ T1.heap _
    rw [e1]
    exact ⟨rfl, N0, rfl⟩
theorem d1_17 : decode method_2_code 17 = .ok (.iload_n 0, 1) := by decide +kernel
theorem d1_18 : decode method_2_code 18 = .ok (.iconst 2, 1) := by decide +kernel
theorem d1_19 : decode method_2_code 19 = .ok (.if_icmp .ne 7, 3) := by decide +kernel
theorem d1_22 : decode method_2_code 22 = .ok (.getstatic 16, 3) := by decide +kernel
theorem d1_25 : decode method_2_code 25 = .ok (.areturn, 1) := by decide +kernel
theorem pn1k2 : plainName "com/example/minuet/minuet/TypeIsNumberPinLaw" = true := by first | (simp [plainName, overriddenIn]; done) | decide +kernel
theorem ef1k2 (m : MethodId)  : entryFrame m #[(.int (2 : Int32))] 1 = mkF m 0 #[.val (.int (2 : Int32))] [] := by first | (simp [entryFrame, mkF, argsToLocals, Value.category]; done) | rfl
def Q1k2 (Z : State) (t2 : Addr) (h0 : Heap) (n0 : Nat) (v : Option Value) (h : Heap) (L : List Loc) : Prop := v = some (.ref t2) ∧ Fr n0 L ∧ h = h0
set_option maxRecDepth 65536 in
set_option maxHeartbeats 40000000 in
theorem rm1k2 (l : Launch) (Z : State) (a0 : Array Value) (hw : ∀ d ∈ tables_1, d.before a0 Z = true) (ws : List Jvm.Cond) (t2 : Addr) (h0 : Heap) (n0 : Nat) (Z0 : n0 ≤ h0.size) (S2 : Sta Z h0 "com/example/minuet/minuet/Type" "BOOL" "Lcom/example/minuet/minuet/Type;" (.ref t2)) :
    MetFree l (⟨"com/example/minuet/minuet/TypeIsNumberPinLaw", "pick", "(I)Lcom/example/minuet/minuet/Type;"⟩ : MethodName) (head1 (Jvm.Cond.code (⟨"com/example/minuet/minuet/TypeIsNumberPinLaw", "pick", "(I)Lcom/example/minuet/minuet/Type;"⟩ : MethodName) method_2_code 1 (some (.object "com/example/minuet/minuet/Type")) :: ws) ({ frames := 0, cells := 0, slots := 0, locals := 0 } : Room)) (fun a U => a = #[(.int (2 : Int32))] ∧ Z.Warmed39 U.vm ∧ U.heap = h0) (fun _ _ _ _ _ => True) (fun _ U o U' => ∃ v L, o = .returned v ∧ Q1k2 Z t2 h0 n0 v U'.heap L ∧ FrameEnd U o U' L ({ frames := 0, cells := 0, slots := 0, locals := 0 } : Room).cells ({ frames := 0, cells := 0, slots := 0, locals := 0 } : Room).slots) := by
  refine MetFree.of_bodySF (plainFor_of_name pn1k2) hisR ?_
  intro p e s m args below meth c s₁ Bd hml0 hP hK
  obtain ⟨rfl, hZ, hh⟩ := hP
  have hx := Bd.exec
  have hby := Bd.bytes
  have hml : c.maxLocals = 1 := hml0
  have hown : s.vm.findClass "com/example/minuet/minuet/TypeIsNumberPinLaw" = some m.cls := findClass_of_methodNamed Bd.named
  have hnm := (name_of_methodNamed Bd.named Bd.method).1
  have X0 : Stand p l e ({ frames := 0, cells := 0, slots := 0, locals := 0 } : Room) s m #[(.int (2 : Int32))] below meth c s₁ [] 0 0 := Stand.of_body Bd
  have e0 : s₁.heap = h0 := by rw [← hh, Bd.state]; rfl
  have N0 := Fr.nil n0
  have pre0 : ∀ t, Steps p.tables e below (s₁.setTop (mkF m 0 #[.val (.int (2 : Int32))] [])) t → Steps p.tables e below (s₁.setTop (entryFrame m #[(.int (2 : Int32))] 1)) t := fun t k => castTop (ef1k2 m) k
  obtain ⟨T1, X1, e1, st1⟩ := getS2 X0 hx hZ hown (host := "") (Or.inl (hw _ (List.mem_of_getElem? (i := 36) rfl))) Via.refl e0 S2 (g := (mkF m 22 #[.val (.int (2 : Int32))] [])) rfl (hb hby d1_22)
  obtain ⟨fs, hr, hrun, hended, hW, hsame⟩ := X1.leave (v := some (.ref t2)) (fun h => by rw [Bd.returns] at h; cases h)
  refine ⟨_, _, pre0 _ ?_, hrun, hended, _, _, rfl, ?_, ⟨_, rfl⟩, hW, hsame.mono (by decide) (by decide)⟩
  · show Steps p.tables e below (s₁.setTop (mkF m 0 #[.val (.int (2 : Int32))] [])) _
    refine XS.iloadN X0.here hx rfl (hb hby d1_0) rfl ?_
    show Steps p.tables e below (s₁.setTop (mkF m 1 #[.val (.int (2 : Int32))] [(.int (2 : Int32))])) _
    refine XS.ifYes X0.here hx rfl (pc0 := 1) (pc' := 8) rfl (hb hby d1_1) rfl ((if0 _ _).trans (feq (by decide)).2) (by decide) (by decide) ?_
    show Steps p.tables e below (s₁.setTop (mkF m 8 #[.val (.int (2 : Int32))] [])) _
    refine XS.iloadN X0.here hx rfl (hb hby d1_8) rfl ?_
    show Steps p.tables e below (s₁.setTop (mkF m 9 #[.val (.int (2 : Int32))] [(.int (2 : Int32))])) _
    refine XS.iconst X0.here hx rfl (hb hby d1_9) ?_
    show Steps p.tables e below (s₁.setTop (mkF m 10 #[.val (.int (2 : Int32))] [(.int (1 : Int32)), (.int (2 : Int32))])) _
    refine XS.icmpYes X0.here hx rfl (pc0 := 10) (pc' := 17) rfl (hb hby d1_10) rfl (feq (by decide)).2 (by decide) (by decide) ?_
    show Steps p.tables e below (s₁.setTop (mkF m 17 #[.val (.int (2 : Int32))] [])) _
    refine XS.iloadN X0.here hx rfl (hb hby d1_17) rfl ?_
    show Steps p.tables e below (s₁.setTop (mkF m 18 #[.val (.int (2 : Int32))] [(.int (2 : Int32))])) _
    refine XS.iconst X0.here hx rfl (hb hby d1_18) ?_
    show Steps p.tables e below (s₁.setTop (mkF m 19 #[.val (.int (2 : Int32))] [(.int (2 : Int32)), (.int (2 : Int32))])) _
    refine XS.icmpNo X0.here hx rfl (hb hby d1_19) rfl (teq (by decide)).2 ?_
    show Steps p.tables e below (s₁.setTop (mkF m 22 #[.val (.int (2 : Int32))] [])) _
    refine st1 _ ?_
    show Steps p.tables e below (T1.setTop (mkF m 25 #[.val (.int (2 : Int32))] [(.ref t2)])) _
    jvm_step X1.here [X1.here.top, hx, (hb hby d1_25), X1.method', Bd.returns, Value.isRef, FieldType.isReference]
    first | (intro acts; rw [hr _ acts rfl rfl rfl]) | rw [hr _ _ rfl rfl rfl]
    exact Steps.refl _
  · show Q1k2 Z t2 h0 n0 _ T1.heap _
    rw [e1]
    exact ⟨rfl, N0, rfl⟩
theorem d1_26 : decode method_2_code 26 = .ok (.iload_n 0, 1) := by decide +kernel
theorem d1_27 : decode method_2_code 27 = .ok (.iconst 3, 1) := by decide +kernel
theorem d1_28 : decode method_2_code 28 = .ok (.if_icmp .ne 7, 3) := by decide +kernel
theorem d1_31 : decode method_2_code 31 = .ok (.getstatic 19, 3) := by decide +kernel
theorem d1_34 : decode method_2_code 34 = .ok (.areturn, 1) := by decide +kernel
theorem pn1k3 : plainName "com/example/minuet/minuet/TypeIsNumberPinLaw" = true := by first | (simp [plainName, overriddenIn]; done) | decide +kernel
theorem ef1k3 (m : MethodId) (t3 : Addr) : entryFrame m #[(.int (3 : Int32))] 1 = mkF m 0 #[.val (.int (3 : Int32))] [] := by first | (simp [entryFrame, mkF, argsToLocals, Value.category]; done) | rfl
def Q1k3 (Z : State) (t3 : Addr) (h0 : Heap) (n0 : Nat) (v : Option Value) (h : Heap) (L : List Loc) : Prop := v = some (.ref t3) ∧ Fr n0 L ∧ h = h0
set_option maxRecDepth 65536 in
set_option maxHeartbeats 40000000 in
theorem rm1k3 (l : Launch) (Z : State) (a0 : Array Value) (hw : ∀ d ∈ tables_1, d.before a0 Z = true) (ws : List Jvm.Cond) (t3 : Addr) (h0 : Heap) (n0 : Nat) (Z0 : n0 ≤ h0.size) (S3 : Sta Z h0 "com/example/minuet/minuet/Type" "VOID" "Lcom/example/minuet/minuet/Type;" (.ref t3)) :
    MetFree l (⟨"com/example/minuet/minuet/TypeIsNumberPinLaw", "pick", "(I)Lcom/example/minuet/minuet/Type;"⟩ : MethodName) (head1 (Jvm.Cond.code (⟨"com/example/minuet/minuet/TypeIsNumberPinLaw", "pick", "(I)Lcom/example/minuet/minuet/Type;"⟩ : MethodName) method_2_code 1 (some (.object "com/example/minuet/minuet/Type")) :: ws) ({ frames := 0, cells := 0, slots := 0, locals := 0 } : Room)) (fun a U => a = #[(.int (3 : Int32))] ∧ Z.Warmed39 U.vm ∧ U.heap = h0) (fun _ _ _ _ _ => True) (fun _ U o U' => ∃ v L, o = .returned v ∧ Q1k3 Z t3 h0 n0 v U'.heap L ∧ FrameEnd U o U' L ({ frames := 0, cells := 0, slots := 0, locals := 0 } : Room).cells ({ frames := 0, cells := 0, slots := 0, locals := 0 } : Room).slots) := by
  refine MetFree.of_bodySF (plainFor_of_name pn1k3) hisR ?_
  intro p e s m args below meth c s₁ Bd hml0 hP hK
  obtain ⟨rfl, hZ, hh⟩ := hP
  have hx := Bd.exec
  have hby := Bd.bytes
  have hml : c.maxLocals = 1 := hml0
  have hown : s.vm.findClass "com/example/minuet/minuet/TypeIsNumberPinLaw" = some m.cls := findClass_of_methodNamed Bd.named
  have hnm := (name_of_methodNamed Bd.named Bd.method).1
  have X0 : Stand p l e ({ frames := 0, cells := 0, slots := 0, locals := 0 } : Room) s m #[(.int (3 : Int32))] below meth c s₁ [] 0 0 := Stand.of_body Bd
  have e0 : s₁.heap = h0 := by rw [← hh, Bd.state]; rfl
  have N0 := Fr.nil n0
  have pre0 : ∀ t, Steps p.tables e below (s₁.setTop (mkF m 0 #[.val (.int (3 : Int32))] [])) t → Steps p.tables e below (s₁.setTop (entryFrame m #[(.int (3 : Int32))] 1)) t := fun t k => castTop (ef1k3 m t3) k
  obtain ⟨T1, X1, e1, st1⟩ := getS2 X0 hx hZ hown (host := "") (Or.inl (hw _ (List.mem_of_getElem? (i := 26) rfl))) Via.refl e0 S3 (g := (mkF m 31 #[.val (.int (3 : Int32))] [])) rfl (hb hby d1_31)
  obtain ⟨fs, hr, hrun, hended, hW, hsame⟩ := X1.leave (v := some (.ref t3)) (fun h => by rw [Bd.returns] at h; cases h)
  refine ⟨_, _, pre0 _ ?_, hrun, hended, _, _, rfl, ?_, ⟨_, rfl⟩, hW, hsame.mono (by decide) (by decide)⟩
  · show Steps p.tables e below (s₁.setTop (mkF m 0 #[.val (.int (3 : Int32))] [])) _
    refine XS.iloadN X0.here hx rfl (hb hby d1_0) rfl ?_
    show Steps p.tables e below (s₁.setTop (mkF m 1 #[.val (.int (3 : Int32))] [(.int (3 : Int32))])) _
    refine XS.ifYes X0.here hx rfl (pc0 := 1) (pc' := 8) rfl (hb hby d1_1) rfl ((if0 _ _).trans (feq (by decide)).2) (by decide) (by decide) ?_
    show Steps p.tables e below (s₁.setTop (mkF m 8 #[.val (.int (3 : Int32))] [])) _
    refine XS.iloadN X0.here hx rfl (hb hby d1_8) rfl ?_
    show Steps p.tables e below (s₁.setTop (mkF m 9 #[.val (.int (3 : Int32))] [(.int (3 : Int32))])) _
    refine XS.iconst X0.here hx rfl (hb hby d1_9) ?_
    show Steps p.tables e below (s₁.setTop (mkF m 10 #[.val (.int (3 : Int32))] [(.int (1 : Int32)), (.int (3 : Int32))])) _
    refine XS.icmpYes X0.here hx rfl (pc0 := 10) (pc' := 17) rfl (hb hby d1_10) rfl (feq (by decide)).2 (by decide) (by decide) ?_
    show Steps p.tables e below (s₁.setTop (mkF m 17 #[.val (.int (3 : Int32))] [])) _
    refine XS.iloadN X0.here hx rfl (hb hby d1_17) rfl ?_
    show Steps p.tables e below (s₁.setTop (mkF m 18 #[.val (.int (3 : Int32))] [(.int (3 : Int32))])) _
    refine XS.iconst X0.here hx rfl (hb hby d1_18) ?_
    show Steps p.tables e below (s₁.setTop (mkF m 19 #[.val (.int (3 : Int32))] [(.int (2 : Int32)), (.int (3 : Int32))])) _
    refine XS.icmpYes X0.here hx rfl (pc0 := 19) (pc' := 26) rfl (hb hby d1_19) rfl (feq (by decide)).2 (by decide) (by decide) ?_
    show Steps p.tables e below (s₁.setTop (mkF m 26 #[.val (.int (3 : Int32))] [])) _
    refine XS.iloadN X0.here hx rfl (hb hby d1_26) rfl ?_
    show Steps p.tables e below (s₁.setTop (mkF m 27 #[.val (.int (3 : Int32))] [(.int (3 : Int32))])) _
    refine XS.iconst X0.here hx rfl (hb hby d1_27) ?_
    show Steps p.tables e below (s₁.setTop (mkF m 28 #[.val (.int (3 : Int32))] [(.int (3 : Int32)), (.int (3 : Int32))])) _
    refine XS.icmpNo X0.here hx rfl (hb hby d1_28) rfl (teq (by decide)).2 ?_
    show Steps p.tables e below (s₁.setTop (mkF m 31 #[.val (.int (3 : Int32))] [])) _
    refine st1 _ ?_
    show Steps p.tables e below (T1.setTop (mkF m 34 #[.val (.int (3 : Int32))] [(.ref t3)])) _
    jvm_step X1.here [X1.here.top, hx, (hb hby d1_34), X1.method', Bd.returns, Value.isRef, FieldType.isReference]
    first | (intro acts; rw [hr _ acts rfl rfl rfl]) | rw [hr _ _ rfl rfl rfl]
    exact Steps.refl _
  · show Q1k3 Z t3 h0 n0 _ T1.heap _
    rw [e1]
    exact ⟨rfl, N0, rfl⟩
theorem d1_35 : decode method_2_code 35 = .ok (.iload_n 0, 1) := by decide +kernel
theorem d1_36 : decode method_2_code 36 = .ok (.iconst 4, 1) := by decide +kernel
theorem d1_37 : decode method_2_code 37 = .ok (.if_icmp .ne 7, 3) := by decide +kernel
theorem d1_40 : decode method_2_code 40 = .ok (.getstatic 22, 3) := by decide +kernel
theorem d1_43 : decode method_2_code 43 = .ok (.areturn, 1) := by decide +kernel
theorem pn1k4 : plainName "com/example/minuet/minuet/TypeIsNumberPinLaw" = true := by first | (simp [plainName, overriddenIn]; done) | decide +kernel
theorem ef1k4 (m : MethodId)  : entryFrame m #[(.int (4 : Int32))] 1 = mkF m 0 #[.val (.int (4 : Int32))] [] := by first | (simp [entryFrame, mkF, argsToLocals, Value.category]; done) | rfl
def Q1k4 (Z : State) (t4 : Addr) (h0 : Heap) (n0 : Nat) (v : Option Value) (h : Heap) (L : List Loc) : Prop := v = some (.ref t4) ∧ Fr n0 L ∧ h = h0
set_option maxRecDepth 65536 in
set_option maxHeartbeats 40000000 in
theorem rm1k4 (l : Launch) (Z : State) (a0 : Array Value) (hw : ∀ d ∈ tables_1, d.before a0 Z = true) (ws : List Jvm.Cond) (t4 : Addr) (h0 : Heap) (n0 : Nat) (Z0 : n0 ≤ h0.size) (S4 : Sta Z h0 "com/example/minuet/minuet/Type" "INT_ARRAY" "Lcom/example/minuet/minuet/Type;" (.ref t4)) :
    MetFree l (⟨"com/example/minuet/minuet/TypeIsNumberPinLaw", "pick", "(I)Lcom/example/minuet/minuet/Type;"⟩ : MethodName) (head1 (Jvm.Cond.code (⟨"com/example/minuet/minuet/TypeIsNumberPinLaw", "pick", "(I)Lcom/example/minuet/minuet/Type;"⟩ : MethodName) method_2_code 1 (some (.object "com/example/minuet/minuet/Type")) :: ws) ({ frames := 0, cells := 0, slots := 0, locals := 0 } : Room)) (fun a U => a = #[(.int (4 : Int32))] ∧ Z.Warmed39 U.vm ∧ U.heap = h0) (fun _ _ _ _ _ => True) (fun _ U o U' => ∃ v L, o = .returned v ∧ Q1k4 Z t4 h0 n0 v U'.heap L ∧ FrameEnd U o U' L ({ frames := 0, cells := 0, slots := 0, locals := 0 } : Room).cells ({ frames := 0, cells := 0, slots := 0, locals := 0 } : Room).slots) := by
  refine MetFree.of_bodySF (plainFor_of_name pn1k4) hisR ?_
  intro p e s m args below meth c s₁ Bd hml0 hP hK
  obtain ⟨rfl, hZ, hh⟩ := hP
  have hx := Bd.exec
  have hby := Bd.bytes
  have hml : c.maxLocals = 1 := hml0
  have hown : s.vm.findClass "com/example/minuet/minuet/TypeIsNumberPinLaw" = some m.cls := findClass_of_methodNamed Bd.named
  have hnm := (name_of_methodNamed Bd.named Bd.method).1
  have X0 : Stand p l e ({ frames := 0, cells := 0, slots := 0, locals := 0 } : Room) s m #[(.int (4 : Int32))] below meth c s₁ [] 0 0 := Stand.of_body Bd
  have e0 : s₁.heap = h0 := by rw [← hh, Bd.state]; rfl
  have N0 := Fr.nil n0
  have pre0 : ∀ t, Steps p.tables e below (s₁.setTop (mkF m 0 #[.val (.int (4 : Int32))] [])) t → Steps p.tables e below (s₁.setTop (entryFrame m #[(.int (4 : Int32))] 1)) t := fun t k => castTop (ef1k4 m) k
  obtain ⟨T1, X1, e1, st1⟩ := getS2 X0 hx hZ hown (host := "") (Or.inl (hw _ (List.mem_of_getElem? (i := 34) rfl))) Via.refl e0 S4 (g := (mkF m 40 #[.val (.int (4 : Int32))] [])) rfl (hb hby d1_40)
  obtain ⟨fs, hr, hrun, hended, hW, hsame⟩ := X1.leave (v := some (.ref t4)) (fun h => by rw [Bd.returns] at h; cases h)
  refine ⟨_, _, pre0 _ ?_, hrun, hended, _, _, rfl, ?_, ⟨_, rfl⟩, hW, hsame.mono (by decide) (by decide)⟩
  · show Steps p.tables e below (s₁.setTop (mkF m 0 #[.val (.int (4 : Int32))] [])) _
    refine XS.iloadN X0.here hx rfl (hb hby d1_0) rfl ?_
    show Steps p.tables e below (s₁.setTop (mkF m 1 #[.val (.int (4 : Int32))] [(.int (4 : Int32))])) _
    refine XS.ifYes X0.here hx rfl (pc0 := 1) (pc' := 8) rfl (hb hby d1_1) rfl ((if0 _ _).trans (feq (by decide)).2) (by decide) (by decide) ?_
    show Steps p.tables e below (s₁.setTop (mkF m 8 #[.val (.int (4 : Int32))] [])) _
    refine XS.iloadN X0.here hx rfl (hb hby d1_8) rfl ?_
    show Steps p.tables e below (s₁.setTop (mkF m 9 #[.val (.int (4 : Int32))] [(.int (4 : Int32))])) _
    refine XS.iconst X0.here hx rfl (hb hby d1_9) ?_
    show Steps p.tables e below (s₁.setTop (mkF m 10 #[.val (.int (4 : Int32))] [(.int (1 : Int32)), (.int (4 : Int32))])) _
    refine XS.icmpYes X0.here hx rfl (pc0 := 10) (pc' := 17) rfl (hb hby d1_10) rfl (feq (by decide)).2 (by decide) (by decide) ?_
    show Steps p.tables e below (s₁.setTop (mkF m 17 #[.val (.int (4 : Int32))] [])) _
    refine XS.iloadN X0.here hx rfl (hb hby d1_17) rfl ?_
    show Steps p.tables e below (s₁.setTop (mkF m 18 #[.val (.int (4 : Int32))] [(.int (4 : Int32))])) _
    refine XS.iconst X0.here hx rfl (hb hby d1_18) ?_
    show Steps p.tables e below (s₁.setTop (mkF m 19 #[.val (.int (4 : Int32))] [(.int (2 : Int32)), (.int (4 : Int32))])) _
    refine XS.icmpYes X0.here hx rfl (pc0 := 19) (pc' := 26) rfl (hb hby d1_19) rfl (feq (by decide)).2 (by decide) (by decide) ?_
    show Steps p.tables e below (s₁.setTop (mkF m 26 #[.val (.int (4 : Int32))] [])) _
    refine XS.iloadN X0.here hx rfl (hb hby d1_26) rfl ?_
    show Steps p.tables e below (s₁.setTop (mkF m 27 #[.val (.int (4 : Int32))] [(.int (4 : Int32))])) _
    refine XS.iconst X0.here hx rfl (hb hby d1_27) ?_
    show Steps p.tables e below (s₁.setTop (mkF m 28 #[.val (.int (4 : Int32))] [(.int (3 : Int32)), (.int (4 : Int32))])) _
    refine XS.icmpYes X0.here hx rfl (pc0 := 28) (pc' := 35) rfl (hb hby d1_28) rfl (feq (by decide)).2 (by decide) (by decide) ?_
    show Steps p.tables e below (s₁.setTop (mkF m 35 #[.val (.int (4 : Int32))] [])) _
    refine XS.iloadN X0.here hx rfl (hb hby d1_35) rfl ?_
    show Steps p.tables e below (s₁.setTop (mkF m 36 #[.val (.int (4 : Int32))] [(.int (4 : Int32))])) _
    refine XS.iconst X0.here hx rfl (hb hby d1_36) ?_
    show Steps p.tables e below (s₁.setTop (mkF m 37 #[.val (.int (4 : Int32))] [(.int (4 : Int32)), (.int (4 : Int32))])) _
    refine XS.icmpNo X0.here hx rfl (hb hby d1_37) rfl (teq (by decide)).2 ?_
    show Steps p.tables e below (s₁.setTop (mkF m 40 #[.val (.int (4 : Int32))] [])) _
    refine st1 _ ?_
    show Steps p.tables e below (T1.setTop (mkF m 43 #[.val (.int (4 : Int32))] [(.ref t4)])) _
    jvm_step X1.here [X1.here.top, hx, (hb hby d1_43), X1.method', Bd.returns, Value.isRef, FieldType.isReference]
    first | (intro acts; rw [hr _ acts rfl rfl rfl]) | rw [hr _ _ rfl rfl rfl]
    exact Steps.refl _
  · show Q1k4 Z t4 h0 n0 _ T1.heap _
    rw [e1]
    exact ⟨rfl, N0, rfl⟩
theorem d1_44 : decode method_2_code 44 = .ok (.iload_n 0, 1) := by decide +kernel
theorem d1_45 : decode method_2_code 45 = .ok (.iconst 5, 1) := by decide +kernel
theorem d1_46 : decode method_2_code 46 = .ok (.if_icmp .ne 7, 3) := by decide +kernel
theorem d1_49 : decode method_2_code 49 = .ok (.getstatic 25, 3) := by decide +kernel
theorem d1_52 : decode method_2_code 52 = .ok (.areturn, 1) := by decide +kernel
theorem pn1k5 : plainName "com/example/minuet/minuet/TypeIsNumberPinLaw" = true := by first | (simp [plainName, overriddenIn]; done) | decide +kernel
theorem ef1k5 (m : MethodId)  : entryFrame m #[(.int (5 : Int32))] 1 = mkF m 0 #[.val (.int (5 : Int32))] [] := by first | (simp [entryFrame, mkF, argsToLocals, Value.category]; done) | rfl
def Q1k5 (Z : State) (t5 : Addr) (h0 : Heap) (n0 : Nat) (v : Option Value) (h : Heap) (L : List Loc) : Prop := v = some (.ref t5) ∧ Fr n0 L ∧ h = h0
set_option maxRecDepth 65536 in
set_option maxHeartbeats 40000000 in
theorem rm1k5 (l : Launch) (Z : State) (a0 : Array Value) (hw : ∀ d ∈ tables_1, d.before a0 Z = true) (ws : List Jvm.Cond) (t5 : Addr) (h0 : Heap) (n0 : Nat) (Z0 : n0 ≤ h0.size) (S5 : Sta Z h0 "com/example/minuet/minuet/Type" "FLOAT_ARRAY" "Lcom/example/minuet/minuet/Type;" (.ref t5)) :
    MetFree l (⟨"com/example/minuet/minuet/TypeIsNumberPinLaw", "pick", "(I)Lcom/example/minuet/minuet/Type;"⟩ : MethodName) (head1 (Jvm.Cond.code (⟨"com/example/minuet/minuet/TypeIsNumberPinLaw", "pick", "(I)Lcom/example/minuet/minuet/Type;"⟩ : MethodName) method_2_code 1 (some (.object "com/example/minuet/minuet/Type")) :: ws) ({ frames := 0, cells := 0, slots := 0, locals := 0 } : Room)) (fun a U => a = #[(.int (5 : Int32))] ∧ Z.Warmed39 U.vm ∧ U.heap = h0) (fun _ _ _ _ _ => True) (fun _ U o U' => ∃ v L, o = .returned v ∧ Q1k5 Z t5 h0 n0 v U'.heap L ∧ FrameEnd U o U' L ({ frames := 0, cells := 0, slots := 0, locals := 0 } : Room).cells ({ frames := 0, cells := 0, slots := 0, locals := 0 } : Room).slots) := by
  refine MetFree.of_bodySF (plainFor_of_name pn1k5) hisR ?_
  intro p e s m args below meth c s₁ Bd hml0 hP hK
  obtain ⟨rfl, hZ, hh⟩ := hP
  have hx := Bd.exec
  have hby := Bd.bytes
  have hml : c.maxLocals = 1 := hml0
  have hown : s.vm.findClass "com/example/minuet/minuet/TypeIsNumberPinLaw" = some m.cls := findClass_of_methodNamed Bd.named
  have hnm := (name_of_methodNamed Bd.named Bd.method).1
  have X0 : Stand p l e ({ frames := 0, cells := 0, slots := 0, locals := 0 } : Room) s m #[(.int (5 : Int32))] below meth c s₁ [] 0 0 := Stand.of_body Bd
  have e0 : s₁.heap = h0 := by rw [← hh, Bd.state]; rfl
  have N0 := Fr.nil n0
  have pre0 : ∀ t, Steps p.tables e below (s₁.setTop (mkF m 0 #[.val (.int (5 : Int32))] [])) t → Steps p.tables e below (s₁.setTop (entryFrame m #[(.int (5 : Int32))] 1)) t := fun t k => castTop (ef1k5 m) k
  obtain ⟨T1, X1, e1, st1⟩ := getS2 X0 hx hZ hown (host := "") (Or.inl (hw _ (List.mem_of_getElem? (i := 30) rfl))) Via.refl e0 S5 (g := (mkF m 49 #[.val (.int (5 : Int32))] [])) rfl (hb hby d1_49)
  obtain ⟨fs, hr, hrun, hended, hW, hsame⟩ := X1.leave (v := some (.ref t5)) (fun h => by rw [Bd.returns] at h; cases h)
  refine ⟨_, _, pre0 _ ?_, hrun, hended, _, _, rfl, ?_, ⟨_, rfl⟩, hW, hsame.mono (by decide) (by decide)⟩
  · show Steps p.tables e below (s₁.setTop (mkF m 0 #[.val (.int (5 : Int32))] [])) _
    refine XS.iloadN X0.here hx rfl (hb hby d1_0) rfl ?_
    show Steps p.tables e below (s₁.setTop (mkF m 1 #[.val (.int (5 : Int32))] [(.int (5 : Int32))])) _
    refine XS.ifYes X0.here hx rfl (pc0 := 1) (pc' := 8) rfl (hb hby d1_1) rfl ((if0 _ _).trans (feq (by decide)).2) (by decide) (by decide) ?_
    show Steps p.tables e below (s₁.setTop (mkF m 8 #[.val (.int (5 : Int32))] [])) _
    refine XS.iloadN X0.here hx rfl (hb hby d1_8) rfl ?_
    show Steps p.tables e below (s₁.setTop (mkF m 9 #[.val (.int (5 : Int32))] [(.int (5 : Int32))])) _
    refine XS.iconst X0.here hx rfl (hb hby d1_9) ?_
    show Steps p.tables e below (s₁.setTop (mkF m 10 #[.val (.int (5 : Int32))] [(.int (1 : Int32)), (.int (5 : Int32))])) _
    refine XS.icmpYes X0.here hx rfl (pc0 := 10) (pc' := 17) rfl (hb hby d1_10) rfl (feq (by decide)).2 (by decide) (by decide) ?_
    show Steps p.tables e below (s₁.setTop (mkF m 17 #[.val (.int (5 : Int32))] [])) _
    refine XS.iloadN X0.here hx rfl (hb hby d1_17) rfl ?_
    show Steps p.tables e below (s₁.setTop (mkF m 18 #[.val (.int (5 : Int32))] [(.int (5 : Int32))])) _
    refine XS.iconst X0.here hx rfl (hb hby d1_18) ?_
    show Steps p.tables e below (s₁.setTop (mkF m 19 #[.val (.int (5 : Int32))] [(.int (2 : Int32)), (.int (5 : Int32))])) _
    refine XS.icmpYes X0.here hx rfl (pc0 := 19) (pc' := 26) rfl (hb hby d1_19) rfl (feq (by decide)).2 (by decide) (by decide) ?_
    show Steps p.tables e below (s₁.setTop (mkF m 26 #[.val (.int (5 : Int32))] [])) _
    refine XS.iloadN X0.here hx rfl (hb hby d1_26) rfl ?_
    show Steps p.tables e below (s₁.setTop (mkF m 27 #[.val (.int (5 : Int32))] [(.int (5 : Int32))])) _
    refine XS.iconst X0.here hx rfl (hb hby d1_27) ?_
    show Steps p.tables e below (s₁.setTop (mkF m 28 #[.val (.int (5 : Int32))] [(.int (3 : Int32)), (.int (5 : Int32))])) _
    refine XS.icmpYes X0.here hx rfl (pc0 := 28) (pc' := 35) rfl (hb hby d1_28) rfl (feq (by decide)).2 (by decide) (by decide) ?_
    show Steps p.tables e below (s₁.setTop (mkF m 35 #[.val (.int (5 : Int32))] [])) _
    refine XS.iloadN X0.here hx rfl (hb hby d1_35) rfl ?_
    show Steps p.tables e below (s₁.setTop (mkF m 36 #[.val (.int (5 : Int32))] [(.int (5 : Int32))])) _
    refine XS.iconst X0.here hx rfl (hb hby d1_36) ?_
    show Steps p.tables e below (s₁.setTop (mkF m 37 #[.val (.int (5 : Int32))] [(.int (4 : Int32)), (.int (5 : Int32))])) _
    refine XS.icmpYes X0.here hx rfl (pc0 := 37) (pc' := 44) rfl (hb hby d1_37) rfl (feq (by decide)).2 (by decide) (by decide) ?_
    show Steps p.tables e below (s₁.setTop (mkF m 44 #[.val (.int (5 : Int32))] [])) _
    refine XS.iloadN X0.here hx rfl (hb hby d1_44) rfl ?_
    show Steps p.tables e below (s₁.setTop (mkF m 45 #[.val (.int (5 : Int32))] [(.int (5 : Int32))])) _
    refine XS.iconst X0.here hx rfl (hb hby d1_45) ?_
    show Steps p.tables e below (s₁.setTop (mkF m 46 #[.val (.int (5 : Int32))] [(.int (5 : Int32)), (.int (5 : Int32))])) _
    refine XS.icmpNo X0.here hx rfl (hb hby d1_46) rfl (teq (by decide)).2 ?_
    show Steps p.tables e below (s₁.setTop (mkF m 49 #[.val (.int (5 : Int32))] [])) _
    refine st1 _ ?_
    show Steps p.tables e below (T1.setTop (mkF m 52 #[.val (.int (5 : Int32))] [(.ref t5)])) _
    jvm_step X1.here [X1.here.top, hx, (hb hby d1_52), X1.method', Bd.returns, Value.isRef, FieldType.isReference]
    first | (intro acts; rw [hr _ acts rfl rfl rfl]) | rw [hr _ _ rfl rfl rfl]
    exact Steps.refl _
  · show Q1k5 Z t5 h0 n0 _ T1.heap _
    rw [e1]
    exact ⟨rfl, N0, rfl⟩
theorem d1_53 : decode method_2_code 53 = .ok (.getstatic 28, 3) := by decide +kernel
theorem d1_56 : decode method_2_code 56 = .ok (.areturn, 1) := by decide +kernel
theorem pn1k6 : plainName "com/example/minuet/minuet/TypeIsNumberPinLaw" = true := by first | (simp [plainName, overriddenIn]; done) | decide +kernel
theorem ef1k6 (m : MethodId)  : entryFrame m #[(.int (6 : Int32))] 1 = mkF m 0 #[.val (.int (6 : Int32))] [] := by first | (simp [entryFrame, mkF, argsToLocals, Value.category]; done) | rfl
def Q1k6 (Z : State) (t6 : Addr) (h0 : Heap) (n0 : Nat) (v : Option Value) (h : Heap) (L : List Loc) : Prop := v = some (.ref t6) ∧ Fr n0 L ∧ h = h0
set_option maxRecDepth 65536 in
set_option maxHeartbeats 40000000 in
theorem rm1k6 (l : Launch) (Z : State) (a0 : Array Value) (hw : ∀ d ∈ tables_1, d.before a0 Z = true) (ws : List Jvm.Cond) (t6 : Addr) (h0 : Heap) (n0 : Nat) (Z0 : n0 ≤ h0.size) (S6 : Sta Z h0 "com/example/minuet/minuet/Type" "BOOL_ARRAY" "Lcom/example/minuet/minuet/Type;" (.ref t6)) :
    MetFree l (⟨"com/example/minuet/minuet/TypeIsNumberPinLaw", "pick", "(I)Lcom/example/minuet/minuet/Type;"⟩ : MethodName) (head1 (Jvm.Cond.code (⟨"com/example/minuet/minuet/TypeIsNumberPinLaw", "pick", "(I)Lcom/example/minuet/minuet/Type;"⟩ : MethodName) method_2_code 1 (some (.object "com/example/minuet/minuet/Type")) :: ws) ({ frames := 0, cells := 0, slots := 0, locals := 0 } : Room)) (fun a U => a = #[(.int (6 : Int32))] ∧ Z.Warmed39 U.vm ∧ U.heap = h0) (fun _ _ _ _ _ => True) (fun _ U o U' => ∃ v L, o = .returned v ∧ Q1k6 Z t6 h0 n0 v U'.heap L ∧ FrameEnd U o U' L ({ frames := 0, cells := 0, slots := 0, locals := 0 } : Room).cells ({ frames := 0, cells := 0, slots := 0, locals := 0 } : Room).slots) := by
  refine MetFree.of_bodySF (plainFor_of_name pn1k6) hisR ?_
  intro p e s m args below meth c s₁ Bd hml0 hP hK
  obtain ⟨rfl, hZ, hh⟩ := hP
  have hx := Bd.exec
  have hby := Bd.bytes
  have hml : c.maxLocals = 1 := hml0
  have hown : s.vm.findClass "com/example/minuet/minuet/TypeIsNumberPinLaw" = some m.cls := findClass_of_methodNamed Bd.named
  have hnm := (name_of_methodNamed Bd.named Bd.method).1
  have X0 : Stand p l e ({ frames := 0, cells := 0, slots := 0, locals := 0 } : Room) s m #[(.int (6 : Int32))] below meth c s₁ [] 0 0 := Stand.of_body Bd
  have e0 : s₁.heap = h0 := by rw [← hh, Bd.state]; rfl
  have N0 := Fr.nil n0
  have pre0 : ∀ t, Steps p.tables e below (s₁.setTop (mkF m 0 #[.val (.int (6 : Int32))] [])) t → Steps p.tables e below (s₁.setTop (entryFrame m #[(.int (6 : Int32))] 1)) t := fun t k => castTop (ef1k6 m) k
  obtain ⟨T1, X1, e1, st1⟩ := getS2 X0 hx hZ hown (host := "") (Or.inl (hw _ (List.mem_of_getElem? (i := 32) rfl))) Via.refl e0 S6 (g := (mkF m 53 #[.val (.int (6 : Int32))] [])) rfl (hb hby d1_53)
  obtain ⟨fs, hr, hrun, hended, hW, hsame⟩ := X1.leave (v := some (.ref t6)) (fun h => by rw [Bd.returns] at h; cases h)
  refine ⟨_, _, pre0 _ ?_, hrun, hended, _, _, rfl, ?_, ⟨_, rfl⟩, hW, hsame.mono (by decide) (by decide)⟩
  · show Steps p.tables e below (s₁.setTop (mkF m 0 #[.val (.int (6 : Int32))] [])) _
    refine XS.iloadN X0.here hx rfl (hb hby d1_0) rfl ?_
    show Steps p.tables e below (s₁.setTop (mkF m 1 #[.val (.int (6 : Int32))] [(.int (6 : Int32))])) _
    refine XS.ifYes X0.here hx rfl (pc0 := 1) (pc' := 8) rfl (hb hby d1_1) rfl ((if0 _ _).trans (feq (by decide)).2) (by decide) (by decide) ?_
    show Steps p.tables e below (s₁.setTop (mkF m 8 #[.val (.int (6 : Int32))] [])) _
    refine XS.iloadN X0.here hx rfl (hb hby d1_8) rfl ?_
    show Steps p.tables e below (s₁.setTop (mkF m 9 #[.val (.int (6 : Int32))] [(.int (6 : Int32))])) _
    refine XS.iconst X0.here hx rfl (hb hby d1_9) ?_
    show Steps p.tables e below (s₁.setTop (mkF m 10 #[.val (.int (6 : Int32))] [(.int (1 : Int32)), (.int (6 : Int32))])) _
    refine XS.icmpYes X0.here hx rfl (pc0 := 10) (pc' := 17) rfl (hb hby d1_10) rfl (feq (by decide)).2 (by decide) (by decide) ?_
    show Steps p.tables e below (s₁.setTop (mkF m 17 #[.val (.int (6 : Int32))] [])) _
    refine XS.iloadN X0.here hx rfl (hb hby d1_17) rfl ?_
    show Steps p.tables e below (s₁.setTop (mkF m 18 #[.val (.int (6 : Int32))] [(.int (6 : Int32))])) _
    refine XS.iconst X0.here hx rfl (hb hby d1_18) ?_
    show Steps p.tables e below (s₁.setTop (mkF m 19 #[.val (.int (6 : Int32))] [(.int (2 : Int32)), (.int (6 : Int32))])) _
    refine XS.icmpYes X0.here hx rfl (pc0 := 19) (pc' := 26) rfl (hb hby d1_19) rfl (feq (by decide)).2 (by decide) (by decide) ?_
    show Steps p.tables e below (s₁.setTop (mkF m 26 #[.val (.int (6 : Int32))] [])) _
    refine XS.iloadN X0.here hx rfl (hb hby d1_26) rfl ?_
    show Steps p.tables e below (s₁.setTop (mkF m 27 #[.val (.int (6 : Int32))] [(.int (6 : Int32))])) _
    refine XS.iconst X0.here hx rfl (hb hby d1_27) ?_
    show Steps p.tables e below (s₁.setTop (mkF m 28 #[.val (.int (6 : Int32))] [(.int (3 : Int32)), (.int (6 : Int32))])) _
    refine XS.icmpYes X0.here hx rfl (pc0 := 28) (pc' := 35) rfl (hb hby d1_28) rfl (feq (by decide)).2 (by decide) (by decide) ?_
    show Steps p.tables e below (s₁.setTop (mkF m 35 #[.val (.int (6 : Int32))] [])) _
    refine XS.iloadN X0.here hx rfl (hb hby d1_35) rfl ?_
    show Steps p.tables e below (s₁.setTop (mkF m 36 #[.val (.int (6 : Int32))] [(.int (6 : Int32))])) _
    refine XS.iconst X0.here hx rfl (hb hby d1_36) ?_
    show Steps p.tables e below (s₁.setTop (mkF m 37 #[.val (.int (6 : Int32))] [(.int (4 : Int32)), (.int (6 : Int32))])) _
    refine XS.icmpYes X0.here hx rfl (pc0 := 37) (pc' := 44) rfl (hb hby d1_37) rfl (feq (by decide)).2 (by decide) (by decide) ?_
    show Steps p.tables e below (s₁.setTop (mkF m 44 #[.val (.int (6 : Int32))] [])) _
    refine XS.iloadN X0.here hx rfl (hb hby d1_44) rfl ?_
    show Steps p.tables e below (s₁.setTop (mkF m 45 #[.val (.int (6 : Int32))] [(.int (6 : Int32))])) _
    refine XS.iconst X0.here hx rfl (hb hby d1_45) ?_
    show Steps p.tables e below (s₁.setTop (mkF m 46 #[.val (.int (6 : Int32))] [(.int (5 : Int32)), (.int (6 : Int32))])) _
    refine XS.icmpYes X0.here hx rfl (pc0 := 46) (pc' := 53) rfl (hb hby d1_46) rfl (feq (by decide)).2 (by decide) (by decide) ?_
    show Steps p.tables e below (s₁.setTop (mkF m 53 #[.val (.int (6 : Int32))] [])) _
    refine st1 _ ?_
    show Steps p.tables e below (T1.setTop (mkF m 56 #[.val (.int (6 : Int32))] [(.ref t6)])) _
    jvm_step X1.here [X1.here.top, hx, (hb hby d1_56), X1.method', Bd.returns, Value.isRef, FieldType.isReference]
    first | (intro acts; rw [hr _ acts rfl rfl rfl]) | rw [hr _ _ rfl rfl rfl]
    exact Steps.refl _
  · show Q1k6 Z t6 h0 n0 _ T1.heap _
    rw [e1]
    exact ⟨rfl, N0, rfl⟩
theorem d2_0 : decode prog_68_method_5_code 0 = .ok (.aload_n 0, 1) := by decide +kernel
theorem d2_1 : decode prog_68_method_5_code 1 = .ok (.getstatic 3, 3) := by decide +kernel
theorem d2_4 : decode prog_68_method_5_code 4 = .ok (.if_acmp .eq 10, 3) := by decide +kernel
theorem d2_14 : decode prog_68_method_5_code 14 = .ok (.iconst 1, 1) := by decide +kernel
theorem d2_15 : decode prog_68_method_5_code 15 = .ok (.goto 4, 3) := by decide +kernel
theorem d2_19 : decode prog_68_method_5_code 19 = .ok (.ireturn, 1) := by decide +kernel
theorem pn2A : plainName "com/example/minuet/minuet/Type" = true := by first | (simp [plainName, overriddenIn]; done) | decide +kernel
theorem ef2A (m : MethodId) (t0 : Addr) : entryFrame m #[(.ref t0)] 1 = mkF m 0 #[.val (.ref t0)] [] := by first | (simp [entryFrame, mkF, argsToLocals, Value.category]; done) | rfl
def Q2A (Z : State) (t0 : Addr) (h0 : Heap) (n0 : Nat) (v : Option Value) (h : Heap) (L : List Loc) : Prop := v = some (.int (1 : Int32)) ∧ Fr n0 L ∧ h = h0
set_option maxRecDepth 65536 in
set_option maxHeartbeats 40000000 in
theorem rm2A (l : Launch) (Z : State) (a0 : Array Value) (hw : ∀ d ∈ tables_1, d.before a0 Z = true) (ws : List Jvm.Cond) (t0 : Addr) (h0 : Heap) (n0 : Nat) (Z0 : n0 ≤ h0.size) (S0 : Sta Z h0 "com/example/minuet/minuet/Type" "INT" "Lcom/example/minuet/minuet/Type;" (.ref t0)) :
    MetFree l (⟨"com/example/minuet/minuet/Type", "isNumber", "()Z"⟩ : MethodName) (head1 (Jvm.Cond.code (⟨"com/example/minuet/minuet/Type", "isNumber", "()Z"⟩ : MethodName) prog_68_method_5_code 1 (some .boolean) :: ws) ({ frames := 0, cells := 0, slots := 0, locals := 0 } : Room)) (fun a U => a = #[(.ref t0)] ∧ Z.Warmed39 U.vm ∧ U.heap = h0) (fun _ _ _ _ _ => True) (fun _ U o U' => ∃ v L, o = .returned v ∧ Q2A Z t0 h0 n0 v U'.heap L ∧ FrameEnd U o U' L ({ frames := 0, cells := 0, slots := 0, locals := 0 } : Room).cells ({ frames := 0, cells := 0, slots := 0, locals := 0 } : Room).slots) := by
  refine MetFree.of_bodySF (plainFor_of_name pn2A) hisR ?_
  intro p e s m args below meth c s₁ Bd hml0 hP hK
  obtain ⟨rfl, hZ, hh⟩ := hP
  have hx := Bd.exec
  have hby := Bd.bytes
  have hml : c.maxLocals = 1 := hml0
  have hown : s.vm.findClass "com/example/minuet/minuet/Type" = some m.cls := findClass_of_methodNamed Bd.named
  have hnm := (name_of_methodNamed Bd.named Bd.method).1
  have X0 : Stand p l e ({ frames := 0, cells := 0, slots := 0, locals := 0 } : Room) s m #[(.ref t0)] below meth c s₁ [] 0 0 := Stand.of_body Bd
  have e0 : s₁.heap = h0 := by rw [← hh, Bd.state]; rfl
  have N0 := Fr.nil n0
  have pre0 : ∀ t, Steps p.tables e below (s₁.setTop (mkF m 0 #[.val (.ref t0)] [])) t → Steps p.tables e below (s₁.setTop (entryFrame m #[(.ref t0)] 1)) t := fun t k => castTop (ef2A m t0) k
  obtain ⟨T1, X1, e1, st1⟩ := getS2 X0 hx hZ hown (host := "") (Or.inl (hw _ (List.mem_of_getElem? (i := 13) rfl))) Via.refl e0 S0 (g := (mkF m 1 #[.val (.ref t0)] [(.ref t0)])) rfl (hb hby d2_1)
  obtain ⟨fs, hr, hrun, hended, hW, hsame⟩ := X1.leave (v := some (.int (1 : Int32))) (fun h => by rw [Bd.returns] at h; cases h)
  refine ⟨_, _, pre0 _ ?_, hrun, hended, _, _, rfl, ?_, ⟨_, rfl⟩, hW, hsame.mono (by decide) (by decide)⟩
  · show Steps p.tables e below (s₁.setTop (mkF m 0 #[.val (.ref t0)] [])) _
    refine XS.aloadN X0.here hx rfl (hb hby d2_0) rfl rfl ?_
    show Steps p.tables e below (s₁.setTop (mkF m 1 #[.val (.ref t0)] [(.ref t0)])) _
    refine st1 _ ?_
    show Steps p.tables e below (T1.setTop (mkF m 4 #[.val (.ref t0)] [(.ref t0), (.ref t0)])) _
    refine Jvm.RoadKit.acmp (g := (mkF m 4 #[.val (.ref t0)] [(.ref t0), (.ref t0)])) X1 hx rfl rfl rfl (pc0 := 4) (pc' := 14) (same := true) rfl (hb hby d2_4) rfl (decide_eq_true rfl) (by decide) (by decide) ?_
    show Steps p.tables e below (T1.setTop (mkF m 14 #[.val (.ref t0)] [])) _
    refine XS.iconst X1.here hx rfl (hb hby d2_14) ?_
    show Steps p.tables e below (T1.setTop (mkF m 15 #[.val (.ref t0)] [(.int (1 : Int32))])) _
    refine XS.goto X1.here hx rfl (pc0 := 15) (pc' := 19) rfl (hb hby d2_15) (by decide) (by decide) ?_
    show Steps p.tables e below (T1.setTop (mkF m 19 #[.val (.ref t0)] [(.int (1 : Int32))])) _
    exact retN X1 hx (t := .boolean) Bd.returns (by simp) (hb hby d2_19) hr
  · show Q2A Z t0 h0 n0 _ T1.heap _
    rw [e1]
    exact ⟨rfl, N0, rfl⟩
theorem d2_7 : decode prog_68_method_5_code 7 = .ok (.aload_n 0, 1) := by decide +kernel
theorem d2_8 : decode prog_68_method_5_code 8 = .ok (.getstatic 7, 3) := by decide +kernel
theorem d2_11 : decode prog_68_method_5_code 11 = .ok (.if_acmp .ne 7, 3) := by decide +kernel
theorem pn2B : plainName "com/example/minuet/minuet/Type" = true := by first | (simp [plainName, overriddenIn]; done) | decide +kernel
theorem ef2B (m : MethodId) (t1 : Addr) : entryFrame m #[(.ref t1)] 1 = mkF m 0 #[.val (.ref t1)] [] := by first | (simp [entryFrame, mkF, argsToLocals, Value.category]; done) | rfl
def Q2B (Z : State) (t0 : Addr) (t1 : Addr) (h0 : Heap) (n0 : Nat) (v : Option Value) (h : Heap) (L : List Loc) : Prop := v = some (.int (1 : Int32)) ∧ Fr n0 L ∧ h = h0
set_option maxRecDepth 65536 in
set_option maxHeartbeats 40000000 in
theorem rm2B (l : Launch) (Z : State) (a0 : Array Value) (hw : ∀ d ∈ tables_1, d.before a0 Z = true) (ws : List Jvm.Cond) (t0 : Addr) (t1 : Addr) (h0 : Heap) (n0 : Nat) (Z0 : n0 ≤ h0.size) (S0 : Sta Z h0 "com/example/minuet/minuet/Type" "INT" "Lcom/example/minuet/minuet/Type;" (.ref t0)) (S1 : Sta Z h0 "com/example/minuet/minuet/Type" "FLOAT" "Lcom/example/minuet/minuet/Type;" (.ref t1)) (ne10 : ¬ t1 = t0) :
    MetFree l (⟨"com/example/minuet/minuet/Type", "isNumber", "()Z"⟩ : MethodName) (head1 (Jvm.Cond.code (⟨"com/example/minuet/minuet/Type", "isNumber", "()Z"⟩ : MethodName) prog_68_method_5_code 1 (some .boolean) :: ws) ({ frames := 0, cells := 0, slots := 0, locals := 0 } : Room)) (fun a U => a = #[(.ref t1)] ∧ Z.Warmed39 U.vm ∧ U.heap = h0) (fun _ _ _ _ _ => True) (fun _ U o U' => ∃ v L, o = .returned v ∧ Q2B Z t0 t1 h0 n0 v U'.heap L ∧ FrameEnd U o U' L ({ frames := 0, cells := 0, slots := 0, locals := 0 } : Room).cells ({ frames := 0, cells := 0, slots := 0, locals := 0 } : Room).slots) := by
  refine MetFree.of_bodySF (plainFor_of_name pn2B) hisR ?_
  intro p e s m args below meth c s₁ Bd hml0 hP hK
  obtain ⟨rfl, hZ, hh⟩ := hP
  have hx := Bd.exec
  have hby := Bd.bytes
  have hml : c.maxLocals = 1 := hml0
  have hown : s.vm.findClass "com/example/minuet/minuet/Type" = some m.cls := findClass_of_methodNamed Bd.named
  have hnm := (name_of_methodNamed Bd.named Bd.method).1
  have X0 : Stand p l e ({ frames := 0, cells := 0, slots := 0, locals := 0 } : Room) s m #[(.ref t1)] below meth c s₁ [] 0 0 := Stand.of_body Bd
  have e0 : s₁.heap = h0 := by rw [← hh, Bd.state]; rfl
  have N0 := Fr.nil n0
  have pre0 : ∀ t, Steps p.tables e below (s₁.setTop (mkF m 0 #[.val (.ref t1)] [])) t → Steps p.tables e below (s₁.setTop (entryFrame m #[(.ref t1)] 1)) t := fun t k => castTop (ef2B m t1) k
  obtain ⟨T1, X1, e1, st1⟩ := getS2 X0 hx hZ hown (host := "") (Or.inl (hw _ (List.mem_of_getElem? (i := 13) rfl))) Via.refl e0 S0 (g := (mkF m 1 #[.val (.ref t1)] [(.ref t1)])) rfl (hb hby d2_1)
  obtain ⟨T2, X2, e2, st2⟩ := getS2 X1 hx hZ hown (host := "") (Or.inl (hw _ (List.mem_of_getElem? (i := 28) rfl))) Via.refl e1 S1 (g := (mkF m 8 #[.val (.ref t1)] [(.ref t1)])) rfl (hb hby d2_8)
  obtain ⟨fs, hr, hrun, hended, hW, hsame⟩ := X2.leave (v := some (.int (1 : Int32))) (fun h => by rw [Bd.returns] at h; cases h)
  refine ⟨_, _, pre0 _ ?_, hrun, hended, _, _, rfl, ?_, ⟨_, rfl⟩, hW, hsame.mono (by decide) (by decide)⟩
  · show Steps p.tables e below (s₁.setTop (mkF m 0 #[.val (.ref t1)] [])) _
    refine XS.aloadN X0.here hx rfl (hb hby d2_0) rfl rfl ?_
    show Steps p.tables e below (s₁.setTop (mkF m 1 #[.val (.ref t1)] [(.ref t1)])) _
    refine st1 _ ?_
    show Steps p.tables e below (T1.setTop (mkF m 4 #[.val (.ref t1)] [(.ref t0), (.ref t1)])) _
    refine Jvm.RoadKit.acmp (g := (mkF m 4 #[.val (.ref t1)] [(.ref t0), (.ref t1)])) X1 hx rfl rfl rfl (pc0 := 4) (pc' := 7) (same := false) rfl (hb hby d2_4) rfl (decide_eq_false fun q => ne10 (Value.ref.inj q)) (by decide) (by decide) ?_
    show Steps p.tables e below (T1.setTop (mkF m 7 #[.val (.ref t1)] [])) _
    refine XS.aloadN X1.here hx rfl (hb hby d2_7) rfl rfl ?_
    show Steps p.tables e below (T1.setTop (mkF m 8 #[.val (.ref t1)] [(.ref t1)])) _
    refine st2 _ ?_
    show Steps p.tables e below (T2.setTop (mkF m 11 #[.val (.ref t1)] [(.ref t1), (.ref t1)])) _
    refine Jvm.RoadKit.acmp (g := (mkF m 11 #[.val (.ref t1)] [(.ref t1), (.ref t1)])) X2 hx rfl rfl rfl (pc0 := 11) (pc' := 14) (same := true) rfl (hb hby d2_11) rfl (decide_eq_true rfl) (by decide) (by decide) ?_
    show Steps p.tables e below (T2.setTop (mkF m 14 #[.val (.ref t1)] [])) _
    refine XS.iconst X2.here hx rfl (hb hby d2_14) ?_
    show Steps p.tables e below (T2.setTop (mkF m 15 #[.val (.ref t1)] [(.int (1 : Int32))])) _
    refine XS.goto X2.here hx rfl (pc0 := 15) (pc' := 19) rfl (hb hby d2_15) (by decide) (by decide) ?_
    show Steps p.tables e below (T2.setTop (mkF m 19 #[.val (.ref t1)] [(.int (1 : Int32))])) _
    exact retN X2 hx (t := .boolean) Bd.returns (by simp) (hb hby d2_19) hr
  · show Q2B Z t0 t1 h0 n0 _ T2.heap _
    rw [e2]
    exact ⟨rfl, N0, rfl⟩
theorem d2_18 : decode prog_68_method_5_code 18 = .ok (.iconst 0, 1) := by decide +kernel
theorem pn2C : plainName "com/example/minuet/minuet/Type" = true := by first | (simp [plainName, overriddenIn]; done) | decide +kernel
theorem ef2C (m : MethodId) (a1 : Addr) : entryFrame m #[(.ref a1)] 1 = mkF m 0 #[.val (.ref a1)] [] := by first | (simp [entryFrame, mkF, argsToLocals, Value.category]; done) | rfl
def Q2C (Z : State) (a1 : Addr) (t0 : Addr) (t1 : Addr) (h0 : Heap) (n0 : Nat) (v : Option Value) (h : Heap) (L : List Loc) : Prop := v = some (.int (0 : Int32)) ∧ Fr n0 L ∧ h = h0
set_option maxRecDepth 65536 in
set_option maxHeartbeats 40000000 in
theorem rm2C (l : Launch) (Z : State) (a0 : Array Value) (hw : ∀ d ∈ tables_1, d.before a0 Z = true) (ws : List Jvm.Cond) (a1 : Addr) (t0 : Addr) (t1 : Addr) (h0 : Heap) (n0 : Nat) (Z0 : n0 ≤ h0.size) (S0 : Sta Z h0 "com/example/minuet/minuet/Type" "INT" "Lcom/example/minuet/minuet/Type;" (.ref t0)) (S1 : Sta Z h0 "com/example/minuet/minuet/Type" "FLOAT" "Lcom/example/minuet/minuet/Type;" (.ref t1)) (na0 : ¬ a1 = t0) (na1 : ¬ a1 = t1) :
    MetFree l (⟨"com/example/minuet/minuet/Type", "isNumber", "()Z"⟩ : MethodName) (head1 (Jvm.Cond.code (⟨"com/example/minuet/minuet/Type", "isNumber", "()Z"⟩ : MethodName) prog_68_method_5_code 1 (some .boolean) :: ws) ({ frames := 0, cells := 0, slots := 0, locals := 0 } : Room)) (fun a U => a = #[(.ref a1)] ∧ Z.Warmed39 U.vm ∧ U.heap = h0) (fun _ _ _ _ _ => True) (fun _ U o U' => ∃ v L, o = .returned v ∧ Q2C Z a1 t0 t1 h0 n0 v U'.heap L ∧ FrameEnd U o U' L ({ frames := 0, cells := 0, slots := 0, locals := 0 } : Room).cells ({ frames := 0, cells := 0, slots := 0, locals := 0 } : Room).slots) := by
  refine MetFree.of_bodySF (plainFor_of_name pn2C) hisR ?_
  intro p e s m args below meth c s₁ Bd hml0 hP hK
  obtain ⟨rfl, hZ, hh⟩ := hP
  have hx := Bd.exec
  have hby := Bd.bytes
  have hml : c.maxLocals = 1 := hml0
  have hown : s.vm.findClass "com/example/minuet/minuet/Type" = some m.cls := findClass_of_methodNamed Bd.named
  have hnm := (name_of_methodNamed Bd.named Bd.method).1
  have X0 : Stand p l e ({ frames := 0, cells := 0, slots := 0, locals := 0 } : Room) s m #[(.ref a1)] below meth c s₁ [] 0 0 := Stand.of_body Bd
  have e0 : s₁.heap = h0 := by rw [← hh, Bd.state]; rfl
  have N0 := Fr.nil n0
  have pre0 : ∀ t, Steps p.tables e below (s₁.setTop (mkF m 0 #[.val (.ref a1)] [])) t → Steps p.tables e below (s₁.setTop (entryFrame m #[(.ref a1)] 1)) t := fun t k => castTop (ef2C m a1) k
  obtain ⟨T1, X1, e1, st1⟩ := getS2 X0 hx hZ hown (host := "") (Or.inl (hw _ (List.mem_of_getElem? (i := 13) rfl))) Via.refl e0 S0 (g := (mkF m 1 #[.val (.ref a1)] [(.ref a1)])) rfl (hb hby d2_1)
  obtain ⟨T2, X2, e2, st2⟩ := getS2 X1 hx hZ hown (host := "") (Or.inl (hw _ (List.mem_of_getElem? (i := 28) rfl))) Via.refl e1 S1 (g := (mkF m 8 #[.val (.ref a1)] [(.ref a1)])) rfl (hb hby d2_8)
  obtain ⟨fs, hr, hrun, hended, hW, hsame⟩ := X2.leave (v := some (.int (0 : Int32))) (fun h => by rw [Bd.returns] at h; cases h)
  refine ⟨_, _, pre0 _ ?_, hrun, hended, _, _, rfl, ?_, ⟨_, rfl⟩, hW, hsame.mono (by decide) (by decide)⟩
  · show Steps p.tables e below (s₁.setTop (mkF m 0 #[.val (.ref a1)] [])) _
    refine XS.aloadN X0.here hx rfl (hb hby d2_0) rfl rfl ?_
    show Steps p.tables e below (s₁.setTop (mkF m 1 #[.val (.ref a1)] [(.ref a1)])) _
    refine st1 _ ?_
    show Steps p.tables e below (T1.setTop (mkF m 4 #[.val (.ref a1)] [(.ref t0), (.ref a1)])) _
    refine Jvm.RoadKit.acmp (g := (mkF m 4 #[.val (.ref a1)] [(.ref t0), (.ref a1)])) X1 hx rfl rfl rfl (pc0 := 4) (pc' := 7) (same := false) rfl (hb hby d2_4) rfl (decide_eq_false fun q => na0 (Value.ref.inj q)) (by decide) (by decide) ?_
    show Steps p.tables e below (T1.setTop (mkF m 7 #[.val (.ref a1)] [])) _
    refine XS.aloadN X1.here hx rfl (hb hby d2_7) rfl rfl ?_
    show Steps p.tables e below (T1.setTop (mkF m 8 #[.val (.ref a1)] [(.ref a1)])) _
    refine st2 _ ?_
    show Steps p.tables e below (T2.setTop (mkF m 11 #[.val (.ref a1)] [(.ref t1), (.ref a1)])) _
    refine Jvm.RoadKit.acmp (g := (mkF m 11 #[.val (.ref a1)] [(.ref t1), (.ref a1)])) X2 hx rfl rfl rfl (pc0 := 11) (pc' := 18) (same := false) rfl (hb hby d2_11) rfl (decide_eq_false fun q => na1 (Value.ref.inj q)) (by decide) (by decide) ?_
    show Steps p.tables e below (T2.setTop (mkF m 18 #[.val (.ref a1)] [])) _
    refine XS.iconst X2.here hx rfl (hb hby d2_18) ?_
    show Steps p.tables e below (T2.setTop (mkF m 19 #[.val (.ref a1)] [(.int (0 : Int32))])) _
    exact retN X2 hx (t := .boolean) Bd.returns (by simp) (hb hby d2_19) hr
  · show Q2C Z a1 t0 t1 h0 n0 _ T2.heap _
    rw [e2]
    exact ⟨rfl, N0, rfl⟩
theorem d3_0 : decode prog_68_method_6_code 0 = .ok (.aload_n 0, 1) := by decide +kernel
theorem d3_1 : decode prog_68_method_6_code 1 = .ok (.getfield 48, 3) := by decide +kernel
theorem d3_4 : decode prog_68_method_6_code 4 = .ok (.ifnull 7, 3) := by decide +kernel
theorem d3_11 : decode prog_68_method_6_code 11 = .ok (.iconst 0, 1) := by decide +kernel
theorem d3_12 : decode prog_68_method_6_code 12 = .ok (.ireturn, 1) := by decide +kernel
theorem pn3 : plainName "com/example/minuet/minuet/Type" = true := by first | (simp [plainName, overriddenIn]; done) | decide +kernel
theorem ef3 (m : MethodId) (a1 : Addr) : entryFrame m #[(.ref a1)] 1 = mkF m 0 #[.val (.ref a1)] [] := by first | (simp [entryFrame, mkF, argsToLocals, Value.category]; done) | rfl
def Q3 (Z : State) (a1 : Addr) (h0 : Heap) (n0 : Nat) (v : Option Value) (h : Heap) (L : List Loc) : Prop := v = some (.int (0 : Int32)) ∧ Fr n0 L ∧ h = h0
set_option maxRecDepth 65536 in
set_option maxHeartbeats 40000000 in
theorem rm3 (l : Launch) (Z : State) (a0 : Array Value) (hw : ∀ d ∈ tables_1, d.before a0 Z = true) (ws : List Jvm.Cond) (a1 : Addr) (h0 : Heap) (n0 : Nat) (Z0 : n0 ≤ h0.size) (Fe : Fld Z h0 a1 "com/example/minuet/minuet/Type" "element" "Lcom/example/minuet/minuet/Type;" .null) :
    MetFree l (⟨"com/example/minuet/minuet/Type", "isArray", "()Z"⟩ : MethodName) (head1 (Jvm.Cond.code (⟨"com/example/minuet/minuet/Type", "isArray", "()Z"⟩ : MethodName) prog_68_method_6_code 1 (some .boolean) :: ws) ({ frames := 0, cells := 0, slots := 0, locals := 0 } : Room)) (fun a U => a = #[(.ref a1)] ∧ Z.Warmed39 U.vm ∧ U.heap = h0) (fun _ _ _ _ _ => True) (fun _ U o U' => ∃ v L, o = .returned v ∧ Q3 Z a1 h0 n0 v U'.heap L ∧ FrameEnd U o U' L ({ frames := 0, cells := 0, slots := 0, locals := 0 } : Room).cells ({ frames := 0, cells := 0, slots := 0, locals := 0 } : Room).slots) := by
  refine MetFree.of_bodySF (plainFor_of_name pn3) hisR ?_
  intro p e s m args below meth c s₁ Bd hml0 hP hK
  obtain ⟨rfl, hZ, hh⟩ := hP
  have hx := Bd.exec
  have hby := Bd.bytes
  have hml : c.maxLocals = 1 := hml0
  have hown : s.vm.findClass "com/example/minuet/minuet/Type" = some m.cls := findClass_of_methodNamed Bd.named
  have hnm := (name_of_methodNamed Bd.named Bd.method).1
  have X0 : Stand p l e ({ frames := 0, cells := 0, slots := 0, locals := 0 } : Room) s m #[(.ref a1)] below meth c s₁ [] 0 0 := Stand.of_body Bd
  have e0 : s₁.heap = h0 := by rw [← hh, Bd.state]; rfl
  have N0 := Fr.nil n0
  have pre0 : ∀ t, Steps p.tables e below (s₁.setTop (mkF m 0 #[.val (.ref a1)] [])) t → Steps p.tables e below (s₁.setTop (entryFrame m #[(.ref a1)] 1)) t := fun t k => castTop (ef3 m a1) k
  obtain ⟨T1, X1, e1, st1⟩ := getF X0 hx hZ hown (host := "") (Or.inl (hw _ (List.mem_of_getElem? (i := 19) rfl))) Via.refl e0 Fe (g := (mkF m 1 #[.val (.ref a1)] [(.ref a1)])) rfl rfl (hb hby d3_1)
  obtain ⟨fs, hr, hrun, hended, hW, hsame⟩ := X1.leave (v := some (.int (0 : Int32))) (fun h => by rw [Bd.returns] at h; cases h)
  refine ⟨_, _, pre0 _ ?_, hrun, hended, _, _, rfl, ?_, ⟨_, rfl⟩, hW, hsame.mono (by decide) (by decide)⟩
  · show Steps p.tables e below (s₁.setTop (mkF m 0 #[.val (.ref a1)] [])) _
    refine XS.aloadN X0.here hx rfl (hb hby d3_0) rfl rfl ?_
    show Steps p.tables e below (s₁.setTop (mkF m 1 #[.val (.ref a1)] [(.ref a1)])) _
    refine st1 _ ?_
    show Steps p.tables e below (T1.setTop (mkF m 4 #[.val (.ref a1)] [.null])) _
    refine XS.ifnullYes X1.here hx rfl (pc0 := 4) (pc' := 11) rfl (hb hby d3_4) rfl (by decide) (by decide) ?_
    show Steps p.tables e below (T1.setTop (mkF m 11 #[.val (.ref a1)] [])) _
    refine XS.iconst X1.here hx rfl (hb hby d3_11) ?_
    show Steps p.tables e below (T1.setTop (mkF m 12 #[.val (.ref a1)] [(.int (0 : Int32))])) _
    exact retN X1 hx (t := .boolean) Bd.returns (by simp) (hb hby d3_12) hr
  · show Q3 Z a1 h0 n0 _ T1.heap _
    rw [e1]
    exact ⟨rfl, N0, rfl⟩
theorem d4_0 : decode prog_68_method_7_code 0 = .ok (.aload_n 0, 1) := by decide +kernel
theorem d4_1 : decode prog_68_method_7_code 1 = .ok (.getfield 48, 3) := by decide +kernel
theorem d4_4 : decode prog_68_method_7_code 4 = .ok (.areturn, 1) := by decide +kernel
theorem pn4 : plainName "com/example/minuet/minuet/Type" = true := by first | (simp [plainName, overriddenIn]; done) | decide +kernel
theorem ef4 (m : MethodId) (a1 : Addr) : entryFrame m #[(.ref a1)] 1 = mkF m 0 #[.val (.ref a1)] [] := by first | (simp [entryFrame, mkF, argsToLocals, Value.category]; done) | rfl
def Q4 (Z : State) (a1 : Addr) (h0 : Heap) (n0 : Nat) (v : Option Value) (h : Heap) (L : List Loc) : Prop := v = some .null ∧ Fr n0 L ∧ h = h0
set_option maxRecDepth 65536 in
set_option maxHeartbeats 40000000 in
theorem rm4 (l : Launch) (Z : State) (a0 : Array Value) (hw : ∀ d ∈ tables_1, d.before a0 Z = true) (ws : List Jvm.Cond) (a1 : Addr) (h0 : Heap) (n0 : Nat) (Z0 : n0 ≤ h0.size) (Fe : Fld Z h0 a1 "com/example/minuet/minuet/Type" "element" "Lcom/example/minuet/minuet/Type;" .null) :
    MetFree l (⟨"com/example/minuet/minuet/Type", "element", "()Lcom/example/minuet/minuet/Type;"⟩ : MethodName) (head1 (Jvm.Cond.code (⟨"com/example/minuet/minuet/Type", "element", "()Lcom/example/minuet/minuet/Type;"⟩ : MethodName) prog_68_method_7_code 1 (some (.object "com/example/minuet/minuet/Type")) :: ws) ({ frames := 0, cells := 0, slots := 0, locals := 0 } : Room)) (fun a U => a = #[(.ref a1)] ∧ Z.Warmed39 U.vm ∧ U.heap = h0) (fun _ _ _ _ _ => True) (fun _ U o U' => ∃ v L, o = .returned v ∧ Q4 Z a1 h0 n0 v U'.heap L ∧ FrameEnd U o U' L ({ frames := 0, cells := 0, slots := 0, locals := 0 } : Room).cells ({ frames := 0, cells := 0, slots := 0, locals := 0 } : Room).slots) := by
  refine MetFree.of_bodySF (plainFor_of_name pn4) hisR ?_
  intro p e s m args below meth c s₁ Bd hml0 hP hK
  obtain ⟨rfl, hZ, hh⟩ := hP
  have hx := Bd.exec
  have hby := Bd.bytes
  have hml : c.maxLocals = 1 := hml0
  have hown : s.vm.findClass "com/example/minuet/minuet/Type" = some m.cls := findClass_of_methodNamed Bd.named
  have hnm := (name_of_methodNamed Bd.named Bd.method).1
  have X0 : Stand p l e ({ frames := 0, cells := 0, slots := 0, locals := 0 } : Room) s m #[(.ref a1)] below meth c s₁ [] 0 0 := Stand.of_body Bd
  have e0 : s₁.heap = h0 := by rw [← hh, Bd.state]; rfl
  have N0 := Fr.nil n0
  have pre0 : ∀ t, Steps p.tables e below (s₁.setTop (mkF m 0 #[.val (.ref a1)] [])) t → Steps p.tables e below (s₁.setTop (entryFrame m #[(.ref a1)] 1)) t := fun t k => castTop (ef4 m a1) k
  obtain ⟨T1, X1, e1, st1⟩ := getF X0 hx hZ hown (host := "") (Or.inl (hw _ (List.mem_of_getElem? (i := 19) rfl))) Via.refl e0 Fe (g := (mkF m 1 #[.val (.ref a1)] [(.ref a1)])) rfl rfl (hb hby d4_1)
  obtain ⟨fs, hr, hrun, hended, hW, hsame⟩ := X1.leave (v := some .null) (fun h => by rw [Bd.returns] at h; cases h)
  refine ⟨_, _, pre0 _ ?_, hrun, hended, _, _, rfl, ?_, ⟨_, rfl⟩, hW, hsame.mono (by decide) (by decide)⟩
  · show Steps p.tables e below (s₁.setTop (mkF m 0 #[.val (.ref a1)] [])) _
    refine XS.aloadN X0.here hx rfl (hb hby d4_0) rfl rfl ?_
    show Steps p.tables e below (s₁.setTop (mkF m 1 #[.val (.ref a1)] [(.ref a1)])) _
    refine st1 _ ?_
    show Steps p.tables e below (T1.setTop (mkF m 4 #[.val (.ref a1)] [.null])) _
    jvm_step X1.here [X1.here.top, hx, (hb hby d4_4), X1.method', Bd.returns, Value.isRef, FieldType.isReference]
    first | (intro acts; rw [hr _ acts rfl rfl rfl]) | rw [hr _ _ rfl rfl rfl]
    exact Steps.refl _
  · show Q4 Z a1 h0 n0 _ T1.heap _
    rw [e1]
    exact ⟨rfl, N0, rfl⟩
theorem own_seven (x : Int32) (h0 : 0 ≤ x.toInt) (h7 : x.toInt < 7) : x = (0 : Int32) ∨ x = (1 : Int32) ∨ x = (2 : Int32) ∨ x = (3 : Int32) ∨ x = (4 : Int32) ∨ x = (5 : Int32) ∨ x = (6 : Int32) := by
  have key : ∀ k : Int32, x.toInt = k.toInt → x = k := fun k e => Int32.toInt_inj.mp e
  have e0 : (0 : Int32).toInt = 0 := by decide
  have e1 : (1 : Int32).toInt = 1 := by decide
  have e2 : (2 : Int32).toInt = 2 := by decide
  have e3 : (3 : Int32).toInt = 3 := by decide
  have e4 : (4 : Int32).toInt = 4 := by decide
  have e5 : (5 : Int32).toInt = 5 := by decide
  have e6 : (6 : Int32).toInt = 6 := by decide
  have : x.toInt = 0 ∨ x.toInt = 1 ∨ x.toInt = 2 ∨ x.toInt = 3 ∨ x.toInt = 4 ∨ x.toInt = 5 ∨ x.toInt = 6 := by omega
  rcases this with h | h | h | h | h | h | h
  · exact (Or.inl (key 0 (h.trans e0.symm)))
  · exact (Or.inr (Or.inl (key 1 (h.trans e1.symm))))
  · exact (Or.inr (Or.inr (Or.inl (key 2 (h.trans e2.symm)))))
  · exact (Or.inr (Or.inr (Or.inr (Or.inl (key 3 (h.trans e3.symm))))))
  · exact (Or.inr (Or.inr (Or.inr (Or.inr (Or.inl (key 4 (h.trans e4.symm)))))))
  · exact (Or.inr (Or.inr (Or.inr (Or.inr (Or.inr (Or.inl (key 5 (h.trans e5.symm))))))))
  · exact (Or.inr (Or.inr (Or.inr (Or.inr (Or.inr (Or.inr (key 6 (h.trans e6.symm))))))))
theorem own_n (p1 : Int32) : ((p1 &&& (2147483647 : Int32)) - ((p1 &&& (2147483647 : Int32)) / (7 : Int32)) * (7 : Int32)) = (0 : Int32) ∨ ((p1 &&& (2147483647 : Int32)) - ((p1 &&& (2147483647 : Int32)) / (7 : Int32)) * (7 : Int32)) = (1 : Int32) ∨ ((p1 &&& (2147483647 : Int32)) - ((p1 &&& (2147483647 : Int32)) / (7 : Int32)) * (7 : Int32)) = (2 : Int32) ∨ ((p1 &&& (2147483647 : Int32)) - ((p1 &&& (2147483647 : Int32)) / (7 : Int32)) * (7 : Int32)) = (3 : Int32) ∨ ((p1 &&& (2147483647 : Int32)) - ((p1 &&& (2147483647 : Int32)) / (7 : Int32)) * (7 : Int32)) = (4 : Int32) ∨ ((p1 &&& (2147483647 : Int32)) - ((p1 &&& (2147483647 : Int32)) / (7 : Int32)) * (7 : Int32)) = (5 : Int32) ∨ ((p1 &&& (2147483647 : Int32)) - ((p1 &&& (2147483647 : Int32)) / (7 : Int32)) * (7 : Int32)) = (6 : Int32) := by
  have a := (c_and p1 2147483647 (by decide)).1
  have e : ((p1 &&& (2147483647 : Int32)) - ((p1 &&& (2147483647 : Int32)) / (7 : Int32)) * (7 : Int32)) = (p1 &&& (2147483647 : Int32)) % 7 := own_rem _ _
  have h := (c_irem (p1 &&& 2147483647) 7 7 (by decide)).1 a
  rw [e]
  exact own_seven _ (by rw [h]; omega) (by rw [h]; omega)
theorem pn0 : plainName "com/example/minuet/minuet/TypeIsNumberPinLaw" = true := by first | (simp [plainName, overriddenIn]; done) | decide +kernel
theorem pd0_0 : parseMethodDescriptor "(I)Lcom/example/minuet/minuet/Type;" = some ⟨[.int], some (.object "com/example/minuet/minuet/Type")⟩ := by decide +kernel
theorem pd0_1 : parseMethodDescriptor "()Z" = some ⟨[], some .boolean⟩ := by decide +kernel
theorem pd0_2 : parseMethodDescriptor "()Lcom/example/minuet/minuet/Type;" = some ⟨[], some (.object "com/example/minuet/minuet/Type")⟩ := by decide +kernel
theorem ef0 (m : MethodId) (p1 : Int32) : entryFrame m #[(.int p1)] maxLocals = mkF m 0 #[.val (.int p1), .unset, .unset, .unset, .unset] [] := by first | (simp [entryFrame, mkF, argsToLocals, Value.category, maxLocals]; done) | rfl
def Q0 (Z : State) (p1 : Int32) (t0 : Addr) (t1 : Addr) (t2 : Addr) (t3 : Addr) (t4 : Addr) (t5 : Addr) (t6 : Addr) (h0 : Heap) (n0 : Nat) (v : Option Value) (h : Heap) (L : List Loc) : Prop := v = some (.int (1 : Int32)) ∧ Fr n0 L
set_option maxRecDepth 65536 in
set_option maxHeartbeats 40000000 in
theorem rm0 (l : Launch) (Z : State) (a0 : Array Value) (hw : ∀ d ∈ tables_1, d.before a0 Z = true) (ws : List Jvm.Cond) (p1 : Int32) (t0 : Addr) (t1 : Addr) (t2 : Addr) (t3 : Addr) (t4 : Addr) (t5 : Addr) (t6 : Addr) (h0 : Heap) (n0 : Nat) (Z0 : n0 ≤ h0.size) (S0 : Sta Z h0 "com/example/minuet/minuet/Type" "INT" "Lcom/example/minuet/minuet/Type;" (.ref t0)) (S1 : Sta Z h0 "com/example/minuet/minuet/Type" "FLOAT" "Lcom/example/minuet/minuet/Type;" (.ref t1)) (S2 : Sta Z h0 "com/example/minuet/minuet/Type" "BOOL" "Lcom/example/minuet/minuet/Type;" (.ref t2)) (S3 : Sta Z h0 "com/example/minuet/minuet/Type" "VOID" "Lcom/example/minuet/minuet/Type;" (.ref t3)) (S4 : Sta Z h0 "com/example/minuet/minuet/Type" "INT_ARRAY" "Lcom/example/minuet/minuet/Type;" (.ref t4)) (S5 : Sta Z h0 "com/example/minuet/minuet/Type" "FLOAT_ARRAY" "Lcom/example/minuet/minuet/Type;" (.ref t5)) (S6 : Sta Z h0 "com/example/minuet/minuet/Type" "BOOL_ARRAY" "Lcom/example/minuet/minuet/Type;" (.ref t6)) (E0 : Exa Z h0 t0 "com/example/minuet/minuet/Type") (E1 : Exa Z h0 t1 "com/example/minuet/minuet/Type") (E2 : Exa Z h0 t2 "com/example/minuet/minuet/Type") (E3 : Exa Z h0 t3 "com/example/minuet/minuet/Type") (E4 : Exa Z h0 t4 "com/example/minuet/minuet/Type") (E5 : Exa Z h0 t5 "com/example/minuet/minuet/Type") (E6 : Exa Z h0 t6 "com/example/minuet/minuet/Type") (Fe0 : Fld Z h0 t0 "com/example/minuet/minuet/Type" "element" "Lcom/example/minuet/minuet/Type;" .null) (Fe1 : Fld Z h0 t1 "com/example/minuet/minuet/Type" "element" "Lcom/example/minuet/minuet/Type;" .null) (ne10 : ¬ t1 = t0) (ne20 : ¬ t2 = t0) (ne30 : ¬ t3 = t0) (ne40 : ¬ t4 = t0) (ne50 : ¬ t5 = t0) (ne60 : ¬ t6 = t0) (ne21 : ¬ t2 = t1) (ne31 : ¬ t3 = t1) (ne41 : ¬ t4 = t1) (ne51 : ¬ t5 = t1) (ne61 : ¬ t6 = t1) :
    MetFree l x (head1 (Jvm.Cond.code x code maxLocals ret :: ws) room_1) (fun a U => a = #[(.int p1)] ∧ Z.Warmed39 U.vm ∧ U.heap = h0) (fun _ _ _ _ _ => True) (fun _ U o U' => ∃ v L, o = .returned v ∧ Q0 Z p1 t0 t1 t2 t3 t4 t5 t6 h0 n0 v U'.heap L ∧ FrameEnd U o U' L room_1.cells room_1.slots) := by
  refine MetFree.of_bodySF (plainFor_of_name pn0) hisR ?_
  intro p e s m args below meth c s₁ Bd hml0 hP hK
  obtain ⟨rfl, hZ, hh⟩ := hP
  have hx := Bd.exec
  have hby := Bd.bytes
  have hml : c.maxLocals = 5 := hml0
  have hown : s.vm.findClass "com/example/minuet/minuet/TypeIsNumberPinLaw" = some m.cls := findClass_of_methodNamed Bd.named
  have hnm := (name_of_methodNamed Bd.named Bd.method).1
  have X0 : Stand p l e room_1 s m #[(.int p1)] below meth c s₁ [] 0 0 := Stand.of_body Bd
  have e0 : s₁.heap = h0 := by rw [← hh, Bd.state]; rfl
  have N0 := Fr.nil n0
  have pre0 : ∀ t, Steps p.tables e below (s₁.setTop (mkF m 0 #[.val (.int p1), .unset, .unset, .unset, .unset] [])) t → Steps p.tables e below (s₁.setTop (entryFrame m #[(.int p1)] maxLocals)) t := fun t k => castTop (ef0 m p1) k
  have c1 : ∀ t, Steps p.tables e below (s₁.setTop (mkF m 8 #[.val (.int p1), .val (.int ((p1 &&& (2147483647 : Int32)) - ((p1 &&& (2147483647 : Int32)) / (7 : Int32)) * (7 : Int32))), .unset, .unset, .unset] [])) t → Steps p.tables e below (s₁.setTop (entryFrame m #[(.int p1)] maxLocals)) t := fun t kt => by
    refine pre0 _ ?_
    show Steps p.tables e below (s₁.setTop (mkF m 0 #[.val (.int p1), .unset, .unset, .unset, .unset] [])) _
    refine XS.iloadN X0.here hx rfl (hb hby at_0) rfl ?_
    show Steps p.tables e below (s₁.setTop (mkF m 1 #[.val (.int p1), .unset, .unset, .unset, .unset] [(.int p1)])) _
    refine X0.ldcInt hx hown (mvT hZ (hw _ (List.mem_of_getElem? (i := 0) rfl))) (g := (mkF m 1 #[.val (.int p1), .unset, .unset, .unset, .unset] [(.int p1)])) rfl (hb hby at_1) _ ?_
    show Steps p.tables e below (s₁.setTop (mkF m 3 #[.val (.int p1), .unset, .unset, .unset, .unset] [(.int (2147483647 : Int32)), (.int p1)])) _
    refine XS.iand X0.here hx rfl (hb hby at_3) rfl ?_
    show Steps p.tables e below (s₁.setTop (mkF m 4 #[.val (.int p1), .unset, .unset, .unset, .unset] [(.int (p1 &&& (2147483647 : Int32)))])) _
    refine XS.bipush X0.here hx rfl (hb hby at_4) ?_
    show Steps p.tables e below (s₁.setTop (mkF m 6 #[.val (.int p1), .unset, .unset, .unset, .unset] [(.int (7 : Int32)), (.int (p1 &&& (2147483647 : Int32)))])) _
    refine XS.irem X0.here hx rfl (hb hby at_6) rfl (by decide) ?_
    show Steps p.tables e below (s₁.setTop (mkF m 7 #[.val (.int p1), .unset, .unset, .unset, .unset] [(.int ((p1 &&& (2147483647 : Int32)) - ((p1 &&& (2147483647 : Int32)) / (7 : Int32)) * (7 : Int32)))])) _
    refine XS.istoreN X0.here hx rfl (hb hby at_7) rfl (l' := #[.val (.int p1), .val (.int ((p1 &&& (2147483647 : Int32)) - ((p1 &&& (2147483647 : Int32)) / (7 : Int32)) * (7 : Int32))), .unset, .unset, .unset]) rfl ?_
    exact kt
  rcases own_n p1 with hk | hk | hk | hk | hk | hk | hk
  · rw [hk] at c1
    obtain ⟨_, _, ⟨T2, L2, k2, n2⟩, -, X2, ⟨Lc2, hQ2, l2, y2, z2⟩, st2⟩ := Jvm.LawKit.callS X0 hx (y := (⟨"com/example/minuet/minuet/TypeIsNumberPinLaw", "pick", "(I)Lcom/example/minuet/minuet/Type;"⟩ : MethodName)) hown (mvT hZ (hw _ (List.mem_of_getElem? (i := 1) rfl))) (mvT hZ (hw _ (List.mem_of_getElem? (i := 2) rfl))) (mvT hZ (hw _ (List.mem_of_getElem? (i := 3) rfl))) (mvT hZ (hw _ (List.mem_of_getElem? (i := 4) rfl))) (by decide) (backOf (W := 0) (rm1k0 l Z a0 hw [] t0 h0 n0 Z0 S0) hZ (hw _ (List.mem_of_getElem? (i := 4) rfl)) (hw _ (List.mem_of_getElem? (i := 3) rfl)) (by decide) (by decide)) (g := (mkF m 9 #[.val (.int p1), .val (.int (0 : Int32)), .unset, .unset, .unset] [(.int (0 : Int32))])) rfl (by rw [hml]; rfl) (argsL := [(.int (0 : Int32))]) (rest := []) (lenOf pd0_0 rfl) rfl (by show 2 * 0 + _ ≤ _; exact Nat.le_of_eq rfl) (hb hby at_9) (fun _ _ => ⟨rfl, e0, (by decide : 0 + 0 ≤ _), (by decide : 0 + 0 ≤ _)⟩)
    dsimp only [Pt.U, Pt.locs, Pt.cells, Pt.slots] at X2 l2 y2 z2 st2 hQ2
    subst l2 y2 z2
    obtain ⟨rfl, N2q, e2⟩ := hQ2
    have N2 := Fr.app N0 N2q
    obtain ⟨cq3, kq3, q3a, q3b, q3c⟩ := isOf hZ e2 E0
    obtain ⟨_, _, ⟨T3, L3, k3, n3⟩, -, X3, ⟨Lc3, hQ3, l3, y3, z3⟩, st3⟩ := X2.virtualBack hx (y := (⟨"com/example/minuet/minuet/Type", "isNumber", "()Z"⟩ : MethodName)) (z := (⟨"com/example/minuet/minuet/Type", "isNumber", "()Z"⟩ : MethodName)) hown (mvT hZ (hw _ (List.mem_of_getElem? (i := 8) rfl))) (mvT hZ (hw _ (List.mem_of_getElem? (i := 9) rfl))) (notFace_of_selects (args := #[]) (mvT hZ (hw _ (List.mem_of_getElem? (i := 11) rfl)))) (mvT hZ (hw _ (List.mem_of_getElem? (i := 11) rfl))) (mvT hZ (hw _ (List.mem_of_getElem? (i := 10) rfl))) (by decide) (backOf (W := 0) (rm2A l Z a0 hw [] t0 h0 n0 Z0 S0) hZ (hw _ (List.mem_of_getElem? (i := 12) rfl)) (hw _ (List.mem_of_getElem? (i := 6) rfl)) (by decide) (by decide)) q3a q3c (g := (mkF m 29 #[.val (.int p1), .val (.int (0 : Int32)), .val (.ref t0), .val (.int (1 : Int32)), .unset] [(.ref t0)])) rfl (by rw [hml]; rfl) (Steps.refl _) (argsL := []) (rest := []) (lenOf pd0_1 rfl) rfl (by show 2 * 0 + _ ≤ _; exact Nat.le_of_eq rfl) (hb hby at_29) (fun _ _ => ⟨rfl, e2, (by decide : 0 + 0 ≤ _), (by decide : 0 + 0 ≤ _)⟩)
    dsimp only [Pt.U, Pt.locs, Pt.cells, Pt.slots] at X3 l3 y3 z3 st3 hQ3
    subst l3 y3 z3
    obtain ⟨rfl, N3q, e3⟩ := hQ3
    have N3 := Fr.app N2 N3q
    obtain ⟨cq4, kq4, q4a, q4b, q4c⟩ := isOf hZ e3 E0
    obtain ⟨_, _, ⟨T4, L4, k4, n4⟩, -, X4, ⟨Lc4, hQ4, l4, y4, z4⟩, st4⟩ := X3.virtualBack hx (y := (⟨"com/example/minuet/minuet/Type", "isArray", "()Z"⟩ : MethodName)) (z := (⟨"com/example/minuet/minuet/Type", "isArray", "()Z"⟩ : MethodName)) hown (mvT hZ (hw _ (List.mem_of_getElem? (i := 14) rfl))) (mvT hZ (hw _ (List.mem_of_getElem? (i := 15) rfl))) (notFace_of_selects (args := #[]) (mvT hZ (hw _ (List.mem_of_getElem? (i := 17) rfl)))) (mvT hZ (hw _ (List.mem_of_getElem? (i := 17) rfl))) (mvT hZ (hw _ (List.mem_of_getElem? (i := 16) rfl))) (by decide) (backOf (W := 0) (rm3 l Z a0 hw [] t0 h0 n0 Z0 Fe0) hZ (hw _ (List.mem_of_getElem? (i := 18) rfl)) (hw _ (List.mem_of_getElem? (i := 6) rfl)) (by decide) (by decide)) q4a q4c (g := (mkF m 48 #[.val (.int p1), .val (.int (0 : Int32)), .val (.ref t0), .val (.int (1 : Int32)), .val (.int (1 : Int32))] [(.ref t0)])) rfl (by rw [hml]; rfl) (Steps.refl _) (argsL := []) (rest := []) (lenOf pd0_1 rfl) rfl (by show 2 * 0 + _ ≤ _; exact Nat.le_of_eq rfl) (hb hby at_48) (fun _ _ => ⟨rfl, e3, (by decide : 0 + 0 ≤ _), (by decide : 0 + 0 ≤ _)⟩)
    dsimp only [Pt.U, Pt.locs, Pt.cells, Pt.slots] at X4 l4 y4 z4 st4 hQ4
    subst l4 y4 z4
    obtain ⟨rfl, N4q, e4⟩ := hQ4
    have N4 := Fr.app N3 N4q
    obtain ⟨cq5, kq5, q5a, q5b, q5c⟩ := isOf hZ e4 E0
    obtain ⟨_, _, ⟨T5, L5, k5, n5⟩, -, X5, ⟨Lc5, hQ5, l5, y5, z5⟩, st5⟩ := X4.virtualBack hx (y := (⟨"com/example/minuet/minuet/Type", "element", "()Lcom/example/minuet/minuet/Type;"⟩ : MethodName)) (z := (⟨"com/example/minuet/minuet/Type", "element", "()Lcom/example/minuet/minuet/Type;"⟩ : MethodName)) hown (mvT hZ (hw _ (List.mem_of_getElem? (i := 21) rfl))) (mvT hZ (hw _ (List.mem_of_getElem? (i := 22) rfl))) (notFace_of_selects (args := #[]) (mvT hZ (hw _ (List.mem_of_getElem? (i := 24) rfl)))) (mvT hZ (hw _ (List.mem_of_getElem? (i := 24) rfl))) (mvT hZ (hw _ (List.mem_of_getElem? (i := 23) rfl))) (by decide) (backOf (W := 0) (rm4 l Z a0 hw [] t0 h0 n0 Z0 Fe0) hZ (hw _ (List.mem_of_getElem? (i := 25) rfl)) (hw _ (List.mem_of_getElem? (i := 6) rfl)) (by decide) (by decide)) q5a q5c (g := (mkF m 55 #[.val (.int p1), .val (.int (0 : Int32)), .val (.ref t0), .val (.int (1 : Int32)), .val (.int (1 : Int32))] [(.ref t0)])) rfl (by rw [hml]; rfl) (Steps.refl _) (argsL := []) (rest := []) (lenOf pd0_2 rfl) rfl (by show 2 * 0 + _ ≤ _; exact Nat.le_of_eq rfl) (hb hby at_55) (fun _ _ => ⟨rfl, e4, (by decide : 0 + 0 ≤ _), (by decide : 0 + 0 ≤ _)⟩)
    dsimp only [Pt.U, Pt.locs, Pt.cells, Pt.slots] at X5 l5 y5 z5 st5 hQ5
    subst l5 y5 z5
    obtain ⟨rfl, N5q, e5⟩ := hQ5
    have N5 := Fr.app N4 N5q
    obtain ⟨fs, hr, hrun, hended, hW, hsame⟩ := X5.leave (v := some (.int (1 : Int32))) (fun h => by rw [Bd.returns] at h; cases h)
    refine ⟨_, _, c1 _ ?_, hrun, hended, _, _, rfl, ?_, ⟨_, rfl⟩, hW, hsame.mono (by decide) (by decide)⟩
    · show Steps p.tables e below (s₁.setTop (mkF m 8 #[.val (.int p1), .val (.int (0 : Int32)), .unset, .unset, .unset] [])) _
      refine XS.iloadN X0.here hx rfl (hb hby at_8) rfl ?_
      show Steps p.tables e below (s₁.setTop (mkF m 9 #[.val (.int p1), .val (.int (0 : Int32)), .unset, .unset, .unset] [(.int (0 : Int32))])) _
      refine st2 _ ?_
      show Steps p.tables e below (T2.setTop (mkF m 12 #[.val (.int p1), .val (.int (0 : Int32)), .unset, .unset, .unset] [(.ref t0)])) _
      refine XS.astoreN X2.here hx rfl (hb hby at_12) rfl rfl (l' := #[.val (.int p1), .val (.int (0 : Int32)), .val (.ref t0), .unset, .unset]) rfl ?_
      show Steps p.tables e below (T2.setTop (mkF m 13 #[.val (.int p1), .val (.int (0 : Int32)), .val (.ref t0), .unset, .unset] [])) _
      refine XS.iloadN X2.here hx rfl (hb hby at_13) rfl ?_
      show Steps p.tables e below (T2.setTop (mkF m 14 #[.val (.int p1), .val (.int (0 : Int32)), .val (.ref t0), .unset, .unset] [(.int (0 : Int32))])) _
      refine XS.ifYes X2.here hx rfl (pc0 := 14) (pc' := 22) rfl (hb hby at_14) rfl ((if0 _ _).trans (teq (by decide)).1) (by decide) (by decide) ?_
      show Steps p.tables e below (T2.setTop (mkF m 22 #[.val (.int p1), .val (.int (0 : Int32)), .val (.ref t0), .unset, .unset] [])) _
      refine XS.iconst X2.here hx rfl (hb hby at_22) ?_
      show Steps p.tables e below (T2.setTop (mkF m 23 #[.val (.int p1), .val (.int (0 : Int32)), .val (.ref t0), .unset, .unset] [(.int (1 : Int32))])) _
      refine XS.goto X2.here hx rfl (pc0 := 23) (pc' := 27) rfl (hb hby at_23) (by decide) (by decide) ?_
      show Steps p.tables e below (T2.setTop (mkF m 27 #[.val (.int p1), .val (.int (0 : Int32)), .val (.ref t0), .unset, .unset] [(.int (1 : Int32))])) _
      refine XS.istoreN X2.here hx rfl (hb hby at_27) rfl (l' := #[.val (.int p1), .val (.int (0 : Int32)), .val (.ref t0), .val (.int (1 : Int32)), .unset]) rfl ?_
      show Steps p.tables e below (T2.setTop (mkF m 28 #[.val (.int p1), .val (.int (0 : Int32)), .val (.ref t0), .val (.int (1 : Int32)), .unset] [])) _
      refine XS.aloadN X2.here hx rfl (hb hby at_28) rfl rfl ?_
      show Steps p.tables e below (T2.setTop (mkF m 29 #[.val (.int p1), .val (.int (0 : Int32)), .val (.ref t0), .val (.int (1 : Int32)), .unset] [(.ref t0)])) _
      refine st3.trans ?_
      show Steps p.tables e below (T3.setTop (mkF m 32 #[.val (.int p1), .val (.int (0 : Int32)), .val (.ref t0), .val (.int (1 : Int32)), .unset] [(.int (1 : Int32))])) _
      refine XS.istore X3.here hx rfl (hb hby at_32) rfl (l' := #[.val (.int p1), .val (.int (0 : Int32)), .val (.ref t0), .val (.int (1 : Int32)), .val (.int (1 : Int32))]) rfl ?_
      show Steps p.tables e below (T3.setTop (mkF m 34 #[.val (.int p1), .val (.int (0 : Int32)), .val (.ref t0), .val (.int (1 : Int32)), .val (.int (1 : Int32))] [])) _
      refine XS.iload X3.here hx rfl (hb hby at_34) rfl ?_
      show Steps p.tables e below (T3.setTop (mkF m 36 #[.val (.int p1), .val (.int (0 : Int32)), .val (.ref t0), .val (.int (1 : Int32)), .val (.int (1 : Int32))] [(.int (1 : Int32))])) _
      refine XS.iloadN X3.here hx rfl (hb hby at_36) rfl ?_
      show Steps p.tables e below (T3.setTop (mkF m 37 #[.val (.int p1), .val (.int (0 : Int32)), .val (.ref t0), .val (.int (1 : Int32)), .val (.int (1 : Int32))] [(.int (1 : Int32)), (.int (1 : Int32))])) _
      refine XS.icmpYes X3.here hx rfl (pc0 := 37) (pc' := 42) rfl (hb hby at_37) rfl (teq (by decide)).1 (by decide) (by decide) ?_
      show Steps p.tables e below (T3.setTop (mkF m 42 #[.val (.int p1), .val (.int (0 : Int32)), .val (.ref t0), .val (.int (1 : Int32)), .val (.int (1 : Int32))] [])) _
      refine XS.iload X3.here hx rfl (hb hby at_42) rfl ?_
      show Steps p.tables e below (T3.setTop (mkF m 44 #[.val (.int p1), .val (.int (0 : Int32)), .val (.ref t0), .val (.int (1 : Int32)), .val (.int (1 : Int32))] [(.int (1 : Int32))])) _
      refine XS.ifNo X3.here hx rfl (hb hby at_44) rfl ((if0 _ _).trans (feq (by decide)).1) ?_
      show Steps p.tables e below (T3.setTop (mkF m 47 #[.val (.int p1), .val (.int (0 : Int32)), .val (.ref t0), .val (.int (1 : Int32)), .val (.int (1 : Int32))] [])) _
      refine XS.aloadN X3.here hx rfl (hb hby at_47) rfl rfl ?_
      show Steps p.tables e below (T3.setTop (mkF m 48 #[.val (.int p1), .val (.int (0 : Int32)), .val (.ref t0), .val (.int (1 : Int32)), .val (.int (1 : Int32))] [(.ref t0)])) _
      refine st4.trans ?_
      show Steps p.tables e below (T4.setTop (mkF m 51 #[.val (.int p1), .val (.int (0 : Int32)), .val (.ref t0), .val (.int (1 : Int32)), .val (.int (1 : Int32))] [(.int (0 : Int32))])) _
      refine XS.ifNo X4.here hx rfl (hb hby at_51) rfl ((if0 _ _).trans (teq (by decide)).2) ?_
      show Steps p.tables e below (T4.setTop (mkF m 54 #[.val (.int p1), .val (.int (0 : Int32)), .val (.ref t0), .val (.int (1 : Int32)), .val (.int (1 : Int32))] [])) _
      refine XS.aloadN X4.here hx rfl (hb hby at_54) rfl rfl ?_
      show Steps p.tables e below (T4.setTop (mkF m 55 #[.val (.int p1), .val (.int (0 : Int32)), .val (.ref t0), .val (.int (1 : Int32)), .val (.int (1 : Int32))] [(.ref t0)])) _
      refine st5.trans ?_
      show Steps p.tables e below (T5.setTop (mkF m 58 #[.val (.int p1), .val (.int (0 : Int32)), .val (.ref t0), .val (.int (1 : Int32)), .val (.int (1 : Int32))] [.null])) _
      refine XS.ifnonnullNo X5.here hx rfl (hb hby at_58) rfl ?_
      show Steps p.tables e below (T5.setTop (mkF m 61 #[.val (.int p1), .val (.int (0 : Int32)), .val (.ref t0), .val (.int (1 : Int32)), .val (.int (1 : Int32))] [])) _
      refine XS.iconst X5.here hx rfl (hb hby at_61) ?_
      show Steps p.tables e below (T5.setTop (mkF m 62 #[.val (.int p1), .val (.int (0 : Int32)), .val (.ref t0), .val (.int (1 : Int32)), .val (.int (1 : Int32))] [(.int (1 : Int32))])) _
      refine XS.goto X5.here hx rfl (pc0 := 62) (pc' := 66) rfl (hb hby at_62) (by decide) (by decide) ?_
      show Steps p.tables e below (T5.setTop (mkF m 66 #[.val (.int p1), .val (.int (0 : Int32)), .val (.ref t0), .val (.int (1 : Int32)), .val (.int (1 : Int32))] [(.int (1 : Int32))])) _
      exact retN X5 hx (t := .boolean) Bd.returns (by simp) (hb hby at_66) hr
    · show Q0 Z p1 t0 t1 t2 t3 t4 t5 t6 h0 n0 _ T5.heap _
      rw [e5]
      exact ⟨rfl, N5⟩
  · rw [hk] at c1
    obtain ⟨_, _, ⟨T6, L6, k6, n6⟩, -, X6, ⟨Lc6, hQ6, l6, y6, z6⟩, st6⟩ := Jvm.LawKit.callS X0 hx (y := (⟨"com/example/minuet/minuet/TypeIsNumberPinLaw", "pick", "(I)Lcom/example/minuet/minuet/Type;"⟩ : MethodName)) hown (mvT hZ (hw _ (List.mem_of_getElem? (i := 1) rfl))) (mvT hZ (hw _ (List.mem_of_getElem? (i := 2) rfl))) (mvT hZ (hw _ (List.mem_of_getElem? (i := 3) rfl))) (mvT hZ (hw _ (List.mem_of_getElem? (i := 4) rfl))) (by decide) (backOf (W := 0) (rm1k1 l Z a0 hw [] t1 h0 n0 Z0 S1) hZ (hw _ (List.mem_of_getElem? (i := 4) rfl)) (hw _ (List.mem_of_getElem? (i := 3) rfl)) (by decide) (by decide)) (g := (mkF m 9 #[.val (.int p1), .val (.int (1 : Int32)), .unset, .unset, .unset] [(.int (1 : Int32))])) rfl (by rw [hml]; rfl) (argsL := [(.int (1 : Int32))]) (rest := []) (lenOf pd0_0 rfl) rfl (by show 2 * 0 + _ ≤ _; exact Nat.le_of_eq rfl) (hb hby at_9) (fun _ _ => ⟨rfl, e0, (by decide : 0 + 0 ≤ _), (by decide : 0 + 0 ≤ _)⟩)
    dsimp only [Pt.U, Pt.locs, Pt.cells, Pt.slots] at X6 l6 y6 z6 st6 hQ6
    subst l6 y6 z6
    obtain ⟨rfl, N6q, e6⟩ := hQ6
    have N6 := Fr.app N0 N6q
    obtain ⟨cq7, kq7, q7a, q7b, q7c⟩ := isOf hZ e6 E1
    obtain ⟨_, _, ⟨T7, L7, k7, n7⟩, -, X7, ⟨Lc7, hQ7, l7, y7, z7⟩, st7⟩ := X6.virtualBack hx (y := (⟨"com/example/minuet/minuet/Type", "isNumber", "()Z"⟩ : MethodName)) (z := (⟨"com/example/minuet/minuet/Type", "isNumber", "()Z"⟩ : MethodName)) hown (mvT hZ (hw _ (List.mem_of_getElem? (i := 8) rfl))) (mvT hZ (hw _ (List.mem_of_getElem? (i := 9) rfl))) (notFace_of_selects (args := #[]) (mvT hZ (hw _ (List.mem_of_getElem? (i := 11) rfl)))) (mvT hZ (hw _ (List.mem_of_getElem? (i := 11) rfl))) (mvT hZ (hw _ (List.mem_of_getElem? (i := 10) rfl))) (by decide) (backOf (W := 0) (rm2B l Z a0 hw [] t0 t1 h0 n0 Z0 S0 S1 ne10) hZ (hw _ (List.mem_of_getElem? (i := 12) rfl)) (hw _ (List.mem_of_getElem? (i := 6) rfl)) (by decide) (by decide)) q7a q7c (g := (mkF m 29 #[.val (.int p1), .val (.int (1 : Int32)), .val (.ref t1), .val (.int (1 : Int32)), .unset] [(.ref t1)])) rfl (by rw [hml]; rfl) (Steps.refl _) (argsL := []) (rest := []) (lenOf pd0_1 rfl) rfl (by show 2 * 0 + _ ≤ _; exact Nat.le_of_eq rfl) (hb hby at_29) (fun _ _ => ⟨rfl, e6, (by decide : 0 + 0 ≤ _), (by decide : 0 + 0 ≤ _)⟩)
    dsimp only [Pt.U, Pt.locs, Pt.cells, Pt.slots] at X7 l7 y7 z7 st7 hQ7
    subst l7 y7 z7
    obtain ⟨rfl, N7q, e7⟩ := hQ7
    have N7 := Fr.app N6 N7q
    obtain ⟨cq8, kq8, q8a, q8b, q8c⟩ := isOf hZ e7 E1
    obtain ⟨_, _, ⟨T8, L8, k8, n8⟩, -, X8, ⟨Lc8, hQ8, l8, y8, z8⟩, st8⟩ := X7.virtualBack hx (y := (⟨"com/example/minuet/minuet/Type", "isArray", "()Z"⟩ : MethodName)) (z := (⟨"com/example/minuet/minuet/Type", "isArray", "()Z"⟩ : MethodName)) hown (mvT hZ (hw _ (List.mem_of_getElem? (i := 14) rfl))) (mvT hZ (hw _ (List.mem_of_getElem? (i := 15) rfl))) (notFace_of_selects (args := #[]) (mvT hZ (hw _ (List.mem_of_getElem? (i := 17) rfl)))) (mvT hZ (hw _ (List.mem_of_getElem? (i := 17) rfl))) (mvT hZ (hw _ (List.mem_of_getElem? (i := 16) rfl))) (by decide) (backOf (W := 0) (rm3 l Z a0 hw [] t1 h0 n0 Z0 Fe1) hZ (hw _ (List.mem_of_getElem? (i := 18) rfl)) (hw _ (List.mem_of_getElem? (i := 6) rfl)) (by decide) (by decide)) q8a q8c (g := (mkF m 48 #[.val (.int p1), .val (.int (1 : Int32)), .val (.ref t1), .val (.int (1 : Int32)), .val (.int (1 : Int32))] [(.ref t1)])) rfl (by rw [hml]; rfl) (Steps.refl _) (argsL := []) (rest := []) (lenOf pd0_1 rfl) rfl (by show 2 * 0 + _ ≤ _; exact Nat.le_of_eq rfl) (hb hby at_48) (fun _ _ => ⟨rfl, e7, (by decide : 0 + 0 ≤ _), (by decide : 0 + 0 ≤ _)⟩)
    dsimp only [Pt.U, Pt.locs, Pt.cells, Pt.slots] at X8 l8 y8 z8 st8 hQ8
    subst l8 y8 z8
    obtain ⟨rfl, N8q, e8⟩ := hQ8
    have N8 := Fr.app N7 N8q
    obtain ⟨cq9, kq9, q9a, q9b, q9c⟩ := isOf hZ e8 E1
    obtain ⟨_, _, ⟨T9, L9, k9, n9⟩, -, X9, ⟨Lc9, hQ9, l9, y9, z9⟩, st9⟩ := X8.virtualBack hx (y := (⟨"com/example/minuet/minuet/Type", "element", "()Lcom/example/minuet/minuet/Type;"⟩ : MethodName)) (z := (⟨"com/example/minuet/minuet/Type", "element", "()Lcom/example/minuet/minuet/Type;"⟩ : MethodName)) hown (mvT hZ (hw _ (List.mem_of_getElem? (i := 21) rfl))) (mvT hZ (hw _ (List.mem_of_getElem? (i := 22) rfl))) (notFace_of_selects (args := #[]) (mvT hZ (hw _ (List.mem_of_getElem? (i := 24) rfl)))) (mvT hZ (hw _ (List.mem_of_getElem? (i := 24) rfl))) (mvT hZ (hw _ (List.mem_of_getElem? (i := 23) rfl))) (by decide) (backOf (W := 0) (rm4 l Z a0 hw [] t1 h0 n0 Z0 Fe1) hZ (hw _ (List.mem_of_getElem? (i := 25) rfl)) (hw _ (List.mem_of_getElem? (i := 6) rfl)) (by decide) (by decide)) q9a q9c (g := (mkF m 55 #[.val (.int p1), .val (.int (1 : Int32)), .val (.ref t1), .val (.int (1 : Int32)), .val (.int (1 : Int32))] [(.ref t1)])) rfl (by rw [hml]; rfl) (Steps.refl _) (argsL := []) (rest := []) (lenOf pd0_2 rfl) rfl (by show 2 * 0 + _ ≤ _; exact Nat.le_of_eq rfl) (hb hby at_55) (fun _ _ => ⟨rfl, e8, (by decide : 0 + 0 ≤ _), (by decide : 0 + 0 ≤ _)⟩)
    dsimp only [Pt.U, Pt.locs, Pt.cells, Pt.slots] at X9 l9 y9 z9 st9 hQ9
    subst l9 y9 z9
    obtain ⟨rfl, N9q, e9⟩ := hQ9
    have N9 := Fr.app N8 N9q
    obtain ⟨fs, hr, hrun, hended, hW, hsame⟩ := X9.leave (v := some (.int (1 : Int32))) (fun h => by rw [Bd.returns] at h; cases h)
    refine ⟨_, _, c1 _ ?_, hrun, hended, _, _, rfl, ?_, ⟨_, rfl⟩, hW, hsame.mono (by decide) (by decide)⟩
    · show Steps p.tables e below (s₁.setTop (mkF m 8 #[.val (.int p1), .val (.int (1 : Int32)), .unset, .unset, .unset] [])) _
      refine XS.iloadN X0.here hx rfl (hb hby at_8) rfl ?_
      show Steps p.tables e below (s₁.setTop (mkF m 9 #[.val (.int p1), .val (.int (1 : Int32)), .unset, .unset, .unset] [(.int (1 : Int32))])) _
      refine st6 _ ?_
      show Steps p.tables e below (T6.setTop (mkF m 12 #[.val (.int p1), .val (.int (1 : Int32)), .unset, .unset, .unset] [(.ref t1)])) _
      refine XS.astoreN X6.here hx rfl (hb hby at_12) rfl rfl (l' := #[.val (.int p1), .val (.int (1 : Int32)), .val (.ref t1), .unset, .unset]) rfl ?_
      show Steps p.tables e below (T6.setTop (mkF m 13 #[.val (.int p1), .val (.int (1 : Int32)), .val (.ref t1), .unset, .unset] [])) _
      refine XS.iloadN X6.here hx rfl (hb hby at_13) rfl ?_
      show Steps p.tables e below (T6.setTop (mkF m 14 #[.val (.int p1), .val (.int (1 : Int32)), .val (.ref t1), .unset, .unset] [(.int (1 : Int32))])) _
      refine XS.ifNo X6.here hx rfl (hb hby at_14) rfl ((if0 _ _).trans (feq (by decide)).1) ?_
      show Steps p.tables e below (T6.setTop (mkF m 17 #[.val (.int p1), .val (.int (1 : Int32)), .val (.ref t1), .unset, .unset] [])) _
      refine XS.iloadN X6.here hx rfl (hb hby at_17) rfl ?_
      show Steps p.tables e below (T6.setTop (mkF m 18 #[.val (.int p1), .val (.int (1 : Int32)), .val (.ref t1), .unset, .unset] [(.int (1 : Int32))])) _
      refine XS.iconst X6.here hx rfl (hb hby at_18) ?_
      show Steps p.tables e below (T6.setTop (mkF m 19 #[.val (.int p1), .val (.int (1 : Int32)), .val (.ref t1), .unset, .unset] [(.int (1 : Int32)), (.int (1 : Int32))])) _
      refine XS.icmpNo X6.here hx rfl (hb hby at_19) rfl (teq (by decide)).2 ?_
      show Steps p.tables e below (T6.setTop (mkF m 22 #[.val (.int p1), .val (.int (1 : Int32)), .val (.ref t1), .unset, .unset] [])) _
      refine XS.iconst X6.here hx rfl (hb hby at_22) ?_
      show Steps p.tables e below (T6.setTop (mkF m 23 #[.val (.int p1), .val (.int (1 : Int32)), .val (.ref t1), .unset, .unset] [(.int (1 : Int32))])) _
      refine XS.goto X6.here hx rfl (pc0 := 23) (pc' := 27) rfl (hb hby at_23) (by decide) (by decide) ?_
      show Steps p.tables e below (T6.setTop (mkF m 27 #[.val (.int p1), .val (.int (1 : Int32)), .val (.ref t1), .unset, .unset] [(.int (1 : Int32))])) _
      refine XS.istoreN X6.here hx rfl (hb hby at_27) rfl (l' := #[.val (.int p1), .val (.int (1 : Int32)), .val (.ref t1), .val (.int (1 : Int32)), .unset]) rfl ?_
      show Steps p.tables e below (T6.setTop (mkF m 28 #[.val (.int p1), .val (.int (1 : Int32)), .val (.ref t1), .val (.int (1 : Int32)), .unset] [])) _
      refine XS.aloadN X6.here hx rfl (hb hby at_28) rfl rfl ?_
      show Steps p.tables e below (T6.setTop (mkF m 29 #[.val (.int p1), .val (.int (1 : Int32)), .val (.ref t1), .val (.int (1 : Int32)), .unset] [(.ref t1)])) _
      refine st7.trans ?_
      show Steps p.tables e below (T7.setTop (mkF m 32 #[.val (.int p1), .val (.int (1 : Int32)), .val (.ref t1), .val (.int (1 : Int32)), .unset] [(.int (1 : Int32))])) _
      refine XS.istore X7.here hx rfl (hb hby at_32) rfl (l' := #[.val (.int p1), .val (.int (1 : Int32)), .val (.ref t1), .val (.int (1 : Int32)), .val (.int (1 : Int32))]) rfl ?_
      show Steps p.tables e below (T7.setTop (mkF m 34 #[.val (.int p1), .val (.int (1 : Int32)), .val (.ref t1), .val (.int (1 : Int32)), .val (.int (1 : Int32))] [])) _
      refine XS.iload X7.here hx rfl (hb hby at_34) rfl ?_
      show Steps p.tables e below (T7.setTop (mkF m 36 #[.val (.int p1), .val (.int (1 : Int32)), .val (.ref t1), .val (.int (1 : Int32)), .val (.int (1 : Int32))] [(.int (1 : Int32))])) _
      refine XS.iloadN X7.here hx rfl (hb hby at_36) rfl ?_
      show Steps p.tables e below (T7.setTop (mkF m 37 #[.val (.int p1), .val (.int (1 : Int32)), .val (.ref t1), .val (.int (1 : Int32)), .val (.int (1 : Int32))] [(.int (1 : Int32)), (.int (1 : Int32))])) _
      refine XS.icmpYes X7.here hx rfl (pc0 := 37) (pc' := 42) rfl (hb hby at_37) rfl (teq (by decide)).1 (by decide) (by decide) ?_
      show Steps p.tables e below (T7.setTop (mkF m 42 #[.val (.int p1), .val (.int (1 : Int32)), .val (.ref t1), .val (.int (1 : Int32)), .val (.int (1 : Int32))] [])) _
      refine XS.iload X7.here hx rfl (hb hby at_42) rfl ?_
      show Steps p.tables e below (T7.setTop (mkF m 44 #[.val (.int p1), .val (.int (1 : Int32)), .val (.ref t1), .val (.int (1 : Int32)), .val (.int (1 : Int32))] [(.int (1 : Int32))])) _
      refine XS.ifNo X7.here hx rfl (hb hby at_44) rfl ((if0 _ _).trans (feq (by decide)).1) ?_
      show Steps p.tables e below (T7.setTop (mkF m 47 #[.val (.int p1), .val (.int (1 : Int32)), .val (.ref t1), .val (.int (1 : Int32)), .val (.int (1 : Int32))] [])) _
      refine XS.aloadN X7.here hx rfl (hb hby at_47) rfl rfl ?_
      show Steps p.tables e below (T7.setTop (mkF m 48 #[.val (.int p1), .val (.int (1 : Int32)), .val (.ref t1), .val (.int (1 : Int32)), .val (.int (1 : Int32))] [(.ref t1)])) _
      refine st8.trans ?_
      show Steps p.tables e below (T8.setTop (mkF m 51 #[.val (.int p1), .val (.int (1 : Int32)), .val (.ref t1), .val (.int (1 : Int32)), .val (.int (1 : Int32))] [(.int (0 : Int32))])) _
      refine XS.ifNo X8.here hx rfl (hb hby at_51) rfl ((if0 _ _).trans (teq (by decide)).2) ?_
      show Steps p.tables e below (T8.setTop (mkF m 54 #[.val (.int p1), .val (.int (1 : Int32)), .val (.ref t1), .val (.int (1 : Int32)), .val (.int (1 : Int32))] [])) _
      refine XS.aloadN X8.here hx rfl (hb hby at_54) rfl rfl ?_
      show Steps p.tables e below (T8.setTop (mkF m 55 #[.val (.int p1), .val (.int (1 : Int32)), .val (.ref t1), .val (.int (1 : Int32)), .val (.int (1 : Int32))] [(.ref t1)])) _
      refine st9.trans ?_
      show Steps p.tables e below (T9.setTop (mkF m 58 #[.val (.int p1), .val (.int (1 : Int32)), .val (.ref t1), .val (.int (1 : Int32)), .val (.int (1 : Int32))] [.null])) _
      refine XS.ifnonnullNo X9.here hx rfl (hb hby at_58) rfl ?_
      show Steps p.tables e below (T9.setTop (mkF m 61 #[.val (.int p1), .val (.int (1 : Int32)), .val (.ref t1), .val (.int (1 : Int32)), .val (.int (1 : Int32))] [])) _
      refine XS.iconst X9.here hx rfl (hb hby at_61) ?_
      show Steps p.tables e below (T9.setTop (mkF m 62 #[.val (.int p1), .val (.int (1 : Int32)), .val (.ref t1), .val (.int (1 : Int32)), .val (.int (1 : Int32))] [(.int (1 : Int32))])) _
      refine XS.goto X9.here hx rfl (pc0 := 62) (pc' := 66) rfl (hb hby at_62) (by decide) (by decide) ?_
      show Steps p.tables e below (T9.setTop (mkF m 66 #[.val (.int p1), .val (.int (1 : Int32)), .val (.ref t1), .val (.int (1 : Int32)), .val (.int (1 : Int32))] [(.int (1 : Int32))])) _
      exact retN X9 hx (t := .boolean) Bd.returns (by simp) (hb hby at_66) hr
    · show Q0 Z p1 t0 t1 t2 t3 t4 t5 t6 h0 n0 _ T9.heap _
      rw [e9]
      exact ⟨rfl, N9⟩
  · rw [hk] at c1
    obtain ⟨_, _, ⟨T10, L10, k10, n10⟩, -, X10, ⟨Lc10, hQ10, l10, y10, z10⟩, st10⟩ := Jvm.LawKit.callS X0 hx (y := (⟨"com/example/minuet/minuet/TypeIsNumberPinLaw", "pick", "(I)Lcom/example/minuet/minuet/Type;"⟩ : MethodName)) hown (mvT hZ (hw _ (List.mem_of_getElem? (i := 1) rfl))) (mvT hZ (hw _ (List.mem_of_getElem? (i := 2) rfl))) (mvT hZ (hw _ (List.mem_of_getElem? (i := 3) rfl))) (mvT hZ (hw _ (List.mem_of_getElem? (i := 4) rfl))) (by decide) (backOf (W := 0) (rm1k2 l Z a0 hw [] t2 h0 n0 Z0 S2) hZ (hw _ (List.mem_of_getElem? (i := 4) rfl)) (hw _ (List.mem_of_getElem? (i := 3) rfl)) (by decide) (by decide)) (g := (mkF m 9 #[.val (.int p1), .val (.int (2 : Int32)), .unset, .unset, .unset] [(.int (2 : Int32))])) rfl (by rw [hml]; rfl) (argsL := [(.int (2 : Int32))]) (rest := []) (lenOf pd0_0 rfl) rfl (by show 2 * 0 + _ ≤ _; exact Nat.le_of_eq rfl) (hb hby at_9) (fun _ _ => ⟨rfl, e0, (by decide : 0 + 0 ≤ _), (by decide : 0 + 0 ≤ _)⟩)
    dsimp only [Pt.U, Pt.locs, Pt.cells, Pt.slots] at X10 l10 y10 z10 st10 hQ10
    subst l10 y10 z10
    obtain ⟨rfl, N10q, e10⟩ := hQ10
    have N10 := Fr.app N0 N10q
    obtain ⟨cq11, kq11, q11a, q11b, q11c⟩ := isOf hZ e10 E2
    obtain ⟨_, _, ⟨T11, L11, k11, n11⟩, -, X11, ⟨Lc11, hQ11, l11, y11, z11⟩, st11⟩ := X10.virtualBack hx (y := (⟨"com/example/minuet/minuet/Type", "isNumber", "()Z"⟩ : MethodName)) (z := (⟨"com/example/minuet/minuet/Type", "isNumber", "()Z"⟩ : MethodName)) hown (mvT hZ (hw _ (List.mem_of_getElem? (i := 8) rfl))) (mvT hZ (hw _ (List.mem_of_getElem? (i := 9) rfl))) (notFace_of_selects (args := #[]) (mvT hZ (hw _ (List.mem_of_getElem? (i := 11) rfl)))) (mvT hZ (hw _ (List.mem_of_getElem? (i := 11) rfl))) (mvT hZ (hw _ (List.mem_of_getElem? (i := 10) rfl))) (by decide) (backOf (W := 0) (rm2C l Z a0 hw [] t2 t0 t1 h0 n0 Z0 S0 S1 ne20 ne21) hZ (hw _ (List.mem_of_getElem? (i := 12) rfl)) (hw _ (List.mem_of_getElem? (i := 6) rfl)) (by decide) (by decide)) q11a q11c (g := (mkF m 29 #[.val (.int p1), .val (.int (2 : Int32)), .val (.ref t2), .val (.int (0 : Int32)), .unset] [(.ref t2)])) rfl (by rw [hml]; rfl) (Steps.refl _) (argsL := []) (rest := []) (lenOf pd0_1 rfl) rfl (by show 2 * 0 + _ ≤ _; exact Nat.le_of_eq rfl) (hb hby at_29) (fun _ _ => ⟨rfl, e10, (by decide : 0 + 0 ≤ _), (by decide : 0 + 0 ≤ _)⟩)
    dsimp only [Pt.U, Pt.locs, Pt.cells, Pt.slots] at X11 l11 y11 z11 st11 hQ11
    subst l11 y11 z11
    obtain ⟨rfl, N11q, e11⟩ := hQ11
    have N11 := Fr.app N10 N11q
    obtain ⟨fs, hr, hrun, hended, hW, hsame⟩ := X11.leave (v := some (.int (1 : Int32))) (fun h => by rw [Bd.returns] at h; cases h)
    refine ⟨_, _, c1 _ ?_, hrun, hended, _, _, rfl, ?_, ⟨_, rfl⟩, hW, hsame.mono (by decide) (by decide)⟩
    · show Steps p.tables e below (s₁.setTop (mkF m 8 #[.val (.int p1), .val (.int (2 : Int32)), .unset, .unset, .unset] [])) _
      refine XS.iloadN X0.here hx rfl (hb hby at_8) rfl ?_
      show Steps p.tables e below (s₁.setTop (mkF m 9 #[.val (.int p1), .val (.int (2 : Int32)), .unset, .unset, .unset] [(.int (2 : Int32))])) _
      refine st10 _ ?_
      show Steps p.tables e below (T10.setTop (mkF m 12 #[.val (.int p1), .val (.int (2 : Int32)), .unset, .unset, .unset] [(.ref t2)])) _
      refine XS.astoreN X10.here hx rfl (hb hby at_12) rfl rfl (l' := #[.val (.int p1), .val (.int (2 : Int32)), .val (.ref t2), .unset, .unset]) rfl ?_
      show Steps p.tables e below (T10.setTop (mkF m 13 #[.val (.int p1), .val (.int (2 : Int32)), .val (.ref t2), .unset, .unset] [])) _
      refine XS.iloadN X10.here hx rfl (hb hby at_13) rfl ?_
      show Steps p.tables e below (T10.setTop (mkF m 14 #[.val (.int p1), .val (.int (2 : Int32)), .val (.ref t2), .unset, .unset] [(.int (2 : Int32))])) _
      refine XS.ifNo X10.here hx rfl (hb hby at_14) rfl ((if0 _ _).trans (feq (by decide)).1) ?_
      show Steps p.tables e below (T10.setTop (mkF m 17 #[.val (.int p1), .val (.int (2 : Int32)), .val (.ref t2), .unset, .unset] [])) _
      refine XS.iloadN X10.here hx rfl (hb hby at_17) rfl ?_
      show Steps p.tables e below (T10.setTop (mkF m 18 #[.val (.int p1), .val (.int (2 : Int32)), .val (.ref t2), .unset, .unset] [(.int (2 : Int32))])) _
      refine XS.iconst X10.here hx rfl (hb hby at_18) ?_
      show Steps p.tables e below (T10.setTop (mkF m 19 #[.val (.int p1), .val (.int (2 : Int32)), .val (.ref t2), .unset, .unset] [(.int (1 : Int32)), (.int (2 : Int32))])) _
      refine XS.icmpYes X10.here hx rfl (pc0 := 19) (pc' := 26) rfl (hb hby at_19) rfl (feq (by decide)).2 (by decide) (by decide) ?_
      show Steps p.tables e below (T10.setTop (mkF m 26 #[.val (.int p1), .val (.int (2 : Int32)), .val (.ref t2), .unset, .unset] [])) _
      refine XS.iconst X10.here hx rfl (hb hby at_26) ?_
      show Steps p.tables e below (T10.setTop (mkF m 27 #[.val (.int p1), .val (.int (2 : Int32)), .val (.ref t2), .unset, .unset] [(.int (0 : Int32))])) _
      refine XS.istoreN X10.here hx rfl (hb hby at_27) rfl (l' := #[.val (.int p1), .val (.int (2 : Int32)), .val (.ref t2), .val (.int (0 : Int32)), .unset]) rfl ?_
      show Steps p.tables e below (T10.setTop (mkF m 28 #[.val (.int p1), .val (.int (2 : Int32)), .val (.ref t2), .val (.int (0 : Int32)), .unset] [])) _
      refine XS.aloadN X10.here hx rfl (hb hby at_28) rfl rfl ?_
      show Steps p.tables e below (T10.setTop (mkF m 29 #[.val (.int p1), .val (.int (2 : Int32)), .val (.ref t2), .val (.int (0 : Int32)), .unset] [(.ref t2)])) _
      refine st11.trans ?_
      show Steps p.tables e below (T11.setTop (mkF m 32 #[.val (.int p1), .val (.int (2 : Int32)), .val (.ref t2), .val (.int (0 : Int32)), .unset] [(.int (0 : Int32))])) _
      refine XS.istore X11.here hx rfl (hb hby at_32) rfl (l' := #[.val (.int p1), .val (.int (2 : Int32)), .val (.ref t2), .val (.int (0 : Int32)), .val (.int (0 : Int32))]) rfl ?_
      show Steps p.tables e below (T11.setTop (mkF m 34 #[.val (.int p1), .val (.int (2 : Int32)), .val (.ref t2), .val (.int (0 : Int32)), .val (.int (0 : Int32))] [])) _
      refine XS.iload X11.here hx rfl (hb hby at_34) rfl ?_
      show Steps p.tables e below (T11.setTop (mkF m 36 #[.val (.int p1), .val (.int (2 : Int32)), .val (.ref t2), .val (.int (0 : Int32)), .val (.int (0 : Int32))] [(.int (0 : Int32))])) _
      refine XS.iloadN X11.here hx rfl (hb hby at_36) rfl ?_
      show Steps p.tables e below (T11.setTop (mkF m 37 #[.val (.int p1), .val (.int (2 : Int32)), .val (.ref t2), .val (.int (0 : Int32)), .val (.int (0 : Int32))] [(.int (0 : Int32)), (.int (0 : Int32))])) _
      refine XS.icmpYes X11.here hx rfl (pc0 := 37) (pc' := 42) rfl (hb hby at_37) rfl (teq (by decide)).1 (by decide) (by decide) ?_
      show Steps p.tables e below (T11.setTop (mkF m 42 #[.val (.int p1), .val (.int (2 : Int32)), .val (.ref t2), .val (.int (0 : Int32)), .val (.int (0 : Int32))] [])) _
      refine XS.iload X11.here hx rfl (hb hby at_42) rfl ?_
      show Steps p.tables e below (T11.setTop (mkF m 44 #[.val (.int p1), .val (.int (2 : Int32)), .val (.ref t2), .val (.int (0 : Int32)), .val (.int (0 : Int32))] [(.int (0 : Int32))])) _
      refine XS.ifYes X11.here hx rfl (pc0 := 44) (pc' := 67) rfl (hb hby at_44) rfl ((if0 _ _).trans (teq (by decide)).1) (by decide) (by decide) ?_
      show Steps p.tables e below (T11.setTop (mkF m 67 #[.val (.int p1), .val (.int (2 : Int32)), .val (.ref t2), .val (.int (0 : Int32)), .val (.int (0 : Int32))] [])) _
      refine XS.iconst X11.here hx rfl (hb hby at_67) ?_
      show Steps p.tables e below (T11.setTop (mkF m 68 #[.val (.int p1), .val (.int (2 : Int32)), .val (.ref t2), .val (.int (0 : Int32)), .val (.int (0 : Int32))] [(.int (1 : Int32))])) _
      exact retN X11 hx (t := .boolean) Bd.returns (by simp) (hb hby at_68) hr
    · show Q0 Z p1 t0 t1 t2 t3 t4 t5 t6 h0 n0 _ T11.heap _
      rw [e11]
      exact ⟨rfl, N11⟩
  · rw [hk] at c1
    obtain ⟨_, _, ⟨T12, L12, k12, n12⟩, -, X12, ⟨Lc12, hQ12, l12, y12, z12⟩, st12⟩ := Jvm.LawKit.callS X0 hx (y := (⟨"com/example/minuet/minuet/TypeIsNumberPinLaw", "pick", "(I)Lcom/example/minuet/minuet/Type;"⟩ : MethodName)) hown (mvT hZ (hw _ (List.mem_of_getElem? (i := 1) rfl))) (mvT hZ (hw _ (List.mem_of_getElem? (i := 2) rfl))) (mvT hZ (hw _ (List.mem_of_getElem? (i := 3) rfl))) (mvT hZ (hw _ (List.mem_of_getElem? (i := 4) rfl))) (by decide) (backOf (W := 0) (rm1k3 l Z a0 hw [] t3 h0 n0 Z0 S3) hZ (hw _ (List.mem_of_getElem? (i := 4) rfl)) (hw _ (List.mem_of_getElem? (i := 3) rfl)) (by decide) (by decide)) (g := (mkF m 9 #[.val (.int p1), .val (.int (3 : Int32)), .unset, .unset, .unset] [(.int (3 : Int32))])) rfl (by rw [hml]; rfl) (argsL := [(.int (3 : Int32))]) (rest := []) (lenOf pd0_0 rfl) rfl (by show 2 * 0 + _ ≤ _; exact Nat.le_of_eq rfl) (hb hby at_9) (fun _ _ => ⟨rfl, e0, (by decide : 0 + 0 ≤ _), (by decide : 0 + 0 ≤ _)⟩)
    dsimp only [Pt.U, Pt.locs, Pt.cells, Pt.slots] at X12 l12 y12 z12 st12 hQ12
    subst l12 y12 z12
    obtain ⟨rfl, N12q, e12⟩ := hQ12
    have N12 := Fr.app N0 N12q
    obtain ⟨cq13, kq13, q13a, q13b, q13c⟩ := isOf hZ e12 E3
    obtain ⟨_, _, ⟨T13, L13, k13, n13⟩, -, X13, ⟨Lc13, hQ13, l13, y13, z13⟩, st13⟩ := X12.virtualBack hx (y := (⟨"com/example/minuet/minuet/Type", "isNumber", "()Z"⟩ : MethodName)) (z := (⟨"com/example/minuet/minuet/Type", "isNumber", "()Z"⟩ : MethodName)) hown (mvT hZ (hw _ (List.mem_of_getElem? (i := 8) rfl))) (mvT hZ (hw _ (List.mem_of_getElem? (i := 9) rfl))) (notFace_of_selects (args := #[]) (mvT hZ (hw _ (List.mem_of_getElem? (i := 11) rfl)))) (mvT hZ (hw _ (List.mem_of_getElem? (i := 11) rfl))) (mvT hZ (hw _ (List.mem_of_getElem? (i := 10) rfl))) (by decide) (backOf (W := 0) (rm2C l Z a0 hw [] t3 t0 t1 h0 n0 Z0 S0 S1 ne30 ne31) hZ (hw _ (List.mem_of_getElem? (i := 12) rfl)) (hw _ (List.mem_of_getElem? (i := 6) rfl)) (by decide) (by decide)) q13a q13c (g := (mkF m 29 #[.val (.int p1), .val (.int (3 : Int32)), .val (.ref t3), .val (.int (0 : Int32)), .unset] [(.ref t3)])) rfl (by rw [hml]; rfl) (Steps.refl _) (argsL := []) (rest := []) (lenOf pd0_1 rfl) rfl (by show 2 * 0 + _ ≤ _; exact Nat.le_of_eq rfl) (hb hby at_29) (fun _ _ => ⟨rfl, e12, (by decide : 0 + 0 ≤ _), (by decide : 0 + 0 ≤ _)⟩)
    dsimp only [Pt.U, Pt.locs, Pt.cells, Pt.slots] at X13 l13 y13 z13 st13 hQ13
    subst l13 y13 z13
    obtain ⟨rfl, N13q, e13⟩ := hQ13
    have N13 := Fr.app N12 N13q
    obtain ⟨fs, hr, hrun, hended, hW, hsame⟩ := X13.leave (v := some (.int (1 : Int32))) (fun h => by rw [Bd.returns] at h; cases h)
    refine ⟨_, _, c1 _ ?_, hrun, hended, _, _, rfl, ?_, ⟨_, rfl⟩, hW, hsame.mono (by decide) (by decide)⟩
    · show Steps p.tables e below (s₁.setTop (mkF m 8 #[.val (.int p1), .val (.int (3 : Int32)), .unset, .unset, .unset] [])) _
      refine XS.iloadN X0.here hx rfl (hb hby at_8) rfl ?_
      show Steps p.tables e below (s₁.setTop (mkF m 9 #[.val (.int p1), .val (.int (3 : Int32)), .unset, .unset, .unset] [(.int (3 : Int32))])) _
      refine st12 _ ?_
      show Steps p.tables e below (T12.setTop (mkF m 12 #[.val (.int p1), .val (.int (3 : Int32)), .unset, .unset, .unset] [(.ref t3)])) _
      refine XS.astoreN X12.here hx rfl (hb hby at_12) rfl rfl (l' := #[.val (.int p1), .val (.int (3 : Int32)), .val (.ref t3), .unset, .unset]) rfl ?_
      show Steps p.tables e below (T12.setTop (mkF m 13 #[.val (.int p1), .val (.int (3 : Int32)), .val (.ref t3), .unset, .unset] [])) _
      refine XS.iloadN X12.here hx rfl (hb hby at_13) rfl ?_
      show Steps p.tables e below (T12.setTop (mkF m 14 #[.val (.int p1), .val (.int (3 : Int32)), .val (.ref t3), .unset, .unset] [(.int (3 : Int32))])) _
      refine XS.ifNo X12.here hx rfl (hb hby at_14) rfl ((if0 _ _).trans (feq (by decide)).1) ?_
      show Steps p.tables e below (T12.setTop (mkF m 17 #[.val (.int p1), .val (.int (3 : Int32)), .val (.ref t3), .unset, .unset] [])) _
      refine XS.iloadN X12.here hx rfl (hb hby at_17) rfl ?_
      show Steps p.tables e below (T12.setTop (mkF m 18 #[.val (.int p1), .val (.int (3 : Int32)), .val (.ref t3), .unset, .unset] [(.int (3 : Int32))])) _
      refine XS.iconst X12.here hx rfl (hb hby at_18) ?_
      show Steps p.tables e below (T12.setTop (mkF m 19 #[.val (.int p1), .val (.int (3 : Int32)), .val (.ref t3), .unset, .unset] [(.int (1 : Int32)), (.int (3 : Int32))])) _
      refine XS.icmpYes X12.here hx rfl (pc0 := 19) (pc' := 26) rfl (hb hby at_19) rfl (feq (by decide)).2 (by decide) (by decide) ?_
      show Steps p.tables e below (T12.setTop (mkF m 26 #[.val (.int p1), .val (.int (3 : Int32)), .val (.ref t3), .unset, .unset] [])) _
      refine XS.iconst X12.here hx rfl (hb hby at_26) ?_
      show Steps p.tables e below (T12.setTop (mkF m 27 #[.val (.int p1), .val (.int (3 : Int32)), .val (.ref t3), .unset, .unset] [(.int (0 : Int32))])) _
      refine XS.istoreN X12.here hx rfl (hb hby at_27) rfl (l' := #[.val (.int p1), .val (.int (3 : Int32)), .val (.ref t3), .val (.int (0 : Int32)), .unset]) rfl ?_
      show Steps p.tables e below (T12.setTop (mkF m 28 #[.val (.int p1), .val (.int (3 : Int32)), .val (.ref t3), .val (.int (0 : Int32)), .unset] [])) _
      refine XS.aloadN X12.here hx rfl (hb hby at_28) rfl rfl ?_
      show Steps p.tables e below (T12.setTop (mkF m 29 #[.val (.int p1), .val (.int (3 : Int32)), .val (.ref t3), .val (.int (0 : Int32)), .unset] [(.ref t3)])) _
      refine st13.trans ?_
      show Steps p.tables e below (T13.setTop (mkF m 32 #[.val (.int p1), .val (.int (3 : Int32)), .val (.ref t3), .val (.int (0 : Int32)), .unset] [(.int (0 : Int32))])) _
      refine XS.istore X13.here hx rfl (hb hby at_32) rfl (l' := #[.val (.int p1), .val (.int (3 : Int32)), .val (.ref t3), .val (.int (0 : Int32)), .val (.int (0 : Int32))]) rfl ?_
      show Steps p.tables e below (T13.setTop (mkF m 34 #[.val (.int p1), .val (.int (3 : Int32)), .val (.ref t3), .val (.int (0 : Int32)), .val (.int (0 : Int32))] [])) _
      refine XS.iload X13.here hx rfl (hb hby at_34) rfl ?_
      show Steps p.tables e below (T13.setTop (mkF m 36 #[.val (.int p1), .val (.int (3 : Int32)), .val (.ref t3), .val (.int (0 : Int32)), .val (.int (0 : Int32))] [(.int (0 : Int32))])) _
      refine XS.iloadN X13.here hx rfl (hb hby at_36) rfl ?_
      show Steps p.tables e below (T13.setTop (mkF m 37 #[.val (.int p1), .val (.int (3 : Int32)), .val (.ref t3), .val (.int (0 : Int32)), .val (.int (0 : Int32))] [(.int (0 : Int32)), (.int (0 : Int32))])) _
      refine XS.icmpYes X13.here hx rfl (pc0 := 37) (pc' := 42) rfl (hb hby at_37) rfl (teq (by decide)).1 (by decide) (by decide) ?_
      show Steps p.tables e below (T13.setTop (mkF m 42 #[.val (.int p1), .val (.int (3 : Int32)), .val (.ref t3), .val (.int (0 : Int32)), .val (.int (0 : Int32))] [])) _
      refine XS.iload X13.here hx rfl (hb hby at_42) rfl ?_
      show Steps p.tables e below (T13.setTop (mkF m 44 #[.val (.int p1), .val (.int (3 : Int32)), .val (.ref t3), .val (.int (0 : Int32)), .val (.int (0 : Int32))] [(.int (0 : Int32))])) _
      refine XS.ifYes X13.here hx rfl (pc0 := 44) (pc' := 67) rfl (hb hby at_44) rfl ((if0 _ _).trans (teq (by decide)).1) (by decide) (by decide) ?_
      show Steps p.tables e below (T13.setTop (mkF m 67 #[.val (.int p1), .val (.int (3 : Int32)), .val (.ref t3), .val (.int (0 : Int32)), .val (.int (0 : Int32))] [])) _
      refine XS.iconst X13.here hx rfl (hb hby at_67) ?_
      show Steps p.tables e below (T13.setTop (mkF m 68 #[.val (.int p1), .val (.int (3 : Int32)), .val (.ref t3), .val (.int (0 : Int32)), .val (.int (0 : Int32))] [(.int (1 : Int32))])) _
      exact retN X13 hx (t := .boolean) Bd.returns (by simp) (hb hby at_68) hr
    · show Q0 Z p1 t0 t1 t2 t3 t4 t5 t6 h0 n0 _ T13.heap _
      rw [e13]
      exact ⟨rfl, N13⟩
  · rw [hk] at c1
    obtain ⟨_, _, ⟨T14, L14, k14, n14⟩, -, X14, ⟨Lc14, hQ14, l14, y14, z14⟩, st14⟩ := Jvm.LawKit.callS X0 hx (y := (⟨"com/example/minuet/minuet/TypeIsNumberPinLaw", "pick", "(I)Lcom/example/minuet/minuet/Type;"⟩ : MethodName)) hown (mvT hZ (hw _ (List.mem_of_getElem? (i := 1) rfl))) (mvT hZ (hw _ (List.mem_of_getElem? (i := 2) rfl))) (mvT hZ (hw _ (List.mem_of_getElem? (i := 3) rfl))) (mvT hZ (hw _ (List.mem_of_getElem? (i := 4) rfl))) (by decide) (backOf (W := 0) (rm1k4 l Z a0 hw [] t4 h0 n0 Z0 S4) hZ (hw _ (List.mem_of_getElem? (i := 4) rfl)) (hw _ (List.mem_of_getElem? (i := 3) rfl)) (by decide) (by decide)) (g := (mkF m 9 #[.val (.int p1), .val (.int (4 : Int32)), .unset, .unset, .unset] [(.int (4 : Int32))])) rfl (by rw [hml]; rfl) (argsL := [(.int (4 : Int32))]) (rest := []) (lenOf pd0_0 rfl) rfl (by show 2 * 0 + _ ≤ _; exact Nat.le_of_eq rfl) (hb hby at_9) (fun _ _ => ⟨rfl, e0, (by decide : 0 + 0 ≤ _), (by decide : 0 + 0 ≤ _)⟩)
    dsimp only [Pt.U, Pt.locs, Pt.cells, Pt.slots] at X14 l14 y14 z14 st14 hQ14
    subst l14 y14 z14
    obtain ⟨rfl, N14q, e14⟩ := hQ14
    have N14 := Fr.app N0 N14q
    obtain ⟨cq15, kq15, q15a, q15b, q15c⟩ := isOf hZ e14 E4
    obtain ⟨_, _, ⟨T15, L15, k15, n15⟩, -, X15, ⟨Lc15, hQ15, l15, y15, z15⟩, st15⟩ := X14.virtualBack hx (y := (⟨"com/example/minuet/minuet/Type", "isNumber", "()Z"⟩ : MethodName)) (z := (⟨"com/example/minuet/minuet/Type", "isNumber", "()Z"⟩ : MethodName)) hown (mvT hZ (hw _ (List.mem_of_getElem? (i := 8) rfl))) (mvT hZ (hw _ (List.mem_of_getElem? (i := 9) rfl))) (notFace_of_selects (args := #[]) (mvT hZ (hw _ (List.mem_of_getElem? (i := 11) rfl)))) (mvT hZ (hw _ (List.mem_of_getElem? (i := 11) rfl))) (mvT hZ (hw _ (List.mem_of_getElem? (i := 10) rfl))) (by decide) (backOf (W := 0) (rm2C l Z a0 hw [] t4 t0 t1 h0 n0 Z0 S0 S1 ne40 ne41) hZ (hw _ (List.mem_of_getElem? (i := 12) rfl)) (hw _ (List.mem_of_getElem? (i := 6) rfl)) (by decide) (by decide)) q15a q15c (g := (mkF m 29 #[.val (.int p1), .val (.int (4 : Int32)), .val (.ref t4), .val (.int (0 : Int32)), .unset] [(.ref t4)])) rfl (by rw [hml]; rfl) (Steps.refl _) (argsL := []) (rest := []) (lenOf pd0_1 rfl) rfl (by show 2 * 0 + _ ≤ _; exact Nat.le_of_eq rfl) (hb hby at_29) (fun _ _ => ⟨rfl, e14, (by decide : 0 + 0 ≤ _), (by decide : 0 + 0 ≤ _)⟩)
    dsimp only [Pt.U, Pt.locs, Pt.cells, Pt.slots] at X15 l15 y15 z15 st15 hQ15
    subst l15 y15 z15
    obtain ⟨rfl, N15q, e15⟩ := hQ15
    have N15 := Fr.app N14 N15q
    obtain ⟨fs, hr, hrun, hended, hW, hsame⟩ := X15.leave (v := some (.int (1 : Int32))) (fun h => by rw [Bd.returns] at h; cases h)
    refine ⟨_, _, c1 _ ?_, hrun, hended, _, _, rfl, ?_, ⟨_, rfl⟩, hW, hsame.mono (by decide) (by decide)⟩
    · show Steps p.tables e below (s₁.setTop (mkF m 8 #[.val (.int p1), .val (.int (4 : Int32)), .unset, .unset, .unset] [])) _
      refine XS.iloadN X0.here hx rfl (hb hby at_8) rfl ?_
      show Steps p.tables e below (s₁.setTop (mkF m 9 #[.val (.int p1), .val (.int (4 : Int32)), .unset, .unset, .unset] [(.int (4 : Int32))])) _
      refine st14 _ ?_
      show Steps p.tables e below (T14.setTop (mkF m 12 #[.val (.int p1), .val (.int (4 : Int32)), .unset, .unset, .unset] [(.ref t4)])) _
      refine XS.astoreN X14.here hx rfl (hb hby at_12) rfl rfl (l' := #[.val (.int p1), .val (.int (4 : Int32)), .val (.ref t4), .unset, .unset]) rfl ?_
      show Steps p.tables e below (T14.setTop (mkF m 13 #[.val (.int p1), .val (.int (4 : Int32)), .val (.ref t4), .unset, .unset] [])) _
      refine XS.iloadN X14.here hx rfl (hb hby at_13) rfl ?_
      show Steps p.tables e below (T14.setTop (mkF m 14 #[.val (.int p1), .val (.int (4 : Int32)), .val (.ref t4), .unset, .unset] [(.int (4 : Int32))])) _
      refine XS.ifNo X14.here hx rfl (hb hby at_14) rfl ((if0 _ _).trans (feq (by decide)).1) ?_
      show Steps p.tables e below (T14.setTop (mkF m 17 #[.val (.int p1), .val (.int (4 : Int32)), .val (.ref t4), .unset, .unset] [])) _
      refine XS.iloadN X14.here hx rfl (hb hby at_17) rfl ?_
      show Steps p.tables e below (T14.setTop (mkF m 18 #[.val (.int p1), .val (.int (4 : Int32)), .val (.ref t4), .unset, .unset] [(.int (4 : Int32))])) _
      refine XS.iconst X14.here hx rfl (hb hby at_18) ?_
      show Steps p.tables e below (T14.setTop (mkF m 19 #[.val (.int p1), .val (.int (4 : Int32)), .val (.ref t4), .unset, .unset] [(.int (1 : Int32)), (.int (4 : Int32))])) _
      refine XS.icmpYes X14.here hx rfl (pc0 := 19) (pc' := 26) rfl (hb hby at_19) rfl (feq (by decide)).2 (by decide) (by decide) ?_
      show Steps p.tables e below (T14.setTop (mkF m 26 #[.val (.int p1), .val (.int (4 : Int32)), .val (.ref t4), .unset, .unset] [])) _
      refine XS.iconst X14.here hx rfl (hb hby at_26) ?_
      show Steps p.tables e below (T14.setTop (mkF m 27 #[.val (.int p1), .val (.int (4 : Int32)), .val (.ref t4), .unset, .unset] [(.int (0 : Int32))])) _
      refine XS.istoreN X14.here hx rfl (hb hby at_27) rfl (l' := #[.val (.int p1), .val (.int (4 : Int32)), .val (.ref t4), .val (.int (0 : Int32)), .unset]) rfl ?_
      show Steps p.tables e below (T14.setTop (mkF m 28 #[.val (.int p1), .val (.int (4 : Int32)), .val (.ref t4), .val (.int (0 : Int32)), .unset] [])) _
      refine XS.aloadN X14.here hx rfl (hb hby at_28) rfl rfl ?_
      show Steps p.tables e below (T14.setTop (mkF m 29 #[.val (.int p1), .val (.int (4 : Int32)), .val (.ref t4), .val (.int (0 : Int32)), .unset] [(.ref t4)])) _
      refine st15.trans ?_
      show Steps p.tables e below (T15.setTop (mkF m 32 #[.val (.int p1), .val (.int (4 : Int32)), .val (.ref t4), .val (.int (0 : Int32)), .unset] [(.int (0 : Int32))])) _
      refine XS.istore X15.here hx rfl (hb hby at_32) rfl (l' := #[.val (.int p1), .val (.int (4 : Int32)), .val (.ref t4), .val (.int (0 : Int32)), .val (.int (0 : Int32))]) rfl ?_
      show Steps p.tables e below (T15.setTop (mkF m 34 #[.val (.int p1), .val (.int (4 : Int32)), .val (.ref t4), .val (.int (0 : Int32)), .val (.int (0 : Int32))] [])) _
      refine XS.iload X15.here hx rfl (hb hby at_34) rfl ?_
      show Steps p.tables e below (T15.setTop (mkF m 36 #[.val (.int p1), .val (.int (4 : Int32)), .val (.ref t4), .val (.int (0 : Int32)), .val (.int (0 : Int32))] [(.int (0 : Int32))])) _
      refine XS.iloadN X15.here hx rfl (hb hby at_36) rfl ?_
      show Steps p.tables e below (T15.setTop (mkF m 37 #[.val (.int p1), .val (.int (4 : Int32)), .val (.ref t4), .val (.int (0 : Int32)), .val (.int (0 : Int32))] [(.int (0 : Int32)), (.int (0 : Int32))])) _
      refine XS.icmpYes X15.here hx rfl (pc0 := 37) (pc' := 42) rfl (hb hby at_37) rfl (teq (by decide)).1 (by decide) (by decide) ?_
      show Steps p.tables e below (T15.setTop (mkF m 42 #[.val (.int p1), .val (.int (4 : Int32)), .val (.ref t4), .val (.int (0 : Int32)), .val (.int (0 : Int32))] [])) _
      refine XS.iload X15.here hx rfl (hb hby at_42) rfl ?_
      show Steps p.tables e below (T15.setTop (mkF m 44 #[.val (.int p1), .val (.int (4 : Int32)), .val (.ref t4), .val (.int (0 : Int32)), .val (.int (0 : Int32))] [(.int (0 : Int32))])) _
      refine XS.ifYes X15.here hx rfl (pc0 := 44) (pc' := 67) rfl (hb hby at_44) rfl ((if0 _ _).trans (teq (by decide)).1) (by decide) (by decide) ?_
      show Steps p.tables e below (T15.setTop (mkF m 67 #[.val (.int p1), .val (.int (4 : Int32)), .val (.ref t4), .val (.int (0 : Int32)), .val (.int (0 : Int32))] [])) _
      refine XS.iconst X15.here hx rfl (hb hby at_67) ?_
      show Steps p.tables e below (T15.setTop (mkF m 68 #[.val (.int p1), .val (.int (4 : Int32)), .val (.ref t4), .val (.int (0 : Int32)), .val (.int (0 : Int32))] [(.int (1 : Int32))])) _
      exact retN X15 hx (t := .boolean) Bd.returns (by simp) (hb hby at_68) hr
    · show Q0 Z p1 t0 t1 t2 t3 t4 t5 t6 h0 n0 _ T15.heap _
      rw [e15]
      exact ⟨rfl, N15⟩
  · rw [hk] at c1
    obtain ⟨_, _, ⟨T16, L16, k16, n16⟩, -, X16, ⟨Lc16, hQ16, l16, y16, z16⟩, st16⟩ := Jvm.LawKit.callS X0 hx (y := (⟨"com/example/minuet/minuet/TypeIsNumberPinLaw", "pick", "(I)Lcom/example/minuet/minuet/Type;"⟩ : MethodName)) hown (mvT hZ (hw _ (List.mem_of_getElem? (i := 1) rfl))) (mvT hZ (hw _ (List.mem_of_getElem? (i := 2) rfl))) (mvT hZ (hw _ (List.mem_of_getElem? (i := 3) rfl))) (mvT hZ (hw _ (List.mem_of_getElem? (i := 4) rfl))) (by decide) (backOf (W := 0) (rm1k5 l Z a0 hw [] t5 h0 n0 Z0 S5) hZ (hw _ (List.mem_of_getElem? (i := 4) rfl)) (hw _ (List.mem_of_getElem? (i := 3) rfl)) (by decide) (by decide)) (g := (mkF m 9 #[.val (.int p1), .val (.int (5 : Int32)), .unset, .unset, .unset] [(.int (5 : Int32))])) rfl (by rw [hml]; rfl) (argsL := [(.int (5 : Int32))]) (rest := []) (lenOf pd0_0 rfl) rfl (by show 2 * 0 + _ ≤ _; exact Nat.le_of_eq rfl) (hb hby at_9) (fun _ _ => ⟨rfl, e0, (by decide : 0 + 0 ≤ _), (by decide : 0 + 0 ≤ _)⟩)
    dsimp only [Pt.U, Pt.locs, Pt.cells, Pt.slots] at X16 l16 y16 z16 st16 hQ16
    subst l16 y16 z16
    obtain ⟨rfl, N16q, e16⟩ := hQ16
    have N16 := Fr.app N0 N16q
    obtain ⟨cq17, kq17, q17a, q17b, q17c⟩ := isOf hZ e16 E5
    obtain ⟨_, _, ⟨T17, L17, k17, n17⟩, -, X17, ⟨Lc17, hQ17, l17, y17, z17⟩, st17⟩ := X16.virtualBack hx (y := (⟨"com/example/minuet/minuet/Type", "isNumber", "()Z"⟩ : MethodName)) (z := (⟨"com/example/minuet/minuet/Type", "isNumber", "()Z"⟩ : MethodName)) hown (mvT hZ (hw _ (List.mem_of_getElem? (i := 8) rfl))) (mvT hZ (hw _ (List.mem_of_getElem? (i := 9) rfl))) (notFace_of_selects (args := #[]) (mvT hZ (hw _ (List.mem_of_getElem? (i := 11) rfl)))) (mvT hZ (hw _ (List.mem_of_getElem? (i := 11) rfl))) (mvT hZ (hw _ (List.mem_of_getElem? (i := 10) rfl))) (by decide) (backOf (W := 0) (rm2C l Z a0 hw [] t5 t0 t1 h0 n0 Z0 S0 S1 ne50 ne51) hZ (hw _ (List.mem_of_getElem? (i := 12) rfl)) (hw _ (List.mem_of_getElem? (i := 6) rfl)) (by decide) (by decide)) q17a q17c (g := (mkF m 29 #[.val (.int p1), .val (.int (5 : Int32)), .val (.ref t5), .val (.int (0 : Int32)), .unset] [(.ref t5)])) rfl (by rw [hml]; rfl) (Steps.refl _) (argsL := []) (rest := []) (lenOf pd0_1 rfl) rfl (by show 2 * 0 + _ ≤ _; exact Nat.le_of_eq rfl) (hb hby at_29) (fun _ _ => ⟨rfl, e16, (by decide : 0 + 0 ≤ _), (by decide : 0 + 0 ≤ _)⟩)
    dsimp only [Pt.U, Pt.locs, Pt.cells, Pt.slots] at X17 l17 y17 z17 st17 hQ17
    subst l17 y17 z17
    obtain ⟨rfl, N17q, e17⟩ := hQ17
    have N17 := Fr.app N16 N17q
    obtain ⟨fs, hr, hrun, hended, hW, hsame⟩ := X17.leave (v := some (.int (1 : Int32))) (fun h => by rw [Bd.returns] at h; cases h)
    refine ⟨_, _, c1 _ ?_, hrun, hended, _, _, rfl, ?_, ⟨_, rfl⟩, hW, hsame.mono (by decide) (by decide)⟩
    · show Steps p.tables e below (s₁.setTop (mkF m 8 #[.val (.int p1), .val (.int (5 : Int32)), .unset, .unset, .unset] [])) _
      refine XS.iloadN X0.here hx rfl (hb hby at_8) rfl ?_
      show Steps p.tables e below (s₁.setTop (mkF m 9 #[.val (.int p1), .val (.int (5 : Int32)), .unset, .unset, .unset] [(.int (5 : Int32))])) _
      refine st16 _ ?_
      show Steps p.tables e below (T16.setTop (mkF m 12 #[.val (.int p1), .val (.int (5 : Int32)), .unset, .unset, .unset] [(.ref t5)])) _
      refine XS.astoreN X16.here hx rfl (hb hby at_12) rfl rfl (l' := #[.val (.int p1), .val (.int (5 : Int32)), .val (.ref t5), .unset, .unset]) rfl ?_
      show Steps p.tables e below (T16.setTop (mkF m 13 #[.val (.int p1), .val (.int (5 : Int32)), .val (.ref t5), .unset, .unset] [])) _
      refine XS.iloadN X16.here hx rfl (hb hby at_13) rfl ?_
      show Steps p.tables e below (T16.setTop (mkF m 14 #[.val (.int p1), .val (.int (5 : Int32)), .val (.ref t5), .unset, .unset] [(.int (5 : Int32))])) _
      refine XS.ifNo X16.here hx rfl (hb hby at_14) rfl ((if0 _ _).trans (feq (by decide)).1) ?_
      show Steps p.tables e below (T16.setTop (mkF m 17 #[.val (.int p1), .val (.int (5 : Int32)), .val (.ref t5), .unset, .unset] [])) _
      refine XS.iloadN X16.here hx rfl (hb hby at_17) rfl ?_
      show Steps p.tables e below (T16.setTop (mkF m 18 #[.val (.int p1), .val (.int (5 : Int32)), .val (.ref t5), .unset, .unset] [(.int (5 : Int32))])) _
      refine XS.iconst X16.here hx rfl (hb hby at_18) ?_
      show Steps p.tables e below (T16.setTop (mkF m 19 #[.val (.int p1), .val (.int (5 : Int32)), .val (.ref t5), .unset, .unset] [(.int (1 : Int32)), (.int (5 : Int32))])) _
      refine XS.icmpYes X16.here hx rfl (pc0 := 19) (pc' := 26) rfl (hb hby at_19) rfl (feq (by decide)).2 (by decide) (by decide) ?_
      show Steps p.tables e below (T16.setTop (mkF m 26 #[.val (.int p1), .val (.int (5 : Int32)), .val (.ref t5), .unset, .unset] [])) _
      refine XS.iconst X16.here hx rfl (hb hby at_26) ?_
      show Steps p.tables e below (T16.setTop (mkF m 27 #[.val (.int p1), .val (.int (5 : Int32)), .val (.ref t5), .unset, .unset] [(.int (0 : Int32))])) _
      refine XS.istoreN X16.here hx rfl (hb hby at_27) rfl (l' := #[.val (.int p1), .val (.int (5 : Int32)), .val (.ref t5), .val (.int (0 : Int32)), .unset]) rfl ?_
      show Steps p.tables e below (T16.setTop (mkF m 28 #[.val (.int p1), .val (.int (5 : Int32)), .val (.ref t5), .val (.int (0 : Int32)), .unset] [])) _
      refine XS.aloadN X16.here hx rfl (hb hby at_28) rfl rfl ?_
      show Steps p.tables e below (T16.setTop (mkF m 29 #[.val (.int p1), .val (.int (5 : Int32)), .val (.ref t5), .val (.int (0 : Int32)), .unset] [(.ref t5)])) _
      refine st17.trans ?_
      show Steps p.tables e below (T17.setTop (mkF m 32 #[.val (.int p1), .val (.int (5 : Int32)), .val (.ref t5), .val (.int (0 : Int32)), .unset] [(.int (0 : Int32))])) _
      refine XS.istore X17.here hx rfl (hb hby at_32) rfl (l' := #[.val (.int p1), .val (.int (5 : Int32)), .val (.ref t5), .val (.int (0 : Int32)), .val (.int (0 : Int32))]) rfl ?_
      show Steps p.tables e below (T17.setTop (mkF m 34 #[.val (.int p1), .val (.int (5 : Int32)), .val (.ref t5), .val (.int (0 : Int32)), .val (.int (0 : Int32))] [])) _
      refine XS.iload X17.here hx rfl (hb hby at_34) rfl ?_
      show Steps p.tables e below (T17.setTop (mkF m 36 #[.val (.int p1), .val (.int (5 : Int32)), .val (.ref t5), .val (.int (0 : Int32)), .val (.int (0 : Int32))] [(.int (0 : Int32))])) _
      refine XS.iloadN X17.here hx rfl (hb hby at_36) rfl ?_
      show Steps p.tables e below (T17.setTop (mkF m 37 #[.val (.int p1), .val (.int (5 : Int32)), .val (.ref t5), .val (.int (0 : Int32)), .val (.int (0 : Int32))] [(.int (0 : Int32)), (.int (0 : Int32))])) _
      refine XS.icmpYes X17.here hx rfl (pc0 := 37) (pc' := 42) rfl (hb hby at_37) rfl (teq (by decide)).1 (by decide) (by decide) ?_
      show Steps p.tables e below (T17.setTop (mkF m 42 #[.val (.int p1), .val (.int (5 : Int32)), .val (.ref t5), .val (.int (0 : Int32)), .val (.int (0 : Int32))] [])) _
      refine XS.iload X17.here hx rfl (hb hby at_42) rfl ?_
      show Steps p.tables e below (T17.setTop (mkF m 44 #[.val (.int p1), .val (.int (5 : Int32)), .val (.ref t5), .val (.int (0 : Int32)), .val (.int (0 : Int32))] [(.int (0 : Int32))])) _
      refine XS.ifYes X17.here hx rfl (pc0 := 44) (pc' := 67) rfl (hb hby at_44) rfl ((if0 _ _).trans (teq (by decide)).1) (by decide) (by decide) ?_
      show Steps p.tables e below (T17.setTop (mkF m 67 #[.val (.int p1), .val (.int (5 : Int32)), .val (.ref t5), .val (.int (0 : Int32)), .val (.int (0 : Int32))] [])) _
      refine XS.iconst X17.here hx rfl (hb hby at_67) ?_
      show Steps p.tables e below (T17.setTop (mkF m 68 #[.val (.int p1), .val (.int (5 : Int32)), .val (.ref t5), .val (.int (0 : Int32)), .val (.int (0 : Int32))] [(.int (1 : Int32))])) _
      exact retN X17 hx (t := .boolean) Bd.returns (by simp) (hb hby at_68) hr
    · show Q0 Z p1 t0 t1 t2 t3 t4 t5 t6 h0 n0 _ T17.heap _
      rw [e17]
      exact ⟨rfl, N17⟩
  · rw [hk] at c1
    obtain ⟨_, _, ⟨T18, L18, k18, n18⟩, -, X18, ⟨Lc18, hQ18, l18, y18, z18⟩, st18⟩ := Jvm.LawKit.callS X0 hx (y := (⟨"com/example/minuet/minuet/TypeIsNumberPinLaw", "pick", "(I)Lcom/example/minuet/minuet/Type;"⟩ : MethodName)) hown (mvT hZ (hw _ (List.mem_of_getElem? (i := 1) rfl))) (mvT hZ (hw _ (List.mem_of_getElem? (i := 2) rfl))) (mvT hZ (hw _ (List.mem_of_getElem? (i := 3) rfl))) (mvT hZ (hw _ (List.mem_of_getElem? (i := 4) rfl))) (by decide) (backOf (W := 0) (rm1k6 l Z a0 hw [] t6 h0 n0 Z0 S6) hZ (hw _ (List.mem_of_getElem? (i := 4) rfl)) (hw _ (List.mem_of_getElem? (i := 3) rfl)) (by decide) (by decide)) (g := (mkF m 9 #[.val (.int p1), .val (.int (6 : Int32)), .unset, .unset, .unset] [(.int (6 : Int32))])) rfl (by rw [hml]; rfl) (argsL := [(.int (6 : Int32))]) (rest := []) (lenOf pd0_0 rfl) rfl (by show 2 * 0 + _ ≤ _; exact Nat.le_of_eq rfl) (hb hby at_9) (fun _ _ => ⟨rfl, e0, (by decide : 0 + 0 ≤ _), (by decide : 0 + 0 ≤ _)⟩)
    dsimp only [Pt.U, Pt.locs, Pt.cells, Pt.slots] at X18 l18 y18 z18 st18 hQ18
    subst l18 y18 z18
    obtain ⟨rfl, N18q, e18⟩ := hQ18
    have N18 := Fr.app N0 N18q
    obtain ⟨cq19, kq19, q19a, q19b, q19c⟩ := isOf hZ e18 E6
    obtain ⟨_, _, ⟨T19, L19, k19, n19⟩, -, X19, ⟨Lc19, hQ19, l19, y19, z19⟩, st19⟩ := X18.virtualBack hx (y := (⟨"com/example/minuet/minuet/Type", "isNumber", "()Z"⟩ : MethodName)) (z := (⟨"com/example/minuet/minuet/Type", "isNumber", "()Z"⟩ : MethodName)) hown (mvT hZ (hw _ (List.mem_of_getElem? (i := 8) rfl))) (mvT hZ (hw _ (List.mem_of_getElem? (i := 9) rfl))) (notFace_of_selects (args := #[]) (mvT hZ (hw _ (List.mem_of_getElem? (i := 11) rfl)))) (mvT hZ (hw _ (List.mem_of_getElem? (i := 11) rfl))) (mvT hZ (hw _ (List.mem_of_getElem? (i := 10) rfl))) (by decide) (backOf (W := 0) (rm2C l Z a0 hw [] t6 t0 t1 h0 n0 Z0 S0 S1 ne60 ne61) hZ (hw _ (List.mem_of_getElem? (i := 12) rfl)) (hw _ (List.mem_of_getElem? (i := 6) rfl)) (by decide) (by decide)) q19a q19c (g := (mkF m 29 #[.val (.int p1), .val (.int (6 : Int32)), .val (.ref t6), .val (.int (0 : Int32)), .unset] [(.ref t6)])) rfl (by rw [hml]; rfl) (Steps.refl _) (argsL := []) (rest := []) (lenOf pd0_1 rfl) rfl (by show 2 * 0 + _ ≤ _; exact Nat.le_of_eq rfl) (hb hby at_29) (fun _ _ => ⟨rfl, e18, (by decide : 0 + 0 ≤ _), (by decide : 0 + 0 ≤ _)⟩)
    dsimp only [Pt.U, Pt.locs, Pt.cells, Pt.slots] at X19 l19 y19 z19 st19 hQ19
    subst l19 y19 z19
    obtain ⟨rfl, N19q, e19⟩ := hQ19
    have N19 := Fr.app N18 N19q
    obtain ⟨fs, hr, hrun, hended, hW, hsame⟩ := X19.leave (v := some (.int (1 : Int32))) (fun h => by rw [Bd.returns] at h; cases h)
    refine ⟨_, _, c1 _ ?_, hrun, hended, _, _, rfl, ?_, ⟨_, rfl⟩, hW, hsame.mono (by decide) (by decide)⟩
    · show Steps p.tables e below (s₁.setTop (mkF m 8 #[.val (.int p1), .val (.int (6 : Int32)), .unset, .unset, .unset] [])) _
      refine XS.iloadN X0.here hx rfl (hb hby at_8) rfl ?_
      show Steps p.tables e below (s₁.setTop (mkF m 9 #[.val (.int p1), .val (.int (6 : Int32)), .unset, .unset, .unset] [(.int (6 : Int32))])) _
      refine st18 _ ?_
      show Steps p.tables e below (T18.setTop (mkF m 12 #[.val (.int p1), .val (.int (6 : Int32)), .unset, .unset, .unset] [(.ref t6)])) _
      refine XS.astoreN X18.here hx rfl (hb hby at_12) rfl rfl (l' := #[.val (.int p1), .val (.int (6 : Int32)), .val (.ref t6), .unset, .unset]) rfl ?_
      show Steps p.tables e below (T18.setTop (mkF m 13 #[.val (.int p1), .val (.int (6 : Int32)), .val (.ref t6), .unset, .unset] [])) _
      refine XS.iloadN X18.here hx rfl (hb hby at_13) rfl ?_
      show Steps p.tables e below (T18.setTop (mkF m 14 #[.val (.int p1), .val (.int (6 : Int32)), .val (.ref t6), .unset, .unset] [(.int (6 : Int32))])) _
      refine XS.ifNo X18.here hx rfl (hb hby at_14) rfl ((if0 _ _).trans (feq (by decide)).1) ?_
      show Steps p.tables e below (T18.setTop (mkF m 17 #[.val (.int p1), .val (.int (6 : Int32)), .val (.ref t6), .unset, .unset] [])) _
      refine XS.iloadN X18.here hx rfl (hb hby at_17) rfl ?_
      show Steps p.tables e below (T18.setTop (mkF m 18 #[.val (.int p1), .val (.int (6 : Int32)), .val (.ref t6), .unset, .unset] [(.int (6 : Int32))])) _
      refine XS.iconst X18.here hx rfl (hb hby at_18) ?_
      show Steps p.tables e below (T18.setTop (mkF m 19 #[.val (.int p1), .val (.int (6 : Int32)), .val (.ref t6), .unset, .unset] [(.int (1 : Int32)), (.int (6 : Int32))])) _
      refine XS.icmpYes X18.here hx rfl (pc0 := 19) (pc' := 26) rfl (hb hby at_19) rfl (feq (by decide)).2 (by decide) (by decide) ?_
      show Steps p.tables e below (T18.setTop (mkF m 26 #[.val (.int p1), .val (.int (6 : Int32)), .val (.ref t6), .unset, .unset] [])) _
      refine XS.iconst X18.here hx rfl (hb hby at_26) ?_
      show Steps p.tables e below (T18.setTop (mkF m 27 #[.val (.int p1), .val (.int (6 : Int32)), .val (.ref t6), .unset, .unset] [(.int (0 : Int32))])) _
      refine XS.istoreN X18.here hx rfl (hb hby at_27) rfl (l' := #[.val (.int p1), .val (.int (6 : Int32)), .val (.ref t6), .val (.int (0 : Int32)), .unset]) rfl ?_
      show Steps p.tables e below (T18.setTop (mkF m 28 #[.val (.int p1), .val (.int (6 : Int32)), .val (.ref t6), .val (.int (0 : Int32)), .unset] [])) _
      refine XS.aloadN X18.here hx rfl (hb hby at_28) rfl rfl ?_
      show Steps p.tables e below (T18.setTop (mkF m 29 #[.val (.int p1), .val (.int (6 : Int32)), .val (.ref t6), .val (.int (0 : Int32)), .unset] [(.ref t6)])) _
      refine st19.trans ?_
      show Steps p.tables e below (T19.setTop (mkF m 32 #[.val (.int p1), .val (.int (6 : Int32)), .val (.ref t6), .val (.int (0 : Int32)), .unset] [(.int (0 : Int32))])) _
      refine XS.istore X19.here hx rfl (hb hby at_32) rfl (l' := #[.val (.int p1), .val (.int (6 : Int32)), .val (.ref t6), .val (.int (0 : Int32)), .val (.int (0 : Int32))]) rfl ?_
      show Steps p.tables e below (T19.setTop (mkF m 34 #[.val (.int p1), .val (.int (6 : Int32)), .val (.ref t6), .val (.int (0 : Int32)), .val (.int (0 : Int32))] [])) _
      refine XS.iload X19.here hx rfl (hb hby at_34) rfl ?_
      show Steps p.tables e below (T19.setTop (mkF m 36 #[.val (.int p1), .val (.int (6 : Int32)), .val (.ref t6), .val (.int (0 : Int32)), .val (.int (0 : Int32))] [(.int (0 : Int32))])) _
      refine XS.iloadN X19.here hx rfl (hb hby at_36) rfl ?_
      show Steps p.tables e below (T19.setTop (mkF m 37 #[.val (.int p1), .val (.int (6 : Int32)), .val (.ref t6), .val (.int (0 : Int32)), .val (.int (0 : Int32))] [(.int (0 : Int32)), (.int (0 : Int32))])) _
      refine XS.icmpYes X19.here hx rfl (pc0 := 37) (pc' := 42) rfl (hb hby at_37) rfl (teq (by decide)).1 (by decide) (by decide) ?_
      show Steps p.tables e below (T19.setTop (mkF m 42 #[.val (.int p1), .val (.int (6 : Int32)), .val (.ref t6), .val (.int (0 : Int32)), .val (.int (0 : Int32))] [])) _
      refine XS.iload X19.here hx rfl (hb hby at_42) rfl ?_
      show Steps p.tables e below (T19.setTop (mkF m 44 #[.val (.int p1), .val (.int (6 : Int32)), .val (.ref t6), .val (.int (0 : Int32)), .val (.int (0 : Int32))] [(.int (0 : Int32))])) _
      refine XS.ifYes X19.here hx rfl (pc0 := 44) (pc' := 67) rfl (hb hby at_44) rfl ((if0 _ _).trans (teq (by decide)).1) (by decide) (by decide) ?_
      show Steps p.tables e below (T19.setTop (mkF m 67 #[.val (.int p1), .val (.int (6 : Int32)), .val (.ref t6), .val (.int (0 : Int32)), .val (.int (0 : Int32))] [])) _
      refine XS.iconst X19.here hx rfl (hb hby at_67) ?_
      show Steps p.tables e below (T19.setTop (mkF m 68 #[.val (.int p1), .val (.int (6 : Int32)), .val (.ref t6), .val (.int (0 : Int32)), .val (.int (0 : Int32))] [(.int (1 : Int32))])) _
      exact retN X19 hx (t := .boolean) Bd.returns (by simp) (hb hby at_68) hr
    · show Q0 Z p1 t0 t1 t2 t3 t4 t5 t6 h0 n0 _ T19.heap _
      rw [e19]
      exact ⟨rfl, N19⟩
set_option maxRecDepth 65536 in
set_option maxHeartbeats 40000000 in
theorem comes_1 {Post : Tables → Env → Array Value → State → Outcome → State → Prop} (hpost : ∀ tb e args s v u, (limb_1_1.after args s (.returned v) u = true ∧ limb_1_2.after args s (.returned v) u = true ∧ True) → FrameEnd s (.returned v) u (Jvm.fieldLocs frame_1_writes args s ++ Jvm.arrayLocs frame_1_arrays args s ++ Jvm.staticLocs frame_1_statics s) 0 0 → Post tb e args s (.returned v) u) :
    ArmFor flags0 classFile x code maxLocals ret World_1 tables_1 room_1 Calls_1 rest_1 Pre_1 Post := by
  intro l hfl _ _ p e ha hc hk s m args below hf hA hF happ hP
  obtain ⟨hcalls, hrest, hpre⟩ := hP
  obtain ⟨-, -, -, hnamed, -, -, -, hat⟩ := (Spec.applies_iff hf).mp happ
  obtain ⟨hg, hn⟩ := and_e (Cond.before_iff.mp (show (Jvm.Cond.and given_1 narrow_1).before args s = true from hpre))
  obtain ⟨gc, g0⟩ := and_e hg
  obtain ⟨w0, rfl⟩ : ∃ w0 : Value, args = #[w0] := by
    have hs : args.size = 1 := by simpa [Cond.value, given_1] using gc
    obtain ⟨L⟩ := args
    match L, hs with
    | [w0], _ => exact ⟨w0, rfl⟩
  have hw := fun d (hd : d ∈ tables_1) => atoms_spec (ws := Jvm.Cond.code x code maxLocals ret :: tables_1) hat d (List.mem_cons_of_mem _ hd)
  have hfit : Fit s := fun {y c} hc i hi => by
    obtain ⟨ha, rfl⟩ := Array.getElem?_eq_some_iff.mp hc
    have q := List.all_eq_true.mp ((Array.all_eq_true_iff_forall_mem.mp hF) _ (Array.getElem_mem ha)) i (List.mem_range.mpr hi)
    simpa [Array.getElem?_eq_getElem hi] using q
  obtain ⟨i0, ei0⟩ := is_v g0
  obtain rfl : w0 = (.int i0) := Option.some.inj ei0
  obtain ⟨nxINT, rxINT⟩ := and_e hn
  obtain ⟨neINT, reINT⟩ := and_e rxINT
  obtain ⟨nxVOID, rxVOID⟩ := and_e reINT
  obtain ⟨noVOID, roVOID⟩ := and_e rxVOID
  obtain ⟨noINT, roINT⟩ := and_e roVOID
  obtain ⟨nxFLOAT, rxFLOAT⟩ := and_e roINT
  obtain ⟨noFLOAT, roFLOAT⟩ := and_e rxFLOAT
  obtain ⟨nxFLOAT_ARRAY, rxFLOAT_ARRAY⟩ := and_e roFLOAT
  obtain ⟨noFLOAT_ARRAY, roFLOAT_ARRAY⟩ := and_e rxFLOAT_ARRAY
  obtain ⟨nxBOOL_ARRAY, rxBOOL_ARRAY⟩ := and_e roFLOAT_ARRAY
  obtain ⟨noBOOL_ARRAY, roBOOL_ARRAY⟩ := and_e rxBOOL_ARRAY
  obtain ⟨nxINT_ARRAY, rxINT_ARRAY⟩ := and_e roBOOL_ARRAY
  obtain ⟨noINT_ARRAY, roINT_ARRAY⟩ := and_e rxINT_ARRAY
  obtain ⟨nxBOOL, rxBOOL⟩ := and_e roINT_ARRAY
  obtain ⟨noBOOL, roBOOL⟩ := and_e rxBOOL
  obtain ⟨neFLOAT, reFLOAT⟩ := and_e roBOOL
  obtain ⟨t0, et0⟩ := exa_v nxINT
  have E0 := Exa.start et0 nxINT
  have S0 : Sta s s.heap "com/example/minuet/minuet/Type" "INT" "Lcom/example/minuet/minuet/Type;" (.ref t0) := Sta.start et0 (Or.inr ⟨(hw _ (List.mem_of_getElem? (i := 6) rfl)), (hw _ (List.mem_of_getElem? (i := 7) rfl))⟩)
  have O0 := Fld.start ((fld_at et0).symm.trans (eqv_i (Term.int_eval (0)) noINT))
  obtain ⟨t1, et1⟩ := exa_v nxFLOAT
  have E1 := Exa.start et1 nxFLOAT
  have S1 : Sta s s.heap "com/example/minuet/minuet/Type" "FLOAT" "Lcom/example/minuet/minuet/Type;" (.ref t1) := Sta.start et1 (Or.inr ⟨(hw _ (List.mem_of_getElem? (i := 6) rfl)), (hw _ (List.mem_of_getElem? (i := 29) rfl))⟩)
  have O1 := Fld.start ((fld_at et1).symm.trans (eqv_i (Term.int_eval (1)) noFLOAT))
  obtain ⟨t2, et2⟩ := exa_v nxBOOL
  have E2 := Exa.start et2 nxBOOL
  have S2 : Sta s s.heap "com/example/minuet/minuet/Type" "BOOL" "Lcom/example/minuet/minuet/Type;" (.ref t2) := Sta.start et2 (Or.inr ⟨(hw _ (List.mem_of_getElem? (i := 6) rfl)), (hw _ (List.mem_of_getElem? (i := 37) rfl))⟩)
  have O2 := Fld.start ((fld_at et2).symm.trans (eqv_i (Term.int_eval (2)) noBOOL))
  obtain ⟨t3, et3⟩ := exa_v nxVOID
  have E3 := Exa.start et3 nxVOID
  have S3 : Sta s s.heap "com/example/minuet/minuet/Type" "VOID" "Lcom/example/minuet/minuet/Type;" (.ref t3) := Sta.start et3 (Or.inr ⟨(hw _ (List.mem_of_getElem? (i := 6) rfl)), (hw _ (List.mem_of_getElem? (i := 27) rfl))⟩)
  have O3 := Fld.start ((fld_at et3).symm.trans (eqv_i (Term.int_eval (3)) noVOID))
  obtain ⟨t4, et4⟩ := exa_v nxINT_ARRAY
  have E4 := Exa.start et4 nxINT_ARRAY
  have S4 : Sta s s.heap "com/example/minuet/minuet/Type" "INT_ARRAY" "Lcom/example/minuet/minuet/Type;" (.ref t4) := Sta.start et4 (Or.inr ⟨(hw _ (List.mem_of_getElem? (i := 6) rfl)), (hw _ (List.mem_of_getElem? (i := 35) rfl))⟩)
  have O4 := Fld.start ((fld_at et4).symm.trans (eqv_i (Term.int_eval (4)) noINT_ARRAY))
  obtain ⟨t5, et5⟩ := exa_v nxFLOAT_ARRAY
  have E5 := Exa.start et5 nxFLOAT_ARRAY
  have S5 : Sta s s.heap "com/example/minuet/minuet/Type" "FLOAT_ARRAY" "Lcom/example/minuet/minuet/Type;" (.ref t5) := Sta.start et5 (Or.inr ⟨(hw _ (List.mem_of_getElem? (i := 6) rfl)), (hw _ (List.mem_of_getElem? (i := 31) rfl))⟩)
  have O5 := Fld.start ((fld_at et5).symm.trans (eqv_i (Term.int_eval (5)) noFLOAT_ARRAY))
  obtain ⟨t6, et6⟩ := exa_v nxBOOL_ARRAY
  have E6 := Exa.start et6 nxBOOL_ARRAY
  have S6 : Sta s s.heap "com/example/minuet/minuet/Type" "BOOL_ARRAY" "Lcom/example/minuet/minuet/Type;" (.ref t6) := Sta.start et6 (Or.inr ⟨(hw _ (List.mem_of_getElem? (i := 6) rfl)), (hw _ (List.mem_of_getElem? (i := 33) rfl))⟩)
  have O6 := Fld.start ((fld_at et6).symm.trans (eqv_i (Term.int_eval (6)) noBOOL_ARRAY))
  have Fe0 := Fld.start ((fld_at et0).symm.trans (null_v neINT))
  have Fe1 := Fld.start ((fld_at et1).symm.trans (null_v neFLOAT))
  have ne10 : ¬ t1 = t0 := O1.ne O0 (by decide)
  have ne20 : ¬ t2 = t0 := O2.ne O0 (by decide)
  have ne30 : ¬ t3 = t0 := O3.ne O0 (by decide)
  have ne40 : ¬ t4 = t0 := O4.ne O0 (by decide)
  have ne50 : ¬ t5 = t0 := O5.ne O0 (by decide)
  have ne60 : ¬ t6 = t0 := O6.ne O0 (by decide)
  have ne21 : ¬ t2 = t1 := O2.ne O1 (by decide)
  have ne31 : ¬ t3 = t1 := O3.ne O1 (by decide)
  have ne41 : ¬ t4 = t1 := O4.ne O1 (by decide)
  have ne51 : ¬ t5 = t1 := O5.ne O1 (by decide)
  have ne61 : ¬ t6 = t1 := O6.ne O1 (by decide)
  obtain ⟨n, o, h1, h2, h3, _, L, rfl, ⟨rfl, N⟩, hq⟩ := rm0 l s _ hw tables_1 i0 t0 t1 t2 t3 t4 t5 t6 s.heap s.heap.size (Nat.le_refl _) S0 S1 S2 S3 S4 S5 S6 E0 E1 E2 E3 E4 E5 E6 Fe0 Fe1 ne10 ne20 ne30 ne40 ne50 ne60 ne21 ne31 ne41 ne51 ne61 p e ha hc hk s m _ below hf ((Spec.applies_iff_loose hf).mp happ).1 ⟨rfl, State.Warmed39.refl s, rfl⟩ trivial
  refine ⟨n, _, h1, h2, h3, hpost _ _ _ _ _ _ ⟨Cond.after_iff.mpr rfl, Cond.after_iff.mpr (eq_i res_at (Term.int_eval (1)) rfl), trivial⟩ ⟨hq.1, hq.2.1, (hq.2.2.sift fun y hy => Or.inr (N y hy)).mono (by decide) (by decide)⟩⟩
theorem main_1_1 : Claimed_1_1 := comes_1 fun _ _ _ _ _ _ h hF => ⟨h.1, hF⟩
theorem main_1_2 : Claimed_1_2 := comes_1 fun _ _ _ _ _ _ h hF => ⟨h.2.1, hF⟩
end Jvm.Pilot.@@N@@
namespace Jvm.Pilot.@@N@@
open Jvm Jvm.ClassFile Sem Op Lib Jvm.Free Jvm.Stand Jvm.Pilot.@@N@@.Jvm.D
/-! MADE BY PROGRAM (witnessworld.py) out of the Statement's table words and the real class files: 12 classes; the members and pool entries that the words name. The judged class is class 1, her method 2. -/
namespace start1
open Jvm.ClassFile
def u (s : String) : CpInfo := .utf8 (stringToUtf16 s)
/-- a pool by its gaps: so many unusable entries, then the entry; so many at the end -/
def gap : Nat → List CpInfo → List CpInfo
  | 0, r => r
  | n + 1, r => .unusable :: gap n r
def poolList (es : List (Nat × CpInfo)) (last : Nat) : List CpInfo := es.foldr (fun e r => gap e.1 (e.2 :: r)) (gap last [])
def pool (es : List (Nat × CpInfo)) (last : Nat) : Array CpInfo := ⟨poolList es last⟩
def fileOf (pool : Array CpInfo) (this : Nat) (attrs : Array Attribute := #[]) (ms : Array MethodInfo := #[]) (fl : Nat := 33) (sup : Nat := 0) (ifs : Array Nat := #[]) (fds : Array FieldInfo := #[]) : ClassFile where
  minorVersion := 0
  majorVersion := 65
  constantPool := pool
  accessFlags := fl
  thisClass := this
  superClass := sup
  interfaces := ifs
  fields := fds
  methods := ms
  attributes := attrs
def plain (name : String) (sup : Option ClassId) : Class where
  name := name
  kind := .ordinary
  loader := none
  accessFlags := 33
  super := sup
  interfaces := #[]
  cf := none
  fields := #[]
  methods := #[]
  instanceTypes := #[]
  staticTypes := #[]
  resolved := #[]
  callSites := []
  init := .initialized
  statics := none
  mirror := none

def pool0 : Array CpInfo := pool [(5, u "<init>"), (0, u "()V"), (1, .class_ 10), (1, u "java/lang/Object")] 113

def k0m0 : Method := { name := "<init>", desc := "()V", sig := { parameters := [], returnType := none }, accessFlags := 1, code := none }
/-- java/lang/Object -/
def k0 : Class := { plain "java/lang/Object" none with
  accessFlags := 33
  interfaces := #[]
  cf := some (fileOf pool0 8 #[] #[{ accessFlags := 1, nameIndex := 5, descriptorIndex := 6, attributes := #[] }] 33 0 #[] #[])
  fields := #[]
  methods := #[k0m0]
  instanceTypes := #[]
  staticTypes := #[]
  resolved := Array.replicate 124 none
  statics := none }

def pool1 : Array CpInfo := pool [(2, .class_ 4), (1, u "java/lang/Object"), (0, u "<init>"), (0, u "()V"), (0, .fieldref 8 9), (0, .class_ 10), (0, .nameAndType 11 12), (0, u "com/example/minuet/minuet/Type"), (0, u "INT"), (0, u "Lcom/example/minuet/minuet/Type;"), (0, .fieldref 8 14), (0, .nameAndType 15 12), (0, u "FLOAT"), (0, .fieldref 8 17), (0, .nameAndType 18 12), (0, u "BOOL"), (0, .fieldref 8 20), (0, .nameAndType 21 12), (0, u "VOID"), (0, .fieldref 8 23), (0, .nameAndType 24 12), (0, u "INT_ARRAY"), (0, .fieldref 8 26), (0, .nameAndType 27 12), (0, u "FLOAT_ARRAY"), (0, .fieldref 8 29), (0, .nameAndType 30 12), (0, u "BOOL_ARRAY"), (0, .integer 2147483647), (0, .methodref 33 34), (0, .class_ 35), (0, .nameAndType 36 37), (0, u "com/example/minuet/minuet/TypeIsNumberPinLaw"), (0, u "pick"), (0, u "(I)Lcom/example/minuet/minuet/Type;"), (0, .methodref 8 39), (0, .nameAndType 40 41), (0, u "isNumber"), (0, u "()Z"), (0, .methodref 8 43), (0, .nameAndType 44 41), (0, u "isArray"), (0, .methodref 8 46), (0, .nameAndType 47 48), (0, u "element"), (0, u "()Lcom/example/minuet/minuet/Type;"), (3, u "law"), (0, u "(I)Z")] 2

def k1m0 : Method := { name := "<init>", desc := "()V", sig := { parameters := [], returnType := none }, accessFlags := 1, code := none }
def k1c1 : Code := { maxStack := 2, maxLocals := 1, code := method_2_code, exceptionTable := #[], attributes := #[] }
def k1m1 : Method := { name := "pick", desc := "(I)Lcom/example/minuet/minuet/Type;", sig := { parameters := [.int], returnType := some (.object "com/example/minuet/minuet/Type") }, accessFlags := 10, code := some k1c1 }
def k1c2 : Code := { maxStack := 2, maxLocals := 5, code := code, exceptionTable := #[], attributes := #[] }
def k1m2 : Method := { name := "law", desc := "(I)Z", sig := { parameters := [.int], returnType := some .boolean }, accessFlags := 9, code := some k1c2 }
/-- com/example/minuet/minuet/TypeIsNumberPinLaw -/
def k1 : Class := { plain "com/example/minuet/minuet/TypeIsNumberPinLaw" (some 0) with
  accessFlags := 49
  interfaces := #[]
  cf := some (fileOf pool1 33 #[] #[{ accessFlags := 1, nameIndex := 5, descriptorIndex := 6, attributes := #[] }, { accessFlags := 10, nameIndex := 36, descriptorIndex := 37, attributes := #[] }, { accessFlags := 9, nameIndex := 52, descriptorIndex := 53, attributes := #[] }] 49 2 #[] #[])
  fields := #[]
  methods := #[k1m0, k1m1, k1m2]
  instanceTypes := #[]
  staticTypes := #[]
  resolved := Array.replicate 56 none
  statics := none }

def pool2 : Array CpInfo := pool [(1, .class_ 2), (0, u "java/lang/constant/Constable"), (0, .class_ 4), (0, u "java/lang/Object")] 6

/-- java/lang/constant/Constable -/
def k2 : Class := { plain "java/lang/constant/Constable" (some 0) with
  accessFlags := 1537
  interfaces := #[]
  cf := some (fileOf pool2 1 #[] #[] 1537 3 #[] #[])
  fields := #[]
  methods := #[]
  instanceTypes := #[]
  staticTypes := #[]
  resolved := Array.replicate 11 none
  statics := none }

def pool3 : Array CpInfo := pool [(1, .class_ 2), (0, u "java/lang/Comparable"), (0, .class_ 4), (0, u "java/lang/Object")] 7

/-- java/lang/Comparable -/
def k3 : Class := { plain "java/lang/Comparable" (some 0) with
  accessFlags := 1537
  interfaces := #[]
  cf := some (fileOf pool3 1 #[] #[] 1537 3 #[] #[])
  fields := #[]
  methods := #[]
  instanceTypes := #[]
  staticTypes := #[]
  resolved := Array.replicate 12 none
  statics := none }

def pool4 : Array CpInfo := pool [(1, .class_ 2), (0, u "java/io/Serializable"), (0, .class_ 4), (0, u "java/lang/Object")] 2

/-- java/io/Serializable -/
def k4 : Class := { plain "java/io/Serializable" (some 0) with
  accessFlags := 1537
  interfaces := #[]
  cf := some (fileOf pool4 1 #[] #[] 1537 3 #[] #[])
  fields := #[]
  methods := #[]
  instanceTypes := #[]
  staticTypes := #[]
  resolved := Array.replicate 7 none
  statics := none }

def pool5 : Array CpInfo := pool [(2, .class_ 4), (1, u "java/lang/Enum"), (0, u "name"), (0, u "Ljava/lang/String;"), (2, u "ordinal"), (0, u "I"), (1, .class_ 14), (1, u "java/lang/Object"), (4, u "hash"), (86, .class_ 108), (1, u "java/lang/Enum$EnumDesc"), (2, .class_ 112), (0, u "java/lang/constant/Constable"), (0, .class_ 114), (0, u "java/lang/Comparable"), (0, .class_ 116), (0, u "java/io/Serializable")] 87

/-- java/lang/Enum -/
def k5 : Class := { plain "java/lang/Enum" (some 0) with
  accessFlags := 1057
  interfaces := #[2, 3, 4]
  cf := some (fileOf pool5 2 #[.nestMembers #[106]] #[] 1057 12 #[111, 113, 115] #[{ accessFlags := 18, nameIndex := 5, descriptorIndex := 6, attributes := #[] }, { accessFlags := 18, nameIndex := 9, descriptorIndex := 10, attributes := #[] }, { accessFlags := 2, nameIndex := 19, descriptorIndex := 10, attributes := #[] }])
  fields := #[{ name := "name", type := (.object "java/lang/String"), accessFlags := 18, slot := 0, constantValue := 0 }, { name := "ordinal", type := .int, accessFlags := 18, slot := 1, constantValue := 0 }, { name := "hash", type := .int, accessFlags := 2, slot := 2, constantValue := 0 }]
  methods := #[]
  instanceTypes := #[(.object "java/lang/String"), .int, .int]
  staticTypes := #[]
  resolved := Array.replicate 204 none
  statics := none }

def pool6 : Array CpInfo := pool [(1, .class_ 2), (0, u "com/example/minuet/minuet/Type"), (0, .fieldref 1 4), (0, .nameAndType 5 6), (0, u "INT"), (0, u "Lcom/example/minuet/minuet/Type;"), (0, .fieldref 1 8), (0, .nameAndType 9 6), (0, u "FLOAT"), (2, u "BOOL"), (2, u "VOID"), (2, u "INT_ARRAY"), (2, u "FLOAT_ARRAY"), (2, u "BOOL_ARRAY"), (2, u "$VALUES"), (0, u "[Lcom/example/minuet/minuet/Type;"), (6, .class_ 37), (1, u "java/lang/Enum"), (8, u "spelling"), (0, u "Ljava/lang/String;"), (0, .fieldref 1 49), (0, .nameAndType 50 6), (0, u "element"), (49, u "isNumber"), (0, u "()Z"), (1, u "isArray"), (0, u "()Lcom/example/minuet/minuet/Type;")] 25

def k6c0 : Code := { maxStack := 2, maxLocals := 1, code := prog_68_method_5_code, exceptionTable := #[], attributes := #[] }
def k6m0 : Method := { name := "isNumber", desc := "()Z", sig := { parameters := [], returnType := some .boolean }, accessFlags := 0, code := some k6c0 }
def k6c1 : Code := { maxStack := 1, maxLocals := 1, code := prog_68_method_6_code, exceptionTable := #[], attributes := #[] }
def k6m1 : Method := { name := "isArray", desc := "()Z", sig := { parameters := [], returnType := some .boolean }, accessFlags := 0, code := some k6c1 }
def k6c2 : Code := { maxStack := 1, maxLocals := 1, code := prog_68_method_7_code, exceptionTable := #[], attributes := #[] }
def k6m2 : Method := { name := "element", desc := "()Lcom/example/minuet/minuet/Type;", sig := { parameters := [], returnType := some (.object "com/example/minuet/minuet/Type") }, accessFlags := 0, code := some k6c2 }
/-- com/example/minuet/minuet/Type -/
def k6 : Class := { plain "com/example/minuet/minuet/Type" (some 5) with
  accessFlags := 16432
  interfaces := #[]
  cf := some (fileOf pool6 1 #[] #[{ accessFlags := 0, nameIndex := 100, descriptorIndex := 101, attributes := #[] }, { accessFlags := 0, nameIndex := 103, descriptorIndex := 101, attributes := #[] }, { accessFlags := 0, nameIndex := 50, descriptorIndex := 104, attributes := #[] }] 16432 35 #[] #[{ accessFlags := 16409, nameIndex := 5, descriptorIndex := 6, attributes := #[] }, { accessFlags := 16409, nameIndex := 9, descriptorIndex := 6, attributes := #[] }, { accessFlags := 16409, nameIndex := 12, descriptorIndex := 6, attributes := #[] }, { accessFlags := 16409, nameIndex := 15, descriptorIndex := 6, attributes := #[] }, { accessFlags := 16409, nameIndex := 18, descriptorIndex := 6, attributes := #[] }, { accessFlags := 16409, nameIndex := 21, descriptorIndex := 6, attributes := #[] }, { accessFlags := 16409, nameIndex := 24, descriptorIndex := 6, attributes := #[] }, { accessFlags := 18, nameIndex := 46, descriptorIndex := 47, attributes := #[] }, { accessFlags := 18, nameIndex := 50, descriptorIndex := 6, attributes := #[] }, { accessFlags := 4122, nameIndex := 27, descriptorIndex := 28, attributes := #[] }])
  fields := #[{ name := "INT", type := (.object "com/example/minuet/minuet/Type"), accessFlags := 16409, slot := 0, constantValue := 0 }, { name := "FLOAT", type := (.object "com/example/minuet/minuet/Type"), accessFlags := 16409, slot := 1, constantValue := 0 }, { name := "BOOL", type := (.object "com/example/minuet/minuet/Type"), accessFlags := 16409, slot := 2, constantValue := 0 }, { name := "VOID", type := (.object "com/example/minuet/minuet/Type"), accessFlags := 16409, slot := 3, constantValue := 0 }, { name := "INT_ARRAY", type := (.object "com/example/minuet/minuet/Type"), accessFlags := 16409, slot := 4, constantValue := 0 }, { name := "FLOAT_ARRAY", type := (.object "com/example/minuet/minuet/Type"), accessFlags := 16409, slot := 5, constantValue := 0 }, { name := "BOOL_ARRAY", type := (.object "com/example/minuet/minuet/Type"), accessFlags := 16409, slot := 6, constantValue := 0 }, { name := "spelling", type := (.object "java/lang/String"), accessFlags := 18, slot := 3, constantValue := 0 }, { name := "element", type := (.object "com/example/minuet/minuet/Type"), accessFlags := 18, slot := 4, constantValue := 0 }, { name := "$VALUES", type := (.array (.object "com/example/minuet/minuet/Type")), accessFlags := 4122, slot := 7, constantValue := 0 }]
  methods := #[k6m0, k6m1, k6m2]
  instanceTypes := #[(.object "java/lang/String"), .int, .int, (.object "java/lang/String"), (.object "com/example/minuet/minuet/Type")]
  staticTypes := #[(.object "com/example/minuet/minuet/Type"), (.object "com/example/minuet/minuet/Type"), (.object "com/example/minuet/minuet/Type"), (.object "com/example/minuet/minuet/Type"), (.object "com/example/minuet/minuet/Type"), (.object "com/example/minuet/minuet/Type"), (.object "com/example/minuet/minuet/Type"), (.array (.object "com/example/minuet/minuet/Type"))]
  resolved := Array.replicate 130 none
  statics := some 0 }

def pool7 : Array CpInfo := pool [(1, u "java/lang/Cloneable"), (0, .class_ 1), (0, u "java/lang/Object"), (0, .class_ 3)] 3

/-- java/lang/Cloneable -/
def k7 : Class := { plain "java/lang/Cloneable" (some 0) with
  accessFlags := 1537
  interfaces := #[]
  cf := some (fileOf pool7 2 #[] #[] 1537 4 #[] #[])
  fields := #[]
  methods := #[]
  instanceTypes := #[]
  staticTypes := #[]
  resolved := Array.replicate 8 none
  statics := none }

/-- the primitive byte -/
def k8 : Class := { plain "byte" none with kind := .primitive 'B', accessFlags := 0x411 }
/-- [B -/
def k9 : Class := { plain "[B" (some 0) with kind := .array 8 .byte, interfaces := #[7, 4], accessFlags := 1041 }

/-- the primitive int -/
def k10 : Class := { plain "int" none with kind := .primitive 'I', accessFlags := 0x411 }
/-- [I -/
def k11 : Class := { plain "[I" (some 0) with kind := .array 10 .int, interfaces := #[7, 4], accessFlags := 1041 }

def heap : Heap := #[{ cls := 6, slots := #[.ref 1, .ref 2, .ref 3, .ref 4, .ref 5, .ref 6, .ref 7, .null], vm := .statics 6 },
  { cls := 6, slots := #[.null, .int 0, .int 0, .null, .null], vm := .none },
  { cls := 6, slots := #[.null, .int 1, .int 0, .null, .null], vm := .none },
  { cls := 6, slots := #[.null, .int 2, .int 0, .null, .null], vm := .none },
  { cls := 6, slots := #[.null, .int 3, .int 0, .null, .null], vm := .none },
  { cls := 6, slots := #[.null, .int 4, .int 0, .null, .ref 1], vm := .none },
  { cls := 6, slots := #[.null, .int 5, .int 0, .null, .ref 2], vm := .none },
  { cls := 6, slots := #[.null, .int 6, .int 0, .null, .ref 3], vm := .none }]
def classes : Array Class := #[k0, k1, k2, k3, k4, k5, k6, k7, k8, k9, k10, k11]
def interned : List (Array UInt16 × Addr) := []
def slotsUsed : Nat := 43
def theMethod : MethodId := ⟨1, 2⟩
def args0 : Array Value := #[.int 3]
def aboutOver (below : List Frame) : State where
  vm := { classes := classes, interned := interned.toArray }
  heap := heap
  slotsUsed := slotsUsed
  threads := #[{ frames := .invoking theMethod args0 :: below }]
def below0 : List Frame := [.native { method := ⟨0, 0⟩, args := #[] }]
def about1 : State := aboutOver below0
def p0 : Program := .bare "" "" ""
def e0 : Env := launch0.env 0 0 0
theorem w_frames : about1.frames = Frame.invoking theMethod args0 :: below0 := rfl
set_option maxRecDepth 65536 in
theorem w_args : argsFit about1.vm theMethod args0 = true := by decide +kernel
set_option maxRecDepth 65536 in
theorem w_heap : heapFits about1 = true := by decide +kernel
set_option maxRecDepth 65536 in
theorem w_runnable : about1.curStatus? = some .runnable := by decide +kernel
set_option maxRecDepth 65536 in
theorem w_alone : about1.alone = true := by decide +kernel
set_option maxRecDepth 65536 in
theorem w_named : about1.methodNamed? x = some theMethod := by decide +kernel
set_option maxRecDepth 65536 in
theorem w_hears : about1.hears theMethod below0 = true := by decide +kernel
set_option maxRecDepth 65536 in
theorem w_ripe : about1.ripe theMethod args0 below0 = true := by decide +kernel
theorem w_running : about1.status = .running := rfl
set_option maxRecDepth 65536 in
theorem w_room : about1.hasRoom e0.platform room_1 = true :=
  launch0.hasRoom_least _ room_1 (by decide +kernel) (by decide +kernel) (by decide +kernel) (by decide +kernel) (by decide +kernel) (by decide +kernel)
theorem allAtoms_all (ts : List Jvm.Cond) (a : Array Jvm.Value) (st : Jvm.State) : (allAtoms ts).before a st = ts.all (fun c => c.before a st) := by
  induction ts with
  | nil => rfl
  | cons c t ih =>
    show (Jvm.Cond.and c (allAtoms t)).before a st = _
    rw [Jvm.Cond.before_and, ih, List.all_cons]
def words1 : List Jvm.Cond := Jvm.Cond.code x code maxLocals ret :: tables_1
/-- a 'code' word, met by the world's own term for the bytes: nothing is compared byte by byte -/
theorem code_word {y : MethodName} {bytes : ByteArray} {mx : Nat} {rt : Option FieldType} {a : Array Value} {s : State} {m : MethodId} {meth : Method} {c : Code} (h1 : s.methodNamed? y = some m) (h2 : s.vm.method? m = some meth) (h3 : meth.code = some c) (h4 : c.code = bytes)
    (h5 : (c.maxLocals == mx && c.exceptionTable.isEmpty && decide (c.maxStack ≤ mostOperands) && decide (meth.sig.returnType = rt) && !meth.locks && decide (parseMethodDescriptor y.desc = some meth.sig)) = true) : (Jvm.Cond.code y bytes mx rt).before a s = true := by
  simp only [Bool.and_eq_true, beq_iff_eq, Bool.not_eq_true', decide_eq_true_eq] at h5
  obtain ⟨⟨⟨⟨⟨g1, g2⟩, g3⟩, g4⟩, g5⟩, g6⟩ := h5
  simp [Cond.before, Cond.holds, Cond.value, h1, h2, h3, h4, g1, g2, g3, g4, g5, g6]
def isCode : Jvm.Cond → Bool
  | .code _ _ _ _ => true
  | _ => false
theorem all_split {L : List Jvm.Cond} {P : Jvm.Cond → Bool} (h1 : L.all (fun c => isCode c || P c) = true) (h2 : ∀ c ∈ L.filter isCode, P c = true) : L.all P = true := by
  refine List.all_eq_true.mpr fun c hc => ?_
  have h := List.all_eq_true.mp h1 c hc
  rcases Bool.eq_false_or_eq_true (isCode c) with hi | hi
  · exact h2 c (List.mem_filter.mpr ⟨hc, hi⟩)
  · simpa [hi] using h
set_option maxRecDepth 65536 in
theorem w_c0 : (Jvm.Cond.code x code maxLocals ret).before args0 about1 = true := code_word (m := ⟨1, 2⟩) (meth := k1m2) (c := k1c2) (by decide +kernel) rfl rfl rfl (by decide +kernel)
set_option maxRecDepth 65536 in
theorem w_c1 : (Jvm.Cond.code ({ cls := "com/example/minuet/minuet/TypeIsNumberPinLaw", name := "pick", desc := "(I)Lcom/example/minuet/minuet/Type;" } : Jvm.MethodName) method_2_code (1 : Nat) (Option.some (Jvm.ClassFile.FieldType.object "com/example/minuet/minuet/Type"))).before args0 about1 = true := code_word (m := ⟨1, 1⟩) (meth := k1m1) (c := k1c1) (by decide +kernel) rfl rfl rfl (by decide +kernel)
set_option maxRecDepth 65536 in
theorem w_c2 : (Jvm.Cond.code ({ cls := "com/example/minuet/minuet/Type", name := "isNumber", desc := "()Z" } : Jvm.MethodName) prog_68_method_5_code (1 : Nat) (Option.some Jvm.ClassFile.FieldType.boolean)).before args0 about1 = true := code_word (m := ⟨6, 0⟩) (meth := k6m0) (c := k6c0) (by decide +kernel) rfl rfl rfl (by decide +kernel)
set_option maxRecDepth 65536 in
theorem w_c3 : (Jvm.Cond.code ({ cls := "com/example/minuet/minuet/Type", name := "isArray", desc := "()Z" } : Jvm.MethodName) prog_68_method_6_code (1 : Nat) (Option.some Jvm.ClassFile.FieldType.boolean)).before args0 about1 = true := code_word (m := ⟨6, 1⟩) (meth := k6m1) (c := k6c1) (by decide +kernel) rfl rfl rfl (by decide +kernel)
set_option maxRecDepth 65536 in
theorem w_c4 : (Jvm.Cond.code ({ cls := "com/example/minuet/minuet/Type", name := "element", desc := "()Lcom/example/minuet/minuet/Type;" } : Jvm.MethodName) prog_68_method_7_code (1 : Nat) (Option.some (Jvm.ClassFile.FieldType.object "com/example/minuet/minuet/Type"))).before args0 about1 = true := code_word (m := ⟨6, 2⟩) (meth := k6m2) (c := k6c2) (by decide +kernel) rfl rfl rfl (by decide +kernel)
def codes1 : List Jvm.Cond := [Jvm.Cond.code x code maxLocals ret, Jvm.Cond.code ({ cls := "com/example/minuet/minuet/TypeIsNumberPinLaw", name := "pick", desc := "(I)Lcom/example/minuet/minuet/Type;" } : Jvm.MethodName) method_2_code (1 : Nat) (Option.some (Jvm.ClassFile.FieldType.object "com/example/minuet/minuet/Type")), Jvm.Cond.code ({ cls := "com/example/minuet/minuet/Type", name := "isNumber", desc := "()Z" } : Jvm.MethodName) prog_68_method_5_code (1 : Nat) (Option.some Jvm.ClassFile.FieldType.boolean), Jvm.Cond.code ({ cls := "com/example/minuet/minuet/Type", name := "isArray", desc := "()Z" } : Jvm.MethodName) prog_68_method_6_code (1 : Nat) (Option.some Jvm.ClassFile.FieldType.boolean), Jvm.Cond.code ({ cls := "com/example/minuet/minuet/Type", name := "element", desc := "()Lcom/example/minuet/minuet/Type;" } : Jvm.MethodName) prog_68_method_7_code (1 : Nat) (Option.some (Jvm.ClassFile.FieldType.object "com/example/minuet/minuet/Type"))]
set_option maxRecDepth 65536 in
theorem codes_eq : words1.filter isCode = codes1 := rfl
theorem w_codes : ∀ c ∈ words1.filter isCode, c.before args0 about1 = true := by
  rw [codes_eq]
  intro c hc
  simp only [codes1, List.mem_cons, List.not_mem_nil, or_false] at hc
  rcases hc with rfl | rfl | rfl | rfl | rfl
  · exact w_c0
  · exact w_c1
  · exact w_c2
  · exact w_c3
  · exact w_c4
set_option maxRecDepth 65536 in
theorem w_t1 : (words1.take 24).all (fun c => isCode c || c.before args0 about1) = true := by decide +kernel
set_option maxRecDepth 65536 in
theorem w_t2 : (words1.drop 24).all (fun c => isCode c || c.before args0 about1) = true := by decide +kernel
theorem w_tables : (allAtoms (Jvm.Cond.code x code maxLocals ret :: tables_1)).before args0 about1 = true := by
  rw [allAtoms_all]
  show words1.all (fun c => c.before args0 about1) = true
  refine all_split ?_ w_codes
  rw [← List.take_append_drop 24 words1, List.all_append, w_t1, w_t2]
  rfl
set_option maxRecDepth 65536 in
theorem w_case : (Jvm.Cond.and given_1 narrow_1).before args0 about1 = true := by decide +kernel
theorem w_applies : (headSpec (Jvm.Cond.code x code maxLocals ret :: tables_1) room_1).applies x e0.platform about1 = true :=
  (Spec.applies_iff w_frames).mpr ⟨w_running, w_runnable, w_alone, w_named, w_hears, w_ripe, w_room, w_tables⟩
theorem atStart : AtStart classFile x code maxLocals ret World_1 tables_1 room_1 Calls_1 rest_1 Pre_1 launch0 p0 e0 about1 theMethod args0 below0 :=
  ⟨lists_1, trivial, launch0.admits_env _ _ _, launch0.least_env, fairChoices_fair.cas, fairChoices_fair.clock, w_frames, w_args, w_heap, w_applies, trivial, trivial, w_case⟩
end start1
theorem witness_1 : WitnessClaimed_1 := ⟨start1.p0, start1.e0, start1.about1, start1.theMethod, start1.args0, start1.below0, start1.atStart⟩
end Jvm.Pilot.@@N@@
