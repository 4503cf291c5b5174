import JvmDerived
import JvmDerived.Pilot.@@N@@Statement
import JvmDerived.Pilot.@@N@@Code
set_option linter.unusedVariables false
set_option linter.unusedSimpArgs false
@@BLOCK:NumsL.lean.txt@@
namespace Jvm.RoadKit
open Sem ClassFile Op Lib Jvm.Stand Jvm.Free Jvm.LawKit
section New
variable {p : Program} {l : Launch} {e : Env} {R : Room} {s : State} {m : MethodId} {args : Array Value} {below : List Frame} {meth : Method} {c : Code} {T : State} {locs : List Loc} {cells slots : Nat}
theorem retI (X : Stand p l e R s m args below meth c T locs cells slots) (hx : p.tables.exec = Jvm.exec) {pc : Nat} {Ls : Array Slot} {z : Int32} {rest : List Value} (hret : meth.sig.returnType = some .int) (hd : decode c.code pc = .ok (.ireturn, 1)) {fs : List Frame}
    (hl : ∀ (f : JFrame) (acts : List Action), f.method = m → f.locked = none → f.entered = [] → (doReturn e (T.setTop f) acts (some (.int z))).1 = T.setFrames fs) : Steps p.tables e below (T.setTop (mkF m pc Ls (.int z :: rest))) (T.setFrames fs) := by
  have hm' : T.vm.method? m = some meth := X.method'
  have hn : narrow .int (.int z) = .int z := rfl
  show Steps p.tables e below (T.setTop { method := m, pc := pc, locals := Ls, stack := _ :: rest, locked := none }) _
  jvm_step X.here [X.here.top, hx, hd, hm', hret, hn]
  first | (intro acts; rw [hl _ acts rfl rfl rfl]) | rw [hl _ _ rfl rfl rfl]
  exact Steps.refl _
end New
end Jvm.RoadKit
namespace Jvm.Pilot.@@N@@
open Jvm Jvm.ClassFile Sem Op Lib Jvm.Free Jvm.Stand Jvm.LawKit Jvm.RoadKit Bundle Jvm.Pilot.@@N@@.Jvm.D
theorem d1_0 : decode prog_200_method_2_code 0 = .ok (.iload_n 0, 1) := by decide +kernel
theorem d1_1 : decode prog_200_method_2_code 1 = .ok (.iconst 1, 1) := by decide +kernel
theorem d1_2 : decode prog_200_method_2_code 2 = .ok (.isub, 1) := by decide +kernel
theorem d1_3 : decode prog_200_method_2_code 3 = .ok (.sipush 1000, 3) := by decide +kernel
theorem d1_6 : decode prog_200_method_2_code 6 = .ok (.if_icmp .gt 7, 3) := by decide +kernel
theorem d1_9 : decode prog_200_method_2_code 9 = .ok (.iconst 1, 1) := by decide +kernel
theorem d1_10 : decode prog_200_method_2_code 10 = .ok (.goto 4, 3) := by decide +kernel
theorem d1_13 : decode prog_200_method_2_code 13 = .ok (.iconst 0, 1) := by decide +kernel
theorem d1_14 : decode prog_200_method_2_code 14 = .ok (.ireturn, 1) := by decide +kernel
theorem pn1 : plainName "com/example/alternant/alternant/search/Exhaustion" = true := by first | (simp [plainName, overriddenIn]; done) | decide +kernel
theorem ef1 (m : MethodId) (p1 : Int32) : entryFrame m #[(.int p1)] 1 = mkF m 0 #[.val (.int p1)] [] := by first | (simp [entryFrame, mkF, argsToLocals, Value.category]; done) | rfl
def own_f1 (p1 : Int32) : Int32 := (if (1000 : Int32) < (p1 - (1 : Int32)) then (0 : Int32) else (1 : Int32))
def Q1 (Z : State) (p1 : Int32) (h0 : Heap) (n0 : Nat) (v : Option Value) (h : Heap) (L : List Loc) : Prop := v = some (.int (own_f1 p1)) ∧ Fr n0 L ∧ h = h0
set_option maxRecDepth 65536 in
set_option maxHeartbeats 40000000 in
theorem rm1 (l : Launch) (Z : State) (a0 : Array Value) (hw : ∀ d ∈ tables_1, d.before a0 Z = true) (ws : List Jvm.Cond) (p1 : Int32) (h0 : Heap) (n0 : Nat) (Z0 : n0 ≤ h0.size) :
    MetFree l (⟨"com/example/alternant/alternant/search/Exhaustion", "written", "(I)Z"⟩ : MethodName) (head1 (Jvm.Cond.code (⟨"com/example/alternant/alternant/search/Exhaustion", "written", "(I)Z"⟩ : MethodName) prog_200_method_2_code 1 (some .boolean) :: ws) ({ frames := 0, cells := 0, slots := 0, locals := 0 } : Room)) (fun a U => a = #[(.int p1)] ∧ Z.Warmed39 U.vm ∧ U.heap = h0) (fun _ _ _ _ _ => True) (fun _ U o U' => ∃ v L, o = .returned v ∧ Q1 Z p1 h0 n0 v U'.heap L ∧ FrameEnd U o U' L ({ frames := 0, cells := 0, slots := 0, locals := 0 } : Room).cells ({ frames := 0, cells := 0, slots := 0, locals := 0 } : Room).slots) := by
  refine MetFree.of_bodySF (plainFor_of_name pn1) hisR ?_
  intro p e s m args below meth c s₁ Bd hml0 hP hK
  obtain ⟨rfl, hZ, hh⟩ := hP
  have hx := Bd.exec
  have hby := Bd.bytes
  have hml : c.maxLocals = 1 := hml0
  have hown : s.vm.findClass "com/example/alternant/alternant/search/Exhaustion" = some m.cls := findClass_of_methodNamed Bd.named
  have hnm := (name_of_methodNamed Bd.named Bd.method).1
  have X0 : Stand p l e ({ frames := 0, cells := 0, slots := 0, locals := 0 } : Room) s m #[(.int p1)] below meth c s₁ [] 0 0 := Stand.of_body Bd
  have e0 : s₁.heap = h0 := by rw [← hh, Bd.state]; rfl
  have N0 := Fr.nil n0
  have pre0 : ∀ t, Steps p.tables e below (s₁.setTop (mkF m 0 #[.val (.int p1)] [])) t → Steps p.tables e below (s₁.setTop (entryFrame m #[(.int p1)] 1)) t := fun t k => castTop (ef1 m p1) k
  have c1 : ∀ t, Steps p.tables e below (s₁.setTop (mkF m 6 #[.val (.int p1)] [(.int (1000 : Int32)), (.int (p1 - (1 : Int32)))])) t → Steps p.tables e below (s₁.setTop (entryFrame m #[(.int p1)] 1)) t := fun t kt => by
    refine pre0 _ ?_
    show Steps p.tables e below (s₁.setTop (mkF m 0 #[.val (.int p1)] [])) _
    refine XS.iloadN X0.here hx rfl (hb hby d1_0) rfl ?_
    show Steps p.tables e below (s₁.setTop (mkF m 1 #[.val (.int p1)] [(.int p1)])) _
    refine XS.iconst X0.here hx rfl (hb hby d1_1) ?_
    show Steps p.tables e below (s₁.setTop (mkF m 2 #[.val (.int p1)] [(.int (1 : Int32)), (.int p1)])) _
    refine XS.isub X0.here hx rfl (hb hby d1_2) rfl ?_
    show Steps p.tables e below (s₁.setTop (mkF m 3 #[.val (.int p1)] [(.int (p1 - (1 : Int32)))])) _
    refine XS.sipush X0.here hx rfl (hb hby d1_3) ?_
    exact kt
  by_cases hc6 : (1000 : Int32) < (p1 - (1 : Int32))
  · obtain ⟨fs, hr, hrun, hended, hW, hsame⟩ := X0.leave (v := some (.int (0 : Int32))) (fun h => by rw [Bd.returns] at h; cases h)
    refine ⟨_, _, c1 _ ?_, hrun, hended, _, _, rfl, ?_, ⟨_, rfl⟩, hW, hsame.mono (by decide) (by decide)⟩
    · show Steps p.tables e below (s₁.setTop (mkF m 6 #[.val (.int p1)] [(.int (1000 : Int32)), (.int (p1 - (1 : Int32)))])) _
      refine XS.icmpYes X0.here hx rfl (pc0 := 6) (pc' := 13) rfl (hb hby d1_6) rfl (tlt hc6).2.2.1 (by decide) (by decide) ?_
      show Steps p.tables e below (s₁.setTop (mkF m 13 #[.val (.int p1)] [])) _
      refine XS.iconst X0.here hx rfl (hb hby d1_13) ?_
      show Steps p.tables e below (s₁.setTop (mkF m 14 #[.val (.int p1)] [(.int (0 : Int32))])) _
      exact retN X0 hx (t := .boolean) Bd.returns (by simp) (hb hby d1_14) hr
    · show Q1 Z p1 h0 n0 _ s₁.heap _
      rw [e0]
      have hv : (own_f1 p1) = (0 : Int32) := by unfold own_f1; rw [if_pos hc6]
      exact ⟨by rw [hv], N0, rfl⟩
  · obtain ⟨fs, hr, hrun, hended, hW, hsame⟩ := X0.leave (v := some (.int (1 : Int32))) (fun h => by rw [Bd.returns] at h; cases h)
    refine ⟨_, _, c1 _ ?_, hrun, hended, _, _, rfl, ?_, ⟨_, rfl⟩, hW, hsame.mono (by decide) (by decide)⟩
    · show Steps p.tables e below (s₁.setTop (mkF m 6 #[.val (.int p1)] [(.int (1000 : Int32)), (.int (p1 - (1 : Int32)))])) _
      refine XS.icmpNo X0.here hx rfl (hb hby d1_6) rfl (flt hc6).2.2.1 ?_
      show Steps p.tables e below (s₁.setTop (mkF m 9 #[.val (.int p1)] [])) _
      refine XS.iconst X0.here hx rfl (hb hby d1_9) ?_
      show Steps p.tables e below (s₁.setTop (mkF m 10 #[.val (.int p1)] [(.int (1 : Int32))])) _
      refine XS.goto X0.here hx rfl (pc0 := 10) (pc' := 14) rfl (hb hby d1_10) (by decide) (by decide) ?_
      show Steps p.tables e below (s₁.setTop (mkF m 14 #[.val (.int p1)] [(.int (1 : Int32))])) _
      exact retN X0 hx (t := .boolean) Bd.returns (by simp) (hb hby d1_14) hr
    · show Q1 Z p1 h0 n0 _ s₁.heap _
      rw [e0]
      have hv : (own_f1 p1) = (1 : Int32) := by unfold own_f1; rw [if_neg hc6]
      exact ⟨by rw [hv], N0, rfl⟩
theorem d2_0 : decode jdk_29_method_65_code 0 = .ok (.iload_n 0, 1) := by decide +kernel
theorem d2_1 : decode jdk_29_method_65_code 1 = .ok (.iload_n 1, 1) := by decide +kernel
theorem d2_2 : decode jdk_29_method_65_code 2 = .ok (.if_icmp .lt 7, 3) := by decide +kernel
theorem d2_5 : decode jdk_29_method_65_code 5 = .ok (.iload_n 0, 1) := by decide +kernel
theorem d2_6 : decode jdk_29_method_65_code 6 = .ok (.goto 4, 3) := by decide +kernel
theorem d2_9 : decode jdk_29_method_65_code 9 = .ok (.iload_n 1, 1) := by decide +kernel
theorem d2_10 : decode jdk_29_method_65_code 10 = .ok (.ireturn, 1) := by decide +kernel
theorem ef2 (m : MethodId) (p1 : Int32) (p2 : Int32) : entryFrame m #[(.int p1), (.int p2)] 2 = mkF m 0 #[.val (.int p1), .val (.int p2)] [] := by first | (simp [entryFrame, mkF, argsToLocals, Value.category]; done) | rfl
def own_f2 (p1 : Int32) (p2 : Int32) : Int32 := (if p1 < p2 then p2 else p1)
def Q2 (Z : State) (p1 : Int32) (p2 : Int32) (h0 : Heap) (n0 : Nat) (v : Option Value) (h : Heap) (L : List Loc) : Prop := v = some (.int (own_f2 p1 p2)) ∧ Fr n0 L ∧ h = h0
set_option maxRecDepth 65536 in
set_option maxHeartbeats 40000000 in
theorem rm2 (l : Launch) (Z : State) (a0 : Array Value) (hw : ∀ d ∈ tables_1, d.before a0 Z = true) (ws : List Jvm.Cond) (p1 : Int32) (p2 : Int32) (h0 : Heap) (n0 : Nat) (Z0 : n0 ≤ h0.size) :
    MetFree l (⟨"java/lang/Math", "max", "(II)I"⟩ : MethodName) (head1 (Jvm.Cond.code (⟨"java/lang/Math", "max", "(II)I"⟩ : MethodName) jdk_29_method_65_code 2 (some .int) :: ws) ({ frames := 0, cells := 0, slots := 0, locals := 0 } : Room)) (fun a U => a = #[(.int p1), (.int p2)] ∧ Z.Warmed39 U.vm ∧ U.heap = h0) (fun _ _ _ _ _ => True) (fun _ U o U' => ∃ v L, o = .returned v ∧ Q2 Z p1 p2 h0 n0 v U'.heap L ∧ FrameEnd U o U' L ({ frames := 0, cells := 0, slots := 0, locals := 0 } : Room).cells ({ frames := 0, cells := 0, slots := 0, locals := 0 } : Room).slots) := by
  refine MetFree.of_bodySF (Jvm.Free.JP.mathPlain rfl (by decide +kernel)) hisR ?_
  intro p e s m args below meth c s₁ Bd hml0 hP hK
  obtain ⟨rfl, hZ, hh⟩ := hP
  have hx := Bd.exec
  have hby := Bd.bytes
  have hml : c.maxLocals = 2 := hml0
  have hown : s.vm.findClass "java/lang/Math" = some m.cls := findClass_of_methodNamed Bd.named
  have hnm := (name_of_methodNamed Bd.named Bd.method).1
  have X0 : Stand p l e ({ frames := 0, cells := 0, slots := 0, locals := 0 } : Room) s m #[(.int p1), (.int p2)] below meth c s₁ [] 0 0 := Stand.of_body Bd
  have e0 : s₁.heap = h0 := by rw [← hh, Bd.state]; rfl
  have N0 := Fr.nil n0
  have pre0 : ∀ t, Steps p.tables e below (s₁.setTop (mkF m 0 #[.val (.int p1), .val (.int p2)] [])) t → Steps p.tables e below (s₁.setTop (entryFrame m #[(.int p1), (.int p2)] 2)) t := fun t k => castTop (ef2 m p1 p2) k
  have c1 : ∀ t, Steps p.tables e below (s₁.setTop (mkF m 2 #[.val (.int p1), .val (.int p2)] [(.int p2), (.int p1)])) t → Steps p.tables e below (s₁.setTop (entryFrame m #[(.int p1), (.int p2)] 2)) t := fun t kt => by
    refine pre0 _ ?_
    show Steps p.tables e below (s₁.setTop (mkF m 0 #[.val (.int p1), .val (.int p2)] [])) _
    refine XS.iloadN X0.here hx rfl (hb hby d2_0) rfl ?_
    show Steps p.tables e below (s₁.setTop (mkF m 1 #[.val (.int p1), .val (.int p2)] [(.int p1)])) _
    refine XS.iloadN X0.here hx rfl (hb hby d2_1) rfl ?_
    exact kt
  by_cases hc2 : p1 < p2
  · obtain ⟨fs, hr, hrun, hended, hW, hsame⟩ := X0.leave (v := some (.int p2)) (fun h => by rw [Bd.returns] at h; cases h)
    refine ⟨_, _, c1 _ ?_, hrun, hended, _, _, rfl, ?_, ⟨_, rfl⟩, hW, hsame.mono (by decide) (by decide)⟩
    · show Steps p.tables e below (s₁.setTop (mkF m 2 #[.val (.int p1), .val (.int p2)] [(.int p2), (.int p1)])) _
      refine XS.icmpYes X0.here hx rfl (pc0 := 2) (pc' := 9) rfl (hb hby d2_2) rfl (tlt hc2).1 (by decide) (by decide) ?_
      show Steps p.tables e below (s₁.setTop (mkF m 9 #[.val (.int p1), .val (.int p2)] [])) _
      refine XS.iloadN X0.here hx rfl (hb hby d2_9) rfl ?_
      show Steps p.tables e below (s₁.setTop (mkF m 10 #[.val (.int p1), .val (.int p2)] [(.int p2)])) _
      exact retI X0 hx Bd.returns (hb hby d2_10) hr
    · show Q2 Z p1 p2 h0 n0 _ s₁.heap _
      rw [e0]
      have hv : (own_f2 p1 p2) = p2 := by unfold own_f2; rw [if_pos hc2]
      exact ⟨by rw [hv], N0, rfl⟩
  · obtain ⟨fs, hr, hrun, hended, hW, hsame⟩ := X0.leave (v := some (.int p1)) (fun h => by rw [Bd.returns] at h; cases h)
    refine ⟨_, _, c1 _ ?_, hrun, hended, _, _, rfl, ?_, ⟨_, rfl⟩, hW, hsame.mono (by decide) (by decide)⟩
    · show Steps p.tables e below (s₁.setTop (mkF m 2 #[.val (.int p1), .val (.int p2)] [(.int p2), (.int p1)])) _
      refine XS.icmpNo X0.here hx rfl (hb hby d2_2) rfl (flt hc2).1 ?_
      show Steps p.tables e below (s₁.setTop (mkF m 5 #[.val (.int p1), .val (.int p2)] [])) _
      refine XS.iloadN X0.here hx rfl (hb hby d2_5) rfl ?_
      show Steps p.tables e below (s₁.setTop (mkF m 6 #[.val (.int p1), .val (.int p2)] [(.int p1)])) _
      refine XS.goto X0.here hx rfl (pc0 := 6) (pc' := 10) rfl (hb hby d2_6) (by decide) (by decide) ?_
      show Steps p.tables e below (s₁.setTop (mkF m 10 #[.val (.int p1), .val (.int p2)] [(.int p1)])) _
      exact retI X0 hx Bd.returns (hb hby d2_10) hr
    · show Q2 Z p1 p2 h0 n0 _ s₁.heap _
      rw [e0]
      have hv : (own_f2 p1 p2) = p1 := by unfold own_f2; rw [if_neg hc2]
      exact ⟨by rw [hv], N0, rfl⟩
theorem d3_0 : decode jdk_29_method_69_code 0 = .ok (.iload_n 0, 1) := by decide +kernel
theorem d3_1 : decode jdk_29_method_69_code 1 = .ok (.iload_n 1, 1) := by decide +kernel
theorem d3_2 : decode jdk_29_method_69_code 2 = .ok (.if_icmp .gt 7, 3) := by decide +kernel
theorem d3_5 : decode jdk_29_method_69_code 5 = .ok (.iload_n 0, 1) := by decide +kernel
theorem d3_6 : decode jdk_29_method_69_code 6 = .ok (.goto 4, 3) := by decide +kernel
theorem d3_9 : decode jdk_29_method_69_code 9 = .ok (.iload_n 1, 1) := by decide +kernel
theorem d3_10 : decode jdk_29_method_69_code 10 = .ok (.ireturn, 1) := by decide +kernel
theorem ef3 (m : MethodId) (p1 : Int32) (p2 : Int32) : entryFrame m #[(.int p1), (.int p2)] 2 = mkF m 0 #[.val (.int p1), .val (.int p2)] [] := by first | (simp [entryFrame, mkF, argsToLocals, Value.category]; done) | rfl
def own_f3 (p1 : Int32) (p2 : Int32) : Int32 := (if p2 < p1 then p2 else p1)
def Q3 (Z : State) (p1 : Int32) (p2 : Int32) (h0 : Heap) (n0 : Nat) (v : Option Value) (h : Heap) (L : List Loc) : Prop := v = some (.int (own_f3 p1 p2)) ∧ Fr n0 L ∧ h = h0
set_option maxRecDepth 65536 in
set_option maxHeartbeats 40000000 in
theorem rm3 (l : Launch) (Z : State) (a0 : Array Value) (hw : ∀ d ∈ tables_1, d.before a0 Z = true) (ws : List Jvm.Cond) (p1 : Int32) (p2 : Int32) (h0 : Heap) (n0 : Nat) (Z0 : n0 ≤ h0.size) :
    MetFree l (⟨"java/lang/Math", "min", "(II)I"⟩ : MethodName) (head1 (Jvm.Cond.code (⟨"java/lang/Math", "min", "(II)I"⟩ : MethodName) jdk_29_method_69_code 2 (some .int) :: ws) ({ frames := 0, cells := 0, slots := 0, locals := 0 } : Room)) (fun a U => a = #[(.int p1), (.int p2)] ∧ Z.Warmed39 U.vm ∧ U.heap = h0) (fun _ _ _ _ _ => True) (fun _ U o U' => ∃ v L, o = .returned v ∧ Q3 Z p1 p2 h0 n0 v U'.heap L ∧ FrameEnd U o U' L ({ frames := 0, cells := 0, slots := 0, locals := 0 } : Room).cells ({ frames := 0, cells := 0, slots := 0, locals := 0 } : Room).slots) := by
  refine MetFree.of_bodySF (Jvm.Free.JP.mathPlain rfl (by decide +kernel)) hisR ?_
  intro p e s m args below meth c s₁ Bd hml0 hP hK
  obtain ⟨rfl, hZ, hh⟩ := hP
  have hx := Bd.exec
  have hby := Bd.bytes
  have hml : c.maxLocals = 2 := hml0
  have hown : s.vm.findClass "java/lang/Math" = some m.cls := findClass_of_methodNamed Bd.named
  have hnm := (name_of_methodNamed Bd.named Bd.method).1
  have X0 : Stand p l e ({ frames := 0, cells := 0, slots := 0, locals := 0 } : Room) s m #[(.int p1), (.int p2)] below meth c s₁ [] 0 0 := Stand.of_body Bd
  have e0 : s₁.heap = h0 := by rw [← hh, Bd.state]; rfl
  have N0 := Fr.nil n0
  have pre0 : ∀ t, Steps p.tables e below (s₁.setTop (mkF m 0 #[.val (.int p1), .val (.int p2)] [])) t → Steps p.tables e below (s₁.setTop (entryFrame m #[(.int p1), (.int p2)] 2)) t := fun t k => castTop (ef3 m p1 p2) k
  have c1 : ∀ t, Steps p.tables e below (s₁.setTop (mkF m 2 #[.val (.int p1), .val (.int p2)] [(.int p2), (.int p1)])) t → Steps p.tables e below (s₁.setTop (entryFrame m #[(.int p1), (.int p2)] 2)) t := fun t kt => by
    refine pre0 _ ?_
    show Steps p.tables e below (s₁.setTop (mkF m 0 #[.val (.int p1), .val (.int p2)] [])) _
    refine XS.iloadN X0.here hx rfl (hb hby d3_0) rfl ?_
    show Steps p.tables e below (s₁.setTop (mkF m 1 #[.val (.int p1), .val (.int p2)] [(.int p1)])) _
    refine XS.iloadN X0.here hx rfl (hb hby d3_1) rfl ?_
    exact kt
  by_cases hc2 : p2 < p1
  · obtain ⟨fs, hr, hrun, hended, hW, hsame⟩ := X0.leave (v := some (.int p2)) (fun h => by rw [Bd.returns] at h; cases h)
    refine ⟨_, _, c1 _ ?_, hrun, hended, _, _, rfl, ?_, ⟨_, rfl⟩, hW, hsame.mono (by decide) (by decide)⟩
    · show Steps p.tables e below (s₁.setTop (mkF m 2 #[.val (.int p1), .val (.int p2)] [(.int p2), (.int p1)])) _
      refine XS.icmpYes X0.here hx rfl (pc0 := 2) (pc' := 9) rfl (hb hby d3_2) rfl (tlt hc2).2.2.1 (by decide) (by decide) ?_
      show Steps p.tables e below (s₁.setTop (mkF m 9 #[.val (.int p1), .val (.int p2)] [])) _
      refine XS.iloadN X0.here hx rfl (hb hby d3_9) rfl ?_
      show Steps p.tables e below (s₁.setTop (mkF m 10 #[.val (.int p1), .val (.int p2)] [(.int p2)])) _
      exact retI X0 hx Bd.returns (hb hby d3_10) hr
    · show Q3 Z p1 p2 h0 n0 _ s₁.heap _
      rw [e0]
      have hv : (own_f3 p1 p2) = p2 := by unfold own_f3; rw [if_pos hc2]
      exact ⟨by rw [hv], N0, rfl⟩
  · obtain ⟨fs, hr, hrun, hended, hW, hsame⟩ := X0.leave (v := some (.int p1)) (fun h => by rw [Bd.returns] at h; cases h)
    refine ⟨_, _, c1 _ ?_, hrun, hended, _, _, rfl, ?_, ⟨_, rfl⟩, hW, hsame.mono (by decide) (by decide)⟩
    · show Steps p.tables e below (s₁.setTop (mkF m 2 #[.val (.int p1), .val (.int p2)] [(.int p2), (.int p1)])) _
      refine XS.icmpNo X0.here hx rfl (hb hby d3_2) rfl (flt hc2).2.2.1 ?_
      show Steps p.tables e below (s₁.setTop (mkF m 5 #[.val (.int p1), .val (.int p2)] [])) _
      refine XS.iloadN X0.here hx rfl (hb hby d3_5) rfl ?_
      show Steps p.tables e below (s₁.setTop (mkF m 6 #[.val (.int p1), .val (.int p2)] [(.int p1)])) _
      refine XS.goto X0.here hx rfl (pc0 := 6) (pc' := 10) rfl (hb hby d3_6) (by decide) (by decide) ?_
      show Steps p.tables e below (s₁.setTop (mkF m 10 #[.val (.int p1), .val (.int p2)] [(.int p1)])) _
      exact retI X0 hx Bd.returns (hb hby d3_10) hr
    · show Q3 Z p1 p2 h0 n0 _ s₁.heap _
      rw [e0]
      have hv : (own_f3 p1 p2) = p1 := by unfold own_f3; rw [if_neg hc2]
      exact ⟨by rw [hv], N0, rfl⟩
theorem own_sub (p : Int32) (h : 0 ≤ p.toInt) : (p - 1).toInt = p.toInt - 1 := by
  have a := p.toInt_lt
  exact Jvm.Kit.i32_sub (p := p) (q := 1) (by show -2 ^ 31 ≤ p.toInt - 1; omega) (by show p.toInt - 1 < 2 ^ 31; omega)
theorem own_pos (p : Int32) (h : 0 ≤ p.toInt) : own_f1 p = (if (1001 : Int32) < p then (0 : Int32) else (1 : Int32)) := by
  unfold own_f1
  have e := own_sub p h
  by_cases g : (1001 : Int32) < p
  · have g' : 1001 < p.toInt := Int32.lt_iff_toInt_lt.mp g
    have k : (1000 : Int32) < p - 1 := Int32.lt_iff_toInt_lt.mpr (by show 1000 < (p - 1).toInt; omega)
    rw [if_pos g, if_pos k]
  · have g' : ¬ 1001 < p.toInt := fun z => g (Int32.lt_iff_toInt_lt.mpr z)
    have k : ¬ (1000 : Int32) < p - 1 := fun z => by
      have : 1000 < (p - 1).toInt := Int32.lt_iff_toInt_lt.mp z
      omega
    rw [if_neg g, if_neg k]
theorem own_wide (x : Int32) : 0 ≤ (x &&& 2147483647).toInt := by
  have := c_and x 2147483647 (by decide)
  exact this.1
theorem own_near (y : Int32) : 0 ≤ ((990 : Int32) + (y &&& 31)).toInt := by
  have h := c_and y 31 (by decide)
  have h2 : (y &&& 31).toInt ≤ 31 := h.2
  have e : ((990 : Int32) + (y &&& 31)).toInt = 990 + (y &&& 31).toInt := Jvm.Kit.i32_add (p := 990) (by show -2 ^ 31 ≤ 990 + (y &&& 31).toInt; omega) (by show 990 + (y &&& 31).toInt < 2 ^ 31; omega)
  omega
theorem own_mono (w n : Int32) (hw : 0 ≤ w.toInt) (hn : 0 ≤ n.toInt) (h : ¬ own_f1 (own_f2 w n) = 0) : ¬ own_f1 (own_f3 w n) = 0 := by
  have key : ∀ p q : Int32, 0 ≤ p.toInt → 0 ≤ q.toInt → q.toInt ≤ p.toInt → ¬ own_f1 p = 0 → ¬ own_f1 q = 0 := by
    intro p q hp hq hpq h1
    rw [own_pos p hp] at h1
    rw [own_pos q hq]
    by_cases g : (1001 : Int32) < p
    · rw [if_pos g] at h1; exact absurd rfl h1
    · have k : ¬ (1001 : Int32) < q := fun z => g (Int32.lt_iff_toInt_lt.mpr (by
        have := Int32.lt_iff_toInt_lt.mp z
        omega))
      rw [if_neg k]; decide
  have m1 : 0 ≤ (own_f2 w n).toInt ∧ 0 ≤ (own_f3 w n).toInt ∧ (own_f3 w n).toInt ≤ (own_f2 w n).toInt := by
    unfold own_f2 own_f3
    by_cases a : w < n
    · have a' := Int32.lt_iff_toInt_lt.mp a
      have b : ¬ n < w := fun z => by have := Int32.lt_iff_toInt_lt.mp z; omega
      rw [if_pos a, if_neg b]; omega
    · have a' : ¬ w.toInt < n.toInt := fun z => a (Int32.lt_iff_toInt_lt.mpr z)
      rw [if_neg a]
      by_cases b : n < w
      · rw [if_pos b]; omega
      · rw [if_neg b]; omega
  exact key _ _ m1.1 m1.2.1 m1.2.2 h
theorem pn0 : plainName "com/example/alternant/alternant/search/ExhaustionWrittenPinLaw" = true := by first | (simp [plainName, overriddenIn]; done) | decide +kernel
theorem pd0_0 : parseMethodDescriptor "(I)Z" = some ⟨[.int], some .boolean⟩ := by decide +kernel
theorem pd0_1 : parseMethodDescriptor "(II)I" = some ⟨[.int, .int], some .int⟩ := by decide +kernel
theorem ef0 (m : MethodId) (p1 : Int32) (p2 : Int32) : entryFrame m #[(.int p1), (.int p2)] maxLocals = mkF m 0 #[.val (.int p1), .val (.int p2), .unset, .unset, .unset, .unset, .unset, .unset, .unset] [] := by first | (simp [entryFrame, mkF, argsToLocals, Value.category, maxLocals]; done) | rfl
def Q0 (Z : State) (p1 : Int32) (p2 : Int32) (h0 : Heap) (n0 : Nat) (v : Option Value) (h : Heap) (L : List Loc) : Prop := v = some (.int (1 : Int32)) ∧ Fr n0 L
set_option maxRecDepth 65536 in
set_option maxHeartbeats 40000000 in
theorem rm0 (l : Launch) (Z : State) (a0 : Array Value) (hw : ∀ d ∈ tables_1, d.before a0 Z = true) (ws : List Jvm.Cond) (p1 : Int32) (p2 : Int32) (h0 : Heap) (n0 : Nat) (Z0 : n0 ≤ h0.size) :
    MetFree l x (head1 (Jvm.Cond.code x code maxLocals ret :: ws) room_1) (fun a U => a = #[(.int p1), (.int p2)] ∧ Z.Warmed39 U.vm ∧ U.heap = h0) (fun _ _ _ _ _ => True) (fun _ U o U' => ∃ v L, o = .returned v ∧ Q0 Z p1 p2 h0 n0 v U'.heap L ∧ FrameEnd U o U' L room_1.cells room_1.slots) := by
  refine MetFree.of_bodySF (plainFor_of_name pn0) hisR ?_
  intro p e s m args below meth c s₁ Bd hml0 hP hK
  obtain ⟨rfl, hZ, hh⟩ := hP
  have hx := Bd.exec
  have hby := Bd.bytes
  have hml : c.maxLocals = 9 := hml0
  have hown : s.vm.findClass "com/example/alternant/alternant/search/ExhaustionWrittenPinLaw" = some m.cls := findClass_of_methodNamed Bd.named
  have hnm := (name_of_methodNamed Bd.named Bd.method).1
  have X0 : Stand p l e room_1 s m #[(.int p1), (.int p2)] below meth c s₁ [] 0 0 := Stand.of_body Bd
  have e0 : s₁.heap = h0 := by rw [← hh, Bd.state]; rfl
  have N0 := Fr.nil n0
  have pre0 : ∀ t, Steps p.tables e below (s₁.setTop (mkF m 0 #[.val (.int p1), .val (.int p2), .unset, .unset, .unset, .unset, .unset, .unset, .unset] [])) t → Steps p.tables e below (s₁.setTop (entryFrame m #[(.int p1), (.int p2)] maxLocals)) t := fun t k => castTop (ef0 m p1 p2) k
  obtain ⟨_, _, ⟨T1, L1, k1, n1⟩, -, X1, ⟨Lc1, hQ1, l1, y1, z1⟩, st1⟩ := Jvm.LawKit.callS X0 hx (y := (⟨"com/example/alternant/alternant/search/Exhaustion", "written", "(I)Z"⟩ : MethodName)) hown (mvT hZ (hw _ (List.mem_of_getElem? (i := 1) rfl))) (mvT hZ (hw _ (List.mem_of_getElem? (i := 2) rfl))) (mvT hZ (hw _ (List.mem_of_getElem? (i := 3) rfl))) (mvT hZ (hw _ (List.mem_of_getElem? (i := 4) rfl))) (by decide) (backOf (W := 0) (rm1 l Z a0 hw [] (p1 &&& (2147483647 : Int32)) h0 n0 Z0 ) hZ (hw _ (List.mem_of_getElem? (i := 4) rfl)) (hw _ (List.mem_of_getElem? (i := 3) rfl)) (by decide) (by decide)) (g := (mkF m 15 #[.val (.int p1), .val (.int p2), .val (.int (p1 &&& (2147483647 : Int32))), .val (.int ((990 : Int32) + (p2 &&& (31 : Int32)))), .unset, .unset, .unset, .unset, .unset] [(.int (p1 &&& (2147483647 : Int32)))])) rfl (by rw [hml]; rfl) (argsL := [(.int (p1 &&& (2147483647 : Int32)))]) (rest := []) (lenOf pd0_0 rfl) rfl (by show 2 * 0 + _ ≤ _; exact Nat.le_of_eq rfl) (hb hby at_15) (fun _ _ => ⟨rfl, e0, (by decide : 0 + 0 ≤ _), (by decide : 0 + 0 ≤ _)⟩)
  dsimp only [Pt.U, Pt.locs, Pt.cells, Pt.slots] at X1 l1 y1 z1 st1 hQ1
  subst l1 y1 z1
  obtain ⟨rfl, N1q, e1⟩ := hQ1
  have N1 := Fr.app N0 N1q
  obtain ⟨j18_S0, ej18_S0⟩ : ∃ z : Int32, z = (if (1001 : Int32) < (p1 &&& (2147483647 : Int32)) then (0 : Int32) else (1 : Int32)) := ⟨_, rfl⟩
  have sg18 : ∀ t, Steps p.tables e below (T1.setTop (mkF m 30 #[.val (.int p1), .val (.int p2), .val (.int (p1 &&& (2147483647 : Int32))), .val (.int ((990 : Int32) + (p2 &&& (31 : Int32)))), .unset, .unset, .unset, .unset, .unset] [(.int j18_S0), (.int (own_f1 (p1 &&& (2147483647 : Int32))))])) t → Steps p.tables e below (T1.setTop (mkF m 18 #[.val (.int p1), .val (.int p2), .val (.int (p1 &&& (2147483647 : Int32))), .val (.int ((990 : Int32) + (p2 &&& (31 : Int32)))), .unset, .unset, .unset, .unset, .unset] [(.int (own_f1 (p1 &&& (2147483647 : Int32))))])) t := fun t kt => by
    show Steps p.tables e below (T1.setTop (mkF m 18 #[.val (.int p1), .val (.int p2), .val (.int (p1 &&& (2147483647 : Int32))), .val (.int ((990 : Int32) + (p2 &&& (31 : Int32)))), .unset, .unset, .unset, .unset, .unset] [(.int (own_f1 (p1 &&& (2147483647 : Int32))))])) _
    refine XS.iloadN X1.here hx rfl (hb hby at_18) rfl ?_
    show Steps p.tables e below (T1.setTop (mkF m 19 #[.val (.int p1), .val (.int p2), .val (.int (p1 &&& (2147483647 : Int32))), .val (.int ((990 : Int32) + (p2 &&& (31 : Int32)))), .unset, .unset, .unset, .unset, .unset] [(.int (p1 &&& (2147483647 : Int32))), (.int (own_f1 (p1 &&& (2147483647 : Int32))))])) _
    refine XS.sipush X1.here hx rfl (hb hby at_19) ?_
    by_cases hc22 : (1001 : Int32) < (p1 &&& (2147483647 : Int32))
    · have qj18_S0 : j18_S0 = (0 : Int32) := by rw [ej18_S0, if_pos hc22]
      rw [qj18_S0] at kt
      show Steps p.tables e below (T1.setTop (mkF m 22 #[.val (.int p1), .val (.int p2), .val (.int (p1 &&& (2147483647 : Int32))), .val (.int ((990 : Int32) + (p2 &&& (31 : Int32)))), .unset, .unset, .unset, .unset, .unset] [(.int (1001 : Int32)), (.int (p1 &&& (2147483647 : Int32))), (.int (own_f1 (p1 &&& (2147483647 : Int32))))])) _
      refine XS.icmpYes X1.here hx rfl (pc0 := 22) (pc' := 29) rfl (hb hby at_22) rfl (tlt hc22).2.2.1 (by decide) (by decide) ?_
      show Steps p.tables e below (T1.setTop (mkF m 29 #[.val (.int p1), .val (.int p2), .val (.int (p1 &&& (2147483647 : Int32))), .val (.int ((990 : Int32) + (p2 &&& (31 : Int32)))), .unset, .unset, .unset, .unset, .unset] [(.int (own_f1 (p1 &&& (2147483647 : Int32))))])) _
      refine XS.iconst X1.here hx rfl (hb hby at_29) ?_
      exact kt
    · have qj18_S0 : j18_S0 = (1 : Int32) := by rw [ej18_S0, if_neg hc22]
      rw [qj18_S0] at kt
      show Steps p.tables e below (T1.setTop (mkF m 22 #[.val (.int p1), .val (.int p2), .val (.int (p1 &&& (2147483647 : Int32))), .val (.int ((990 : Int32) + (p2 &&& (31 : Int32)))), .unset, .unset, .unset, .unset, .unset] [(.int (1001 : Int32)), (.int (p1 &&& (2147483647 : Int32))), (.int (own_f1 (p1 &&& (2147483647 : Int32))))])) _
      refine XS.icmpNo X1.here hx rfl (hb hby at_22) rfl (flt hc22).2.2.1 ?_
      show Steps p.tables e below (T1.setTop (mkF m 25 #[.val (.int p1), .val (.int p2), .val (.int (p1 &&& (2147483647 : Int32))), .val (.int ((990 : Int32) + (p2 &&& (31 : Int32)))), .unset, .unset, .unset, .unset, .unset] [(.int (own_f1 (p1 &&& (2147483647 : Int32))))])) _
      refine XS.iconst X1.here hx rfl (hb hby at_25) ?_
      show Steps p.tables e below (T1.setTop (mkF m 26 #[.val (.int p1), .val (.int p2), .val (.int (p1 &&& (2147483647 : Int32))), .val (.int ((990 : Int32) + (p2 &&& (31 : Int32)))), .unset, .unset, .unset, .unset, .unset] [(.int (1 : Int32)), (.int (own_f1 (p1 &&& (2147483647 : Int32))))])) _
      refine XS.goto X1.here hx rfl (pc0 := 26) (pc' := 30) rfl (hb hby at_26) (by decide) (by decide) ?_
      exact kt
  obtain ⟨_, _, ⟨T2, L2, k2, n2⟩, -, X2, ⟨Lc2, hQ2, l2, y2, z2⟩, st2⟩ := Jvm.LawKit.callS X1 hx (y := (⟨"com/example/alternant/alternant/search/Exhaustion", "written", "(I)Z"⟩ : MethodName)) hown (mvT hZ (hw _ (List.mem_of_getElem? (i := 1) rfl))) (mvT hZ (hw _ (List.mem_of_getElem? (i := 2) rfl))) (mvT hZ (hw _ (List.mem_of_getElem? (i := 3) rfl))) (mvT hZ (hw _ (List.mem_of_getElem? (i := 4) rfl))) (by decide) (backOf (W := 0) (rm1 l Z a0 hw [] ((990 : Int32) + (p2 &&& (31 : Int32))) h0 n0 Z0 ) hZ (hw _ (List.mem_of_getElem? (i := 4) rfl)) (hw _ (List.mem_of_getElem? (i := 3) rfl)) (by decide) (by decide)) (g := (mkF m 41 #[.val (.int p1), .val (.int p2), .val (.int (p1 &&& (2147483647 : Int32))), .val (.int ((990 : Int32) + (p2 &&& (31 : Int32)))), .val (.int (1 : Int32)), .unset, .unset, .unset, .unset] [(.int ((990 : Int32) + (p2 &&& (31 : Int32))))])) rfl (by rw [hml]; rfl) (argsL := [(.int ((990 : Int32) + (p2 &&& (31 : Int32))))]) (rest := []) (lenOf pd0_0 rfl) rfl (by show 2 * 0 + _ ≤ _; exact Nat.le_of_eq rfl) (hb hby at_41) (fun _ _ => ⟨rfl, e1, (by decide : 0 + 0 ≤ _), (by decide : 0 + 0 ≤ _)⟩)
  dsimp only [Pt.U, Pt.locs, Pt.cells, Pt.slots] at X2 l2 y2 z2 st2 hQ2
  subst l2 y2 z2
  obtain ⟨rfl, N2q, e2⟩ := hQ2
  have N2 := Fr.app N1 N2q
  obtain ⟨j44_S0, ej44_S0⟩ : ∃ z : Int32, z = (if (1001 : Int32) < ((990 : Int32) + (p2 &&& (31 : Int32))) then (0 : Int32) else (1 : Int32)) := ⟨_, rfl⟩
  have sg44 : ∀ t, Steps p.tables e below (T2.setTop (mkF m 56 #[.val (.int p1), .val (.int p2), .val (.int (p1 &&& (2147483647 : Int32))), .val (.int ((990 : Int32) + (p2 &&& (31 : Int32)))), .val (.int (1 : Int32)), .unset, .unset, .unset, .unset] [(.int j44_S0), (.int (own_f1 ((990 : Int32) + (p2 &&& (31 : Int32)))))])) t → Steps p.tables e below (T2.setTop (mkF m 44 #[.val (.int p1), .val (.int p2), .val (.int (p1 &&& (2147483647 : Int32))), .val (.int ((990 : Int32) + (p2 &&& (31 : Int32)))), .val (.int (1 : Int32)), .unset, .unset, .unset, .unset] [(.int (own_f1 ((990 : Int32) + (p2 &&& (31 : Int32)))))])) t := fun t kt => by
    show Steps p.tables e below (T2.setTop (mkF m 44 #[.val (.int p1), .val (.int p2), .val (.int (p1 &&& (2147483647 : Int32))), .val (.int ((990 : Int32) + (p2 &&& (31 : Int32)))), .val (.int (1 : Int32)), .unset, .unset, .unset, .unset] [(.int (own_f1 ((990 : Int32) + (p2 &&& (31 : Int32)))))])) _
    refine XS.iloadN X2.here hx rfl (hb hby at_44) rfl ?_
    show Steps p.tables e below (T2.setTop (mkF m 45 #[.val (.int p1), .val (.int p2), .val (.int (p1 &&& (2147483647 : Int32))), .val (.int ((990 : Int32) + (p2 &&& (31 : Int32)))), .val (.int (1 : Int32)), .unset, .unset, .unset, .unset] [(.int ((990 : Int32) + (p2 &&& (31 : Int32)))), (.int (own_f1 ((990 : Int32) + (p2 &&& (31 : Int32)))))])) _
    refine XS.sipush X2.here hx rfl (hb hby at_45) ?_
    by_cases hc48 : (1001 : Int32) < ((990 : Int32) + (p2 &&& (31 : Int32)))
    · have qj44_S0 : j44_S0 = (0 : Int32) := by rw [ej44_S0, if_pos hc48]
      rw [qj44_S0] at kt
      show Steps p.tables e below (T2.setTop (mkF m 48 #[.val (.int p1), .val (.int p2), .val (.int (p1 &&& (2147483647 : Int32))), .val (.int ((990 : Int32) + (p2 &&& (31 : Int32)))), .val (.int (1 : Int32)), .unset, .unset, .unset, .unset] [(.int (1001 : Int32)), (.int ((990 : Int32) + (p2 &&& (31 : Int32)))), (.int (own_f1 ((990 : Int32) + (p2 &&& (31 : Int32)))))])) _
      refine XS.icmpYes X2.here hx rfl (pc0 := 48) (pc' := 55) rfl (hb hby at_48) rfl (tlt hc48).2.2.1 (by decide) (by decide) ?_
      show Steps p.tables e below (T2.setTop (mkF m 55 #[.val (.int p1), .val (.int p2), .val (.int (p1 &&& (2147483647 : Int32))), .val (.int ((990 : Int32) + (p2 &&& (31 : Int32)))), .val (.int (1 : Int32)), .unset, .unset, .unset, .unset] [(.int (own_f1 ((990 : Int32) + (p2 &&& (31 : Int32)))))])) _
      refine XS.iconst X2.here hx rfl (hb hby at_55) ?_
      exact kt
    · have qj44_S0 : j44_S0 = (1 : Int32) := by rw [ej44_S0, if_neg hc48]
      rw [qj44_S0] at kt
      show Steps p.tables e below (T2.setTop (mkF m 48 #[.val (.int p1), .val (.int p2), .val (.int (p1 &&& (2147483647 : Int32))), .val (.int ((990 : Int32) + (p2 &&& (31 : Int32)))), .val (.int (1 : Int32)), .unset, .unset, .unset, .unset] [(.int (1001 : Int32)), (.int ((990 : Int32) + (p2 &&& (31 : Int32)))), (.int (own_f1 ((990 : Int32) + (p2 &&& (31 : Int32)))))])) _
      refine XS.icmpNo X2.here hx rfl (hb hby at_48) rfl (flt hc48).2.2.1 ?_
      show Steps p.tables e below (T2.setTop (mkF m 51 #[.val (.int p1), .val (.int p2), .val (.int (p1 &&& (2147483647 : Int32))), .val (.int ((990 : Int32) + (p2 &&& (31 : Int32)))), .val (.int (1 : Int32)), .unset, .unset, .unset, .unset] [(.int (own_f1 ((990 : Int32) + (p2 &&& (31 : Int32)))))])) _
      refine XS.iconst X2.here hx rfl (hb hby at_51) ?_
      show Steps p.tables e below (T2.setTop (mkF m 52 #[.val (.int p1), .val (.int p2), .val (.int (p1 &&& (2147483647 : Int32))), .val (.int ((990 : Int32) + (p2 &&& (31 : Int32)))), .val (.int (1 : Int32)), .unset, .unset, .unset, .unset] [(.int (1 : Int32)), (.int (own_f1 ((990 : Int32) + (p2 &&& (31 : Int32)))))])) _
      refine XS.goto X2.here hx rfl (pc0 := 52) (pc' := 56) rfl (hb hby at_52) (by decide) (by decide) ?_
      exact kt
  obtain ⟨_, _, ⟨T3, L3, k3, n3⟩, -, X3, ⟨Lc3, hQ3, l3, y3, z3⟩, st3⟩ := Jvm.LawKit.callS X2 hx (y := (⟨"java/lang/Math", "max", "(II)I"⟩ : MethodName)) hown (mvT hZ (hw _ (List.mem_of_getElem? (i := 5) rfl))) (mvT hZ (hw _ (List.mem_of_getElem? (i := 6) rfl))) (mvT hZ (hw _ (List.mem_of_getElem? (i := 7) rfl))) (mvT hZ (hw _ (List.mem_of_getElem? (i := 8) rfl))) (by decide) (backOf (W := 0) (rm2 l Z a0 hw [] (p1 &&& (2147483647 : Int32)) ((990 : Int32) + (p2 &&& (31 : Int32))) h0 n0 Z0 ) hZ (hw _ (List.mem_of_getElem? (i := 8) rfl)) (hw _ (List.mem_of_getElem? (i := 7) rfl)) (by decide) (by decide)) (g := (mkF m 68 #[.val (.int p1), .val (.int p2), .val (.int (p1 &&& (2147483647 : Int32))), .val (.int ((990 : Int32) + (p2 &&& (31 : Int32)))), .val (.int (1 : Int32)), .val (.int (1 : Int32)), .unset, .unset, .unset] [(.int ((990 : Int32) + (p2 &&& (31 : Int32)))), (.int (p1 &&& (2147483647 : Int32)))])) rfl (by rw [hml]; rfl) (argsL := [(.int (p1 &&& (2147483647 : Int32))), (.int ((990 : Int32) + (p2 &&& (31 : Int32))))]) (rest := []) (lenOf pd0_1 rfl) rfl (by show 2 * 0 + _ ≤ _; exact Nat.le_of_eq rfl) (hb hby at_68) (fun _ _ => ⟨rfl, e2, (by decide : 0 + 0 ≤ _), (by decide : 0 + 0 ≤ _)⟩)
  dsimp only [Pt.U, Pt.locs, Pt.cells, Pt.slots] at X3 l3 y3 z3 st3 hQ3
  subst l3 y3 z3
  obtain ⟨rfl, N3q, e3⟩ := hQ3
  have N3 := Fr.app N2 N3q
  obtain ⟨_, _, ⟨T4, L4, k4, n4⟩, -, X4, ⟨Lc4, hQ4, l4, y4, z4⟩, st4⟩ := Jvm.LawKit.callS X3 hx (y := (⟨"java/lang/Math", "min", "(II)I"⟩ : MethodName)) hown (mvT hZ (hw _ (List.mem_of_getElem? (i := 9) rfl))) (mvT hZ (hw _ (List.mem_of_getElem? (i := 10) rfl))) (mvT hZ (hw _ (List.mem_of_getElem? (i := 7) rfl))) (mvT hZ (hw _ (List.mem_of_getElem? (i := 11) rfl))) (by decide) (backOf (W := 0) (rm3 l Z a0 hw [] (p1 &&& (2147483647 : Int32)) ((990 : Int32) + (p2 &&& (31 : Int32))) h0 n0 Z0 ) hZ (hw _ (List.mem_of_getElem? (i := 11) rfl)) (hw _ (List.mem_of_getElem? (i := 7) rfl)) (by decide) (by decide)) (g := (mkF m 75 #[.val (.int p1), .val (.int p2), .val (.int (p1 &&& (2147483647 : Int32))), .val (.int ((990 : Int32) + (p2 &&& (31 : Int32)))), .val (.int (1 : Int32)), .val (.int (1 : Int32)), .val (.int (own_f2 (p1 &&& (2147483647 : Int32)) ((990 : Int32) + (p2 &&& (31 : Int32))))), .unset, .unset] [(.int ((990 : Int32) + (p2 &&& (31 : Int32)))), (.int (p1 &&& (2147483647 : Int32)))])) rfl (by rw [hml]; rfl) (argsL := [(.int (p1 &&& (2147483647 : Int32))), (.int ((990 : Int32) + (p2 &&& (31 : Int32))))]) (rest := []) (lenOf pd0_1 rfl) rfl (by show 2 * 0 + _ ≤ _; exact Nat.le_of_eq rfl) (hb hby at_75) (fun _ _ => ⟨rfl, e3, (by decide : 0 + 0 ≤ _), (by decide : 0 + 0 ≤ _)⟩)
  dsimp only [Pt.U, Pt.locs, Pt.cells, Pt.slots] at X4 l4 y4 z4 st4 hQ4
  subst l4 y4 z4
  obtain ⟨rfl, N4q, e4⟩ := hQ4
  have N4 := Fr.app N3 N4q
  obtain ⟨_, _, ⟨T5, L5, k5, n5⟩, -, X5, ⟨Lc5, hQ5, l5, y5, z5⟩, st5⟩ := Jvm.LawKit.callS X4 hx (y := (⟨"com/example/alternant/alternant/search/Exhaustion", "written", "(I)Z"⟩ : MethodName)) hown (mvT hZ (hw _ (List.mem_of_getElem? (i := 1) rfl))) (mvT hZ (hw _ (List.mem_of_getElem? (i := 2) rfl))) (mvT hZ (hw _ (List.mem_of_getElem? (i := 3) rfl))) (mvT hZ (hw _ (List.mem_of_getElem? (i := 4) rfl))) (by decide) (backOf (W := 0) (rm1 l Z a0 hw [] (own_f2 (p1 &&& (2147483647 : Int32)) ((990 : Int32) + (p2 &&& (31 : Int32)))) h0 n0 Z0 ) hZ (hw _ (List.mem_of_getElem? (i := 4) rfl)) (hw _ (List.mem_of_getElem? (i := 3) rfl)) (by decide) (by decide)) (g := (mkF m 82 #[.val (.int p1), .val (.int p2), .val (.int (p1 &&& (2147483647 : Int32))), .val (.int ((990 : Int32) + (p2 &&& (31 : Int32)))), .val (.int (1 : Int32)), .val (.int (1 : Int32)), .val (.int (own_f2 (p1 &&& (2147483647 : Int32)) ((990 : Int32) + (p2 &&& (31 : Int32))))), .val (.int (own_f3 (p1 &&& (2147483647 : Int32)) ((990 : Int32) + (p2 &&& (31 : Int32))))), .unset] [(.int (own_f2 (p1 &&& (2147483647 : Int32)) ((990 : Int32) + (p2 &&& (31 : Int32)))))])) rfl (by rw [hml]; rfl) (argsL := [(.int (own_f2 (p1 &&& (2147483647 : Int32)) ((990 : Int32) + (p2 &&& (31 : Int32)))))]) (rest := []) (lenOf pd0_0 rfl) rfl (by show 2 * 0 + _ ≤ _; exact Nat.le_of_eq rfl) (hb hby at_82) (fun _ _ => ⟨rfl, e4, (by decide : 0 + 0 ≤ _), (by decide : 0 + 0 ≤ _)⟩)
  dsimp only [Pt.U, Pt.locs, Pt.cells, Pt.slots] at X5 l5 y5 z5 st5 hQ5
  subst l5 y5 z5
  obtain ⟨rfl, N5q, e5⟩ := hQ5
  have N5 := Fr.app N4 N5q
  have c6 : ∀ t, Steps p.tables e below (T5.setTop (mkF m 85 #[.val (.int p1), .val (.int p2), .val (.int (p1 &&& (2147483647 : Int32))), .val (.int ((990 : Int32) + (p2 &&& (31 : Int32)))), .val (.int (1 : Int32)), .val (.int (1 : Int32)), .val (.int (own_f2 (p1 &&& (2147483647 : Int32)) ((990 : Int32) + (p2 &&& (31 : Int32))))), .val (.int (own_f3 (p1 &&& (2147483647 : Int32)) ((990 : Int32) + (p2 &&& (31 : Int32))))), .unset] [(.int (own_f1 (own_f2 (p1 &&& (2147483647 : Int32)) ((990 : Int32) + (p2 &&& (31 : Int32))))))])) t → Steps p.tables e below (s₁.setTop (entryFrame m #[(.int p1), (.int p2)] maxLocals)) t := fun t kt => by
    refine pre0 _ ?_
    show Steps p.tables e below (s₁.setTop (mkF m 0 #[.val (.int p1), .val (.int p2), .unset, .unset, .unset, .unset, .unset, .unset, .unset] [])) _
    refine XS.iloadN X0.here hx rfl (hb hby at_0) rfl ?_
    show Steps p.tables e below (s₁.setTop (mkF m 1 #[.val (.int p1), .val (.int p2), .unset, .unset, .unset, .unset, .unset, .unset, .unset] [(.int p1)])) _
    refine X0.ldcInt hx hown (mvT hZ (hw _ (List.mem_of_getElem? (i := 0) rfl))) (g := (mkF m 1 #[.val (.int p1), .val (.int p2), .unset, .unset, .unset, .unset, .unset, .unset, .unset] [(.int p1)])) rfl (hb hby at_1) _ ?_
    show Steps p.tables e below (s₁.setTop (mkF m 3 #[.val (.int p1), .val (.int p2), .unset, .unset, .unset, .unset, .unset, .unset, .unset] [(.int (2147483647 : Int32)), (.int p1)])) _
    refine XS.iand X0.here hx rfl (hb hby at_3) rfl ?_
    show Steps p.tables e below (s₁.setTop (mkF m 4 #[.val (.int p1), .val (.int p2), .unset, .unset, .unset, .unset, .unset, .unset, .unset] [(.int (p1 &&& (2147483647 : Int32)))])) _
    refine XS.istoreN X0.here hx rfl (hb hby at_4) rfl (l' := #[.val (.int p1), .val (.int p2), .val (.int (p1 &&& (2147483647 : Int32))), .unset, .unset, .unset, .unset, .unset, .unset]) rfl ?_
    show Steps p.tables e below (s₁.setTop (mkF m 5 #[.val (.int p1), .val (.int p2), .val (.int (p1 &&& (2147483647 : Int32))), .unset, .unset, .unset, .unset, .unset, .unset] [])) _
    refine XS.sipush X0.here hx rfl (hb hby at_5) ?_
    show Steps p.tables e below (s₁.setTop (mkF m 8 #[.val (.int p1), .val (.int p2), .val (.int (p1 &&& (2147483647 : Int32))), .unset, .unset, .unset, .unset, .unset, .unset] [(.int (990 : Int32))])) _
    refine XS.iloadN X0.here hx rfl (hb hby at_8) rfl ?_
    show Steps p.tables e below (s₁.setTop (mkF m 9 #[.val (.int p1), .val (.int p2), .val (.int (p1 &&& (2147483647 : Int32))), .unset, .unset, .unset, .unset, .unset, .unset] [(.int p2), (.int (990 : Int32))])) _
    refine XS.bipush X0.here hx rfl (hb hby at_9) ?_
    show Steps p.tables e below (s₁.setTop (mkF m 11 #[.val (.int p1), .val (.int p2), .val (.int (p1 &&& (2147483647 : Int32))), .unset, .unset, .unset, .unset, .unset, .unset] [(.int (31 : Int32)), (.int p2), (.int (990 : Int32))])) _
    refine XS.iand X0.here hx rfl (hb hby at_11) rfl ?_
    show Steps p.tables e below (s₁.setTop (mkF m 12 #[.val (.int p1), .val (.int p2), .val (.int (p1 &&& (2147483647 : Int32))), .unset, .unset, .unset, .unset, .unset, .unset] [(.int (p2 &&& (31 : Int32))), (.int (990 : Int32))])) _
    refine XS.iadd X0.here hx rfl (hb hby at_12) rfl ?_
    show Steps p.tables e below (s₁.setTop (mkF m 13 #[.val (.int p1), .val (.int p2), .val (.int (p1 &&& (2147483647 : Int32))), .unset, .unset, .unset, .unset, .unset, .unset] [(.int ((990 : Int32) + (p2 &&& (31 : Int32))))])) _
    refine XS.istoreN X0.here hx rfl (hb hby at_13) rfl (l' := #[.val (.int p1), .val (.int p2), .val (.int (p1 &&& (2147483647 : Int32))), .val (.int ((990 : Int32) + (p2 &&& (31 : Int32)))), .unset, .unset, .unset, .unset, .unset]) rfl ?_
    show Steps p.tables e below (s₁.setTop (mkF m 14 #[.val (.int p1), .val (.int p2), .val (.int (p1 &&& (2147483647 : Int32))), .val (.int ((990 : Int32) + (p2 &&& (31 : Int32)))), .unset, .unset, .unset, .unset, .unset] [])) _
    refine XS.iloadN X0.here hx rfl (hb hby at_14) rfl ?_
    show Steps p.tables e below (s₁.setTop (mkF m 15 #[.val (.int p1), .val (.int p2), .val (.int (p1 &&& (2147483647 : Int32))), .val (.int ((990 : Int32) + (p2 &&& (31 : Int32)))), .unset, .unset, .unset, .unset, .unset] [(.int (p1 &&& (2147483647 : Int32)))])) _
    refine st1 _ ?_
    show Steps p.tables e below (T1.setTop (mkF m 18 #[.val (.int p1), .val (.int p2), .val (.int (p1 &&& (2147483647 : Int32))), .val (.int ((990 : Int32) + (p2 &&& (31 : Int32)))), .unset, .unset, .unset, .unset, .unset] [(.int (own_f1 (p1 &&& (2147483647 : Int32))))])) _
    refine sg18 _ ?_
    show Steps p.tables e below (T1.setTop (mkF m 30 #[.val (.int p1), .val (.int p2), .val (.int (p1 &&& (2147483647 : Int32))), .val (.int ((990 : Int32) + (p2 &&& (31 : Int32)))), .unset, .unset, .unset, .unset, .unset] [(.int j18_S0), (.int (own_f1 (p1 &&& (2147483647 : Int32))))])) _
    refine XS.icmpNo X1.here hx rfl (hb hby at_30) rfl (teq ((own_pos _ (own_wide p1)).trans ej18_S0.symm)).2 ?_
    show Steps p.tables e below (T1.setTop (mkF m 33 #[.val (.int p1), .val (.int p2), .val (.int (p1 &&& (2147483647 : Int32))), .val (.int ((990 : Int32) + (p2 &&& (31 : Int32)))), .unset, .unset, .unset, .unset, .unset] [])) _
    refine XS.iconst X1.here hx rfl (hb hby at_33) ?_
    show Steps p.tables e below (T1.setTop (mkF m 34 #[.val (.int p1), .val (.int p2), .val (.int (p1 &&& (2147483647 : Int32))), .val (.int ((990 : Int32) + (p2 &&& (31 : Int32)))), .unset, .unset, .unset, .unset, .unset] [(.int (1 : Int32))])) _
    refine XS.goto X1.here hx rfl (pc0 := 34) (pc' := 38) rfl (hb hby at_34) (by decide) (by decide) ?_
    show Steps p.tables e below (T1.setTop (mkF m 38 #[.val (.int p1), .val (.int p2), .val (.int (p1 &&& (2147483647 : Int32))), .val (.int ((990 : Int32) + (p2 &&& (31 : Int32)))), .unset, .unset, .unset, .unset, .unset] [(.int (1 : Int32))])) _
    refine XS.istore X1.here hx rfl (hb hby at_38) rfl (l' := #[.val (.int p1), .val (.int p2), .val (.int (p1 &&& (2147483647 : Int32))), .val (.int ((990 : Int32) + (p2 &&& (31 : Int32)))), .val (.int (1 : Int32)), .unset, .unset, .unset, .unset]) rfl ?_
    show Steps p.tables e below (T1.setTop (mkF m 40 #[.val (.int p1), .val (.int p2), .val (.int (p1 &&& (2147483647 : Int32))), .val (.int ((990 : Int32) + (p2 &&& (31 : Int32)))), .val (.int (1 : Int32)), .unset, .unset, .unset, .unset] [])) _
    refine XS.iloadN X1.here hx rfl (hb hby at_40) rfl ?_
    show Steps p.tables e below (T1.setTop (mkF m 41 #[.val (.int p1), .val (.int p2), .val (.int (p1 &&& (2147483647 : Int32))), .val (.int ((990 : Int32) + (p2 &&& (31 : Int32)))), .val (.int (1 : Int32)), .unset, .unset, .unset, .unset] [(.int ((990 : Int32) + (p2 &&& (31 : Int32))))])) _
    refine st2 _ ?_
    show Steps p.tables e below (T2.setTop (mkF m 44 #[.val (.int p1), .val (.int p2), .val (.int (p1 &&& (2147483647 : Int32))), .val (.int ((990 : Int32) + (p2 &&& (31 : Int32)))), .val (.int (1 : Int32)), .unset, .unset, .unset, .unset] [(.int (own_f1 ((990 : Int32) + (p2 &&& (31 : Int32)))))])) _
    refine sg44 _ ?_
    show Steps p.tables e below (T2.setTop (mkF m 56 #[.val (.int p1), .val (.int p2), .val (.int (p1 &&& (2147483647 : Int32))), .val (.int ((990 : Int32) + (p2 &&& (31 : Int32)))), .val (.int (1 : Int32)), .unset, .unset, .unset, .unset] [(.int j44_S0), (.int (own_f1 ((990 : Int32) + (p2 &&& (31 : Int32)))))])) _
    refine XS.icmpNo X2.here hx rfl (hb hby at_56) rfl (teq ((own_pos _ (own_near p2)).trans ej44_S0.symm)).2 ?_
    show Steps p.tables e below (T2.setTop (mkF m 59 #[.val (.int p1), .val (.int p2), .val (.int (p1 &&& (2147483647 : Int32))), .val (.int ((990 : Int32) + (p2 &&& (31 : Int32)))), .val (.int (1 : Int32)), .unset, .unset, .unset, .unset] [])) _
    refine XS.iconst X2.here hx rfl (hb hby at_59) ?_
    show Steps p.tables e below (T2.setTop (mkF m 60 #[.val (.int p1), .val (.int p2), .val (.int (p1 &&& (2147483647 : Int32))), .val (.int ((990 : Int32) + (p2 &&& (31 : Int32)))), .val (.int (1 : Int32)), .unset, .unset, .unset, .unset] [(.int (1 : Int32))])) _
    refine XS.goto X2.here hx rfl (pc0 := 60) (pc' := 64) rfl (hb hby at_60) (by decide) (by decide) ?_
    show Steps p.tables e below (T2.setTop (mkF m 64 #[.val (.int p1), .val (.int p2), .val (.int (p1 &&& (2147483647 : Int32))), .val (.int ((990 : Int32) + (p2 &&& (31 : Int32)))), .val (.int (1 : Int32)), .unset, .unset, .unset, .unset] [(.int (1 : Int32))])) _
    refine XS.istore X2.here hx rfl (hb hby at_64) rfl (l' := #[.val (.int p1), .val (.int p2), .val (.int (p1 &&& (2147483647 : Int32))), .val (.int ((990 : Int32) + (p2 &&& (31 : Int32)))), .val (.int (1 : Int32)), .val (.int (1 : Int32)), .unset, .unset, .unset]) rfl ?_
    show Steps p.tables e below (T2.setTop (mkF m 66 #[.val (.int p1), .val (.int p2), .val (.int (p1 &&& (2147483647 : Int32))), .val (.int ((990 : Int32) + (p2 &&& (31 : Int32)))), .val (.int (1 : Int32)), .val (.int (1 : Int32)), .unset, .unset, .unset] [])) _
    refine XS.iloadN X2.here hx rfl (hb hby at_66) rfl ?_
    show Steps p.tables e below (T2.setTop (mkF m 67 #[.val (.int p1), .val (.int p2), .val (.int (p1 &&& (2147483647 : Int32))), .val (.int ((990 : Int32) + (p2 &&& (31 : Int32)))), .val (.int (1 : Int32)), .val (.int (1 : Int32)), .unset, .unset, .unset] [(.int (p1 &&& (2147483647 : Int32)))])) _
    refine XS.iloadN X2.here hx rfl (hb hby at_67) rfl ?_
    show Steps p.tables e below (T2.setTop (mkF m 68 #[.val (.int p1), .val (.int p2), .val (.int (p1 &&& (2147483647 : Int32))), .val (.int ((990 : Int32) + (p2 &&& (31 : Int32)))), .val (.int (1 : Int32)), .val (.int (1 : Int32)), .unset, .unset, .unset] [(.int ((990 : Int32) + (p2 &&& (31 : Int32)))), (.int (p1 &&& (2147483647 : Int32)))])) _
    refine st3 _ ?_
    show Steps p.tables e below (T3.setTop (mkF m 71 #[.val (.int p1), .val (.int p2), .val (.int (p1 &&& (2147483647 : Int32))), .val (.int ((990 : Int32) + (p2 &&& (31 : Int32)))), .val (.int (1 : Int32)), .val (.int (1 : Int32)), .unset, .unset, .unset] [(.int (own_f2 (p1 &&& (2147483647 : Int32)) ((990 : Int32) + (p2 &&& (31 : Int32)))))])) _
    refine XS.istore X3.here hx rfl (hb hby at_71) rfl (l' := #[.val (.int p1), .val (.int p2), .val (.int (p1 &&& (2147483647 : Int32))), .val (.int ((990 : Int32) + (p2 &&& (31 : Int32)))), .val (.int (1 : Int32)), .val (.int (1 : Int32)), .val (.int (own_f2 (p1 &&& (2147483647 : Int32)) ((990 : Int32) + (p2 &&& (31 : Int32))))), .unset, .unset]) rfl ?_
    show Steps p.tables e below (T3.setTop (mkF m 73 #[.val (.int p1), .val (.int p2), .val (.int (p1 &&& (2147483647 : Int32))), .val (.int ((990 : Int32) + (p2 &&& (31 : Int32)))), .val (.int (1 : Int32)), .val (.int (1 : Int32)), .val (.int (own_f2 (p1 &&& (2147483647 : Int32)) ((990 : Int32) + (p2 &&& (31 : Int32))))), .unset, .unset] [])) _
    refine XS.iloadN X3.here hx rfl (hb hby at_73) rfl ?_
    show Steps p.tables e below (T3.setTop (mkF m 74 #[.val (.int p1), .val (.int p2), .val (.int (p1 &&& (2147483647 : Int32))), .val (.int ((990 : Int32) + (p2 &&& (31 : Int32)))), .val (.int (1 : Int32)), .val (.int (1 : Int32)), .val (.int (own_f2 (p1 &&& (2147483647 : Int32)) ((990 : Int32) + (p2 &&& (31 : Int32))))), .unset, .unset] [(.int (p1 &&& (2147483647 : Int32)))])) _
    refine XS.iloadN X3.here hx rfl (hb hby at_74) rfl ?_
    show Steps p.tables e below (T3.setTop (mkF m 75 #[.val (.int p1), .val (.int p2), .val (.int (p1 &&& (2147483647 : Int32))), .val (.int ((990 : Int32) + (p2 &&& (31 : Int32)))), .val (.int (1 : Int32)), .val (.int (1 : Int32)), .val (.int (own_f2 (p1 &&& (2147483647 : Int32)) ((990 : Int32) + (p2 &&& (31 : Int32))))), .unset, .unset] [(.int ((990 : Int32) + (p2 &&& (31 : Int32)))), (.int (p1 &&& (2147483647 : Int32)))])) _
    refine st4 _ ?_
    show Steps p.tables e below (T4.setTop (mkF m 78 #[.val (.int p1), .val (.int p2), .val (.int (p1 &&& (2147483647 : Int32))), .val (.int ((990 : Int32) + (p2 &&& (31 : Int32)))), .val (.int (1 : Int32)), .val (.int (1 : Int32)), .val (.int (own_f2 (p1 &&& (2147483647 : Int32)) ((990 : Int32) + (p2 &&& (31 : Int32))))), .unset, .unset] [(.int (own_f3 (p1 &&& (2147483647 : Int32)) ((990 : Int32) + (p2 &&& (31 : Int32)))))])) _
    refine XS.istore X4.here hx rfl (hb hby at_78) rfl (l' := #[.val (.int p1), .val (.int p2), .val (.int (p1 &&& (2147483647 : Int32))), .val (.int ((990 : Int32) + (p2 &&& (31 : Int32)))), .val (.int (1 : Int32)), .val (.int (1 : Int32)), .val (.int (own_f2 (p1 &&& (2147483647 : Int32)) ((990 : Int32) + (p2 &&& (31 : Int32))))), .val (.int (own_f3 (p1 &&& (2147483647 : Int32)) ((990 : Int32) + (p2 &&& (31 : Int32))))), .unset]) rfl ?_
    show Steps p.tables e below (T4.setTop (mkF m 80 #[.val (.int p1), .val (.int p2), .val (.int (p1 &&& (2147483647 : Int32))), .val (.int ((990 : Int32) + (p2 &&& (31 : Int32)))), .val (.int (1 : Int32)), .val (.int (1 : Int32)), .val (.int (own_f2 (p1 &&& (2147483647 : Int32)) ((990 : Int32) + (p2 &&& (31 : Int32))))), .val (.int (own_f3 (p1 &&& (2147483647 : Int32)) ((990 : Int32) + (p2 &&& (31 : Int32))))), .unset] [])) _
    refine XS.iload X4.here hx rfl (hb hby at_80) rfl ?_
    show Steps p.tables e below (T4.setTop (mkF m 82 #[.val (.int p1), .val (.int p2), .val (.int (p1 &&& (2147483647 : Int32))), .val (.int ((990 : Int32) + (p2 &&& (31 : Int32)))), .val (.int (1 : Int32)), .val (.int (1 : Int32)), .val (.int (own_f2 (p1 &&& (2147483647 : Int32)) ((990 : Int32) + (p2 &&& (31 : Int32))))), .val (.int (own_f3 (p1 &&& (2147483647 : Int32)) ((990 : Int32) + (p2 &&& (31 : Int32))))), .unset] [(.int (own_f2 (p1 &&& (2147483647 : Int32)) ((990 : Int32) + (p2 &&& (31 : Int32)))))])) _
    refine st5 _ ?_
    exact kt
  by_cases hc85 : (own_f1 (own_f2 (p1 &&& (2147483647 : Int32)) ((990 : Int32) + (p2 &&& (31 : Int32))))) = (0 : Int32)
  · obtain ⟨fs, hr, hrun, hended, hW, hsame⟩ := X5.leave (v := some (.int (1 : Int32))) (fun h => by rw [Bd.returns] at h; cases h)
    refine ⟨_, _, c6 _ ?_, hrun, hended, _, _, rfl, ?_, ⟨_, rfl⟩, hW, hsame.mono (by decide) (by decide)⟩
    · show Steps p.tables e below (T5.setTop (mkF m 85 #[.val (.int p1), .val (.int p2), .val (.int (p1 &&& (2147483647 : Int32))), .val (.int ((990 : Int32) + (p2 &&& (31 : Int32)))), .val (.int (1 : Int32)), .val (.int (1 : Int32)), .val (.int (own_f2 (p1 &&& (2147483647 : Int32)) ((990 : Int32) + (p2 &&& (31 : Int32))))), .val (.int (own_f3 (p1 &&& (2147483647 : Int32)) ((990 : Int32) + (p2 &&& (31 : Int32))))), .unset] [(.int (own_f1 (own_f2 (p1 &&& (2147483647 : Int32)) ((990 : Int32) + (p2 &&& (31 : Int32))))))])) _
      refine XS.ifYes X5.here hx rfl (pc0 := 85) (pc' := 96) rfl (hb hby at_85) rfl ((if0 _ _).trans (teq hc85).1) (by decide) (by decide) ?_
      show Steps p.tables e below (T5.setTop (mkF m 96 #[.val (.int p1), .val (.int p2), .val (.int (p1 &&& (2147483647 : Int32))), .val (.int ((990 : Int32) + (p2 &&& (31 : Int32)))), .val (.int (1 : Int32)), .val (.int (1 : Int32)), .val (.int (own_f2 (p1 &&& (2147483647 : Int32)) ((990 : Int32) + (p2 &&& (31 : Int32))))), .val (.int (own_f3 (p1 &&& (2147483647 : Int32)) ((990 : Int32) + (p2 &&& (31 : Int32))))), .unset] [])) _
      refine XS.iconst X5.here hx rfl (hb hby at_96) ?_
      show Steps p.tables e below (T5.setTop (mkF m 97 #[.val (.int p1), .val (.int p2), .val (.int (p1 &&& (2147483647 : Int32))), .val (.int ((990 : Int32) + (p2 &&& (31 : Int32)))), .val (.int (1 : Int32)), .val (.int (1 : Int32)), .val (.int (own_f2 (p1 &&& (2147483647 : Int32)) ((990 : Int32) + (p2 &&& (31 : Int32))))), .val (.int (own_f3 (p1 &&& (2147483647 : Int32)) ((990 : Int32) + (p2 &&& (31 : Int32))))), .unset] [(.int (1 : Int32))])) _
      refine XS.goto X5.here hx rfl (pc0 := 97) (pc' := 101) rfl (hb hby at_97) (by decide) (by decide) ?_
      show Steps p.tables e below (T5.setTop (mkF m 101 #[.val (.int p1), .val (.int p2), .val (.int (p1 &&& (2147483647 : Int32))), .val (.int ((990 : Int32) + (p2 &&& (31 : Int32)))), .val (.int (1 : Int32)), .val (.int (1 : Int32)), .val (.int (own_f2 (p1 &&& (2147483647 : Int32)) ((990 : Int32) + (p2 &&& (31 : Int32))))), .val (.int (own_f3 (p1 &&& (2147483647 : Int32)) ((990 : Int32) + (p2 &&& (31 : Int32))))), .unset] [(.int (1 : Int32))])) _
      refine XS.istore X5.here hx rfl (hb hby at_101) rfl (l' := #[.val (.int p1), .val (.int p2), .val (.int (p1 &&& (2147483647 : Int32))), .val (.int ((990 : Int32) + (p2 &&& (31 : Int32)))), .val (.int (1 : Int32)), .val (.int (1 : Int32)), .val (.int (own_f2 (p1 &&& (2147483647 : Int32)) ((990 : Int32) + (p2 &&& (31 : Int32))))), .val (.int (own_f3 (p1 &&& (2147483647 : Int32)) ((990 : Int32) + (p2 &&& (31 : Int32))))), .val (.int (1 : Int32))]) rfl ?_
      show Steps p.tables e below (T5.setTop (mkF m 103 #[.val (.int p1), .val (.int p2), .val (.int (p1 &&& (2147483647 : Int32))), .val (.int ((990 : Int32) + (p2 &&& (31 : Int32)))), .val (.int (1 : Int32)), .val (.int (1 : Int32)), .val (.int (own_f2 (p1 &&& (2147483647 : Int32)) ((990 : Int32) + (p2 &&& (31 : Int32))))), .val (.int (own_f3 (p1 &&& (2147483647 : Int32)) ((990 : Int32) + (p2 &&& (31 : Int32))))), .val (.int (1 : Int32))] [])) _
      refine XS.iload X5.here hx rfl (hb hby at_103) rfl ?_
      show Steps p.tables e below (T5.setTop (mkF m 105 #[.val (.int p1), .val (.int p2), .val (.int (p1 &&& (2147483647 : Int32))), .val (.int ((990 : Int32) + (p2 &&& (31 : Int32)))), .val (.int (1 : Int32)), .val (.int (1 : Int32)), .val (.int (own_f2 (p1 &&& (2147483647 : Int32)) ((990 : Int32) + (p2 &&& (31 : Int32))))), .val (.int (own_f3 (p1 &&& (2147483647 : Int32)) ((990 : Int32) + (p2 &&& (31 : Int32))))), .val (.int (1 : Int32))] [(.int (1 : Int32))])) _
      refine XS.ifNo X5.here hx rfl (hb hby at_105) rfl ((if0 _ _).trans (feq (by decide)).1) ?_
      show Steps p.tables e below (T5.setTop (mkF m 108 #[.val (.int p1), .val (.int p2), .val (.int (p1 &&& (2147483647 : Int32))), .val (.int ((990 : Int32) + (p2 &&& (31 : Int32)))), .val (.int (1 : Int32)), .val (.int (1 : Int32)), .val (.int (own_f2 (p1 &&& (2147483647 : Int32)) ((990 : Int32) + (p2 &&& (31 : Int32))))), .val (.int (own_f3 (p1 &&& (2147483647 : Int32)) ((990 : Int32) + (p2 &&& (31 : Int32))))), .val (.int (1 : Int32))] [])) _
      refine XS.iload X5.here hx rfl (hb hby at_108) rfl ?_
      show Steps p.tables e below (T5.setTop (mkF m 110 #[.val (.int p1), .val (.int p2), .val (.int (p1 &&& (2147483647 : Int32))), .val (.int ((990 : Int32) + (p2 &&& (31 : Int32)))), .val (.int (1 : Int32)), .val (.int (1 : Int32)), .val (.int (own_f2 (p1 &&& (2147483647 : Int32)) ((990 : Int32) + (p2 &&& (31 : Int32))))), .val (.int (own_f3 (p1 &&& (2147483647 : Int32)) ((990 : Int32) + (p2 &&& (31 : Int32))))), .val (.int (1 : Int32))] [(.int (1 : Int32))])) _
      refine XS.ifNo X5.here hx rfl (hb hby at_110) rfl ((if0 _ _).trans (feq (by decide)).1) ?_
      show Steps p.tables e below (T5.setTop (mkF m 113 #[.val (.int p1), .val (.int p2), .val (.int (p1 &&& (2147483647 : Int32))), .val (.int ((990 : Int32) + (p2 &&& (31 : Int32)))), .val (.int (1 : Int32)), .val (.int (1 : Int32)), .val (.int (own_f2 (p1 &&& (2147483647 : Int32)) ((990 : Int32) + (p2 &&& (31 : Int32))))), .val (.int (own_f3 (p1 &&& (2147483647 : Int32)) ((990 : Int32) + (p2 &&& (31 : Int32))))), .val (.int (1 : Int32))] [])) _
      refine XS.iload X5.here hx rfl (hb hby at_113) rfl ?_
      show Steps p.tables e below (T5.setTop (mkF m 115 #[.val (.int p1), .val (.int p2), .val (.int (p1 &&& (2147483647 : Int32))), .val (.int ((990 : Int32) + (p2 &&& (31 : Int32)))), .val (.int (1 : Int32)), .val (.int (1 : Int32)), .val (.int (own_f2 (p1 &&& (2147483647 : Int32)) ((990 : Int32) + (p2 &&& (31 : Int32))))), .val (.int (own_f3 (p1 &&& (2147483647 : Int32)) ((990 : Int32) + (p2 &&& (31 : Int32))))), .val (.int (1 : Int32))] [(.int (1 : Int32))])) _
      refine XS.ifNo X5.here hx rfl (hb hby at_115) rfl ((if0 _ _).trans (feq (by decide)).1) ?_
      show Steps p.tables e below (T5.setTop (mkF m 118 #[.val (.int p1), .val (.int p2), .val (.int (p1 &&& (2147483647 : Int32))), .val (.int ((990 : Int32) + (p2 &&& (31 : Int32)))), .val (.int (1 : Int32)), .val (.int (1 : Int32)), .val (.int (own_f2 (p1 &&& (2147483647 : Int32)) ((990 : Int32) + (p2 &&& (31 : Int32))))), .val (.int (own_f3 (p1 &&& (2147483647 : Int32)) ((990 : Int32) + (p2 &&& (31 : Int32))))), .val (.int (1 : Int32))] [])) _
      refine XS.iconst X5.here hx rfl (hb hby at_118) ?_
      show Steps p.tables e below (T5.setTop (mkF m 119 #[.val (.int p1), .val (.int p2), .val (.int (p1 &&& (2147483647 : Int32))), .val (.int ((990 : Int32) + (p2 &&& (31 : Int32)))), .val (.int (1 : Int32)), .val (.int (1 : Int32)), .val (.int (own_f2 (p1 &&& (2147483647 : Int32)) ((990 : Int32) + (p2 &&& (31 : Int32))))), .val (.int (own_f3 (p1 &&& (2147483647 : Int32)) ((990 : Int32) + (p2 &&& (31 : Int32))))), .val (.int (1 : Int32))] [(.int (1 : Int32))])) _
      refine XS.goto X5.here hx rfl (pc0 := 119) (pc' := 123) rfl (hb hby at_119) (by decide) (by decide) ?_
      show Steps p.tables e below (T5.setTop (mkF m 123 #[.val (.int p1), .val (.int p2), .val (.int (p1 &&& (2147483647 : Int32))), .val (.int ((990 : Int32) + (p2 &&& (31 : Int32)))), .val (.int (1 : Int32)), .val (.int (1 : Int32)), .val (.int (own_f2 (p1 &&& (2147483647 : Int32)) ((990 : Int32) + (p2 &&& (31 : Int32))))), .val (.int (own_f3 (p1 &&& (2147483647 : Int32)) ((990 : Int32) + (p2 &&& (31 : Int32))))), .val (.int (1 : Int32))] [(.int (1 : Int32))])) _
      exact retN X5 hx (t := .boolean) Bd.returns (by simp) (hb hby at_123) hr
    · show Q0 Z p1 p2 h0 n0 _ T5.heap _
      rw [e5]
      exact ⟨rfl, N5⟩
  · obtain ⟨_, _, ⟨T7, L7, k7, n7⟩, -, X7, ⟨Lc7, hQ7, l7, y7, z7⟩, st7⟩ := Jvm.LawKit.callS X5 hx (y := (⟨"com/example/alternant/alternant/search/Exhaustion", "written", "(I)Z"⟩ : MethodName)) hown (mvT hZ (hw _ (List.mem_of_getElem? (i := 1) rfl))) (mvT hZ (hw _ (List.mem_of_getElem? (i := 2) rfl))) (mvT hZ (hw _ (List.mem_of_getElem? (i := 3) rfl))) (mvT hZ (hw _ (List.mem_of_getElem? (i := 4) rfl))) (by decide) (backOf (W := 0) (rm1 l Z a0 hw [] (own_f3 (p1 &&& (2147483647 : Int32)) ((990 : Int32) + (p2 &&& (31 : Int32)))) h0 n0 Z0 ) hZ (hw _ (List.mem_of_getElem? (i := 4) rfl)) (hw _ (List.mem_of_getElem? (i := 3) rfl)) (by decide) (by decide)) (g := (mkF m 90 #[.val (.int p1), .val (.int p2), .val (.int (p1 &&& (2147483647 : Int32))), .val (.int ((990 : Int32) + (p2 &&& (31 : Int32)))), .val (.int (1 : Int32)), .val (.int (1 : Int32)), .val (.int (own_f2 (p1 &&& (2147483647 : Int32)) ((990 : Int32) + (p2 &&& (31 : Int32))))), .val (.int (own_f3 (p1 &&& (2147483647 : Int32)) ((990 : Int32) + (p2 &&& (31 : Int32))))), .unset] [(.int (own_f3 (p1 &&& (2147483647 : Int32)) ((990 : Int32) + (p2 &&& (31 : Int32)))))])) rfl (by rw [hml]; rfl) (argsL := [(.int (own_f3 (p1 &&& (2147483647 : Int32)) ((990 : Int32) + (p2 &&& (31 : Int32)))))]) (rest := []) (lenOf pd0_0 rfl) rfl (by show 2 * 0 + _ ≤ _; exact Nat.le_of_eq rfl) (hb hby at_90) (fun _ _ => ⟨rfl, e5, (by decide : 0 + 0 ≤ _), (by decide : 0 + 0 ≤ _)⟩)
    dsimp only [Pt.U, Pt.locs, Pt.cells, Pt.slots] at X7 l7 y7 z7 st7 hQ7
    subst l7 y7 z7
    obtain ⟨rfl, N7q, e7⟩ := hQ7
    have N7 := Fr.app N5 N7q
    obtain ⟨fs, hr, hrun, hended, hW, hsame⟩ := X7.leave (v := some (.int (1 : Int32))) (fun h => by rw [Bd.returns] at h; cases h)
    refine ⟨_, _, c6 _ ?_, hrun, hended, _, _, rfl, ?_, ⟨_, rfl⟩, hW, hsame.mono (by decide) (by decide)⟩
    · show Steps p.tables e below (T5.setTop (mkF m 85 #[.val (.int p1), .val (.int p2), .val (.int (p1 &&& (2147483647 : Int32))), .val (.int ((990 : Int32) + (p2 &&& (31 : Int32)))), .val (.int (1 : Int32)), .val (.int (1 : Int32)), .val (.int (own_f2 (p1 &&& (2147483647 : Int32)) ((990 : Int32) + (p2 &&& (31 : Int32))))), .val (.int (own_f3 (p1 &&& (2147483647 : Int32)) ((990 : Int32) + (p2 &&& (31 : Int32))))), .unset] [(.int (own_f1 (own_f2 (p1 &&& (2147483647 : Int32)) ((990 : Int32) + (p2 &&& (31 : Int32))))))])) _
      refine XS.ifNo X5.here hx rfl (hb hby at_85) rfl ((if0 _ _).trans (feq hc85).1) ?_
      show Steps p.tables e below (T5.setTop (mkF m 88 #[.val (.int p1), .val (.int p2), .val (.int (p1 &&& (2147483647 : Int32))), .val (.int ((990 : Int32) + (p2 &&& (31 : Int32)))), .val (.int (1 : Int32)), .val (.int (1 : Int32)), .val (.int (own_f2 (p1 &&& (2147483647 : Int32)) ((990 : Int32) + (p2 &&& (31 : Int32))))), .val (.int (own_f3 (p1 &&& (2147483647 : Int32)) ((990 : Int32) + (p2 &&& (31 : Int32))))), .unset] [])) _
      refine XS.iload X5.here hx rfl (hb hby at_88) rfl ?_
      show Steps p.tables e below (T5.setTop (mkF m 90 #[.val (.int p1), .val (.int p2), .val (.int (p1 &&& (2147483647 : Int32))), .val (.int ((990 : Int32) + (p2 &&& (31 : Int32)))), .val (.int (1 : Int32)), .val (.int (1 : Int32)), .val (.int (own_f2 (p1 &&& (2147483647 : Int32)) ((990 : Int32) + (p2 &&& (31 : Int32))))), .val (.int (own_f3 (p1 &&& (2147483647 : Int32)) ((990 : Int32) + (p2 &&& (31 : Int32))))), .unset] [(.int (own_f3 (p1 &&& (2147483647 : Int32)) ((990 : Int32) + (p2 &&& (31 : Int32)))))])) _
      refine st7 _ ?_
      show Steps p.tables e below (T7.setTop (mkF m 93 #[.val (.int p1), .val (.int p2), .val (.int (p1 &&& (2147483647 : Int32))), .val (.int ((990 : Int32) + (p2 &&& (31 : Int32)))), .val (.int (1 : Int32)), .val (.int (1 : Int32)), .val (.int (own_f2 (p1 &&& (2147483647 : Int32)) ((990 : Int32) + (p2 &&& (31 : Int32))))), .val (.int (own_f3 (p1 &&& (2147483647 : Int32)) ((990 : Int32) + (p2 &&& (31 : Int32))))), .unset] [(.int (own_f1 (own_f3 (p1 &&& (2147483647 : Int32)) ((990 : Int32) + (p2 &&& (31 : Int32))))))])) _
      refine XS.ifNo X7.here hx rfl (hb hby at_93) rfl ((if0 _ _).trans (feq (own_mono _ _ (own_wide p1) (own_near p2) hc85)).1) ?_
      show Steps p.tables e below (T7.setTop (mkF m 96 #[.val (.int p1), .val (.int p2), .val (.int (p1 &&& (2147483647 : Int32))), .val (.int ((990 : Int32) + (p2 &&& (31 : Int32)))), .val (.int (1 : Int32)), .val (.int (1 : Int32)), .val (.int (own_f2 (p1 &&& (2147483647 : Int32)) ((990 : Int32) + (p2 &&& (31 : Int32))))), .val (.int (own_f3 (p1 &&& (2147483647 : Int32)) ((990 : Int32) + (p2 &&& (31 : Int32))))), .unset] [])) _
      refine XS.iconst X7.here hx rfl (hb hby at_96) ?_
      show Steps p.tables e below (T7.setTop (mkF m 97 #[.val (.int p1), .val (.int p2), .val (.int (p1 &&& (2147483647 : Int32))), .val (.int ((990 : Int32) + (p2 &&& (31 : Int32)))), .val (.int (1 : Int32)), .val (.int (1 : Int32)), .val (.int (own_f2 (p1 &&& (2147483647 : Int32)) ((990 : Int32) + (p2 &&& (31 : Int32))))), .val (.int (own_f3 (p1 &&& (2147483647 : Int32)) ((990 : Int32) + (p2 &&& (31 : Int32))))), .unset] [(.int (1 : Int32))])) _
      refine XS.goto X7.here hx rfl (pc0 := 97) (pc' := 101) rfl (hb hby at_97) (by decide) (by decide) ?_
      show Steps p.tables e below (T7.setTop (mkF m 101 #[.val (.int p1), .val (.int p2), .val (.int (p1 &&& (2147483647 : Int32))), .val (.int ((990 : Int32) + (p2 &&& (31 : Int32)))), .val (.int (1 : Int32)), .val (.int (1 : Int32)), .val (.int (own_f2 (p1 &&& (2147483647 : Int32)) ((990 : Int32) + (p2 &&& (31 : Int32))))), .val (.int (own_f3 (p1 &&& (2147483647 : Int32)) ((990 : Int32) + (p2 &&& (31 : Int32))))), .unset] [(.int (1 : Int32))])) _
      refine XS.istore X7.here hx rfl (hb hby at_101) rfl (l' := #[.val (.int p1), .val (.int p2), .val (.int (p1 &&& (2147483647 : Int32))), .val (.int ((990 : Int32) + (p2 &&& (31 : Int32)))), .val (.int (1 : Int32)), .val (.int (1 : Int32)), .val (.int (own_f2 (p1 &&& (2147483647 : Int32)) ((990 : Int32) + (p2 &&& (31 : Int32))))), .val (.int (own_f3 (p1 &&& (2147483647 : Int32)) ((990 : Int32) + (p2 &&& (31 : Int32))))), .val (.int (1 : Int32))]) rfl ?_
      show Steps p.tables e below (T7.setTop (mkF m 103 #[.val (.int p1), .val (.int p2), .val (.int (p1 &&& (2147483647 : Int32))), .val (.int ((990 : Int32) + (p2 &&& (31 : Int32)))), .val (.int (1 : Int32)), .val (.int (1 : Int32)), .val (.int (own_f2 (p1 &&& (2147483647 : Int32)) ((990 : Int32) + (p2 &&& (31 : Int32))))), .val (.int (own_f3 (p1 &&& (2147483647 : Int32)) ((990 : Int32) + (p2 &&& (31 : Int32))))), .val (.int (1 : Int32))] [])) _
      refine XS.iload X7.here hx rfl (hb hby at_103) rfl ?_
      show Steps p.tables e below (T7.setTop (mkF m 105 #[.val (.int p1), .val (.int p2), .val (.int (p1 &&& (2147483647 : Int32))), .val (.int ((990 : Int32) + (p2 &&& (31 : Int32)))), .val (.int (1 : Int32)), .val (.int (1 : Int32)), .val (.int (own_f2 (p1 &&& (2147483647 : Int32)) ((990 : Int32) + (p2 &&& (31 : Int32))))), .val (.int (own_f3 (p1 &&& (2147483647 : Int32)) ((990 : Int32) + (p2 &&& (31 : Int32))))), .val (.int (1 : Int32))] [(.int (1 : Int32))])) _
      refine XS.ifNo X7.here hx rfl (hb hby at_105) rfl ((if0 _ _).trans (feq (by decide)).1) ?_
      show Steps p.tables e below (T7.setTop (mkF m 108 #[.val (.int p1), .val (.int p2), .val (.int (p1 &&& (2147483647 : Int32))), .val (.int ((990 : Int32) + (p2 &&& (31 : Int32)))), .val (.int (1 : Int32)), .val (.int (1 : Int32)), .val (.int (own_f2 (p1 &&& (2147483647 : Int32)) ((990 : Int32) + (p2 &&& (31 : Int32))))), .val (.int (own_f3 (p1 &&& (2147483647 : Int32)) ((990 : Int32) + (p2 &&& (31 : Int32))))), .val (.int (1 : Int32))] [])) _
      refine XS.iload X7.here hx rfl (hb hby at_108) rfl ?_
      show Steps p.tables e below (T7.setTop (mkF m 110 #[.val (.int p1), .val (.int p2), .val (.int (p1 &&& (2147483647 : Int32))), .val (.int ((990 : Int32) + (p2 &&& (31 : Int32)))), .val (.int (1 : Int32)), .val (.int (1 : Int32)), .val (.int (own_f2 (p1 &&& (2147483647 : Int32)) ((990 : Int32) + (p2 &&& (31 : Int32))))), .val (.int (own_f3 (p1 &&& (2147483647 : Int32)) ((990 : Int32) + (p2 &&& (31 : Int32))))), .val (.int (1 : Int32))] [(.int (1 : Int32))])) _
      refine XS.ifNo X7.here hx rfl (hb hby at_110) rfl ((if0 _ _).trans (feq (by decide)).1) ?_
      show Steps p.tables e below (T7.setTop (mkF m 113 #[.val (.int p1), .val (.int p2), .val (.int (p1 &&& (2147483647 : Int32))), .val (.int ((990 : Int32) + (p2 &&& (31 : Int32)))), .val (.int (1 : Int32)), .val (.int (1 : Int32)), .val (.int (own_f2 (p1 &&& (2147483647 : Int32)) ((990 : Int32) + (p2 &&& (31 : Int32))))), .val (.int (own_f3 (p1 &&& (2147483647 : Int32)) ((990 : Int32) + (p2 &&& (31 : Int32))))), .val (.int (1 : Int32))] [])) _
      refine XS.iload X7.here hx rfl (hb hby at_113) rfl ?_
      show Steps p.tables e below (T7.setTop (mkF m 115 #[.val (.int p1), .val (.int p2), .val (.int (p1 &&& (2147483647 : Int32))), .val (.int ((990 : Int32) + (p2 &&& (31 : Int32)))), .val (.int (1 : Int32)), .val (.int (1 : Int32)), .val (.int (own_f2 (p1 &&& (2147483647 : Int32)) ((990 : Int32) + (p2 &&& (31 : Int32))))), .val (.int (own_f3 (p1 &&& (2147483647 : Int32)) ((990 : Int32) + (p2 &&& (31 : Int32))))), .val (.int (1 : Int32))] [(.int (1 : Int32))])) _
      refine XS.ifNo X7.here hx rfl (hb hby at_115) rfl ((if0 _ _).trans (feq (by decide)).1) ?_
      show Steps p.tables e below (T7.setTop (mkF m 118 #[.val (.int p1), .val (.int p2), .val (.int (p1 &&& (2147483647 : Int32))), .val (.int ((990 : Int32) + (p2 &&& (31 : Int32)))), .val (.int (1 : Int32)), .val (.int (1 : Int32)), .val (.int (own_f2 (p1 &&& (2147483647 : Int32)) ((990 : Int32) + (p2 &&& (31 : Int32))))), .val (.int (own_f3 (p1 &&& (2147483647 : Int32)) ((990 : Int32) + (p2 &&& (31 : Int32))))), .val (.int (1 : Int32))] [])) _
      refine XS.iconst X7.here hx rfl (hb hby at_118) ?_
      show Steps p.tables e below (T7.setTop (mkF m 119 #[.val (.int p1), .val (.int p2), .val (.int (p1 &&& (2147483647 : Int32))), .val (.int ((990 : Int32) + (p2 &&& (31 : Int32)))), .val (.int (1 : Int32)), .val (.int (1 : Int32)), .val (.int (own_f2 (p1 &&& (2147483647 : Int32)) ((990 : Int32) + (p2 &&& (31 : Int32))))), .val (.int (own_f3 (p1 &&& (2147483647 : Int32)) ((990 : Int32) + (p2 &&& (31 : Int32))))), .val (.int (1 : Int32))] [(.int (1 : Int32))])) _
      refine XS.goto X7.here hx rfl (pc0 := 119) (pc' := 123) rfl (hb hby at_119) (by decide) (by decide) ?_
      show Steps p.tables e below (T7.setTop (mkF m 123 #[.val (.int p1), .val (.int p2), .val (.int (p1 &&& (2147483647 : Int32))), .val (.int ((990 : Int32) + (p2 &&& (31 : Int32)))), .val (.int (1 : Int32)), .val (.int (1 : Int32)), .val (.int (own_f2 (p1 &&& (2147483647 : Int32)) ((990 : Int32) + (p2 &&& (31 : Int32))))), .val (.int (own_f3 (p1 &&& (2147483647 : Int32)) ((990 : Int32) + (p2 &&& (31 : Int32))))), .val (.int (1 : Int32))] [(.int (1 : Int32))])) _
      exact retN X7 hx (t := .boolean) Bd.returns (by simp) (hb hby at_123) hr
    · show Q0 Z p1 p2 h0 n0 _ T7.heap _
      rw [e7]
      exact ⟨rfl, N7⟩
set_option maxRecDepth 65536 in
set_option maxHeartbeats 40000000 in
theorem comes_1 {Post : Tables → Env → Array Value → State → Outcome → State → Prop} (hpost : ∀ tb e args s v u, (limb_1_1.after args s (.returned v) u = true ∧ limb_1_2.after args s (.returned v) u = true ∧ True) → FrameEnd s (.returned v) u (Jvm.fieldLocs frame_1_writes args s ++ Jvm.arrayLocs frame_1_arrays args s ++ Jvm.staticLocs frame_1_statics s) 0 0 → Post tb e args s (.returned v) u) :
    ArmFor flags0 classFile x code maxLocals ret World_1 tables_1 room_1 Calls_1 rest_1 Pre_1 Post := by
  intro l hfl _ _ p e ha hc hk s m args below hf hA hF happ hP
  obtain ⟨hcalls, hrest, hpre⟩ := hP
  obtain ⟨-, -, -, hnamed, -, -, -, hat⟩ := (Spec.applies_iff hf).mp happ
  obtain ⟨hg, hn⟩ := and_e (Cond.before_iff.mp (show (Jvm.Cond.and given_1 narrow_1).before args s = true from hpre))
  obtain ⟨gc, g0⟩ := and_e hg
  obtain ⟨ga0, g1⟩ := and_e g0
  obtain ⟨w0, w1, rfl⟩ : ∃ w0 w1 : Value, args = #[w0, w1] := by
    have hs : args.size = 2 := by simpa [Cond.value, given_1] using gc
    obtain ⟨L⟩ := args
    match L, hs with
    | [w0, w1], _ => exact ⟨w0, w1, rfl⟩
  have hw := fun d (hd : d ∈ tables_1) => atoms_spec (ws := Jvm.Cond.code x code maxLocals ret :: tables_1) hat d (List.mem_cons_of_mem _ hd)
  have hfit : Fit s := fun {y c} hc i hi => by
    obtain ⟨ha, rfl⟩ := Array.getElem?_eq_some_iff.mp hc
    have q := List.all_eq_true.mp ((Array.all_eq_true_iff_forall_mem.mp hF) _ (Array.getElem_mem ha)) i (List.mem_range.mpr hi)
    simpa [Array.getElem?_eq_getElem hi] using q
  obtain ⟨i0, ei0⟩ := is_v ga0
  obtain rfl : w0 = (.int i0) := Option.some.inj ei0
  obtain ⟨i1, ei1⟩ := is_v g1
  obtain rfl : w1 = (.int i1) := Option.some.inj ei1
  obtain ⟨n, o, h1, h2, h3, _, L, rfl, ⟨rfl, N⟩, hq⟩ := rm0 l s _ hw tables_1 i0 i1 s.heap s.heap.size (Nat.le_refl _)  p e ha hc hk s m _ below hf ((Spec.applies_iff_loose hf).mp happ).1 ⟨rfl, State.Warmed39.refl s, rfl⟩ trivial
  refine ⟨n, _, h1, h2, h3, hpost _ _ _ _ _ _ ⟨Cond.after_iff.mpr rfl, Cond.after_iff.mpr (eq_i res_at (Term.int_eval (1)) rfl), trivial⟩ ⟨hq.1, hq.2.1, (hq.2.2.sift fun y hy => Or.inr (N y hy)).mono (by decide) (by decide)⟩⟩
theorem main_1_1 : Claimed_1_1 := comes_1 fun _ _ _ _ _ _ h hF => ⟨h.1, hF⟩
theorem main_1_2 : Claimed_1_2 := comes_1 fun _ _ _ _ _ _ h hF => ⟨h.2.1, hF⟩
end Jvm.Pilot.@@N@@
namespace Jvm.Pilot.@@N@@
open Jvm Jvm.ClassFile Sem Op Lib Jvm.Free Jvm.Stand Jvm.Pilot.@@N@@.Jvm.D
/-! MADE BY PROGRAM (witnessworld.py) out of the Statement's table words and the real class files: 12 classes; the members and pool entries that the words name. The judged class is class 1, her method 1. -/
namespace start1
open Jvm.ClassFile
def u (s : String) : CpInfo := .utf8 (stringToUtf16 s)
/-- a pool by its gaps: so many unusable entries, then the entry; so many at the end -/
def gap : Nat → List CpInfo → List CpInfo
  | 0, r => r
  | n + 1, r => .unusable :: gap n r
def poolList (es : List (Nat × CpInfo)) (last : Nat) : List CpInfo := es.foldr (fun e r => gap e.1 (e.2 :: r)) (gap last [])
def pool (es : List (Nat × CpInfo)) (last : Nat) : Array CpInfo := ⟨poolList es last⟩
def fileOf (pool : Array CpInfo) (this : Nat) (attrs : Array Attribute := #[]) (ms : Array MethodInfo := #[]) (fl : Nat := 33) (sup : Nat := 0) (ifs : Array Nat := #[]) (fds : Array FieldInfo := #[]) : ClassFile where
  minorVersion := 0
  majorVersion := 65
  constantPool := pool
  accessFlags := fl
  thisClass := this
  superClass := sup
  interfaces := ifs
  fields := fds
  methods := ms
  attributes := attrs
def plain (name : String) (sup : Option ClassId) : Class where
  name := name
  kind := .ordinary
  loader := none
  accessFlags := 33
  super := sup
  interfaces := #[]
  cf := none
  fields := #[]
  methods := #[]
  instanceTypes := #[]
  staticTypes := #[]
  resolved := #[]
  callSites := []
  init := .initialized
  statics := none
  mirror := none

def pool0 : Array CpInfo := pool [(5, u "<init>"), (0, u "()V"), (1, .class_ 10), (1, u "java/lang/Object")] 113

def k0m0 : Method := { name := "<init>", desc := "()V", sig := { parameters := [], returnType := none }, accessFlags := 1, code := none }
/-- java/lang/Object -/
def k0 : Class := { plain "java/lang/Object" none with
  accessFlags := 33
  interfaces := #[]
  cf := some (fileOf pool0 8 #[] #[{ accessFlags := 1, nameIndex := 5, descriptorIndex := 6, attributes := #[] }] 33 0 #[] #[])
  fields := #[]
  methods := #[k0m0]
  instanceTypes := #[]
  staticTypes := #[]
  resolved := Array.replicate 124 none
  statics := none }

def pool1 : Array CpInfo := pool [(2, .class_ 4), (1, u "java/lang/Object"), (0, u "<init>"), (0, u "()V"), (0, .integer 2147483647), (0, .methodref 9 10), (0, .class_ 11), (0, .nameAndType 12 13), (0, u "com/example/alternant/alternant/search/Exhaustion"), (0, u "written"), (0, u "(I)Z"), (0, .methodref 15 16), (0, .class_ 17), (0, .nameAndType 18 19), (0, u "java/lang/Math"), (0, u "max"), (0, u "(II)I"), (0, .methodref 15 21), (0, .nameAndType 22 19), (0, u "min"), (0, .class_ 24), (0, u "com/example/alternant/alternant/search/ExhaustionWrittenPinLaw"), (2, u "law"), (0, u "(II)Z")] 3

def k1m0 : Method := { name := "<init>", desc := "()V", sig := { parameters := [], returnType := none }, accessFlags := 2, code := none }
def k1c1 : Code := { maxStack := 3, maxLocals := 9, code := code, exceptionTable := #[], attributes := #[] }
def k1m1 : Method := { name := "law", desc := "(II)Z", sig := { parameters := [.int, .int], returnType := some .boolean }, accessFlags := 9, code := some k1c1 }
/-- com/example/alternant/alternant/search/ExhaustionWrittenPinLaw -/
def k1 : Class := { plain "com/example/alternant/alternant/search/ExhaustionWrittenPinLaw" (some 0) with
  accessFlags := 49
  interfaces := #[]
  cf := some (fileOf pool1 23 #[] #[{ accessFlags := 2, nameIndex := 5, descriptorIndex := 6, attributes := #[] }, { accessFlags := 9, nameIndex := 27, descriptorIndex := 28, attributes := #[] }] 49 2 #[] #[])
  fields := #[]
  methods := #[k1m0, k1m1]
  instanceTypes := #[]
  staticTypes := #[]
  resolved := Array.replicate 32 none
  statics := none }

def pool2 : Array CpInfo := pool [(2, .class_ 4), (1, u "java/lang/Object"), (0, u "<init>"), (0, u "()V"), (0, .class_ 8), (0, u "java/lang/Record")] 13

def k2m0 : Method := { name := "<init>", desc := "()V", sig := { parameters := [], returnType := none }, accessFlags := 4, code := none }
/-- java/lang/Record -/
def k2 : Class := { plain "java/lang/Record" (some 0) with
  accessFlags := 1057
  interfaces := #[]
  cf := some (fileOf pool2 7 #[] #[{ accessFlags := 4, nameIndex := 5, descriptorIndex := 6, attributes := #[] }] 1057 2 #[] #[])
  fields := #[]
  methods := #[k2m0]
  instanceTypes := #[]
  staticTypes := #[]
  resolved := Array.replicate 22 none
  statics := none }

def pool3 : Array CpInfo := pool [(1, .class_ 2), (0, u "com/example/alternant/alternant/search/Search$Proof"), (0, .class_ 4), (0, u "java/lang/Object"), (7, .class_ 13), (0, u "com/example/alternant/alternant/search/Search")] 7

/-- com/example/alternant/alternant/search/Search$Proof -/
def k3 : Class := { plain "com/example/alternant/alternant/search/Search$Proof" (some 0) with
  accessFlags := 1537
  interfaces := #[]
  cf := some (fileOf pool3 1 #[.nestHost 12] #[] 1537 3 #[] #[])
  fields := #[]
  methods := #[]
  instanceTypes := #[]
  staticTypes := #[]
  resolved := Array.replicate 21 none
  statics := none }

def pool4 : Array CpInfo := pool [(4, .class_ 6), (1, u "com/example/alternant/alternant/search/Exhaustion"), (0, u "bound"), (0, u "I"), (50, u "traces"), (0, u "Ljava/util/List;"), (0, .class_ 62), (0, u "com/example/alternant/alternant/search/Exhaustion$Paths"), (12, .class_ 76), (0, u "com/example/alternant/alternant/search/Exhaustion$Crowded"), (17, .class_ 95), (0, u "java/lang/Record"), (16, u "ended"), (20, .class_ 134), (0, u "com/example/alternant/alternant/search/Search$Proof"), (8, u "written"), (0, u "(I)Z"), (13, .class_ 159), (0, u "com/example/alternant/alternant/search/Exhaustion$Path"), (0, .class_ 161), (0, u "com/example/alternant/alternant/search/Exhaustion$Drop")] 35

def k4c0 : Code := { maxStack := 2, maxLocals := 1, code := prog_200_method_2_code, exceptionTable := #[], attributes := #[] }
def k4m0 : Method := { name := "written", desc := "(I)Z", sig := { parameters := [.int], returnType := some .boolean }, accessFlags := 8, code := some k4c0 }
/-- com/example/alternant/alternant/search/Exhaustion -/
def k4 : Class := { plain "com/example/alternant/alternant/search/Exhaustion" (some 2) with
  accessFlags := 49
  interfaces := #[3]
  cf := some (fileOf pool4 4 #[.nestMembers #[75, 158, 160, 61]] #[{ accessFlags := 8, nameIndex := 143, descriptorIndex := 144, attributes := #[] }] 49 94 #[133] #[{ accessFlags := 18, nameIndex := 7, descriptorIndex := 8, attributes := #[] }, { accessFlags := 18, nameIndex := 112, descriptorIndex := 8, attributes := #[] }, { accessFlags := 18, nameIndex := 59, descriptorIndex := 60, attributes := #[] }])
  fields := #[{ name := "bound", type := .int, accessFlags := 18, slot := 0, constantValue := 0 }, { name := "ended", type := .int, accessFlags := 18, slot := 1, constantValue := 0 }, { name := "traces", type := (.object "java/util/List"), accessFlags := 18, slot := 2, constantValue := 0 }]
  methods := #[k4m0]
  instanceTypes := #[.int, .int, (.object "java/util/List")]
  staticTypes := #[]
  resolved := Array.replicate 197 none
  statics := none }

def pool5 : Array CpInfo := pool [(1, .class_ 2), (0, u "java/lang/Math"), (1, .class_ 6), (1, u "java/lang/Object"), (0, u "<init>"), (0, u "()V"), (89, .class_ 100), (1, u "java/lang/Math$RandomNumberGeneratorHolder"), (71, u "negativeZeroFloatBits"), (0, u "J"), (2, u "negativeZeroDoubleBits"), (21, u "max"), (2, u "min"), (43, u "$assertionsDisabled"), (0, u "Z"), (88, u "(II)I"), (2, u "twoToTheDoubleScaleDown"), (0, u "D"), (4, u "twoToTheDoubleScaleUp"), (9, u "E"), (3, u "PI"), (2, u "TAU"), (2, u "DEGREES_TO_RADIANS"), (0, u "RADIANS_TO_DEGREES")] 94

def k5m0 : Method := { name := "<init>", desc := "()V", sig := { parameters := [], returnType := none }, accessFlags := 2, code := none }
def k5c1 : Code := { maxStack := 2, maxLocals := 2, code := jdk_29_method_65_code, exceptionTable := #[], attributes := #[] }
def k5m1 : Method := { name := "max", desc := "(II)I", sig := { parameters := [.int, .int], returnType := some .int }, accessFlags := 9, code := some k5c1 }
def k5c2 : Code := { maxStack := 2, maxLocals := 2, code := jdk_29_method_69_code, exceptionTable := #[], attributes := #[] }
def k5m2 : Method := { name := "min", desc := "(II)I", sig := { parameters := [.int, .int], returnType := some .int }, accessFlags := 9, code := some k5c2 }
/-- java/lang/Math -/
def k5 : Class := { plain "java/lang/Math" (some 0) with
  accessFlags := 49
  interfaces := #[]
  cf := some (fileOf pool5 1 #[.nestMembers #[98]] #[{ accessFlags := 2, nameIndex := 7, descriptorIndex := 8, attributes := #[] }, { accessFlags := 9, nameIndex := 198, descriptorIndex := 335, attributes := #[] }, { accessFlags := 9, nameIndex := 201, descriptorIndex := 335, attributes := #[] }] 49 4 #[] #[{ accessFlags := 25, nameIndex := 354, descriptorIndex := 339, attributes := #[] }, { accessFlags := 25, nameIndex := 358, descriptorIndex := 339, attributes := #[] }, { accessFlags := 25, nameIndex := 361, descriptorIndex := 339, attributes := #[] }, { accessFlags := 26, nameIndex := 364, descriptorIndex := 339, attributes := #[] }, { accessFlags := 26, nameIndex := 365, descriptorIndex := 339, attributes := #[] }, { accessFlags := 26, nameIndex := 172, descriptorIndex := 173, attributes := #[] }, { accessFlags := 26, nameIndex := 176, descriptorIndex := 173, attributes := #[] }, { accessFlags := 8, nameIndex := 344, descriptorIndex := 339, attributes := #[] }, { accessFlags := 8, nameIndex := 338, descriptorIndex := 339, attributes := #[] }, { accessFlags := 4120, nameIndex := 245, descriptorIndex := 246, attributes := #[] }])
  fields := #[{ name := "E", type := .double, accessFlags := 25, slot := 0, constantValue := 0 }, { name := "PI", type := .double, accessFlags := 25, slot := 1, constantValue := 0 }, { name := "TAU", type := .double, accessFlags := 25, slot := 2, constantValue := 0 }, { name := "DEGREES_TO_RADIANS", type := .double, accessFlags := 26, slot := 3, constantValue := 0 }, { name := "RADIANS_TO_DEGREES", type := .double, accessFlags := 26, slot := 4, constantValue := 0 }, { name := "negativeZeroFloatBits", type := .long, accessFlags := 26, slot := 5, constantValue := 0 }, { name := "negativeZeroDoubleBits", type := .long, accessFlags := 26, slot := 6, constantValue := 0 }, { name := "twoToTheDoubleScaleUp", type := .double, accessFlags := 8, slot := 7, constantValue := 0 }, { name := "twoToTheDoubleScaleDown", type := .double, accessFlags := 8, slot := 8, constantValue := 0 }, { name := "$assertionsDisabled", type := .boolean, accessFlags := 4120, slot := 9, constantValue := 0 }]
  methods := #[k5m0, k5m1, k5m2]
  instanceTypes := #[]
  staticTypes := #[.double, .double, .double, .double, .double, .long, .long, .double, .double, .boolean]
  resolved := Array.replicate 460 none
  statics := none }

def pool6 : Array CpInfo := pool [(1, u "java/lang/Cloneable"), (0, .class_ 1), (0, u "java/lang/Object"), (0, .class_ 3)] 3

/-- java/lang/Cloneable -/
def k6 : Class := { plain "java/lang/Cloneable" (some 0) with
  accessFlags := 1537
  interfaces := #[]
  cf := some (fileOf pool6 2 #[] #[] 1537 4 #[] #[])
  fields := #[]
  methods := #[]
  instanceTypes := #[]
  staticTypes := #[]
  resolved := Array.replicate 8 none
  statics := none }

def pool7 : Array CpInfo := pool [(1, u "java/io/Serializable"), (0, .class_ 1), (0, u "java/lang/Object"), (0, .class_ 3)] 3

/-- java/io/Serializable -/
def k7 : Class := { plain "java/io/Serializable" (some 0) with
  accessFlags := 1537
  interfaces := #[]
  cf := some (fileOf pool7 2 #[] #[] 1537 4 #[] #[])
  fields := #[]
  methods := #[]
  instanceTypes := #[]
  staticTypes := #[]
  resolved := Array.replicate 8 none
  statics := none }

/-- the primitive byte -/
def k8 : Class := { plain "byte" none with kind := .primitive 'B', accessFlags := 0x411 }
/-- [B -/
def k9 : Class := { plain "[B" (some 0) with kind := .array 8 .byte, interfaces := #[6, 7], accessFlags := 1041 }

/-- the primitive int -/
def k10 : Class := { plain "int" none with kind := .primitive 'I', accessFlags := 0x411 }
/-- [I -/
def k11 : Class := { plain "[I" (some 0) with kind := .array 10 .int, interfaces := #[6, 7], accessFlags := 1041 }

def heap : Heap := #[]
def classes : Array Class := #[k0, k1, k2, k3, k4, k5, k6, k7, k8, k9, k10, k11]
def interned : List (Array UInt16 × Addr) := []
def slotsUsed : Nat := 0
def theMethod : MethodId := ⟨1, 1⟩
def args0 : Array Value := #[.int 5, .int 300]
def aboutOver (below : List Frame) : State where
  vm := { classes := classes, interned := interned.toArray }
  heap := heap
  slotsUsed := slotsUsed
  threads := #[{ frames := .invoking theMethod args0 :: below }]
def below0 : List Frame := [.native { method := ⟨0, 0⟩, args := #[] }]
def about1 : State := aboutOver below0
def p0 : Program := .bare "" "" ""
def e0 : Env := launch0.env 0 0 0
theorem w_frames : about1.frames = Frame.invoking theMethod args0 :: below0 := rfl
set_option maxRecDepth 65536 in
theorem w_args : argsFit about1.vm theMethod args0 = true := by decide +kernel
set_option maxRecDepth 65536 in
theorem w_heap : heapFits about1 = true := by decide +kernel
set_option maxRecDepth 65536 in
theorem w_runnable : about1.curStatus? = some .runnable := by decide +kernel
set_option maxRecDepth 65536 in
theorem w_alone : about1.alone = true := by decide +kernel
set_option maxRecDepth 65536 in
theorem w_named : about1.methodNamed? x = some theMethod := by decide +kernel
set_option maxRecDepth 65536 in
theorem w_hears : about1.hears theMethod below0 = true := by decide +kernel
set_option maxRecDepth 65536 in
theorem w_ripe : about1.ripe theMethod args0 below0 = true := by decide +kernel
theorem w_running : about1.status = .running := rfl
set_option maxRecDepth 65536 in
theorem w_room : about1.hasRoom e0.platform room_1 = true :=
  launch0.hasRoom_least _ room_1 (by decide +kernel) (by decide +kernel) (by decide +kernel) (by decide +kernel) (by decide +kernel) (by decide +kernel)
theorem allAtoms_all (ts : List Jvm.Cond) (a : Array Jvm.Value) (st : Jvm.State) : (allAtoms ts).before a st = ts.all (fun c => c.before a st) := by
  induction ts with
  | nil => rfl
  | cons c t ih =>
    show (Jvm.Cond.and c (allAtoms t)).before a st = _
    rw [Jvm.Cond.before_and, ih, List.all_cons]
def words1 : List Jvm.Cond := Jvm.Cond.code x code maxLocals ret :: tables_1
/-- a 'code' word, met by the world's own term for the bytes: nothing is compared byte by byte -/
theorem code_word {y : MethodName} {bytes : ByteArray} {mx : Nat} {rt : Option FieldType} {a : Array Value} {s : State} {m : MethodId} {meth : Method} {c : Code} (h1 : s.methodNamed? y = some m) (h2 : s.vm.method? m = some meth) (h3 : meth.code = some c) (h4 : c.code = bytes)
    (h5 : (c.maxLocals == mx && c.exceptionTable.isEmpty && decide (c.maxStack ≤ mostOperands) && decide (meth.sig.returnType = rt) && !meth.locks && decide (parseMethodDescriptor y.desc = some meth.sig)) = true) : (Jvm.Cond.code y bytes mx rt).before a s = true := by
  simp only [Bool.and_eq_true, beq_iff_eq, Bool.not_eq_true', decide_eq_true_eq] at h5
  obtain ⟨⟨⟨⟨⟨g1, g2⟩, g3⟩, g4⟩, g5⟩, g6⟩ := h5
  simp [Cond.before, Cond.holds, Cond.value, h1, h2, h3, h4, g1, g2, g3, g4, g5, g6]
def isCode : Jvm.Cond → Bool
  | .code _ _ _ _ => true
  | _ => false
theorem all_split {L : List Jvm.Cond} {P : Jvm.Cond → Bool} (h1 : L.all (fun c => isCode c || P c) = true) (h2 : ∀ c ∈ L.filter isCode, P c = true) : L.all P = true := by
  refine List.all_eq_true.mpr fun c hc => ?_
  have h := List.all_eq_true.mp h1 c hc
  rcases Bool.eq_false_or_eq_true (isCode c) with hi | hi
  · exact h2 c (List.mem_filter.mpr ⟨hc, hi⟩)
  · simpa [hi] using h
set_option maxRecDepth 65536 in
theorem w_c0 : (Jvm.Cond.code x code maxLocals ret).before args0 about1 = true := code_word (m := ⟨1, 1⟩) (meth := k1m1) (c := k1c1) (by decide +kernel) rfl rfl rfl (by decide +kernel)
set_option maxRecDepth 65536 in
theorem w_c1 : (Jvm.Cond.code ({ cls := "com/example/alternant/alternant/search/Exhaustion", name := "written", desc := "(I)Z" } : Jvm.MethodName) prog_200_method_2_code (1 : Nat) (Option.some Jvm.ClassFile.FieldType.boolean)).before args0 about1 = true := code_word (m := ⟨4, 0⟩) (meth := k4m0) (c := k4c0) (by decide +kernel) rfl rfl rfl (by decide +kernel)
set_option maxRecDepth 65536 in
theorem w_c2 : (Jvm.Cond.code ({ cls := "java/lang/Math", name := "max", desc := "(II)I" } : Jvm.MethodName) jdk_29_method_65_code (2 : Nat) (Option.some Jvm.ClassFile.FieldType.int)).before args0 about1 = true := code_word (m := ⟨5, 1⟩) (meth := k5m1) (c := k5c1) (by decide +kernel) rfl rfl rfl (by decide +kernel)
set_option maxRecDepth 65536 in
theorem w_c3 : (Jvm.Cond.code ({ cls := "java/lang/Math", name := "min", desc := "(II)I" } : Jvm.MethodName) jdk_29_method_69_code (2 : Nat) (Option.some Jvm.ClassFile.FieldType.int)).before args0 about1 = true := code_word (m := ⟨5, 2⟩) (meth := k5m2) (c := k5c2) (by decide +kernel) rfl rfl rfl (by decide +kernel)
def codes1 : List Jvm.Cond := [Jvm.Cond.code x code maxLocals ret, Jvm.Cond.code ({ cls := "com/example/alternant/alternant/search/Exhaustion", name := "written", desc := "(I)Z" } : Jvm.MethodName) prog_200_method_2_code (1 : Nat) (Option.some Jvm.ClassFile.FieldType.boolean), Jvm.Cond.code ({ cls := "java/lang/Math", name := "max", desc := "(II)I" } : Jvm.MethodName) jdk_29_method_65_code (2 : Nat) (Option.some Jvm.ClassFile.FieldType.int), Jvm.Cond.code ({ cls := "java/lang/Math", name := "min", desc := "(II)I" } : Jvm.MethodName) jdk_29_method_69_code (2 : Nat) (Option.some Jvm.ClassFile.FieldType.int)]
set_option maxRecDepth 65536 in
theorem codes_eq : words1.filter isCode = codes1 := rfl
theorem w_codes : ∀ c ∈ words1.filter isCode, c.before args0 about1 = true := by
  rw [codes_eq]
  intro c hc
  simp only [codes1, List.mem_cons, List.not_mem_nil, or_false] at hc
  rcases hc with rfl | rfl | rfl | rfl
  · exact w_c0
  · exact w_c1
  · exact w_c2
  · exact w_c3
set_option maxRecDepth 65536 in
theorem w_t1 : words1.all (fun c => isCode c || c.before args0 about1) = true := by decide +kernel
theorem w_tables : (allAtoms (Jvm.Cond.code x code maxLocals ret :: tables_1)).before args0 about1 = true := by
  rw [allAtoms_all]
  show words1.all (fun c => c.before args0 about1) = true
  refine all_split ?_ w_codes
  rw [w_t1]
set_option maxRecDepth 65536 in
theorem w_case : (Jvm.Cond.and given_1 narrow_1).before args0 about1 = true := by decide +kernel
theorem w_applies : (headSpec (Jvm.Cond.code x code maxLocals ret :: tables_1) room_1).applies x e0.platform about1 = true :=
  (Spec.applies_iff w_frames).mpr ⟨w_running, w_runnable, w_alone, w_named, w_hears, w_ripe, w_room, w_tables⟩
theorem atStart : AtStart classFile x code maxLocals ret World_1 tables_1 room_1 Calls_1 rest_1 Pre_1 launch0 p0 e0 about1 theMethod args0 below0 :=
  ⟨lists_1, trivial, launch0.admits_env _ _ _, launch0.least_env, fairChoices_fair.cas, fairChoices_fair.clock, w_frames, w_args, w_heap, w_applies, trivial, trivial, w_case⟩
end start1
theorem witness_1 : WitnessClaimed_1 := ⟨start1.p0, start1.e0, start1.about1, start1.theMethod, start1.args0, start1.below0, start1.atStart⟩
end Jvm.Pilot.@@N@@
